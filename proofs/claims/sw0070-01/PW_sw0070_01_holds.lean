import PyProof.Rows.All
import Wide.All
import OpenK.AllK
import Wide.FinOn
import PySem.Challenge.RW_sw0070_01
open PySem PySem.W PyProof.Rows
set_option Elab.async false
set_option maxRecDepth 100000
set_option maxHeartbeats 0
set_option linter.unusedVariables false
-- text HA
namespace Mine
theorem fresh_HA : True := by w_top off; trivial
noncomputable section
@[reducible] noncomputable def P : Program := PySem.Challenge.pw_sw0070_01
@[reducible] noncomputable def P' : Program := PySem.Challenge.pw_sw0070_01
theorem P_eq : P = P' := rfl
noncomputable def stAt (i : Nat) : Stmt := (P'.main.body[i]?).getD (.Pass default)
/-- the def that is statement i: its function data -/
noncomputable def fd (i globals : Nat) (pm code : Value) : FuncData := match stAt i with
  | .FunctionDef n a b _ _ _ sc _ _ _ => { name := n, qualname := n, params := a, body := .stmts b, scope := sc, globals := globals, closure := [], defaults := .none, kwdefaults := .none, pyModule := pm, code := code }
  | _ => default

noncomputable def preObjs (p : Params) : List Obj := [
  boot_o_0 p,
  boot_o_1 p,
  boot_o_2 p,
  boot_o_3 p,
  boot_o_4 p,
  boot_o_5 p,
  boot_o_6 p,
  boot_o_7 p,
  boot_o_8 p,
  boot_o_9 p,
  boot_o_10 p,
  ⟨(.type "tuple"), none, (.seq #[] 0), #[]⟩,
  ⟨.none, none, (.fields #[]), #[]⟩,
  ⟨(.type "code"), none, (.fields #[(.str ⟨#[60, 109, 111, 100, 117, 108, 101, 62]⟩ 182), (.str ⟨#[60, 109, 111, 100, 117, 108, 101, 62]⟩ 183), (.str ⟨#[47, 99, 108, 97, 105, 109, 47, 99, 117, 116, 46, 112, 121]⟩ 184), (.int 1 0), (.int 0 0), (.int 0 0), (.int 0 0), (.int 0 0), (.ref 11), (.bool false), (.int 181 0), (.ref 12), .none, .none, .none, .none, (.int 185 0), (.int 1 0), (.str ⟨#[47, 99, 108, 97, 105, 109, 47, 99, 117, 116, 46, 112, 121]⟩ 186)]), #[]⟩,
  ⟨(.type "frame"), none, .plain, #[(some (.ref 13)), (some (.ref 3)), (some (.ref 3)), none, (some (.str ⟨#[95, 95, 109, 97, 105, 110, 95, 95]⟩ 164)), none, (some (.ref 0))]⟩]

noncomputable def aObjs (p : Params) : List Obj := [
  boot_o_0 p,
  boot_o_1 p,
  boot_o_2 p,
  ⟨(.type "dict"), none, (.dict #[⟨PyData.keyHash p ⟨#[95, 95, 110, 97, 109, 101, 95, 95]⟩, (.str ⟨#[95, 95, 110, 97, 109, 101, 95, 95]⟩ 165), (.str ⟨#[99, 112, 121, 51, 49, 51, 46, 115, 116, 114, 105, 110, 103, 112, 114, 101, 112]⟩ 210)⟩, ⟨PyData.keyHash p ⟨#[95, 95, 100, 111, 99, 95, 95]⟩, (.str ⟨#[95, 95, 100, 111, 99, 95, 95]⟩ 166), .none⟩, ⟨PyData.keyHash p ⟨#[95, 95, 112, 97, 99, 107, 97, 103, 101, 95, 95]⟩, (.str ⟨#[95, 95, 112, 97, 99, 107, 97, 103, 101, 95, 95]⟩ 167), .none⟩, ⟨PyData.keyHash p ⟨#[95, 95, 108, 111, 97, 100, 101, 114, 95, 95]⟩, (.str ⟨#[95, 95, 108, 111, 97, 100, 101, 114, 95, 95]⟩ 168), (.builtin "__main__.__loader__#opaque")⟩, ⟨PyData.keyHash p ⟨#[95, 95, 115, 112, 101, 99, 95, 95]⟩, (.str ⟨#[95, 95, 115, 112, 101, 99, 95, 95]⟩ 169), .none⟩, ⟨PyData.keyHash p ⟨#[95, 95, 97, 110, 110, 111, 116, 97, 116, 105, 111, 110, 115, 95, 95]⟩, (.str ⟨#[95, 95, 97, 110, 110, 111, 116, 97, 116, 105, 111, 110, 115, 95, 95]⟩ 170), (.ref 6)⟩, ⟨PyData.keyHash p ⟨#[95, 95, 98, 117, 105, 108, 116, 105, 110, 115, 95, 95]⟩, (.str ⟨#[95, 95, 98, 117, 105, 108, 116, 105, 110, 115, 95, 95]⟩ 171), (.ref 4)⟩, ⟨PyData.keyHash p ⟨#[95, 95, 102, 105, 108, 101, 95, 95]⟩, (.str ⟨#[95, 95, 102, 105, 108, 101, 95, 95]⟩ 173), (.str ⟨#[47, 99, 108, 97, 105, 109, 47, 99, 117, 116, 46, 112, 121]⟩ 172)⟩, ⟨PyData.keyHash p ⟨#[95, 95, 99, 97, 99, 104, 101, 100, 95, 95]⟩, (.str ⟨#[95, 95, 99, 97, 99, 104, 101, 100, 95, 95]⟩ 174), .none⟩, ⟨PyData.keyHash p ⟨#[67, 72, 65, 82, 95, 77, 65, 88]⟩, (.str ⟨#[67, 72, 65, 82, 95, 77, 65, 88]⟩ 190), (.int 127 189)⟩, ⟨PyData.keyHash p ⟨#[95, 103, 114, 111, 117, 112, 105, 110, 103, 95, 105, 110, 116, 101, 114, 118, 97, 108, 115]⟩, (.str ⟨#[95, 103, 114, 111, 117, 112, 105, 110, 103, 95, 105, 110, 116, 101, 114, 118, 97, 108, 115]⟩ 199), (.ref 21)⟩, ⟨PyData.keyHash p ⟨#[95, 115, 116, 114, 105, 112, 95, 112, 97, 100, 100, 105, 110, 103]⟩, (.str ⟨#[95, 115, 116, 114, 105, 112, 95, 112, 97, 100, 100, 105, 110, 103]⟩ 209), (.ref 28)⟩, ⟨PyData.keyHash p ⟨#[98, 49, 95, 115, 101, 116]⟩, (.str ⟨#[98, 49, 95, 115, 101, 116]⟩ 271), (.ref 36)⟩, ⟨PyData.keyHash p ⟨#[105, 110, 95, 116, 97, 98, 108, 101, 95, 98, 49]⟩, (.str ⟨#[105, 110, 95, 116, 97, 98, 108, 101, 95, 98, 49]⟩ 278), (.ref 46)⟩] 14), #[]⟩,
  boot_o_4 p,
  boot_o_5 p,
  boot_o_6 p,
  boot_o_7 p,
  boot_o_8 p,
  boot_o_9 p,
  boot_o_10 p,
  ⟨(.type "tuple"), none, (.seq #[] 0), #[]⟩,
  ⟨.none, none, (.fields #[(.int 3 0), (.int 0 0), (.ref 20), (.int 15 0), (.int 0 0), (.ref 27), (.int 27 0), (.int 0 0), (.ref 45)]), #[]⟩,
  ⟨(.type "code"), none, (.fields #[(.str ⟨#[60, 109, 111, 100, 117, 108, 101, 62]⟩ 182), (.str ⟨#[60, 109, 111, 100, 117, 108, 101, 62]⟩ 183), (.str ⟨#[47, 99, 108, 97, 105, 109, 47, 99, 117, 116, 46, 112, 121]⟩ 184), (.int 1 0), (.int 0 0), (.int 0 0), (.int 0 0), (.int 0 0), (.ref 11), (.bool false), (.int 181 0), (.ref 12), .none, .none, .none, .none, (.int 185 0), (.int 1 0), (.str ⟨#[47, 99, 108, 97, 105, 109, 47, 99, 117, 116, 46, 112, 121]⟩ 186)]), #[]⟩,
  ⟨(.type "frame"), none, .plain, #[(some (.ref 13)), (some (.ref 3)), (some (.ref 3)), none, (some (.str ⟨#[95, 95, 109, 97, 105, 110, 95, 95]⟩ 164)), none, (some (.ref 0))]⟩,
  ⟨(.type "tuple"), none, (.seq #[] 0), #[]⟩,
  ⟨.none, none, (.fields #[]), #[]⟩,
  ⟨(.type "tuple"), none, (.seq #[(.str ⟨#[103, 114, 111, 117, 112, 105, 110, 103]⟩ 194), (.str ⟨#[108, 97, 115, 116, 95, 105, 110, 116, 101, 114, 118, 97, 108]⟩ 195), (.str ⟨#[105, 110, 116, 101, 114, 118, 97, 108]⟩ 196)] 0), #[]⟩,
  ⟨(.type "tuple"), none, (.seq #[] 0), #[]⟩,
  ⟨.none, none, (.func (fd 2 0 .none .none)), #[]⟩,
  ⟨(.type "code"), none, (.fields #[(.str ⟨#[95, 103, 114, 111, 117, 112, 105, 110, 103, 95, 105, 110, 116, 101, 114, 118, 97, 108, 115]⟩ 191), (.str ⟨#[95, 103, 114, 111, 117, 112, 105, 110, 103, 95, 105, 110, 116, 101, 114, 118, 97, 108, 115]⟩ 192), (.str ⟨#[47, 99, 108, 97, 105, 109, 47, 99, 117, 116, 46, 112, 121]⟩ 193), (.int 3 0), (.int 1 0), (.int 0 0), (.int 0 0), (.int 35 0), (.ref 15), (.bool true), (.int 181 0), (.ref 16), .none, (.ref 17), (.ref 18), (.ref 19), (.int 197 0), (.int 3 0), (.str ⟨#[47, 99, 108, 97, 105, 109, 47, 99, 117, 116, 46, 112, 121]⟩ 198)]), #[]⟩,
  ⟨(.type "function"), none, (.func (fd 2 3 (.str ⟨#[99, 112, 121, 51, 49, 51, 46, 108, 111, 99, 97, 108, 101]⟩ 187) (.ref 20))), #[]⟩,
  ⟨(.type "tuple"), none, (.seq #[] 0), #[]⟩,
  ⟨.none, none, (.fields #[]), #[]⟩,
  ⟨(.type "tuple"), none, (.seq #[(.str ⟨#[115]⟩ 203), (.str ⟨#[97, 109, 111, 117, 110, 116]⟩ 204), (.str ⟨#[108, 112, 111, 115]⟩ 205), (.str ⟨#[114, 112, 111, 115]⟩ 206)] 0), #[]⟩,
  ⟨(.type "tuple"), none, (.seq #[] 0), #[]⟩,
  ⟨.none, none, (.func (fd 3 0 .none .none)), #[]⟩,
  ⟨(.type "code"), none, (.fields #[(.str ⟨#[95, 115, 116, 114, 105, 112, 95, 112, 97, 100, 100, 105, 110, 103]⟩ 200), (.str ⟨#[95, 115, 116, 114, 105, 112, 95, 112, 97, 100, 100, 105, 110, 103]⟩ 201), (.str ⟨#[47, 99, 108, 97, 105, 109, 47, 99, 117, 116, 46, 112, 121]⟩ 202), (.int 15 0), (.int 2 0), (.int 0 0), (.int 0 0), (.int 3 0), (.ref 22), (.bool true), (.int 181 0), (.ref 23), .none, (.ref 24), (.ref 25), (.ref 26), (.int 207 0), (.int 15 0), (.str ⟨#[47, 99, 108, 97, 105, 109, 47, 99, 117, 116, 46, 112, 121]⟩ 208)]), #[]⟩,
  ⟨(.type "function"), none, (.func (fd 3 3 (.str ⟨#[99, 112, 121, 51, 49, 51, 46, 108, 111, 99, 97, 108, 101]⟩ 187) (.ref 27))), #[]⟩,
  ⟨(.type "list"), none, (.seq #[(.int 173 212), (.int 847 213), (.int 6150 214), (.int 6155 215), (.int 6156 216), (.int 6157 217), (.int 8203 218), (.int 8204 219), (.int 8205 220), (.int 8288 221), (.int 65279 222)] 0), #[]⟩,
  ⟨(.type "range"), none, (.fields #[(.int 65024 223), (.int 65040 224), (.int 1 225)]), #[]⟩,
  ⟨(.type "list"), none, (.seq #[(.int 65024 228), (.int 65025 229), (.int 65026 230), (.int 65027 231), (.int 65028 232), (.int 65029 233), (.int 65030 234), (.int 65031 235), (.int 65032 236), (.int 65033 237), (.int 65034 238), (.int 65035 239), (.int 65036 240), (.int 65037 241), (.int 65038 242), (.int 65039 243)] 18), #[]⟩,
  ⟨(.type "range_iterator"), none, (.fields #[(.int 65040 0), (.int 0 0), (.int 1 0)]), #[]⟩,
  ⟨(.type "tuple"), none, (.seq #[] 0), #[]⟩,
  ⟨(.type "StopIteration"), none, (.fields #[(.ref 33), .none, .none, .none, (.bool false), .none]), #[]⟩,
  ⟨(.type "list"), none, (.seq #[(.int 173 212), (.int 847 213), (.int 6150 214), (.int 6155 215), (.int 6156 216), (.int 6157 217), (.int 8203 218), (.int 8204 219), (.int 8205 220), (.int 8288 221), (.int 65279 222), (.int 65024 228), (.int 65025 229), (.int 65026 230), (.int 65027 231), (.int 65028 232), (.int 65029 233), (.int 65030 234), (.int 65031 235), (.int 65032 236), (.int 65033 237), (.int 65034 238), (.int 65035 239), (.int 65036 240), (.int 65037 241), (.int 65038 242), (.int 65039 243)] 0), #[]⟩,
  ⟨(.type "set"), none, (.set #[(65024, (.int 65024 228)), (65025, (.int 65025 229)), (65026, (.int 65026 230)), (65027, (.int 65027 231)), (65028, (.int 65028 232)), (65029, (.int 65029 233)), (6150, (.int 6150 214)), (65030, (.int 65030 234)), (65031, (.int 65031 235)), (65032, (.int 65032 236)), (65033, (.int 65033 237)), (6155, (.int 6155 215)), (6156, (.int 6156 216)), (6157, (.int 6157 217)), (8203, (.int 8203 218)), (8204, (.int 8204 219)), (8205, (.int 8205 220)), (65034, (.int 65034 238)), (65035, (.int 65035 239)), (65036, (.int 65036 240)), (65037, (.int 65037 241)), (65038, (.int 65038 242)), (65039, (.int 65039 243)), (173, (.int 173 212)), (847, (.int 847 213)), (8288, (.int 8288 221)), (65279, (.int 65279 222))] 29 ⟨127, #[0, 1, 2, 3, 4, 5, 6, 7, 8, 9, 10, 11, 12, 13, 14, 15, 16, 17, 18, 19, 20, 21, 22, 45, 79, 96, 127], #[], 0, !p.followText "set-order", 2, true⟩), #[]⟩,
  ⟨(.type "list_iterator"), none, (.fields #[.none, (.int 27 0)]), #[]⟩,
  ⟨(.type "tuple"), none, (.seq #[] 0), #[]⟩,
  ⟨(.type "StopIteration"), none, (.fields #[(.ref 38), .none, .none, .none, (.bool false), .none]), #[]⟩,
  ⟨(.type "tuple"), none, (.seq #[] 0), #[]⟩,
  ⟨.none, none, (.fields #[]), #[]⟩,
  ⟨(.type "tuple"), none, (.seq #[(.str ⟨#[99, 111, 100, 101]⟩ 275)] 0), #[]⟩,
  ⟨(.type "tuple"), none, (.seq #[] 0), #[]⟩,
  ⟨.none, none, (.func (fd 6 0 .none .none)), #[]⟩,
  ⟨(.type "code"), none, (.fields #[(.str ⟨#[105, 110, 95, 116, 97, 98, 108, 101, 95, 98, 49]⟩ 272), (.str ⟨#[105, 110, 95, 116, 97, 98, 108, 101, 95, 98, 49]⟩ 273), (.str ⟨#[47, 99, 108, 97, 105, 109, 47, 99, 117, 116, 46, 112, 121]⟩ 274), (.int 27 0), (.int 1 0), (.int 0 0), (.int 0 0), (.int 3 0), (.ref 40), (.bool true), (.int 181 0), (.ref 41), .none, (.ref 42), (.ref 43), (.ref 44), (.int 276 0), (.int 27 0), (.str ⟨#[47, 99, 108, 97, 105, 109, 47, 99, 117, 116, 46, 112, 121]⟩ 277)]), #[]⟩,
  ⟨(.type "function"), none, (.func (fd 6 3 (.str ⟨#[99, 112, 121, 51, 49, 51, 46, 115, 116, 114, 105, 110, 103, 112, 114, 101, 112]⟩ 210) (.ref 45))), #[]⟩]


noncomputable def S0 (w : World) (os : OsState) : Shared := ⟨boot_heap w.params, #[], boot_drawn, boot_toks, os⟩
noncomputable def Spre (w : World) (os : OsState) : Shared := ⟨⟨⟨preObjs w.params⟩, {}⟩, #[], boot_drawn, 187, os⟩
noncomputable def SA (w : World) (os : OsState) : Shared := ⟨⟨⟨aObjs w.params⟩, {}⟩, #[], boot_drawn, 279, os⟩


noncomputable def body : List Stmt := P'.main.body
noncomputable def env : Env := { scope := P'.main.scope, locals := mainNs, globals := mainNs, cells := [], code := .ref 13, frame := some 14 }
noncomputable def q0 : Pos := ⟨0, 0, 0, 0⟩
noncomputable def cB : Code := .body (behindTheImports P') env
end
end Mine
-- text HB
namespace Mine
theorem fresh_HB : True := by w_top off; trivial
noncomputable section
/-- the display of b3_exceptions, key by key -/
noncomputable def ents : List (Nat × List Nat) := [(181, [956]), (223, [115, 115]), (304, [105, 775]), (329, [700, 110]), (383, [115]), (496, [106, 780]), (837, [953]), (890, [32, 953]), (912, [953, 776, 769]), (944, [965, 776, 769]), (962, [963]), (976, [946]), (977, [952]), (978, [965]), (979, [973]), (980, [971]), (981, [966]), (982, [960]), (1008, [954]), (1009, [961]), (1010, [963]), (1013, [949]), (1415, [1381, 1410]), (7830, [104, 817]), (7831, [116, 776]), (7832, [119, 778]), (7833, [121, 778]), (7834, [97, 702]), (7835, [7777]), (8016, [965, 787]), (8018, [965, 787, 768]), (8020, [965, 787, 769]), (8022, [965, 787, 834]), (8064, [7936, 953]), (8065, [7937, 953]), (8066, [7938, 953]), (8067, [7939, 953]), (8068, [7940, 953]), (8069, [7941, 953]), (8070, [7942, 953]), (8071, [7943, 953]), (8072, [7936, 953]), (8073, [7937, 953]), (8074, [7938, 953]), (8075, [7939, 953]), (8076, [7940, 953]), (8077, [7941, 953]), (8078, [7942, 953]), (8079, [7943, 953]), (8080, [7968, 953]), (8081, [7969, 953]), (8082, [7970, 953]), (8083, [7971, 953]), (8084, [7972, 953]), (8085, [7973, 953]), (8086, [7974, 953]), (8087, [7975, 953]), (8088, [7968, 953]), (8089, [7969, 953]), (8090, [7970, 953]), (8091, [7971, 953]), (8092, [7972, 953]), (8093, [7973, 953]), (8094, [7974, 953]), (8095, [7975, 953]), (8096, [8032, 953]), (8097, [8033, 953]), (8098, [8034, 953]), (8099, [8035, 953]), (8100, [8036, 953]), (8101, [8037, 953]), (8102, [8038, 953]), (8103, [8039, 953]), (8104, [8032, 953]), (8105, [8033, 953]), (8106, [8034, 953]), (8107, [8035, 953]), (8108, [8036, 953]), (8109, [8037, 953]), (8110, [8038, 953]), (8111, [8039, 953]), (8114, [8048, 953]), (8115, [945, 953]), (8116, [940, 953]), (8118, [945, 834]), (8119, [945, 834, 953]), (8124, [945, 953]), (8126, [953]), (8130, [8052, 953]), (8131, [951, 953]), (8132, [942, 953]), (8134, [951, 834]), (8135, [951, 834, 953]), (8140, [951, 953]), (8146, [953, 776, 768]), (8147, [953, 776, 769]), (8150, [953, 834]), (8151, [953, 776, 834]), (8162, [965, 776, 768]), (8163, [965, 776, 769]), (8164, [961, 787]), (8166, [965, 834]), (8167, [965, 776, 834]), (8178, [8060, 953]), (8179, [969, 953]), (8180, [974, 953]), (8182, [969, 834]), (8183, [969, 834, 953]), (8188, [969, 953]), (8360, [114, 115]), (8450, [99]), (8451, [176, 99]), (8455, [603]), (8457, [176, 102]), (8459, [104]), (8460, [104]), (8461, [104]), (8464, [105]), (8465, [105]), (8466, [108]), (8469, [110]), (8470, [110, 111]), (8473, [112]), (8474, [113]), (8475, [114]), (8476, [114]), (8477, [114]), (8480, [115, 109]), (8481, [116, 101, 108]), (8482, [116, 109]), (8484, [122]), (8488, [122]), (8492, [98]), (8493, [99]), (8496, [101]), (8497, [102]), (8499, [109]), (8510, [947]), (8511, [960]), (8517, [100]), (13169, [104, 112, 97]), (13171, [97, 117]), (13173, [111, 118]), (13184, [112, 97]), (13185, [110, 97]), (13186, [956, 97]), (13187, [109, 97]), (13188, [107, 97]), (13189, [107, 98]), (13190, [109, 98]), (13191, [103, 98]), (13194, [112, 102]), (13195, [110, 102]), (13196, [956, 102]), (13200, [104, 122]), (13201, [107, 104, 122]), (13202, [109, 104, 122]), (13203, [103, 104, 122]), (13204, [116, 104, 122]), (13225, [112, 97]), (13226, [107, 112, 97]), (13227, [109, 112, 97]), (13228, [103, 112, 97]), (13236, [112, 118]), (13237, [110, 118]), (13238, [956, 118]), (13239, [109, 118]), (13240, [107, 118]), (13241, [109, 118]), (13242, [112, 119]), (13243, [110, 119]), (13244, [956, 119]), (13245, [109, 119]), (13246, [107, 119]), (13247, [109, 119]), (13248, [107, 969]), (13249, [109, 969]), (13251, [98, 113]), (13254, [99, 8725, 107, 103]), (13255, [99, 111, 46]), (13256, [100, 98]), (13257, [103, 121]), (13259, [104, 112]), (13261, [107, 107]), (13262, [107, 109]), (13271, [112, 104]), (13273, [112, 112, 109]), (13274, [112, 114]), (13276, [115, 118]), (13277, [119, 98]), (64256, [102, 102]), (64257, [102, 105]), (64258, [102, 108]), (64259, [102, 102, 105]), (64260, [102, 102, 108]), (64261, [115, 116]), (64262, [115, 116]), (64275, [1396, 1398]), (64276, [1396, 1381]), (64277, [1396, 1387]), (64278, [1406, 1398]), (64279, [1396, 1389]), (119808, [97]), (119809, [98]), (119810, [99]), (119811, [100]), (119812, [101]), (119813, [102]), (119814, [103]), (119815, [104]), (119816, [105]), (119817, [106]), (119818, [107]), (119819, [108]), (119820, [109]), (119821, [110]), (119822, [111]), (119823, [112]), (119824, [113]), (119825, [114]), (119826, [115]), (119827, [116]), (119828, [117]), (119829, [118]), (119830, [119]), (119831, [120]), (119832, [121]), (119833, [122]), (119860, [97]), (119861, [98]), (119862, [99]), (119863, [100]), (119864, [101]), (119865, [102]), (119866, [103]), (119867, [104]), (119868, [105]), (119869, [106]), (119870, [107]), (119871, [108]), (119872, [109]), (119873, [110]), (119874, [111]), (119875, [112]), (119876, [113]), (119877, [114]), (119878, [115]), (119879, [116]), (119880, [117]), (119881, [118]), (119882, [119]), (119883, [120]), (119884, [121]), (119885, [122]), (119912, [97]), (119913, [98]), (119914, [99]), (119915, [100]), (119916, [101]), (119917, [102]), (119918, [103]), (119919, [104]), (119920, [105]), (119921, [106]), (119922, [107]), (119923, [108]), (119924, [109]), (119925, [110]), (119926, [111]), (119927, [112]), (119928, [113]), (119929, [114]), (119930, [115]), (119931, [116]), (119932, [117]), (119933, [118]), (119934, [119]), (119935, [120]), (119936, [121]), (119937, [122]), (119964, [97]), (119966, [99]), (119967, [100]), (119970, [103]), (119973, [106]), (119974, [107]), (119977, [110]), (119978, [111]), (119979, [112]), (119980, [113]), (119982, [115]), (119983, [116]), (119984, [117]), (119985, [118]), (119986, [119]), (119987, [120]), (119988, [121]), (119989, [122]), (120016, [97]), (120017, [98]), (120018, [99]), (120019, [100]), (120020, [101]), (120021, [102]), (120022, [103]), (120023, [104]), (120024, [105]), (120025, [106]), (120026, [107]), (120027, [108]), (120028, [109]), (120029, [110]), (120030, [111]), (120031, [112]), (120032, [113]), (120033, [114]), (120034, [115]), (120035, [116]), (120036, [117]), (120037, [118]), (120038, [119]), (120039, [120]), (120040, [121]), (120041, [122]), (120068, [97]), (120069, [98]), (120071, [100]), (120072, [101]), (120073, [102]), (120074, [103]), (120077, [106]), (120078, [107]), (120079, [108]), (120080, [109]), (120081, [110]), (120082, [111]), (120083, [112]), (120084, [113]), (120086, [115]), (120087, [116]), (120088, [117]), (120089, [118]), (120090, [119]), (120091, [120]), (120092, [121]), (120120, [97]), (120121, [98]), (120123, [100]), (120124, [101]), (120125, [102]), (120126, [103]), (120128, [105]), (120129, [106]), (120130, [107]), (120131, [108]), (120132, [109]), (120134, [111]), (120138, [115]), (120139, [116]), (120140, [117]), (120141, [118]), (120142, [119]), (120143, [120]), (120144, [121]), (120172, [97]), (120173, [98]), (120174, [99]), (120175, [100]), (120176, [101]), (120177, [102]), (120178, [103]), (120179, [104]), (120180, [105]), (120181, [106]), (120182, [107]), (120183, [108]), (120184, [109]), (120185, [110]), (120186, [111]), (120187, [112]), (120188, [113]), (120189, [114]), (120190, [115]), (120191, [116]), (120192, [117]), (120193, [118]), (120194, [119]), (120195, [120]), (120196, [121]), (120197, [122]), (120224, [97]), (120225, [98]), (120226, [99]), (120227, [100]), (120228, [101]), (120229, [102]), (120230, [103]), (120231, [104]), (120232, [105]), (120233, [106]), (120234, [107]), (120235, [108]), (120236, [109]), (120237, [110]), (120238, [111]), (120239, [112]), (120240, [113]), (120241, [114]), (120242, [115]), (120243, [116]), (120244, [117]), (120245, [118]), (120246, [119]), (120247, [120]), (120248, [121]), (120249, [122]), (120276, [97]), (120277, [98]), (120278, [99]), (120279, [100]), (120280, [101]), (120281, [102]), (120282, [103]), (120283, [104]), (120284, [105]), (120285, [106]), (120286, [107]), (120287, [108]), (120288, [109]), (120289, [110]), (120290, [111]), (120291, [112]), (120292, [113]), (120293, [114]), (120294, [115]), (120295, [116]), (120296, [117]), (120297, [118]), (120298, [119]), (120299, [120]), (120300, [121]), (120301, [122]), (120328, [97]), (120329, [98]), (120330, [99]), (120331, [100]), (120332, [101]), (120333, [102]), (120334, [103]), (120335, [104]), (120336, [105]), (120337, [106]), (120338, [107]), (120339, [108]), (120340, [109]), (120341, [110]), (120342, [111]), (120343, [112]), (120344, [113]), (120345, [114]), (120346, [115]), (120347, [116]), (120348, [117]), (120349, [118]), (120350, [119]), (120351, [120]), (120352, [121]), (120353, [122]), (120380, [97]), (120381, [98]), (120382, [99]), (120383, [100]), (120384, [101]), (120385, [102]), (120386, [103]), (120387, [104]), (120388, [105]), (120389, [106]), (120390, [107]), (120391, [108]), (120392, [109]), (120393, [110]), (120394, [111]), (120395, [112]), (120396, [113]), (120397, [114]), (120398, [115]), (120399, [116]), (120400, [117]), (120401, [118]), (120402, [119]), (120403, [120]), (120404, [121]), (120405, [122]), (120432, [97]), (120433, [98]), (120434, [99]), (120435, [100]), (120436, [101]), (120437, [102]), (120438, [103]), (120439, [104]), (120440, [105]), (120441, [106]), (120442, [107]), (120443, [108]), (120444, [109]), (120445, [110]), (120446, [111]), (120447, [112]), (120448, [113]), (120449, [114]), (120450, [115]), (120451, [116]), (120452, [117]), (120453, [118]), (120454, [119]), (120455, [120]), (120456, [121]), (120457, [122]), (120488, [945]), (120489, [946]), (120490, [947]), (120491, [948]), (120492, [949]), (120493, [950]), (120494, [951]), (120495, [952]), (120496, [953]), (120497, [954]), (120498, [955]), (120499, [956]), (120500, [957]), (120501, [958]), (120502, [959]), (120503, [960]), (120504, [961]), (120505, [952]), (120506, [963]), (120507, [964]), (120508, [965]), (120509, [966]), (120510, [967]), (120511, [968]), (120512, [969]), (120531, [963]), (120546, [945]), (120547, [946]), (120548, [947]), (120549, [948]), (120550, [949]), (120551, [950]), (120552, [951]), (120553, [952]), (120554, [953]), (120555, [954]), (120556, [955]), (120557, [956]), (120558, [957]), (120559, [958]), (120560, [959]), (120561, [960]), (120562, [961]), (120563, [952]), (120564, [963]), (120565, [964]), (120566, [965]), (120567, [966]), (120568, [967]), (120569, [968]), (120570, [969]), (120589, [963]), (120604, [945]), (120605, [946]), (120606, [947]), (120607, [948]), (120608, [949]), (120609, [950]), (120610, [951]), (120611, [952]), (120612, [953]), (120613, [954]), (120614, [955]), (120615, [956]), (120616, [957]), (120617, [958]), (120618, [959]), (120619, [960]), (120620, [961]), (120621, [952]), (120622, [963]), (120623, [964]), (120624, [965]), (120625, [966]), (120626, [967]), (120627, [968]), (120628, [969]), (120647, [963]), (120662, [945]), (120663, [946]), (120664, [947]), (120665, [948]), (120666, [949]), (120667, [950]), (120668, [951]), (120669, [952]), (120670, [953]), (120671, [954]), (120672, [955]), (120673, [956]), (120674, [957]), (120675, [958]), (120676, [959]), (120677, [960]), (120678, [961]), (120679, [952]), (120680, [963]), (120681, [964]), (120682, [965]), (120683, [966]), (120684, [967]), (120685, [968]), (120686, [969]), (120705, [963]), (120720, [945]), (120721, [946]), (120722, [947]), (120723, [948]), (120724, [949]), (120725, [950]), (120726, [951]), (120727, [952]), (120728, [953]), (120729, [954]), (120730, [955]), (120731, [956]), (120732, [957]), (120733, [958]), (120734, [959]), (120735, [960]), (120736, [961]), (120737, [952]), (120738, [963]), (120739, [964]), (120740, [965]), (120741, [966]), (120742, [967]), (120743, [968]), (120744, [969]), (120763, [963])]

/-- the entries as they lie: the tokens are drawn three a pair, key, text, hash -/
noncomputable def entsAt (t : Nat) : List (Nat × List Nat) → List DictEntry
  | [] => []
  | (k, v) :: r => ⟨(k : Int), .int (k : Int) t, .str ⟨⟨v⟩⟩ (t + 1)⟩ :: entsAt (t + 3) r
/-- the last four: keys and texts first, then the hashes -/
noncomputable def entsLast (t : Nat) : List (Nat × List Nat) → List DictEntry
  | [] => []
  | (k, v) :: r => ⟨(k : Int), .int (k : Int) t, .str ⟨⟨v⟩⟩ (t + 1)⟩ :: entsLast (t + 2) r
noncomputable def b3L : List DictEntry := entsAt 279 (ents.take 646) ++ entsLast 2217 (ents.drop 646)
noncomputable def b3Obj : Obj := ⟨.type "dict", none, .dict ⟨b3L⟩ 650, #[]⟩
/-- the dicts of seventeen that were laid into it -/
noncomputable def subObj (i : Nat) : Obj := ⟨.type "dict", none, .dict ⟨if i < 37 then (b3L.drop (17 * (i + 1))).take 17 else b3L.drop 646⟩ (if i < 37 then 17 else 4), #[]⟩

noncomputable def mainB (p : Params) : Obj := ⟨(.type "dict"), none, (.dict #[⟨PyData.keyHash p ⟨#[95, 95, 110, 97, 109, 101, 95, 95]⟩, (.str ⟨#[95, 95, 110, 97, 109, 101, 95, 95]⟩ 165), (.str ⟨#[99, 112, 121, 51, 49, 51, 46, 115, 116, 114, 105, 110, 103, 112, 114, 101, 112]⟩ 210)⟩, ⟨PyData.keyHash p ⟨#[95, 95, 100, 111, 99, 95, 95]⟩, (.str ⟨#[95, 95, 100, 111, 99, 95, 95]⟩ 166), .none⟩, ⟨PyData.keyHash p ⟨#[95, 95, 112, 97, 99, 107, 97, 103, 101, 95, 95]⟩, (.str ⟨#[95, 95, 112, 97, 99, 107, 97, 103, 101, 95, 95]⟩ 167), .none⟩, ⟨PyData.keyHash p ⟨#[95, 95, 108, 111, 97, 100, 101, 114, 95, 95]⟩, (.str ⟨#[95, 95, 108, 111, 97, 100, 101, 114, 95, 95]⟩ 168), (.builtin "__main__.__loader__#opaque")⟩, ⟨PyData.keyHash p ⟨#[95, 95, 115, 112, 101, 99, 95, 95]⟩, (.str ⟨#[95, 95, 115, 112, 101, 99, 95, 95]⟩ 169), .none⟩, ⟨PyData.keyHash p ⟨#[95, 95, 97, 110, 110, 111, 116, 97, 116, 105, 111, 110, 115, 95, 95]⟩, (.str ⟨#[95, 95, 97, 110, 110, 111, 116, 97, 116, 105, 111, 110, 115, 95, 95]⟩ 170), (.ref 6)⟩, ⟨PyData.keyHash p ⟨#[95, 95, 98, 117, 105, 108, 116, 105, 110, 115, 95, 95]⟩, (.str ⟨#[95, 95, 98, 117, 105, 108, 116, 105, 110, 115, 95, 95]⟩ 171), (.ref 4)⟩, ⟨PyData.keyHash p ⟨#[95, 95, 102, 105, 108, 101, 95, 95]⟩, (.str ⟨#[95, 95, 102, 105, 108, 101, 95, 95]⟩ 173), (.str ⟨#[47, 99, 108, 97, 105, 109, 47, 99, 117, 116, 46, 112, 121]⟩ 172)⟩, ⟨PyData.keyHash p ⟨#[95, 95, 99, 97, 99, 104, 101, 100, 95, 95]⟩, (.str ⟨#[95, 95, 99, 97, 99, 104, 101, 100, 95, 95]⟩ 174), .none⟩, ⟨PyData.keyHash p ⟨#[67, 72, 65, 82, 95, 77, 65, 88]⟩, (.str ⟨#[67, 72, 65, 82, 95, 77, 65, 88]⟩ 190), (.int 127 189)⟩, ⟨PyData.keyHash p ⟨#[95, 103, 114, 111, 117, 112, 105, 110, 103, 95, 105, 110, 116, 101, 114, 118, 97, 108, 115]⟩, (.str ⟨#[95, 103, 114, 111, 117, 112, 105, 110, 103, 95, 105, 110, 116, 101, 114, 118, 97, 108, 115]⟩ 199), (.ref 21)⟩, ⟨PyData.keyHash p ⟨#[95, 115, 116, 114, 105, 112, 95, 112, 97, 100, 100, 105, 110, 103]⟩, (.str ⟨#[95, 115, 116, 114, 105, 112, 95, 112, 97, 100, 100, 105, 110, 103]⟩ 209), (.ref 28)⟩, ⟨PyData.keyHash p ⟨#[98, 49, 95, 115, 101, 116]⟩, (.str ⟨#[98, 49, 95, 115, 101, 116]⟩ 271), (.ref 36)⟩, ⟨PyData.keyHash p ⟨#[105, 110, 95, 116, 97, 98, 108, 101, 95, 98, 49]⟩, (.str ⟨#[105, 110, 95, 116, 97, 98, 108, 101, 95, 98, 49]⟩ 278), (.ref 46)⟩, ⟨PyData.keyHash p ⟨#[98, 51, 95, 101, 120, 99, 101, 112, 116, 105, 111, 110, 115]⟩, (.str ⟨#[98, 51, 95, 101, 120, 99, 101, 112, 116, 105, 111, 110, 115]⟩ 2229), (.ref 47)⟩] 15), #[]⟩

noncomputable def bObjs (p : Params) : List Obj := (aObjs p).set 3 (mainB p) ++ b3Obj :: (List.range 38).map subObj
noncomputable def SB (w : World) (os : OsState) : Shared := ⟨⟨⟨bObjs w.params⟩, {}⟩, #[], boot_drawn, 2230, os⟩
noncomputable def keepQ : List Nat := [1, 2, 3, 6, 8, 10, 11, 12, 13, 14, 16, 17, 18, 19, 20, 21, 22, 23, 24, 25, 26]
noncomputable def q : Program := view P' keepQ
noncomputable def looseQ : List Str := [⟨#[98, 49, 95, 115, 101, 116]⟩, ⟨#[98, 51, 95, 101, 120, 99, 101, 112, 116, 105, 111, 110, 115]⟩]
noncomputable def b1Obj (p : Params) : Obj := ⟨(.type "set"), none, (.set #[(65024, (.int 65024 228)), (65025, (.int 65025 229)), (65026, (.int 65026 230)), (65027, (.int 65027 231)), (65028, (.int 65028 232)), (65029, (.int 65029 233)), (6150, (.int 6150 214)), (65030, (.int 65030 234)), (65031, (.int 65031 235)), (65032, (.int 65032 236)), (65033, (.int 65033 237)), (6155, (.int 6155 215)), (6156, (.int 6156 216)), (6157, (.int 6157 217)), (8203, (.int 8203 218)), (8204, (.int 8204 219)), (8205, (.int 8205 220)), (65034, (.int 65034 238)), (65035, (.int 65035 239)), (65036, (.int 65036 240)), (65037, (.int 65037 241)), (65038, (.int 65038 242)), (65039, (.int 65039 243)), (173, (.int 173 212)), (847, (.int 847 213)), (8288, (.int 8288 221)), (65279, (.int 65279 222))] 29 ⟨127, #[0, 1, 2, 3, 4, 5, 6, 7, 8, 9, 10, 11, 12, 13, 14, 15, 16, 17, 18, 19, 20, 21, 22, 45, 79, 96, 127], #[], 0, !p.followText "set-order", 2, true⟩), #[]⟩
noncomputable def b1N : Str := ⟨#[98, 49, 95, 115, 101, 116]⟩
noncomputable def b3N : Str := ⟨#[98, 51, 95, 101, 120, 99, 101, 112, 116, 105, 111, 110, 115]⟩
noncomputable def obs (s : Shared) : Option Obj × Option Obj := (s.heap.get? 36, s.heap.get? 47)
noncomputable def obsV (w : World) : Option Obj × Option Obj := (some (b1Obj w.params), some b3Obj)
noncomputable def XtQ (s : Shared) : Bool := decide (s.heap.nsMap mainGlobals b1N = some (.ref 36)) && decide (s.heap.nsMap mainGlobals b3N = some (.ref 47))
end
end Mine
-- text HC
namespace Mine
theorem fresh_HC : True := by w_top off; trivial
@[reducible] noncomputable def sg (w : World) (n : Nat) (s : Shared) (t : Thread) : Option (Shared × Thread) := segGo treeTable P' w 11 (some (.ref 6)) 1 n s t

theorem sg_add {w : World} : ∀ {n m : Nat} {s s' : Shared} {t t' : Thread} {r}, sg w n s t = some (s', t') → sg w m s' t' = r → sg w (n + m) s t = r
  | 0, m, s, s', t, t', r, h, k => by
    obtain ⟨rfl, rfl⟩ : s = s' ∧ t = t' := by simpa [segGo] using h
    rw [Nat.zero_add]; exact k
  | n + 1, m, s, s', t, t', r, h, k => by
    rw [show n + 1 + m = n + m + 1 by omega]
    unfold sg segGo at h ⊢
    cases he : endAt 1 t with
    | some f => rw [he] at h; cases h
    | none =>
      rw [he] at h
      cases hk : stepOk 11 (some (.ref 6)) t with
      | false => rw [hk] at h; cases h
      | true =>
        rw [hk] at h
        cases hs : step (denote treeTable) P' w s t with
        | halt o s₂ => rw [hs] at h; cases h
        | go s₂ t₂ => rw [hs] at h; exact sg_add h k

/-- x runs within n steps from s to s' and hands on a -/
noncomputable def Go {α : Type} (w : World) (n : Nat) (x : Sem α) (s : Shared) (a : α) (s' : Shared) : Prop :=
  ∀ (K : α → Sem Fin) (H : Value → Sem Fin) (gd : Bool → Bool) (lv : List Value → List Value) (p : Pos), ∃ m p', m ≤ n ∧
    sg w m s ⟨x.wrap K H gd lv, cB, p, [topFrame q0]⟩ = some (s', ⟨K a, cB, p', [topFrame q0]⟩)

section
variable {α β : Type} {w : World} {n m : Nat} {s s' s₁ : Shared} {a : α} {b : β}
theorem Go.pure : Go w 0 (Sem.pure a) s a s := fun K H gd lv p => ⟨0, p, Nat.le_refl _, rfl⟩
theorem Go.pure' : Go w 0 (Pure.pure a : Sem α) s a s := Go.pure
theorem Go.mono {x : Sem α} (h : Go w n x s a s') (hn : n ≤ m) : Go w m x s a s' := fun K H gd lv p =>
  let ⟨k, p', h1, h2⟩ := h K H gd lv p; ⟨k, p', Nat.le_trans h1 hn, h2⟩
theorem Go.bind {x : Sem α} {f : α → Sem β} (h : Go w n x s a s₁) (k : Go w m (f a) s₁ b s') : Go w (n + m) (x >>= f) s b s' := fun K H gd lv p => by
  rw [Sem.bind_eq_wrap', Sem.wrap_wrap]
  obtain ⟨i, p1, h1, h2⟩ := h (fun a => (f a).wrap K H gd lv) (fun e => (Sem.raise e : Sem β).wrap K H gd lv) (gd ∘ id) (lv ∘ id) p
  obtain ⟨j, p2, k1, k2⟩ := k K H gd lv p1
  exact ⟨i + j, p2, by omega, sg_add h2 k2⟩
theorem Go.keep {x : Sem α} {vs : List Value} (h : Go w n x s a s') : Go w n (x.keep vs) s a s' := fun K H gd lv p => by
  rw [Sem.keep_eq_wrap, Sem.wrap_wrap]
  exact h _ _ _ _ p
theorem Go.holding {x : Sem α} {vs : List Value} (h : Go w n x s a s') : Go w n (holding vs x) s a s' := by
  unfold PySem.holding
  split
  · exact h
  · exact h.keep
theorem Go.step {x y : Sem α} {s₁ : Shared} (hs : ∀ (K : α → Sem Fin) (H : Value → Sem Fin) (gd : Bool → Bool) (lv : List Value → List Value) (p : Pos), ∃ p', sg w 1 s ⟨x.wrap K H gd lv, cB, p, [topFrame q0]⟩ = some (s₁, ⟨y.wrap K H gd lv, cB, p', [topFrame q0]⟩))
    (h : Go w n y s₁ a s') : Go w (n + 1) x s a s' := fun K H gd lv p => by
  obtain ⟨p1, e⟩ := hs K H gd lv p
  obtain ⟨i, p2, h1, h2⟩ := h K H gd lv p1
  exact ⟨1 + i, p2, by omega, sg_add e h2⟩
theorem Go.rule {t : String} {k : Unit → Sem α} (h : Go w n (k ()) s a s') : Go w (n + 1) (.rule t k) s a s' := Go.step (fun K H gd lv p => ⟨p, rfl⟩) h
theorem Go.at {q : Pos} {k : Unit → Sem α} (h : Go w n (k ()) s a s') : Go w (n + 1) (.at q k) s a s' := Go.step (fun K H gd lv p => ⟨q, rfl⟩) h
theorem Go.ask {k : Setting → Sem α} (h : Go w n (k ⟨P', w.params⟩) s a s') : Go w (n + 1) (.ask k) s a s' := Go.step (fun K H gd lv p => ⟨p, rfl⟩) h
theorem Go.point {l : List Value} {k : Unit → Sem α} (h : Go w n (k ()) s a s') : Go w (n + 1) (.point l k) s a s' := Go.step (fun K H gd lv p => ⟨p, rfl⟩) h
theorem Go.fresh {k : Tok → Sem α} (h : Go w n (k s.toks) { s with toks := s.toks + 1 } a s') : Go w (n + 1) (.fresh k) s a s' := Go.step (fun K H gd lv p => ⟨p, rfl⟩) h
theorem step_load' {s : Shared} {ad : Addr} {q : Option Value} {k : Obj → Sem Fin} {o : Obj} {c : Code} {p : Pos} {st : List Frame} (ho : s.heap.get? ad = some o) :
    PySem.step (denote treeTable) P' w s ⟨.load ad q k, c, p, st⟩ = .go s ⟨k o, c, p, st⟩ := by
  obtain ⟨heap, gens, drawn, toks, os⟩ := s
  dsimp only at ho
  simp only [PySem.step, ho]
theorem step_update' {s : Shared} {ad : Addr} {q : Option Value} {f : Obj → Obj} {k : Unit → Sem Fin} {o : Obj} {c : Code} {p : Pos} {st : List Frame} (ho : s.heap.get? ad = some o) :
    PySem.step (denote treeTable) P' w s ⟨.update ad q f k, c, p, st⟩ = .go { s with heap := s.heap.update ad f } ⟨k (), c, p, st⟩ := by
  obtain ⟨heap, gens, drawn, toks, os⟩ := s
  dsimp only at ho
  simp only [PySem.step, ho, Option.isSome_some, if_true]
theorem Go.load {ad : Addr} {q : Option Value} {k : Obj → Sem α} {o : Obj} (ho : s.heap.get? ad = some o) (h : Go w n (k o) s a s') : Go w (n + 1) (.load ad q k) s a s' :=
  Go.step (fun K H gd lv p => ⟨p, by
    unfold sg segGo
    have e2 : stepOk 11 (some (.ref 6)) ⟨(Sem.load ad q k).wrap K H gd lv, cB, p, [topFrame q0]⟩ = true := rfl
    have e3 : endAt 1 ⟨(Sem.load ad q k).wrap K H gd lv, cB, p, [topFrame q0]⟩ = none := rfl
    rw [e3, e2]
    simp only [Sem.wrap]
    rw [step_load' ho]
    rfl⟩) h
theorem Go.update {ad : Addr} {q : Option Value} {f : Obj → Obj} {k : Unit → Sem α} {o : Obj} (ho : s.heap.get? ad = some o) (ha : 11 ≤ ad ∨ ad = 3) (h : Go w n (k ()) { s with heap := s.heap.update ad f } a s') : Go w (n + 1) (.update ad q f k) s a s' :=
  Go.step (fun K H gd lv p => ⟨p, by
    unfold sg
    have e : (Nat.ble 11 ad || ad == mainNs || ad == cStatics || (some (.ref 6) == some (Value.ref ad))) = true := by
      rcases ha with ha | rfl
      · rw [Nat.ble_eq.mpr ha]; rfl
      · rfl
    have e2 : stepOk 11 (some (.ref 6)) ⟨(Sem.update ad q f k).wrap K H gd lv, cB, p, [topFrame q0]⟩ = true := by
      simp only [stepOk, Sem.wrap]
      rw [e]; rfl
    have e3 : endAt 1 ⟨(Sem.update ad q f k).wrap K H gd lv, cB, p, [topFrame q0]⟩ = none := rfl
    unfold segGo
    rw [e3, e2]
    simp only [Sem.wrap]
    rw [step_update' ho]
    rfl⟩) h
theorem Go.alloc {o : Obj} {k : Addr → Sem α} (h : Go w n (k s.heap.objs.size) { s with heap := s.heap.push o } a s') : Go w (n + 1) (.alloc o k) s a s' := Go.step (fun K H gd lv p => ⟨p, rfl⟩) h
end
end Mine
-- text HD
namespace Mine
theorem fresh_HD : True := by w_top off; trivial
theorem te_segGo : @segGo = @PySem.W.Fast.tw3277212676724774461 := PySem.W.Fast.te3277212676724774461
theorem te_tab : treeTable = PySem.W.Fast.tw14364793385576792824 := PySem.W.Fast.te14364793385576792824
theorem te_specialOf : specialOf = PySem.W.Fast.tw4214721358667687652 := PySem.W.Fast.te4214721358667687652
section
variable {α β : Type} {w : World} {n m : Nat} {s s' s₁ : Shared} {a : α} {b : β}
theorem go_hashcall (n : Int) (t : Tok) : Go w 4 (call (.builtin "int.__hash__") [.int n t]) s (.int (rawHash n) s.toks) { s with toks := s.toks + 1 } := by
  intro K H gd lv p
  obtain ⟨heap, gens, drawn, toks, os⟩ := s
  refine ⟨4, p, Nat.le_refl _, ?_⟩
  unfold sg
  rw [te_segGo, te_tab]
  kernel_rfl!
theorem special_hash (n : Int) (t : Tok) : specialOf (.int n t) "__hash__" = Sem.pure (some (.builtin "int.__hash__")) := by
  rw [te_specialOf]; kernel_rfl!
theorem bind_hash (n : Int) (t : Tok) : bindSpecial (.builtin "int.__hash__") (.int n t) = Sem.pure (.builtin "int.__hash__", [.int n t]) := by
  kernel_rfl!
theorem Go.of_eq {x y : Sem α} (e : x = y) (h : Go w n y s a s') : Go w n x s a s' := e ▸ h
theorem Go.tryCatch {x : Sem α} {f : Value → Sem α} (h : Go w n x s a s') : Go w n (x.tryCatch f) s a s' := fun K H gd lv p => by
  rw [Sem.tryCatch_eq_wrap, Sem.wrap_wrap]
  exact h _ _ _ _ p
theorem Go.tryCatch' {x : Sem α} {f : Value → Sem α} (h : Go w n x s a s') : Go w n (MonadExcept.tryCatch x f) s a s' := Go.tryCatch h
theorem hash_small (k : Nat) (h : k < 2 ^ 31) : rawHash (k : Int) = k := by
  unfold rawHash
  simp only [Int.natAbs_natCast]
  have e : (k : Int) % ((2 ^ 61 - 1 : Nat) : Int) = k := Int.emod_eq_of_lt (by omega) (by omega)
  rw [e, if_neg (show ¬ (k : Int) < 0 by omega), if_neg (by simp)]
theorem go_hash (k : Nat) (t : Tok) (hk : k < 2 ^ 31) : Go w 5 (pyHash (.int k t)) s (k : Int) { s with toks := s.toks + 1 } := by
  unfold pyHash
  refine Go.mono (Go.bind (n := 0) (a := ()) (s₁ := s) ?_ (Go.bind (n := 0) (s₁ := s) (a := some (.builtin "int.__hash__")) ?_ ?_)) (m := 5) (n := 0 + (0 + 5)) (by omega)
  · show Go w 0 (cRoomFor "hash" [Value.int k t]) s () s
    rw [cRoomFor, if_neg (by rw [show [Value.int k t].any Value.onHeap = false from rfl]; exact Bool.false_ne_true)]
    exact Go.pure
  · rw [special_hash]; exact Go.pure
  · show Go w 5 (if (some (Value.builtin "int.__hash__") == some Value.none) = true then _ else _) s _ _
    rw [if_neg (by rw [beq_builtin_none]; exact Bool.false_ne_true)]
    refine Go.mono (Go.bind (n := 0) (s₁ := s) (a := some (.builtin "int.__hash__")) (by rw [special_hash]; exact Go.pure) (m := 5) ?_) (m := 5) (by omega)
    show Go w 5 (callSpecialIfBoundUnlessNone? (.int k t) "__hash__" _ >>= _) s _ _
    refine Go.mono (Go.bind (n := 5) (m := 0) (s₁ := { s with toks := s.toks + 1 }) (a := some (.int (rawHash k) s.toks)) ?_ ?_) (m := 5) (by omega)
    · unfold callSpecialIfBoundUnlessNone?
      refine Go.holding ?_
      refine Go.mono (Go.bind (n := 1) (m := 4) (s₁ := s) (a := some (.builtin "int.__hash__", [.int k t])) ?_ ?_) (m := 5) (by omega)
      · unfold bindSpecialIfBound?
        refine Go.mono (Go.bind (n := 0) (m := 1) (s₁ := s) (a := some (.builtin "int.__hash__")) (by rw [special_hash]; exact Go.pure) ?_) (m := 1) (by omega)
        show Go w 1 (do
          let g ← ask
          if g.params.followText "special-get-raises" = true then (do let r ← bindSpecial (.builtin "int.__hash__") (.int k t); pure (some r)) else
            Sem.tryCatch (do let r ← bindSpecial (.builtin "int.__hash__") (.int k t); pure (some r)) fun _ => do rule "special.get-raises-dropped"; pure none) s _ s
        rw [bind_hash]
        refine Go.ask ?_
        show Go w 0 (if w.params.followText "special-get-raises" = true then _ else _) s _ s
        split
        · exact Go.pure
        · exact Go.tryCatch Go.pure
      · dsimp only
        rw [if_neg (by decide)]
        exact Go.mono (Go.bind (n := 4) (m := 0) (go_hashcall _ _) Go.pure) (by omega)
    · show Go w 0 (if (decide (-(2 : Int) ^ 63 ≤ rawHash k) && decide (rawHash k < 2 ^ 63)) = true then _ else _) _ _ _
      rw [hash_small k hk, if_pos (by rw [Bool.and_eq_true, decide_eq_true_eq, decide_eq_true_eq]; constructor <;> omega), if_neg (by simp)]
      exact Go.pure

/-- every entry's key is an int and its hash is that int; k is none of them -/
noncomputable def Free (k : Nat) (es : List DictEntry) : Prop := ∀ e ∈ es, ∃ (j : Nat) (t : Tok), e.key = .int j t ∧ e.hash = j ∧ j ≠ k
theorem places_nil (k : Nat) (es : List DictEntry) (h : Free k es) : placesWithHash es.toArray.size (fun i => (es.toArray)[i]?.map (·.hash)) (k : Int) = [] := by
  unfold placesWithHash
  rw [List.filter_eq_nil_iff]
  intro i hi
  cases he : (es.toArray)[i]? with
  | none => simp [he]
  | some e =>
    obtain ⟨j, t, _, h2, h3⟩ := h e (Array.mem_of_getElem? he |> Array.mem_toList_iff.mpr)
    simp only [he, Option.map_some, h2, beq_iff_eq, Option.some.injEq]
    intro hh
    exact h3 (by omega)
theorem go_entries {ad : Addr} {q : Option Value} {c : Value} {d : Option Addr} {es : Array DictEntry} {ep : Nat} {sl} (ho : s.heap.get? ad = some ⟨c, d, .dict es ep, sl⟩) : Go w 1 (dictEntries ad q) s es s := by
  unfold dictEntries
  exact Go.mono (Go.bind (n := 1) (m := 0) (Go.load (n := 0) ho Go.pure) Go.pure) (by omega)
theorem go_find {ad : Addr} {c : Value} {d : Option Addr} {es : List DictEntry} {ep : Nat} {sl} (k : Nat) (t : Tok) (ho : s.heap.get? ad = some ⟨c, d, .dict es.toArray ep, sl⟩) (hf : Free k es) :
    Go w 1 (dictFind ad (.int k t) (k : Int)) s none s := by
  unfold dictFind
  refine Go.holding ?_
  refine Go.mono (Go.bind (n := 1) (m := 0) (go_entries ho) ?_) (by omega)
  dsimp only
  rw [places_nil k es hf]
  rw [if_pos (by rfl)]
  exact Go.mono (Go.bind (n := 0) (m := 0) (a := (none, PUnit.unit)) (s₁ := s) Go.pure Go.pure) (by omega)
theorem go_push {ad : Addr} {q : Option Value} {c : Value} {d : Option Addr} {es : List DictEntry} {ep : Nat} {sl} (e : DictEntry) (ho : s.heap.get? ad = some ⟨c, d, .dict es.toArray ep, sl⟩) (ha : 11 ≤ ad ∨ ad = 3) (hl : es.length < 1000)
    (hg : (s.heap.update ad (Obj.mapDictKeys (·.push e))).get? ad = some ⟨c, d, .dict (es ++ [e]).toArray (ep + 1), sl⟩) :
    Go w 3 (updateDictKeys ad (·.push e) q) s () { s with heap := s.heap.update ad (Obj.mapDictKeys (·.push e)) } := by
  unfold updateDictKeys
  refine Go.mono (Go.bind (n := 1) (m := 2) (Go.load (n := 0) ho Go.pure) ?_) (by omega)
  dsimp only
  refine Go.mono (Go.bind (n := 1) (m := 1) (Go.update (n := 0) ho ha Go.pure) ?_) (by omega)
  unfold lookBehind
  refine Go.mono (Go.bind (n := 1) (m := 0) (Go.load (n := 0) hg Go.pure) ?_) (by omega)
  have : (Data.dict (es ++ [e]).toArray (ep + 1)).pastItsLine = none := by
    show (if (es ++ [e]).toArray.size > sizeLine + 1 then some "dict:memory" else none) = none
    rw [if_neg]
    rw [List.size_toArray, List.length_append]
    have : sizeLine = 16777216 := rfl
    simp only [List.length_cons, List.length_nil]
    omega
  dsimp only
  rw [this]
  exact Go.pure
end
end Mine
-- text HE
namespace Mine
theorem fresh_HE : True := by w_top off; trivial
@[reducible] noncomputable def St (l : List Obj) (t : Nat) (os : OsState) : Shared := ⟨⟨⟨l⟩, {}⟩, #[], boot_drawn, t, os⟩
@[reducible] noncomputable def dO (es : List DictEntry) (ep : Nat) : Obj := ⟨.type "dict", none, .dict es.toArray ep, #[]⟩
@[reducible] noncomputable def en (k : Nat) (t : Tok) (v : Value) : DictEntry := ⟨(k : Int), .int (k : Int) t, v⟩
theorem heap_get {X Y : List Obj} {o : Obj} {life : Life} {a : Nat} (ha : X.length = a) (hf : o.isFreed = false) : Heap.get? ⟨⟨X ++ o :: Y⟩, life⟩ a = some o := by
  subst ha
  unfold Heap.get?
  have : (⟨X ++ o :: Y⟩ : Array Obj)[X.length]? = some o := by simp
  rw [this]
  obtain ⟨c, d, dt, sl⟩ := o
  cases dt <;> first | rfl | (cases hf)
theorem heap_upd {X Y : List Obj} {o : Obj} {life : Life} {a : Nat} {f : Obj → Obj} (ha : X.length = a) : Heap.update ⟨⟨X ++ o :: Y⟩, life⟩ a f = ⟨⟨X ++ f o :: Y⟩, life⟩ := by
  subst ha
  unfold Heap.update
  have : (⟨X ++ o :: Y⟩ : Array Obj).modify X.length f = ⟨X ++ f o :: Y⟩ := by
    show (X ++ o :: Y).toArray.modify X.length f = (X ++ f o :: Y).toArray
    rw [List.modify_toArray]
    congr 1
    induction X with
    | nil => simp [List.modify_zero_cons]
    | cons x X ih => simp [List.modify_succ_cons, ih]
  show (⟨(⟨X ++ o :: Y⟩ : Array Obj).modify X.length f, life⟩ : Heap) = _
  rw [this]
theorem Free.snoc {k j : Nat} {t : Tok} {v : Value} {es : List DictEntry} (h : Free k es) (hj : j ≠ k) : Free k (es ++ [en j t v]) := by
  intro e he
  rcases List.mem_append.mp he with he | he
  · exact h e he
  · obtain rfl := List.mem_singleton.mp he
    exact ⟨j, t, rfl, rfl, hj⟩
section
variable {α β : Type} {w : World} {n m : Nat} {s s' s₁ : Shared} {a : α} {b : β} {X Y : List Obj} {es : List DictEntry} {ep tk k ad : Nat} {t : Tok} {v : Value} {os : OsState}
theorem Go.onRaise {x : Sem α} {f : Value → Sem Unit} (h : Go w n x s a s') : Go w n (x.onRaise f) s a s' := fun K H gd lv p => by
  rw [Sem.onRaise_eq_wrap, Sem.wrap_wrap]
  exact h _ _ _ _ p
theorem Go.forIn_nil {σ : Type} {f : α → σ → Sem (ForInStep σ)} {b : σ} : Go w 0 (forIn ([] : List α) b f) s b s := by
  rw [List.forIn_nil]; exact Go.pure
theorem Go.forIn_cons {σ : Type} {x : α} {xs : List α} {f : α → σ → Sem (ForInStep σ)} {b b' r : σ} (h : Go w n (f x b) s (.yield b') s₁) (k : Go w m (forIn xs b' f) s₁ r s') : Go w (n + m) (forIn (x :: xs) b f) s r s' := by
  rw [List.forIn_cons]; exact Go.bind h k
theorem go_pushL (e : DictEntry) (hX : X.length = ad) (ha : 11 ≤ ad) (hl : es.length < 1000) {q : Option Value} :
    Go w 3 (updateDictKeys ad (·.push e) q) (St (X ++ dO es ep :: Y) tk os) () (St (X ++ dO (es ++ [e]) (ep + 1) :: Y) tk os) := by
  have u : (St (X ++ dO es ep :: Y) tk os).heap.update ad (Obj.mapDictKeys (·.push e)) = (St (X ++ dO (es ++ [e]) (ep + 1) :: Y) tk os).heap := by
    rw [heap_upd hX]
    show (⟨⟨X ++ (⟨.type "dict", none, .dict (es.toArray.push e) (ep + 1), #[]⟩ : Obj) :: Y⟩, {}⟩ : Heap) = _
    rw [List.push_toArray]
  have g := go_push (w := w) (s := St (X ++ dO es ep :: Y) tk os) (q := q) e (heap_get hX rfl) (.inl ha) hl (by rw [u]; exact heap_get hX rfl)
  rw [u] at g
  exact g
theorem go_set (hX : X.length = ad) (ha : 11 ≤ ad) (hl : es.length < 1000) (hk : k < 2 ^ 31) (hf : Free k es) :
    Go w 10 (dictSet ad (.int k t) v) (St (X ++ dO es ep :: Y) tk os) () (St (X ++ dO (es ++ [en k t v]) (ep + 1) :: Y) (tk + 1) os) := by
  unfold dictSet
  refine Go.holding ?_
  refine Go.bind (n := 5) (m := 5) (go_hash k t hk) ?_
  unfold dictSetHashed
  refine Go.holding ?_
  refine Go.bind (n := 1) (m := 4) (go_find k t (heap_get hX rfl) hf) ?_
  dsimp only
  exact Go.bind (n := 1) (m := 3) (Go.rule Go.pure) (go_pushL (en k t v) hX ha hl)
theorem go_put (hX : X.length = ad) (ha : 11 ≤ ad) (hl : es.length < 1000) (hf : Free k es) :
    Go w 4 (dictPut ad k (.int k t) v) (St (X ++ dO es ep :: Y) tk os) () (St (X ++ dO (es ++ [en k t v]) (ep + 1) :: Y) tk os) := by
  unfold dictPut
  refine Go.bind (n := 1) (m := 3) (go_find k t (heap_get hX rfl) hf) ?_
  dsimp only
  exact go_pushL (en k t v) hX ha hl

/-- a pair of the display: the key, the text -/
noncomputable def pr (q : Pos) (x : Nat × List Nat) : Sem Value × Sem Value := (mkInt (x.1 : Int), do let y ← mkText ⟨⟨x.2⟩⟩; standAt q; pure y)
noncomputable def Keys (l : List (Nat × List Nat)) : Prop := (l.map (·.1)).Nodup ∧ ∀ x ∈ l, x.1 < 2 ^ 31
theorem go_turns (q : Pos) : ∀ (l : List (Nat × List Nat)) (es : List DictEntry) (ep tk : Nat), X.length = ad → 11 ≤ ad → es.length + l.length ≤ 1000 → Keys l → (∀ x ∈ l, Free x.1 es) →
    Go w (13 * l.length) (forIn (l.map (pr q)) PUnit.unit fun x (__s : PUnit) => match x with
      | (k, v) => do
        let kv ← k
        let vv ← holding [kv] v
        holding [kv, vv] (dictSet ad kv vv)
        pure (ForInStep.yield PUnit.unit)) (St (X ++ dO es ep :: Y) tk os) PUnit.unit (St (X ++ dO (es ++ entsAt tk l) (ep + l.length) :: Y) (tk + 3 * l.length) os)
  | [], es, ep, tk, hX, ha, hl, hK, hF => by
    simp only [List.map_nil, entsAt, List.append_nil, List.length_nil, Nat.mul_zero, Nat.add_zero]
    exact Go.forIn_nil
  | (k, v) :: r, es, ep, tk, hX, ha, hl, hK, hF => by
    rw [List.map_cons]
    simp only [List.length_cons] at hl
    have hK' : Keys r := ⟨(List.nodup_cons.mp hK.1).2, fun x hx => hK.2 x (.tail _ hx)⟩
    have hne : ∀ x ∈ r, k ≠ x.1 := fun x hx e => (List.nodup_cons.mp hK.1).1 (List.mem_map.mpr ⟨x, hx, e.symm⟩)
    have ih := go_turns q r (es ++ [en k tk (.str ⟨⟨v⟩⟩ (tk + 1))]) (ep + 1) (tk + 3) hX ha (by simp only [List.length_append, List.length_cons, List.length_nil]; omega) hK' (fun x hx => (hF x (.tail _ hx)).snoc (hne x hx))
    have e1 : es ++ [en k tk (.str ⟨⟨v⟩⟩ (tk + 1))] ++ entsAt (tk + 3) r = es ++ entsAt tk ((k, v) :: r) := by rw [List.append_assoc]; rfl
    rw [e1, show ep + 1 + r.length = ep + ((k, v) :: r).length by rw [List.length_cons]; omega, show tk + 3 + 3 * r.length = tk + 3 * ((k, v) :: r).length by rw [List.length_cons]; omega] at ih
    refine Go.mono (Go.forIn_cons (n := 13) ?_ ih) (by rw [List.length_cons]; omega)
    dsimp only [pr]
    refine Go.bind (n := 1) (m := 12) (a := .int (k : Int) tk) (s₁ := St (X ++ dO es ep :: Y) (tk + 1) os) ?_ ?_
    · exact Go.fresh (n := 0) Go.pure
    refine Go.bind (n := 2) (m := 10) (a := .str ⟨⟨v⟩⟩ (tk + 1)) (s₁ := St (X ++ dO es ep :: Y) (tk + 2) os) ?_ ?_
    · refine Go.holding ?_
      exact Go.bind (n := 1) (m := 1) (a := .str ⟨⟨v⟩⟩ (tk + 1)) (s₁ := St (X ++ dO es ep :: Y) (tk + 2) os) (Go.fresh (n := 0) Go.pure) (Go.bind (n := 1) (m := 0) (Go.at (n := 0) Go.pure) Go.pure)
    · exact Go.bind (n := 10) (m := 0) (Go.holding (go_set hX ha (by omega) (hK.2 _ (.head _)) (hF _ (.head _)))) Go.pure
theorem go_subLong (q : Pos) (l : List (Nat × List Nat)) (L : List Obj) (hL : 11 ≤ L.length) (hl : 15 < l.length) (hl2 : l.length ≤ 1000) (hK : Keys l) :
    Go w (2 + 13 * l.length) (subDict (l.map (pr q))) (St L tk os) L.length (St (L ++ [dO (entsAt tk l) l.length]) (tk + 3 * l.length) os) := by
  unfold subDict
  have e : (⟨⟨L⟩, {}⟩ : Heap).push { cls := .type "dict", data := .dict #[] } = ⟨⟨L ++ [dO [] 0]⟩, {}⟩ := by
    unfold Heap.push
    simp
  refine Go.mono (Go.bind (n := 1) (m := 1 + 13 * l.length) (a := L.length) (s₁ := St (L ++ [dO [] 0]) tk os) ?_ ?_) (by omega)
  · have := Go.alloc (w := w) (s := St L tk os) (n := 0) (o := { cls := .type "dict", data := .dict #[] }) (k := Sem.pure) Go.pure
    rw [show (St L tk os).heap.push { cls := .type "dict", data := .dict #[] } = ⟨⟨L ++ [dO [] 0]⟩, {}⟩ from e] at this
    exact this
  · refine Go.mono (Go.bind (n := 1 + 13 * l.length) (m := 0) (a := ()) ?_ Go.pure) (by omega)
    refine Go.holding ?_
    rw [if_neg (by rw [List.length_map]; omega)]
    refine Go.bind (n := 1) (m := 13 * l.length) (Go.rule (n := 0) Go.pure) ?_
    have t := go_turns (w := w) (X := L) (Y := []) (ad := L.length) (os := os) q l [] 0 tk rfl hL (by simp; omega) hK (fun x _ e he => nomatch he)
    rw [List.nil_append, Nat.zero_add] at t
    exact Go.mono (Go.bind (m := 0) t Go.pure) (by omega)
end
end Mine
-- text HF
namespace Mine
theorem fresh_HF : True := by w_top off; trivial
section
variable {α β : Type} {w : World} {n m : Nat} {s s' s₁ : Shared} {a : α} {b : β} {X Y : List Obj} {es fs : List DictEntry} {ep tk k ad : Nat} {t : Tok} {v : Value} {os : OsState}
theorem sub_dict : isSubtype (.type "dict") (.type "dict") = Sem.pure true := by kernel_rfl!
theorem look_iter : typeLookup (.type "dict") "__iter__" = Sem.pure (some (.builtin "dict.__iter__")) := by kernel_rfl!
theorem go_typeOf {ad : Addr} {o : Obj} (ho : s.heap.get? ad = some o) : Go w 1 (typeOf (.ref ad)) s o.cls s := by
  unfold typeOf
  exact Go.mono (Go.bind (n := 1) (m := 0) (Go.load (n := 0) ho Go.pure) Go.pure) (by omega)
/-- the keys of what is laid in -/
noncomputable def EntsOk (fs : List DictEntry) : Prop := (fs.map (·.hash)).Nodup ∧ ∀ e ∈ fs, ∃ (k : Nat) (t : Tok) (v : Value), e = en k t v
theorem entsAt_ok : ∀ (l : List (Nat × List Nat)) (tk : Nat), Keys l → EntsOk (entsAt tk l) ∧ (entsAt tk l).map (·.hash) = l.map (fun x => ((x.1 : Nat) : Int)) ∧ (entsAt tk l).length = l.length
  | [], tk, h => ⟨⟨List.nodup_nil, fun _ h => nomatch h⟩, rfl, rfl⟩
  | (k, v) :: r, tk, h => by
    have h' : Keys r := ⟨(List.nodup_cons.mp h.1).2, fun x hx => h.2 x (.tail _ hx)⟩
    obtain ⟨a, b, c⟩ := entsAt_ok r (tk + 3) h'
    have e : entsAt tk ((k, v) :: r) = en k tk (.str ⟨⟨v⟩⟩ (tk + 1)) :: entsAt (tk + 3) r := rfl
    refine ⟨⟨?_, ?_⟩, ?_, ?_⟩
    · rw [e, List.map_cons, b]
      refine List.nodup_cons.mpr ⟨fun hm => ?_, b ▸ a.1⟩
      obtain ⟨x, hx, hh⟩ := List.mem_map.mp hm
      exact (List.nodup_cons.mp h.1).1 (List.mem_map.mpr ⟨x, hx, by have : ((x.1 : Nat) : Int) = (k : Int) := hh; show x.1 = k; omega⟩)
    · intro z hz
      rcases List.mem_cons.mp hz with rfl | hz
      · exact ⟨k, tk, _, rfl⟩
      · exact a.2 z hz
    · rw [e, List.map_cons, b]; rfl
    · rw [e, List.length_cons, List.length_cons, c]
theorem free_of {k : Nat} {es : List DictEntry} (h : EntsOk es) (hk : ((k : Nat) : Int) ∉ es.map (·.hash)) : Free k es := by
  intro e he
  obtain ⟨j, t, v, rfl⟩ := h.2 e he
  exact ⟨j, t, rfl, rfl, fun q => hk (List.mem_map.mpr ⟨_, he, by subst q; rfl⟩)⟩
noncomputable abbrev mTurn (ad sub : Addr) (epoch : Nat) : Nat → PUnit → Sem (ForInStep PUnit) := fun i (__s : PUnit) => do
    let __do_lift ← dictEntries sub
    match __do_lift[i]? with
      | some e => do
        holding [e.key, e.val]
            (have __do_jp := fun (__r : PUnit) => dictPut ad e.hash e.key e.val;
            if false = true then do
              let __do_lift ← dictFind ad e.key e.hash
              if __do_lift.isSome = true then do
                  rule "dict.merge.duplicate-key"
                  let __do_lift ← newExc (Value.type "KeyError") [e.key]
                  let __r ← raiseNew __do_lift
                  __do_jp __r
                else __do_jp ()
            else __do_jp ())
        let __do_lift ← dictEpoch sub
        if (__do_lift != epoch) = true then do
            unsupported "dict.changed-during-merge"
            pure (ForInStep.yield PUnit.unit)
          else pure (ForInStep.yield PUnit.unit)
      | x => do
        unsupported "dict.changed-during-merge"
        pure (ForInStep.yield PUnit.unit)
theorem go_epoch {ad : Addr} {q : Option Value} {c : Value} {d : Option Addr} {es : Array DictEntry} {ep : Nat} {sl} (ho : s.heap.get? ad = some ⟨c, d, .dict es ep, sl⟩) : Go w 1 (dictEpoch ad q) s ep s := by
  unfold dictEpoch
  exact Go.mono (Go.bind (n := 1) (m := 0) (Go.load (n := 0) ho Go.pure) Go.pure) (by omega)
/-- the turns of a merge from place i on -/
theorem go_mturns (hX : X.length = ad) (ha : 11 ≤ ad) (fs0 : List DictEntry) (nn : Nat) (hY : (Y.length + ad + 1) = k) : ∀ (j i : Nat) (es : List DictEntry) (ep : Nat), i + j = fs0.length → es.length + j ≤ 999 → EntsOk (es ++ fs0.drop i) →
    Go w (6 * j) (forIn (List.range' i j) PUnit.unit (mTurn ad k nn)) (St (X ++ dO es ep :: (Y ++ [dO fs0 nn])) tk os) PUnit.unit (St (X ++ dO (es ++ fs0.drop i) (ep + j) :: (Y ++ [dO fs0 nn])) tk os)
  | 0, i, es, ep, hi, hl, hE => by
    rw [List.drop_eq_nil_of_le (by omega), List.append_nil]
    exact Go.forIn_nil
  | j + 1, i, es, ep, hi, hl, hE => by
    have hlt : i < fs0.length := by omega
    have hd : fs0.drop i = fs0[i] :: fs0.drop (i + 1) := List.drop_eq_getElem_cons hlt
    obtain ⟨kk, tt, vv, he⟩ := hE.2 fs0[i] (List.mem_append_right _ (by rw [hd]; exact .head _))
    have hE' : EntsOk ((es ++ [fs0[i]]) ++ fs0.drop (i + 1)) := by rw [List.append_assoc]; rw [hd] at hE; exact hE
    have ih := go_mturns hX ha fs0 nn hY j (i + 1) (es ++ [fs0[i]]) (ep + 1) (by omega) (by simp; omega) hE'
    rw [show es ++ [fs0[i]] ++ fs0.drop (i + 1) = es ++ fs0.drop i by rw [hd, List.append_assoc]; rfl, show ep + 1 + j = ep + (j + 1) by omega] at ih
    rw [List.range'_succ]
    refine Go.mono (Go.forIn_cons (n := 6) ?_ ih) (by omega)
    have g : ∀ (es : List DictEntry) (ep : Nat), (St (X ++ dO es ep :: (Y ++ [dO fs0 nn])) tk os).heap.get? k = some (dO fs0 nn) := fun es ep => by
      have := heap_get (X := X ++ dO es ep :: Y) (Y := []) (o := dO fs0 nn) (life := {}) (a := k) (by simp; omega) rfl
      rw [List.append_assoc, List.cons_append] at this
      exact this
    dsimp only [mTurn]
    refine Go.bind (n := 1) (m := 5) (go_entries (g es ep)) ?_
    have ei : (fs0.toArray)[i]? = some fs0[i] := by simp [hlt]
    rw [ei]
    dsimp only
    refine Go.bind (n := 4) (m := 1) (a := ()) (s₁ := St (X ++ dO (es ++ [fs0[i]]) (ep + 1) :: (Y ++ [dO fs0 nn])) tk os) (Go.holding ?_) ?_
    · rw [if_neg Bool.false_ne_true, he]
      have hf : Free kk es := by
        have hE1 : EntsOk es := ⟨(List.nodup_append.mp (by rw [← List.map_append]; exact hE.1)).1, fun e h => hE.2 e (List.mem_append_left _ h)⟩
        refine free_of hE1 fun hm => ?_
        have nd := hE.1
        rw [List.map_append] at nd
        refine (List.nodup_append.mp nd).2.2 _ hm (kk : Int) ?_ rfl
        rw [hd, List.map_cons, he]
        exact .head _
      exact go_put hX ha (by omega) hf
    · refine Go.bind (n := 1) (m := 0) (go_epoch (g _ _)) ?_
      rw [if_neg (by simp)]
      exact Go.pure
theorem go_merge (hX : X.length = ad) (ha : 11 ≤ ad) (hY : Y.length + ad + 1 = k) (hl : es.length + fs.length ≤ 999) (hE : EntsOk (es ++ fs)) (hne : es ≠ []) :
    Go w (6 + 6 * fs.length) (mergeMapping ad (.ref k) false) (St (X ++ dO es ep :: (Y ++ [dO fs m])) tk os) () (St (X ++ dO (es ++ fs) (ep + fs.length) :: (Y ++ [dO fs m])) tk os) := by
  have g : ∀ (es : List DictEntry) (ep : Nat), (St (X ++ dO es ep :: (Y ++ [dO fs m])) tk os).heap.get? k = some (dO fs m) := fun es ep => by
      have := heap_get (X := X ++ dO es ep :: Y) (Y := []) (o := dO fs m) (life := {}) (a := k) (by simp; omega) rfl
      rw [List.append_assoc, List.cons_append] at this
      exact this
  have gd : (St (X ++ dO es ep :: (Y ++ [dO fs m])) tk os).heap.get? ad = some (dO es ep) := heap_get hX rfl
  unfold mergeMapping
  refine Go.mono (Go.bind (n := 1) (m := 5 + 6 * fs.length) (a := true) (s₁ := St (X ++ dO es ep :: (Y ++ [dO fs m])) tk os) ?_ ?_) (by omega)
  · unfold PySem.isInstance
    exact Go.mono (Go.bind (n := 1) (m := 0) (go_typeOf (g es ep)) (by rw [sub_dict]; exact Go.pure)) (by omega)
  · rw [if_pos rfl]
    refine Go.mono (Go.bind (n := 1) (m := 4 + 6 * fs.length) (a := some (.builtin "dict.__iter__")) (s₁ := St (X ++ dO es ep :: (Y ++ [dO fs m])) tk os) ?_ ?_) (by omega)
    · unfold specialOf
      exact Go.mono (Go.bind (n := 1) (m := 0) (go_typeOf (g es ep)) (by rw [show (dO fs m).cls = .type "dict" from rfl, look_iter]; exact Go.pure)) (by omega)
    refine Go.mono (Go.bind (n := 0) (m := 4 + 6 * fs.length) (a := true) (s₁ := St (X ++ dO es ep :: (Y ++ [dO fs m])) tk os) ?_ ?_) (by omega)
    · rw [show ((some (Value.builtin "dict.__iter__") == some (Value.builtin "dict.__iter__")) : Bool) = true from by simp]
      exact Go.pure
    dsimp only
    rw [if_neg (show ¬ ((k == sysModules) = true) by rw [beq_iff_eq]; intro q; have : k = 1 := q; omega)]
    refine Go.mono (Go.bind (n := 1) (m := 3 + 6 * fs.length) (go_entries gd) ?_) (by omega)
    rw [if_neg (by cases es with | nil => exact absurd rfl hne | cons _ _ => simp)]
    refine Go.mono (Go.bind (n := 1) (m := 2 + 6 * fs.length) (go_entries (g es ep)) ?_) (by omega)
    refine Go.mono (Go.bind (n := 1) (m := 1 + 6 * fs.length) (go_epoch (g es ep)) ?_) (by omega)
    have t := go_mturns (w := w) (tk := tk) (os := os) hX ha fs m hY fs.length 0 es ep (by omega) (by omega) (by simpa using hE)
    rw [List.drop_zero] at t
    have e : List.range fs.toArray.size = List.range' 0 fs.length := by rw [List.size_toArray, List.range_eq_range']
    rw [e]
    exact Go.mono (Go.bind (m := 0) t Go.pure) (by omega)
end
end Mine
-- text HG
namespace Mine
theorem fresh_HG : True := by w_top off; trivial
noncomputable def valsAt (t : Nat) : List (Nat × List Nat) → List (Value × Value)
  | [] => []
  | (k, v) :: r => (.int (k : Int) t, .str ⟨⟨v⟩⟩ (t + 1)) :: valsAt (t + 2) r
noncomputable def flushD (run : List (Sem Value × Sem Value)) (main : Option Addr) : Sem (Option Addr) :=
  if run.isEmpty = true then pure main
  else
    match main with
    | none => do
      let __do_lift ← subDict run
      pure (some __do_lift)
    | some d => do
      let sub ← holding [Value.ref d] (subDict run)
      (holding [Value.ref d, Value.ref sub] (mergeMapping d (Value.ref sub) false)).onRaise fun x => do
          let _ ← holding [Value.ref d, x] (runValue (Code.builtin "proto.let_go" { }))
          pure ()
      pure (some d)
noncomputable def it (q : Pos) (x : Nat × List Nat) : Option (Sem Value) × Sem Value := (some (pr q x).1, (pr q x).2)
noncomputable abbrev LoopF := Option (Sem Value) × Sem Value → Option Addr × List (Sem Value × Sem Value) → Sem (ForInStep (Option Addr × List (Sem Value × Sem Value)))
noncomputable def IsF (F : LoopF) : Prop := ∀ k v st, F (some k, v) st = (if ((st.2 ++ [(k, v)]).length == 17) = true then do let main ← flushD (st.2 ++ [(k, v)]) st.1; pure (.yield (main, [])) else pure (.yield (st.1, st.2 ++ [(k, v)])))
theorem entsAt_append (t : Nat) : ∀ a b : List (Nat × List Nat), entsAt t (a ++ b) = entsAt t a ++ entsAt (t + 3 * a.length) b
  | [], b => rfl
  | (k, v) :: r, b => by
    have := entsAt_append (t + 3) r b
    show _ :: entsAt (t + 3) (r ++ b) = _
    rw [this, show t + 3 + 3 * r.length = t + 3 * ((k, v) :: r).length by rw [List.length_cons]; omega]
    rfl
section
variable {α β : Type} {w : World} {n m : Nat} {s s' s₁ : Shared} {a : α} {b : β} {X Y L : List Obj} {es fs : List DictEntry} {ep tk k ad : Nat} {t : Tok} {v : Value} {os : OsState} {F : LoopF} {mn mn' : Option Addr} {r : Option Addr × List (Sem Value × Sem Value)} {q : Pos} {rest : List (Option (Sem Value) × Sem Value)}
theorem go_evalPairs (q : Pos) : ∀ (l : List (Nat × List Nat)) (tk : Nat), Go w (3 * l.length) (evalPairs (l.map (pr q))) (St L tk os) (valsAt tk l) (St L (tk + 2 * l.length) os)
  | [], tk => Go.pure
  | (k, v) :: r, tk => by
    rw [List.map_cons]
    unfold evalPairs
    have ih := go_evalPairs q r (tk + 2)
    rw [show tk + 2 + 2 * r.length = tk + 2 * ((k, v) :: r).length by rw [List.length_cons]; omega] at ih
    refine Go.mono (Go.bind (n := 1) (m := 2 + 3 * r.length) (a := .int (k : Int) tk) (s₁ := St L (tk + 1) os) (Go.fresh (n := 0) Go.pure) ?_) (by rw [List.length_cons]; omega)
    refine Go.bind (n := 2) (m := 3 * r.length) (a := .str ⟨⟨v⟩⟩ (tk + 1)) (s₁ := St L (tk + 2) os) ?_ ?_
    · refine Go.holding ?_
      exact Go.bind (n := 1) (m := 1) (a := .str ⟨⟨v⟩⟩ (tk + 1)) (s₁ := St L (tk + 2) os) (Go.fresh (n := 0) Go.pure) (Go.bind (n := 1) (m := 0) (Go.at (n := 0) Go.pure) Go.pure)
    · exact Go.mono (Go.bind (m := 0) (Go.holding ih) Go.pure) (by omega)
theorem go_sets : ∀ (l : List (Nat × List Nat)) (es : List DictEntry) (ep tk tv : Nat), X.length = ad → 11 ≤ ad → es.length + l.length ≤ 1000 → Keys l → (∀ x ∈ l, Free x.1 es) →
    Go w (10 * l.length) (forIn (valsAt tv l) PUnit.unit fun x (__s : PUnit) => match x with
      | (k, v) => do
        dictSet ad k v
        pure (ForInStep.yield PUnit.unit)) (St (X ++ dO es ep :: Y) tk os) PUnit.unit (St (X ++ dO (es ++ entsLast tv l) (ep + l.length) :: Y) (tk + l.length) os)
  | [], es, ep, tk, tv, hX, ha, hl, hK, hF => by
    simp only [valsAt, entsLast, List.append_nil, List.length_nil, Nat.mul_zero, Nat.add_zero]
    exact Go.forIn_nil
  | (k, v) :: r, es, ep, tk, tv, hX, ha, hl, hK, hF => by
    simp only [List.length_cons] at hl
    have hK' : Keys r := ⟨(List.nodup_cons.mp hK.1).2, fun x hx => hK.2 x (.tail _ hx)⟩
    have hne : ∀ x ∈ r, k ≠ x.1 := fun x hx e => (List.nodup_cons.mp hK.1).1 (List.mem_map.mpr ⟨x, hx, e.symm⟩)
    have ih := go_sets r (es ++ [en k tv (.str ⟨⟨v⟩⟩ (tv + 1))]) (ep + 1) (tk + 1) (tv + 2) hX ha (by simp only [List.length_append, List.length_cons, List.length_nil]; omega) hK' (fun x hx => (hF x (.tail _ hx)).snoc (hne x hx))
    have e1 : es ++ [en k tv (.str ⟨⟨v⟩⟩ (tv + 1))] ++ entsLast (tv + 2) r = es ++ entsLast tv ((k, v) :: r) := by rw [List.append_assoc]; rfl
    rw [e1, show ep + 1 + r.length = ep + ((k, v) :: r).length by rw [List.length_cons]; omega, show tk + 1 + r.length = tk + ((k, v) :: r).length by rw [List.length_cons]; omega] at ih
    show Go w _ (forIn ((.int (k : Int) tv, .str ⟨⟨v⟩⟩ (tv + 1)) :: valsAt (tv + 2) r) _ _) _ _ _
    refine Go.mono (Go.forIn_cons (n := 10) ?_ ih) (by rw [List.length_cons]; omega)
    exact Go.bind (n := 10) (m := 0) (go_set hX ha (by omega) (hK.2 _ (.head _)) (hF _ (.head _))) Go.pure
theorem push_dict (L : List Obj) : (⟨⟨L⟩, {}⟩ : Heap).push { cls := .type "dict", data := .dict #[] } = ⟨⟨L ++ [dO [] 0]⟩, {}⟩ := by
  unfold Heap.push
  simp
theorem go_subShort (q : Pos) (l : List (Nat × List Nat)) (L : List Obj) (hL : 11 ≤ L.length) (hl : l.length ≤ 15) (hK : Keys l) :
    Go w (1 + 13 * l.length) (subDict (l.map (pr q))) (St L tk os) L.length (St (L ++ [dO (entsLast tk l) l.length]) (tk + 3 * l.length) os) := by
  unfold subDict
  refine Go.mono (Go.bind (n := 1) (m := 13 * l.length) (a := L.length) (s₁ := St (L ++ [dO [] 0]) tk os) ?_ ?_) (by omega)
  · have := Go.alloc (w := w) (s := St L tk os) (n := 0) (o := { cls := .type "dict", data := .dict #[] }) (k := Sem.pure) Go.pure
    rw [show (St L tk os).heap.push { cls := .type "dict", data := .dict #[] } = ⟨⟨L ++ [dO [] 0]⟩, {}⟩ from push_dict L] at this
    exact this
  · refine Go.mono (Go.bind (n := 13 * l.length) (m := 0) (a := ()) ?_ Go.pure) (by omega)
    refine Go.holding ?_
    rw [if_pos (by rw [List.length_map]; omega)]
    refine Go.mono (Go.bind (n := 3 * l.length) (m := 10 * l.length) (go_evalPairs (L := L ++ [dO [] 0]) q l tk) ?_) (by omega)
    refine Go.holding ?_
    have t := go_sets (w := w) (X := L) (Y := []) (ad := L.length) (os := os) l [] 0 (tk + 2 * l.length) tk rfl hL (by simp; omega) hK (fun x _ e he => nomatch he)
    rw [List.nil_append, Nat.zero_add, show tk + 2 * l.length + l.length = tk + 3 * l.length by omega] at t
    exact Go.mono (Go.bind (m := 0) t Go.pure) (by omega)
theorem go_tail (hF : IsF F) : ∀ (l : List (Nat × List Nat)) (run : List (Sem Value × Sem Value)), run.length + l.length < 17 → Go w 0 (forIn (l.map (it q)) (mn, run) F) s (mn, run ++ l.map (pr q)) s
  | [], run, h => by rw [List.map_nil, List.map_nil, List.append_nil]; exact Go.forIn_nil
  | x :: l, run, h => by
    rw [List.map_cons, List.map_cons]
    simp only [List.length_cons] at h
    have ih := go_tail hF l (run ++ [pr q x]) (by simp; omega)
    rw [List.append_assoc] at ih
    refine Go.mono (Go.forIn_cons (n := 0) (b' := (mn, run ++ [pr q x])) (s₁ := s) ?_ ih) (by omega)
    unfold it
    rw [hF, if_neg (by simp; omega)]
    exact Go.pure
theorem go_chunk (hF : IsF F) : ∀ (l : List (Nat × List Nat)) (run : List (Sem Value × Sem Value)), l ≠ [] → run.length + l.length = 17 → Go w n (flushD (run ++ l.map (pr q)) mn) s mn' s₁ →
    Go w m (forIn rest (mn', []) F) s₁ r s' → Go w (n + m) (forIn (l.map (it q) ++ rest) (mn, run) F) s r s'
  | [], run, h, _, _, _ => absurd rfl h
  | [x], run, _, hl, hf, hr => by
    simp only [List.map_cons, List.map_nil, List.cons_append, List.nil_append, List.length_cons, List.length_nil] at hl hf ⊢
    refine Go.forIn_cons (n := n) ?_ hr
    unfold it
    rw [hF, if_pos (by simp; omega)]
    exact Go.mono (Go.bind (m := 0) hf Go.pure) (by omega)
  | x :: y :: l, run, _, hl, hf, hr => by
    simp only [List.length_cons] at hl
    have ih := go_chunk hF (y :: l) (run ++ [pr q x]) (by simp) (by simp; omega) (by rw [List.append_assoc]; exact hf) hr
    rw [List.map_cons, List.cons_append]
    refine Go.mono (Go.forIn_cons (n := 0) (b' := (mn, run ++ [pr q x])) (s₁ := s) ?_ ih) (by omega)
    unfold it
    rw [hF, if_neg (by simp; omega)]
    exact Go.pure
theorem go_flush (q : Pos) (l : List (Nat × List Nat)) (hX : X.length = ad) (ha : 11 ≤ ad) (hl : l.length = 17) (hes : es.length ≤ 900) (hK : Keys l) (hE : EntsOk (es ++ entsAt tk l)) (hne : es ≠ []) :
    Go w 331 (flushD (l.map (pr q)) (some ad)) (St (X ++ dO es ep :: Y) tk os) (some ad) (St (X ++ dO (es ++ entsAt tk l) (ep + 17) :: (Y ++ [dO (entsAt tk l) 17])) (tk + 51) os) := by
  unfold flushD
  have hle := (entsAt_ok l tk hK).2.2
  rw [if_neg (by rw [List.isEmpty_iff]; intro e; have := congrArg List.length e; simp at this; rw [this] at hl; simp at hl)]
  dsimp only
  have g := go_subLong (w := w) (tk := tk) (os := os) q l (X ++ dO es ep :: Y) (by simp; omega) (by omega) (by omega) hK
  rw [List.append_assoc, List.cons_append, hl] at g
  have h := go_merge (w := w) (X := X) (Y := Y) (ad := ad) (es := es) (fs := entsAt tk l) (ep := ep) (m := 17) (k := (X ++ dO es ep :: Y).length) (tk := tk + 51) (os := os) hX ha (by simp; omega) (by omega) hE hne
  rw [hle, hl] at h
  exact Go.mono (Go.bind (Go.holding g) (Go.bind (Go.onRaise (Go.holding h)) Go.pure)) (by omega)
/-- the dicts of seventeen, one a chunk -/
noncomputable def subsOf : Nat → Nat → List (Nat × List Nat) → List Obj
  | 0, _, _ => []
  | c + 1, tk, l => dO (entsAt tk (l.take 17)) 17 :: subsOf c (tk + 51) (l.drop 17)
theorem Keys.left {a b : List (Nat × List Nat)} (h : Keys (a ++ b)) : Keys a := ⟨(List.nodup_append.mp (by rw [← List.map_append]; exact h.1)).1, fun x hx => h.2 x (List.mem_append_left _ hx)⟩
theorem Keys.right {a b : List (Nat × List Nat)} (h : Keys (a ++ b)) : Keys b := ⟨(List.nodup_append.mp (by rw [← List.map_append]; exact h.1)).2.1, fun x hx => h.2 x (List.mem_append_right _ hx)⟩
theorem EntsOk.left {a b : List DictEntry} (h : EntsOk (a ++ b)) : EntsOk a := ⟨(List.nodup_append.mp (by rw [← List.map_append]; exact h.1)).1, fun x hx => h.2 x (List.mem_append_left _ hx)⟩
theorem go_loop (hF : IsF F) (q : Pos) (hX : X.length = ad) (ha : 11 ≤ ad) : ∀ (c : Nat) (l : List (Nat × List Nat)) (es : List DictEntry) (ep tk : Nat) (Y : List Obj), 17 * c ≤ l.length → l.length < 17 * c + 17 → es.length + l.length ≤ 900 → Keys l → EntsOk (es ++ entsAt tk l) → es ≠ [] →
    Go w (331 * c) (forIn (l.map (it q)) (some ad, []) F) (St (X ++ dO es ep :: Y) tk os) (some ad, (l.drop (17 * c)).map (pr q)) (St (X ++ dO (es ++ entsAt tk (l.take (17 * c))) (ep + 17 * c) :: (Y ++ subsOf c tk l)) (tk + 51 * c) os)
  | 0, l, es, ep, tk, Y, h1, h2, h3, hK, hE, hne => by
    have := go_tail (w := w) (s := St (X ++ dO es ep :: Y) tk os) (mn := some ad) (q := q) hF l [] (by simp; omega)
    simp only [Nat.mul_zero, List.drop_zero, List.take_zero, entsAt, List.append_nil, Nat.add_zero, subsOf]
    rw [List.nil_append] at this
    exact this
  | c + 1, l, es, ep, tk, Y, h1, h2, h3, hK, hE, hne => by
    have hs : l = l.take 17 ++ l.drop 17 := (List.take_append_drop 17 l).symm
    have ht : (l.take 17).length = 17 := by rw [List.length_take]; omega
    have hE2 : EntsOk (es ++ entsAt tk (l.take 17) ++ entsAt (tk + 51) (l.drop 17)) := by
      rw [hs, entsAt_append, ht, ← List.append_assoc] at hE; exact hE
    have hK2 := hK
    rw [hs] at hK2
    have ih := go_loop hF q hX ha c (l.drop 17) (es ++ entsAt tk (l.take 17)) (ep + 17) (tk + 51) (Y ++ [dO (entsAt tk (l.take 17)) 17]) (by rw [List.length_drop]; omega) (by rw [List.length_drop]; omega)
      (by rw [List.length_append, (entsAt_ok _ tk hK2.left).2.2, ht, List.length_drop]; omega) hK2.right hE2 (by intro e; exact hne (List.append_eq_nil_iff.mp e).1)
    have f := go_flush (w := w) (Y := Y) (ep := ep) (os := os) q (l.take 17) hX ha ht (by omega) hK2.left hE2.left hne
    have g := go_chunk (q := q) hF (l.take 17) [] (by intro e; rw [e] at ht; simp at ht) (by simp; omega) (by rw [List.nil_append]; exact f) ih
    rw [← List.map_append, ← hs] at g
    have e1 : (l.drop 17).drop (17 * c) = l.drop (17 * (c + 1)) := by rw [List.drop_drop]; congr 1; omega
    have e2 : es ++ entsAt tk (l.take 17) ++ entsAt (tk + 51) ((l.drop 17).take (17 * c)) = es ++ entsAt tk (l.take (17 * (c + 1))) := by
      rw [List.append_assoc]
      congr 1
      have : l.take (17 * (c + 1)) = l.take 17 ++ (l.drop 17).take (17 * c) := by rw [show 17 * (c + 1) = 17 + 17 * c by omega, List.take_add]
      rw [this, entsAt_append, ht]
    have e3 : Y ++ [dO (entsAt tk (l.take 17)) 17] ++ subsOf c (tk + 51) (l.drop 17) = Y ++ subsOf (c + 1) tk l := by rw [List.append_assoc]; rfl
    rw [e1, e2, e3, show ep + 17 + 17 * c = ep + 17 * (c + 1) by omega, show tk + 51 + 51 * c = tk + 51 * (c + 1) by omega] at g
    exact Go.mono g (by omega)
end
end Mine
-- text HH
namespace Mine
theorem fresh_HH : True := by w_top off; trivial
/-- the keys rise -/
noncomputable def rising : Nat → List (Nat × List Nat) → Bool
  | _, [] => true
  | b, (k, _) :: r => Nat.ble b k && Nat.blt k 200000 && rising (k + 1) r
theorem rising_spec : ∀ (b : Nat) (l : List (Nat × List Nat)), rising b l = true → (l.map (·.1)).Nodup ∧ ∀ x ∈ l, b ≤ x.1 ∧ x.1 < 200000
  | b, [], _ => ⟨List.nodup_nil, fun _ h => nomatch h⟩
  | b, (k, v) :: r, h => by
    unfold rising at h
    simp only [Bool.and_eq_true] at h
    obtain ⟨⟨h1, h2⟩, h3⟩ := h
    have h1 := Nat.le_of_ble_eq_true h1
    have h2 : k < 200000 := Nat.le_of_ble_eq_true h2
    obtain ⟨n, p⟩ := rising_spec (k + 1) r h3
    refine ⟨List.nodup_cons.mpr ⟨fun hm => ?_, n⟩, fun x hx => ?_⟩
    · obtain ⟨x, hx, e⟩ := List.mem_map.mp hm
      have h4 := (p x hx).1
      have e : x.1 = k := e
      omega
    · rcases List.mem_cons.mp hx with rfl | hx
      · exact ⟨h1, h2⟩
      · have := p x hx; omega
theorem ents_keys : Keys ents := by
  have := rising_spec 0 ents (by kernel_rfl!)
  exact ⟨this.1, fun x hx => by have := (this.2 x hx).2; omega⟩
theorem ents_len : ents.length = 650 := by kernel_rfl!
theorem entsLast_ok : ∀ (l : List (Nat × List Nat)) (tk : Nat), (entsLast tk l).map (·.hash) = l.map (fun x => ((x.1 : Nat) : Int)) ∧ (entsLast tk l).length = l.length ∧ ∀ e ∈ entsLast tk l, ∃ (k : Nat) (t : Tok) (v : Value), e = en k t v
  | [], tk => ⟨rfl, rfl, fun _ h => nomatch h⟩
  | (k, v) :: r, tk => by
    obtain ⟨a, b, c⟩ := entsLast_ok r (tk + 2)
    refine ⟨?_, ?_, ?_⟩
    · show _ :: (entsLast (tk + 2) r).map (·.hash) = _
      rw [a]; rfl
    · show (entsLast (tk + 2) r).length + 1 = _
      rw [b]; rfl
    · intro z hz
      rcases List.mem_cons.mp hz with rfl | hz
      · exact ⟨k, tk, _, rfl⟩
      · exact c z hz
theorem ok_of {fs : List DictEntry} {l : List (Nat × List Nat)} (h : fs.map (·.hash) = l.map (fun x => ((x.1 : Nat) : Int))) (hk : Keys l) (he : ∀ e ∈ fs, ∃ (k : Nat) (t : Tok) (v : Value), e = en k t v) : EntsOk fs := by
  refine ⟨?_, he⟩
  rw [h]
  have := hk.1
  rw [show (fun x : Nat × List Nat => ((x.1 : Nat) : Int)) = (fun n : Nat => (n : Int)) ∘ (·.1) from rfl, ← List.map_map]
  exact List.pairwise_map.mpr (List.Pairwise.imp (fun {a b} h e => h (by have e : (a : Int) = b := e; omega)) this)
section
variable {w : World} {L : List Obj} {os : OsState} {q : Pos}
noncomputable def dispL (A : List Obj) : List Obj := A ++ dO b3L 650 :: (subsOf 37 330 (ents.drop 17) ++ [dO (entsLast 2217 (ents.drop 646)) 4])
theorem go_display (A : List Obj) (hA : A.length = 47) : Go w 13000 (dictDisplay (ents.map (it q))) (St A 279 os) (.ref 47) (St (dispL A) 2229 os) := by
  unfold dictDisplay
  have hK := ents_keys
  have hl := ents_len
  have hs : ents = ents.take 17 ++ ents.drop 17 := (List.take_append_drop 17 ents).symm
  have hs2 : ents = ents.take 646 ++ ents.drop 646 := (List.take_append_drop 646 ents).symm
  have ht : (ents.take 17).length = 17 := by rw [List.length_take]; omega
  have hKl : Keys (ents.take 17) := (hs ▸ hK : Keys (ents.take 17 ++ ents.drop 17)).left
  have hKr : Keys (ents.drop 17) := (hs ▸ hK : Keys (ents.take 17 ++ ents.drop 17)).right
  have hKz : Keys (ents.drop 646) := (hs2 ▸ hK : Keys (ents.take 646 ++ ents.drop 646)).right
  have hE : EntsOk (entsAt 279 (ents.take 17) ++ entsAt 330 (ents.drop 17)) := by
    have := entsAt_append 279 (ents.take 17) (ents.drop 17)
    rw [← hs, ht] at this
    rw [← this]
    exact (entsAt_ok ents 279 hK).1
  have f1 : Go w 224 (flushD ([] ++ (ents.take 17).map (pr q)) none) (St A 279 os) (some 47) (St (A ++ dO (entsAt 279 (ents.take 17)) 17 :: []) 330 os) := by
    unfold flushD
    rw [List.nil_append, if_neg (by rw [List.isEmpty_iff]; intro e; have := congrArg List.length e; rw [List.length_map, ht] at this; simp at this)]
    dsimp only
    have g := go_subLong (w := w) (tk := 279) (os := os) q (ents.take 17) A (by omega) (by omega) (by omega) hKl
    rw [ht, hA] at g
    exact Go.mono (Go.bind (m := 0) g Go.pure) (by omega)
  have two : ∀ F : LoopF, IsF F → Go w (224 + 331 * 37) (forIn (ents.map (it q)) (none, []) F) (St A 279 os) (some 47, (ents.drop 646).map (pr q)) (St (A ++ dO (entsAt 279 (ents.take 646)) 646 :: subsOf 37 330 (ents.drop 17)) 2217 os) := by
    intro F hF
    have lp := go_loop (w := w) (os := os) hF q (X := A) hA (by omega) 37 (ents.drop 17) (entsAt 279 (ents.take 17)) 17 330 [] (by rw [List.length_drop]; omega) (by rw [List.length_drop]; omega)
      (by rw [(entsAt_ok _ 279 hKl).2.2, ht, List.length_drop]; omega) hKr hE (by intro e; have := (entsAt_ok _ 279 hKl).2.2; rw [e, ht] at this; simp at this)
    have e1 : (ents.drop 17).drop (17 * 37) = ents.drop 646 := by rw [List.drop_drop]
    have e2 : entsAt 279 (ents.take 17) ++ entsAt 330 ((ents.drop 17).take (17 * 37)) = entsAt 279 (ents.take 646) := by
      have : ents.take 646 = ents.take 17 ++ (ents.drop 17).take (17 * 37) := by rw [show 646 = 17 + 17 * 37 by omega, List.take_add]
      rw [this, entsAt_append, ht]
    rw [e1, e2, List.nil_append] at lp
    have g := go_chunk (q := q) hF (ents.take 17) [] (by intro e; rw [e] at ht; simp at ht) (by simp; omega) f1 lp
    rw [← List.map_append, ← hs] at g
    exact g
  refine Go.mono (Go.bind (n := 224 + 331 * 37) (m := 100) (two _ (fun k v st => rfl)) ?_) (by omega)
  dsimp only
  have hz : (ents.drop 646).length = 4 := by rw [List.length_drop]; omega
  refine Go.mono (Go.bind (n := 100) (m := 0) (a := some 47) (s₁ := St (dispL A) 2229 os) ?_ Go.pure) (by omega)
  show Go w 100 (flushD ((ents.drop 646).map (pr q)) (some 47)) _ _ _
  unfold flushD
  rw [if_neg (by rw [List.isEmpty_iff]; intro e; have := congrArg List.length e; rw [List.length_map, hz] at this; simp at this)]
  dsimp only
  have g := go_subShort (w := w) (tk := 2217) (os := os) q (ents.drop 646) (A ++ dO (entsAt 279 (ents.take 646)) 646 :: subsOf 37 330 (ents.drop 17)) (by simp; omega) (by omega) hKz
  rw [List.append_assoc, List.cons_append, hz] at g
  have hE3 : EntsOk (entsAt 279 (ents.take 646) ++ entsLast 2217 (ents.drop 646)) := by
    have hKy : Keys (ents.take 646) := (hs2 ▸ hK : Keys (ents.take 646 ++ ents.drop 646)).left
    obtain ⟨⟨_, x1⟩, x2, x3⟩ := entsAt_ok (ents.take 646) 279 hKy
    obtain ⟨y1, y2, y3⟩ := entsLast_ok (ents.drop 646) 2217
    refine ok_of (l := ents) ?_ hK fun e he => (List.mem_append.mp he).elim (x1 e) (y3 e)
    rw [List.map_append, x2, y1, ← List.map_append, ← hs2]
  have h := go_merge (w := w) (X := A) (Y := subsOf 37 330 (ents.drop 17)) (ad := 47) (es := entsAt 279 (ents.take 646)) (fs := entsLast 2217 (ents.drop 646)) (ep := 646) (m := 4)
    (k := (A ++ dO (entsAt 279 (ents.take 646)) 646 :: subsOf 37 330 (ents.drop 17)).length) (tk := 2229) (os := os) hA (by omega) (by simp; omega)
    (by rw [(entsLast_ok _ _).2.1, hz]; have : (entsAt 279 (ents.take 646)).length = (ents.take 646).length := (entsAt_ok _ 279 (hs2 ▸ hK : Keys (ents.take 646 ++ ents.drop 646)).left).2.2
        rw [this, List.length_take]; omega) hE3
    (by intro e; have : (entsAt 279 (ents.take 646)).length = (ents.take 646).length := (entsAt_ok _ 279 (hs2 ▸ hK : Keys (ents.take 646 ++ ents.drop 646)).left).2.2
        rw [e, List.length_take] at this; simp at this; omega)
  rw [(entsLast_ok _ _).2.1, hz] at h
  exact Go.mono (Go.bind (Go.holding g) (Go.bind (Go.onRaise (Go.holding h)) Go.pure)) (by omega)
end
end Mine
-- text HI
namespace Mine
theorem fresh_HI : True := by w_top off; trivial
theorem te_exec7 : @eval = @PySem.W.Fast.tw14044960220447912780 := PySem.W.Fast.te14044960220447912780
noncomputable section
noncomputable def tg7 : List Expr := match stAt 7 with | .Assign ts _ _ => ts | _ => []
noncomputable def vl7 : Expr := match stAt 7 with | .Assign _ v _ => v | _ => .Tuple [] 0 q0
noncomputable def ps7 : Pos := match stAt 7 with | .Assign _ _ p => p | _ => q0
noncomputable def pD : Pos := match vl7 with | .Dict _ _ p => p | _ => q0
theorem st7 : stAt 7 = .Assign tg7 vl7 ps7 := by kernel_rfl!
theorem vl7_eval : eval vl7 env = (do standAt pD; dictDisplay (ents.map (it pD))) := by kernel_rfl!
theorem sole7 : swapsWithSole tg7 vl7 ps7.line env = Sem.pure false := by kernel_rfl!
theorem swap7 : swappedStores tg7 vl7 env = Sem.pure none := by kernel_rfl!
theorem store_run (w : World) (os : OsState) (K : Flow → Sem PySem.Fin) (H : Value → Sem PySem.Fin) (gd : Bool → Bool) (lv : List Value → List Value) (p : Pos) :
    segGo treeTable P' w 11 (some (.ref 6)) 1 7 (St (dispL (aObjs w.params)) 2229 os) ⟨(assignStores env (.ref 47) none ((assignEach tg7 env).map (·.2))).wrap K H gd lv, cB, p, [topFrame q0]⟩ = some (SB w os, ⟨K .next, cB, ⟨29, 0, 29, 13⟩, [topFrame q0]⟩) := by
  rw [te_segGo, te_tab]
  kernel_rfl!
theorem go_b3 (w : World) (os : OsState) : Go w 13010 (exec (stAt 7) env) (SA w os) Flow.next (SB w os) := by
  rw [st7, arm_exec_Assign, sole7, vl7_eval, swap7]
  refine Go.mono (Go.bind (n := 1) (m := 13008) (a := ()) (s₁ := SA w os) (Go.at (n := 0) Go.pure) ?_) (by omega)
  refine Go.mono (Go.bind (n := 0) (m := 13008) (a := false) (s₁ := SA w os) Go.pure ?_) (by omega)
  rw [if_neg Bool.false_ne_true]
  refine Go.mono (Go.bind (n := 13001) (m := 7) (a := .ref 47) (s₁ := St (dispL (aObjs w.params)) 2229 os) ?_ ?_) (by omega)
  · exact Go.mono (Go.bind (n := 1) (m := 13000) (a := ()) (s₁ := SA w os) (Go.at (n := 0) Go.pure) (go_display (aObjs w.params) rfl)) (by omega)
  · refine Go.mono (Go.bind (n := 0) (m := 7) (a := none) (s₁ := St (dispL (aObjs w.params)) 2229 os) Go.pure ?_) (by omega)
    intro K H gd lv p
    exact ⟨7, _, Nat.le_refl _, store_run w os K H gd lv p⟩
/-- statement 7, as the library's chain wants it -/
theorem run_b3 (w : World) (os : OsState) (p : Pos) : ∃ m p', m ≤ 13010 ∧ segRun treeTable P' w 11 (some (.ref 6)) 1 (m + 1) (SA w os) (pieceOf (stAt 7) env cB p [topFrame q0]) = some (.next, SB w os, cB, p') := by
  obtain ⟨m, p', hm, h⟩ := go_b3 w os doneF deadEnd id id p
  exact ⟨m, p', hm, seg_go h rfl⟩
end
end Mine
-- text HJ
namespace Mine
theorem fresh_HJ : True := by w_top off; trivial
theorem te_topGo : @topGo = @PySem.W.Fast.tw15667345088766844465 := PySem.W.Fast.te15667345088766844465
theorem te_topRun : @topRun = @PySem.W.Fast.tw14082659384304107361 := PySem.W.Fast.te14082659384304107361
theorem te_segRun : @segRun = @PySem.W.Fast.tw14374325043358763698 := PySem.W.Fast.te14374325043358763698
theorem te_denote : @denote = @PySem.W.Fast.tw11892475500146522536 := PySem.W.Fast.te11892475500146522536
theorem te_execs : @execs = @PySem.W.Fast.tw12563942051412417395 := PySem.W.Fast.te12563942051412417395
theorem te_openSeen : @openSeen = @PySem.W.Fast.tw4187177175401517315 := PySem.W.Fast.te4187177175401517315
theorem te_nsMap : @Heap.nsMap = @PySem.W.Fast.tw8920871248978507458 := PySem.W.Fast.te8920871248978507458
theorem run_pre (w : World) (os : OsState) : topGo treeTable P' w 11 (some (.ref 6)) 12 (S0 w os) (topStub P') = some (Spre w os, ⟨denote treeTable cB, cB, q0, [topFrame q0]⟩) := by
  rw [te_topGo, te_tab, te_denote]
  kernel_rfl!
theorem run_block (w : World) (os : OsState) : segRun treeTable P' w 11 (some (.ref 6)) 1 1 (Spre w os) (blockOf (behindTheImports P') env cB q0 [topFrame q0]) = some (.next, Spre w os, cB, q0) := by
  rw [te_segRun, te_tab]
  kernel_rfl!
noncomputable def RunA (w : World) : Prop := ∀ os, segRun treeTable P' w 11 (some (.ref 6)) 1 1118 (Spre w os) (piecesOf (body.take 7) env cB q0 [topFrame q0]) = some (.next, SA w os, cB, ⟨27, 0, 28, 30⟩)
theorem run_A_false_false (w : World) : RunA ((w.withFollow "special-get-raises" false).withFollow "set-order" false) := by
  intro os; unfold piecesOf; rw [te_segRun, te_tab, te_execs]; kernel_rfl
theorem run_A_false_true (w : World) : RunA ((w.withFollow "special-get-raises" true).withFollow "set-order" false) := by
  intro os; unfold piecesOf; rw [te_segRun, te_tab, te_execs]; kernel_rfl
theorem run_A_true_false (w : World) : RunA ((w.withFollow "special-get-raises" false).withFollow "set-order" true) := by
  intro os; unfold piecesOf; rw [te_segRun, te_tab, te_execs]; kernel_rfl
theorem run_A_true_true (w : World) : RunA ((w.withFollow "special-get-raises" true).withFollow "set-order" true) := by
  intro os; unfold piecesOf; rw [te_segRun, te_tab, te_execs]; kernel_rfl
theorem run_A (w : World) : RunA w := by
  refine byRow2 "set-order" (P := RunA) (fun w => ?_) (fun w => ?_) w
  · refine byRow2 "special-get-raises" (P := fun w => RunA (w.withFollow "set-order" false)) (fun w => ?_) (fun w => ?_) w
    · exact run_A_false_false w
    · exact run_A_false_true w
  · refine byRow2 "special-get-raises" (P := fun w => RunA (w.withFollow "set-order" true)) (fun w => ?_) (fun w => ?_) w
    · exact run_A_true_false w
    · exact run_A_true_true w
theorem run_C1 (w : World) (os : OsState) (p : Pos) : (topRun treeTable P' w 11 (some (.ref 6)) 2000 (SB w os) (restOf (body.drop 8) env cB p [topFrame q0])).map obs = some (obsV w) := by
  unfold restOf obs
  rw [te_topRun, te_tab, te_execs]
  kernel_rfl
theorem run_C2 (w : World) (os : OsState) (p : Pos) : (topRun treeTable P' w 11 (some (.ref 6)) 2000 (SB w os) (restOf (body.drop 8) env cB p [topFrame q0])).map (fun s => staticsOk (importedModules P'.main.body) (boot_heap w.params) s.heap && namesBound P' s.heap && gensDone s && laidKept (boot_heap w.params) s.heap) = some true := by
  unfold restOf
  rw [te_topRun, te_tab, te_execs]
  kernel_rfl
theorem run_C3 (w : World) (os : OsState) (p : Pos) : (topRun treeTable P' w 11 (some (.ref 6)) 2000 (SB w os) (restOf (body.drop 8) env cB p [topFrame q0])).map (openSeen q looseQ (importedModules P'.main.body) XtQ true) = some (openGood q looseQ) := by
  unfold restOf
  rw [te_topRun, te_tab, te_execs, te_openSeen]
  kernel_rfl
theorem boot_looks (w : World) : ((boot_heap w.params).isNs mainGlobals && (#[] : Array GenState).size == 0, (boot_heap w.params).objs.size, (boot_heap w.params).nsMap mainGlobals "__annotations__") = (true, 11, some (.ref 6)) := by
  rw [te_nsMap]
  kernel_rfl!
theorem map_some {α β : Type} {x : Option α} {f : α → β} {b : β} (h : x.map f = some b) : ∃ a, x = some a ∧ f a = b := Option.map_eq_some_iff.mp h
theorem run_top (w : World) (os : OsState) : ∃ s, topRun treeTable P' w 11 (some (.ref 6)) 17000 (S0 w os) (topStub P') = some s ∧ obs s = obsV w ∧
    (staticsOk (importedModules P'.main.body) (boot_heap w.params) s.heap && namesBound P' s.heap && gensDone s && laidKept (boot_heap w.params) s.heap) = true ∧ openSeen q looseQ (importedModules P'.main.body) XtQ true s = openGood q looseQ := by
  obtain ⟨m, p', hm, hb⟩ := run_b3 w os ⟨27, 0, 28, 30⟩
  obtain ⟨s, e1, o1⟩ := map_some (run_C1 w os p')
  obtain ⟨s2, e2, o2⟩ := map_some (run_C2 w os p')
  obtain ⟨s3, e3, o3⟩ := map_some (run_C3 w os p')
  rw [e1] at e2 e3
  cases e2
  cases e3
  refine ⟨s, ?_, o1, o2, o3⟩
  have k1 := piece_cons hb e1
  have k2 := piece_app (run_A w os) k1
  have eb : body.take 7 ++ stAt 7 :: body.drop 8 = behindTheImports P' := by kernel_rfl!
  rw [eb] at k2
  have k3 := piece_block (run_block w os) k2
  have k4 := go_top (run_pre w os) k3
  have k5 := topRun_mono (17000 - (12 + (1 + (1118 + (m + 1 + 2000))))) _ _ _ _ k4
  rw [show 12 + (1 + (1118 + (m + 1 + 2000))) + (17000 - (12 + (1 + (1118 + (m + 1 + 2000))))) = 17000 by omega] at k5
  exact k5
theorem left' : LeftO P' q looseQ XtQ obs obsV 17000 true := fun w => by
  have hb := boot_open (p := P') (N := 17000) (by kernel_rfl) (by decide) (fun s => by kernel_rfl) w
  obtain ⟨⟨h, gs, d, k, os⟩, e, e'⟩ := map_some hb
  obtain ⟨rfl, rfl, rfl, rfl⟩ : h = boot_heap w.params ∧ gs = #[] ∧ d = boot_drawn ∧ k = boot_toks := by simpa using e'
  obtain ⟨s, r, o1, o2, o3⟩ := run_top w os
  obtain ⟨z1, z2, z3⟩ : _ ∧ _ ∧ _ := by simpa only [Prod.mk.injEq] using boot_looks w
  have t : topFrom treeTable P' w 17000 ⟨boot_heap w.params, #[], boot_drawn, boot_toks, os⟩ = some s := by
    unfold topFrom
    dsimp only
    rw [z1, z2, z3]
    have r' : topRun treeTable P' w 11 (some (Value.ref 6)) 17000 ⟨boot_heap w.params, #[], boot_drawn, boot_toks, os⟩ (topStub P') = some s := r
    rw [r']
    show (match staticsOk (importedModules P'.main.body) (boot_heap w.params) s.heap && namesBound P' s.heap && gensDone s && laidKept (boot_heap w.params) s.heap with | true => _ | false => _) = _
    rw [o2]
  unfold openEnds
  rw [e]
  show ((topFrom treeTable P' w 17000 ⟨boot_heap w.params, #[], boot_drawn, boot_toks, os⟩).map _) = _
  rw [t]
  show some (openSeen q looseQ (importedModules P'.main.body) XtQ true s, obs s) = _
  rw [o3, o1]
theorem left : LeftO P q looseQ XtQ obs obsV 17000 true := by
  have := left'
  rw [← P_eq] at this
  exact this
end Mine
-- text C0
namespace Mine
theorem fresh_C0 : True := by w_top off; trivial
/-- statement i of a text, as a def's record -/
noncomputable def drOf (p : Program) (i : Nat) : DefRec := match (p.main.body[i]?).getD (.Pass default) with
  | .FunctionDef n a b _ _ _ sc _ _ pos => ⟨n, a, b, sc, pos⟩
  | _ => ⟨⟨#[]⟩, ⟨[], [], none, [], [], none, []⟩, [], ⟨.function, [], false, false, []⟩, ⟨0, 0, 0, 0⟩⟩
noncomputable def qOf (p : Program) : Program := view p keepQ
theorem q_eq : q = qOf P' := rfl
noncomputable def dr (i : Nat) : DefRec := drOf P i
noncomputable def qP : Program := qOf P
theorem dr_in {k i : Nat} (h : (recsOf (qOf P'))[k]? = some (drOf P' i)) : dr i ∈ recsOf qP := by
  have := List.mem_of_getElem? h
  unfold dr qP
  rw [P_eq]
  exact this
theorem dr2 : dr 2 ∈ recsOf qP := dr_in (k := 0) (by kernel_rfl!)
theorem dr3 : dr 3 ∈ recsOf qP := dr_in (k := 1) (by kernel_rfl!)
theorem dr6 : dr 6 ∈ recsOf qP := dr_in (k := 2) (by kernel_rfl!)
theorem dr8 : dr 8 ∈ recsOf qP := dr_in (k := 3) (by kernel_rfl!)
theorem dr13 : dr 13 ∈ recsOf qP := dr_in (k := 4) (by kernel_rfl!)
theorem dr14 : dr 14 ∈ recsOf qP := dr_in (k := 5) (by kernel_rfl!)
theorem dr16 : dr 16 ∈ recsOf qP := dr_in (k := 6) (by kernel_rfl!)
theorem dr17 : dr 17 ∈ recsOf qP := dr_in (k := 7) (by kernel_rfl!)
theorem dr18 : dr 18 ∈ recsOf qP := dr_in (k := 8) (by kernel_rfl!)
theorem dr19 : dr 19 ∈ recsOf qP := dr_in (k := 9) (by kernel_rfl!)
theorem dr20 : dr 20 ∈ recsOf qP := dr_in (k := 10) (by kernel_rfl!)
theorem dr21 : dr 21 ∈ recsOf qP := dr_in (k := 11) (by kernel_rfl!)
theorem dr22 : dr 22 ∈ recsOf qP := dr_in (k := 12) (by kernel_rfl!)
theorem dr23 : dr 23 ∈ recsOf qP := dr_in (k := 13) (by kernel_rfl!)
theorem dr24 : dr 24 ∈ recsOf qP := dr_in (k := 14) (by kernel_rfl!)
theorem dr25 : dr 25 ∈ recsOf qP := dr_in (k := 15) (by kernel_rfl!)
theorem dr26 : dr 26 ∈ recsOf qP := dr_in (k := 16) (by kernel_rfl!)
end Mine
-- text C1
namespace Mine
theorem fresh_C1 : True := by w_top off; trivial
noncomputable abbrev Keeps (h h' : Heap) : Prop := ∀ b o, h.get? b = some o → h'.get? b = some o
/-- name of def i -/
noncomputable abbrev nm (i : Nat) : Str := (dr i).name
noncomputable def fns : List Nat := [2, 3, 6, 8, 13, 14, 16, 17, 18, 19, 20, 21, 22, 23, 24, 25, 26]
/-- what holds of the heap in the call; ad: where the defs lie -/
structure GG (w : World) (mean : ExcName → Option Value) (mg mb : Str → Option Value) (ad : Nat → Addr) (h : Heap) : Prop where
  T : Top qP (looseW qP looseQ) mean mg mb h
  b1 : mg "b1_set" = some (.ref 36)
  b3 : mg "b3_exceptions" = some (.ref 47)
  o1 : h.get? 36 = some (b1Obj w.params)
  o3 : h.get? 47 = some b3Obj
  fn : ∀ i ∈ fns, mg (nm i) = some (.ref (ad i))
theorem GG.keeps {w mean mg mb ad} {h h' : Heap} (G : GG w mean mg mb ad h) (k : Keeps h h') : GG w mean mg mb ad h' := ⟨G.T.keeps k, G.b1, G.b3, k _ _ G.o1, k _ _ G.o3, G.fn⟩
/-- room for n more frames -/
noncomputable def Rm (n : Nat) (A : Around) : Prop := A.depth + n ≤ 400 ∧ A.units + 10 * n ≤ 2000 ∧ A.handled = none
theorem Rm.hd {n : Nat} {A : Around} (r : Rm n A) : A.handled = none := r.2.2
theorem Rm.deeper {n : Nat} {A : Around} {env : Env} (r : Rm (n + 1) A) : Rm n (A.deeper env) := by
  obtain ⟨a, b, c⟩ := r
  exact ⟨by show A.depth + 1 + n ≤ 400; omega, by show A.units + 3 + 10 * n ≤ 2000; omega, c⟩
theorem Rm.less {n m : Nat} {A : Around} (r : Rm n A) (h : m ≤ n) : Rm m A := ⟨by have := r.1; omega, by have := r.2.1; omega, r.2.2⟩
theorem Rm.lt {n : Nat} {A : Around} (r : Rm n A) : A.depth < recursionLimit := by have := r.1; show A.depth < 1000; omega
theorem Rm.cl {n : Nat} {A : Around} (r : Rm n A) : A.units < cLine := by have := r.2.1; show A.units < 9900; omega
section
variable {prog : Program} {w : World} {mean : ExcName → Option Value} {mg mb : Str → Option Value} {ad : Nat → Addr} {A : Around} {s : Shared} {Q E : Value → Shared → Prop} {h : Heap}
theorem valP {x : Str} {d : PyData} (hv : valOf (qOf P') x = some d) : valOf qP x = some d := by
  unfold qP
  rw [P_eq]
  exact hv
theorem GG.intConst (G : GG w mean mg mb ad h) {x : Str} {n : Int} (hv : valOf (qOf P') x = some (.int n)) : ∃ t, mg x = some (.int n t) := by
  obtain ⟨v, hm, hr⟩ := G.T.const x (.int n) (valP hv)
  have := hr h
  cases this
  exact ⟨_, hm⟩
theorem str_raw {x : String} {l : List Char} (h : x = String.ofList l) : (Str.ofString x) = ⟨(l.map Char.toNat).toArray⟩ := by rw [h]; exact PySem.W.Fast.ofString_ofList l
theorem GG.charMax (G : GG w mean mg mb ad h) : ∃ t, mg "CHAR_MAX" = some (.int 127 t) := G.intConst (by kernel_rfl!)
theorem GG.maxStr (G : GG w mean mg mb ad h) : ∃ t, mg "_MAX_STRING_SIZE" = some (.int 40 t) := G.intConst (by kernel_rfl!)
theorem GG.moveCost (G : GG w mean mg mb ad h) : ∃ t, mg "_MOVE_COST" = some (.int 2 t) := G.intConst (by kernel_rfl!)
theorem GG.caseCost (G : GG w mean mg mb ad h) : ∃ t, mg "_CASE_COST" = some (.int 1 t) := G.intConst (by kernel_rfl!)
/-- no name of the text's -/
noncomputable def notBound (p : Program) (x : Str) : Bool := !startupNames.contains x && !(looseW (qOf p) looseQ).contains x && !((recsOf (qOf p)).map (·.name)).contains x && !((litsOf (qOf p)).map (·.1)).contains x && !((clssOf (qOf p) (looseW (qOf p) looseQ)).map (·.name)).contains x
theorem GG.free (G : GG w mean mg mb ad h) {x : Str} {v : Value} (hn : (notBound P' x && x != "__name__" && bootBuiltins x == some v) = true) : mg x = none ∧ mb x = some v := by
  simp only [Bool.and_eq_true, bne_iff_ne, ne_eq, beq_iff_eq] at hn
  obtain ⟨⟨hn, h1⟩, h2⟩ := hn
  refine ⟨?_, (G.T.builtins x h1).trans h2⟩
  unfold notBound at hn
  simp only [Bool.and_eq_true, Bool.not_eq_true', List.contains_eq_mem, decide_eq_false_iff_not] at hn
  obtain ⟨⟨⟨⟨n1, n2⟩, n3⟩, n4⟩, n5⟩ := hn
  exact G.T.free x n1 (by unfold qP; rw [P_eq]; exact n2) (by unfold qP; rw [P_eq]; exact n3) (by unfold qP; rw [P_eq]; exact n4) (by unfold qP; rw [P_eq]; exact n5)
noncomputable def blts : List (Str × Value) := [("len", .builtin "len"), ("ord", .builtin "ord"), ("chr", .builtin "chr"), ("range", .type "range"), ("list", .type "list"), ("min", .builtin "min"), ("abs", .builtin "abs"), ("sum", .builtin "sum"), ("ValueError", .type "ValueError"), ("IndexError", .type "IndexError")]
theorem blts_ok : (blts.all fun x => notBound P' x.1 && x.1 != "__name__" && bootBuiltins x.1 == some x.2) = true := by kernel_rfl!
theorem GG.blt (G : GG w mean mg mb ad h) {x : Str} {v : Value} (hx : (x, v) ∈ blts) : mg x = none ∧ mb x = some v := G.free (List.all_eq_true.mp blts_ok _ hx)
theorem GG.len (G : GG w mean mg mb ad h) : mg "len" = none ∧ mb "len" = some (.builtin "len") := G.blt (List.mem_of_getElem? (i := 0) rfl)
theorem GG.ord (G : GG w mean mg mb ad h) : mg "ord" = none ∧ mb "ord" = some (.builtin "ord") := G.blt (List.mem_of_getElem? (i := 1) rfl)
theorem GG.chr (G : GG w mean mg mb ad h) : mg "chr" = none ∧ mb "chr" = some (.builtin "chr") := G.blt (List.mem_of_getElem? (i := 2) rfl)
theorem GG.range (G : GG w mean mg mb ad h) : mg "range" = none ∧ mb "range" = some (.type "range") := G.blt (List.mem_of_getElem? (i := 3) rfl)
theorem GG.list (G : GG w mean mg mb ad h) : mg "list" = none ∧ mb "list" = some (.type "list") := G.blt (List.mem_of_getElem? (i := 4) rfl)
theorem GG.min (G : GG w mean mg mb ad h) : mg "min" = none ∧ mb "min" = some (.builtin "min") := G.blt (List.mem_of_getElem? (i := 5) rfl)
theorem GG.abs (G : GG w mean mg mb ad h) : mg "abs" = none ∧ mb "abs" = some (.builtin "abs") := G.blt (List.mem_of_getElem? (i := 6) rfl)
theorem GG.sum (G : GG w mean mg mb ad h) : mg "sum" = none ∧ mb "sum" = some (.builtin "sum") := G.blt (List.mem_of_getElem? (i := 7) rfl)
theorem GG.ValueError (G : GG w mean mg mb ad h) : mg "ValueError" = none ∧ mb "ValueError" = some (.type "ValueError") := G.blt (List.mem_of_getElem? (i := 8) rfl)
theorem GG.IndexError (G : GG w mean mg mb ad h) : mg "IndexError" = none ∧ mb "IndexError" = some (.type "IndexError") := G.blt (List.mem_of_getElem? (i := 9) rfl)
/-- a def is entered; it raises nothing -/
theorem enter {i : Nat} {f : Addr} {vals : List Value} {binds : List (Str × Value)} {n : Nat} (hd : dr i ∈ recsOf qP) (G : GG w mean mg mb ad s.heap) (hi : i ∈ fns) (hf : f = ad i) (r : Rm (n + 1) A)
    (hbind : ∀ pm cd doc, bindArgs (Calls.docDef (dr i).name (dr i).params (dr i).body (dr i).scope pm cd doc) ⟨vals, []⟩ = pure binds)
    (hloc : (binds.all fun x => decide ((dr i).scope.names.lookup x.1 = some .local)) = true)
    (hsc : ((dr i).scope.isCoroutine == false && (dr i).scope.isGenerator == false && (dr i).scope.kind == .function && (dr i).scope.names.all fun x => x.2 != .cell) = true)
    (h : ∀ L cd h₁, Fr s.heap L h₁ (fun x => binds.reverse.lookup x) → News s.heap L h₁ [] → Rm n (A.deeper (envOf (nm i) (dr i).scope L f cd)) →
      wpAny (model prog w) (A.deeper (envOf (nm i) (dr i).scope L f cd)) (execs (dr i).body (envOf (nm i) (dr i).scope L f cd))
        (fun fl s' => Q (match fl with | .ret v => v | _ => .none) s') (fun _ _ => False) { s with heap := h₁, toks := s.toks + binds.length }) :
    wpAny (model prog w) A (call (.ref f) vals) Q E s := by
  obtain ⟨a, o, pm, cd, doc, h1, h2, h3, h4⟩ := G.T.fn _ hd
  have e : a = f := by have := G.fn i hi; rw [h1] at this; cases this; exact hf.symm
  subst e
  simp only [Bool.and_eq_true, beq_iff_eq, List.all_eq_true, bne_iff_ne] at hsc
  exact wpAny_call (call_plain_ret r.lt h2 h3 G.T.nolimit h4 (hbind pm cd doc) (locs hloc) (fun h₁ F => h _ cd h₁ F .nil r.deeper) hsc.1.1.1 hsc.1.1.2 hsc.1.2 (fun x hx => hsc.2 x hx))
end
-- names: a local of a map with stores; a global; a built-in
local macro_rules | `(tactic| walk_at "mlook") => `(tactic| first | assumption | exact if_pos rfl | (refine (if_neg (by decide)).trans ?_; walk_at "mlook") | rfl)
local macro_rules | `(tactic| walk_at "eval Name") => `(tactic| first
  | refine ld_global_at (by assumption) (by assumption) (by assumption) ?_
  | refine ld_builtin_at (by assumption) (by assumption) (by assumption) (by assumption) (by assumption) ?_)
noncomputable def subCost (a b : Str) : Int := if a == b then 0 else if Txt.lower a == Txt.lower b then 1 else 2
section
variable {prog : Program} {w : World} {mean : ExcName → Option Value} {mg mb : Str → Option Value} {ad : Nat → Addr} {A : Around} {s : Shared} {Q E : Value → Shared → Prop} {h : Heap}
theorem c_cost {a b : Str} {t u : Tok} (G : GG w mean mg mb ad s.heap) (r : Rm 1 A) (ha : a.length ≤ 5) (hb : b.length ≤ 5)
    (hQ : ∀ h' t' tk, Keeps s.heap h' → Q (.int (subCost a b) tk) { s with heap := h', toks := t' }) :
    wpAny (model prog w) A (call (.ref (ad 13)) [.str a t, .str b u]) Q E s := by
  refine enter (i := 13) (binds := [("ch_a", .str a t), ("ch_b", .str b u)]) dr13 G (by decide) rfl r (fun _ _ _ => by kernel_rfl!) (by kernel_rfl!) (by kernel_rfl!) fun L cd h₁ F N r' => ?_
  have hg := G.T.g
  obtain ⟨t1, c1⟩ := G.caseCost
  obtain ⟨t2, c2⟩ := G.moveCost
  unfold subCost at hQ
  repeat' (first | walk1 | dsimp only)
  · rename _ = true => e
    rw [if_pos e] at hQ
    exact hQ _ _ _ F.keep
  · rename (Txt.lower a == Txt.lower b) = true => e
    rename (a == b) = false => e'
    rw [e', if_neg (by decide), if_pos e] at hQ
    exact hQ _ _ _ F.keep
  · rename (Txt.lower a == Txt.lower b) = false => e
    rename (a == b) = false => e'
    rw [e', if_neg (by decide), e, if_neg (by decide)] at hQ
    exact hQ _ _ _ F.keep
end
-- text G1
theorem fresh_G1 : True := by w_top off; trivial
section
variable {prog : Program} {w : World} {A : Around} {R : GenEnd} {Y : Protocol} {n : Nat} {s₀ : Shared} {c : Code} {fs : List Frame} {s : Shared} {env : Env}
  {K : Flow → Sem Fin} {H : Value → Sem Fin} {gd : Bool → Bool} {lv : List Value → List Value}
/-- a statement that yields nothing, then the rest -/
theorem seg_stmt {st : Stmt} {rest : List Stmt}
    (h : wpAny (model prog w) (A.over c fs) (exec st env) (fun f s' => Seg (model prog w) A R Y n s₀ c (match f with | .next => (execs rest env).wrap K H gd lv | f => K f) fs s') (fun x s' => Seg (model prog w) A R Y n s₀ c (H x) fs s') s) :
    Seg (model prog w) A R Y n s₀ c ((execs (st :: rest) env).wrap K H gd lv) fs s := seg_execs_cons (seg_wrap h)
theorem seg_cons {st : Stmt} {rest : List Stmt}
    (h : Seg (model prog w) A R Y n s₀ c ((exec st env).wrap (fun f => match f with | .next => (execs rest env).wrap K H gd lv | f => K f) H gd lv) fs s) :
    Seg (model prog w) A R Y n s₀ c ((execs (st :: rest) env).wrap K H gd lv) fs s := seg_execs_cons h
theorem seg_If {test : Expr} {body orelse : List Stmt} {pos : Pos}
    (h : wpAny (model prog w) (A.over c fs) (isTrue test env (eval test env)) (fun b s' => if b = true then Seg (model prog w) A R Y n s₀ c ((execs body env).wrap K H gd lv) fs s' else Seg (model prog w) A R Y n s₀ c ((execs orelse env).wrap K H gd lv) fs s') (fun x s' => Seg (model prog w) A R Y n s₀ c (H x) fs s') s) :
    Seg (model prog w) A R Y n s₀ c ((exec (.If test body orelse pos) env).wrap K H gd lv) fs s := by
  rw [arm_exec_If]
  refine seg_bind_wrap (wpAny_standAt ?_)
  refine seg_bind_wrap (wpAny_mono h (fun b s' hb => ?_) fun _ _ e => e)
  cases b with
  | true => rw [if_pos rfl] at hb; exact hb
  | false => rw [if_neg Bool.false_ne_true] at hb; exact hb
theorem seg_Return_none {pos : Pos} (h : Seg (model prog w) A R Y n s₀ c (K (.ret .none)) fs s) : Seg (model prog w) A R Y n s₀ c ((exec (.Return none pos) env).wrap K H gd lv) fs s :=
  seg_wrap (m := exec (.Return none pos) env) (wpAny_Return_none h)
/-- what runOwn makes of a loop's answer -/
noncomputable def own (env : Env) (K : Flow → Sem Fin) (H : Value → Sem Fin) (gd : Bool → Bool) (lv : List Value → List Value) : Result → Sem Fin := fun r =>
  ((match r with | .ok f => (.pure f : Sem Flow) | .error e => .raise e).onRaise fun (x : Value) => do
        if (← field x 1) == Value.none then unsupported "frame.own-activation:exception-without-traceback"
        setFlight x env.frame).wrap K H gd lv
theorem own_ok {f : Flow} : own env K H gd lv (.ok f) = K f := rfl
theorem seg_For {target iter : Expr} {body : List Stmt} {pos : Pos}
    (h : wpAny (model prog w) (A.over c fs) (eval iter env) (fun x s₁ => wpAny (model prog w) (A.over c fs) (pyIter x) (fun it s₂ =>
      ∀ p, Seg (model prog w) A R Y n s₀ (.forLoop target it body [] env) ((model prog w).den (.forLoop target it body [] env)) (.ret (own env K H gd lv) none (gd false) (lv []) c p [] :: fs) s₂)
        (fun x s' => Seg (model prog w) A R Y n s₀ c (H x) fs s') s₁) (fun x s' => Seg (model prog w) A R Y n s₀ c (H x) fs s') s)
    (hs : ∀ x, foldedSetIterable iter env x = pure x := by intro _; rfl) :
    Seg (model prog w) A R Y n s₀ c ((exec (.For target iter body [] pos) env).wrap K H gd lv) fs s := by
  rw [arm_exec_For]
  refine seg_bind_wrap (wpAny_standAt ?_)
  refine seg_bind_wrap (wpAny_mono h (fun x s₁ h₁ => ?_) fun _ _ e => e)
  refine seg_bind_wrap (wpAny_of_eq (hs x) ?_)
  refine seg_bind_wrap (wpAny_standAt ?_)
  refine seg_bind_wrap (wpAny_holding (wpAny_mono h₁ (fun it s₂ h₂ => ?_) fun _ _ e => e))
  exact seg_call h₂
/-- one turn of a for within a generator -/
theorem seg_forTurn {x : Str} {px : Pos} {it : Value} {body : List Stmt}
    (h : wpAny (model prog w) (A.over (.forLoop (.Name x px) it body [] env) fs) (pyNext it) (fun r s₁ => match r with
      | none => Seg (model prog w) A R Y n s₀ (.forLoop (.Name x px) it body [] env) (.pure (.again (.block [] env))) fs s₁
      | some v => wpAny (model prog w) (A.over (.forLoop (.Name x px) it body [] env) fs) (assign (.Name x px) env v) (fun _ s₂ =>
          Seg (model prog w) A R Y n s₀ (.forLoop (.Name x px) it body [] env) ((execs body env).wrap (fun f => match f with
            | .next | .cont => .pure (.again (.forLoop (.Name x px) it body [] env))
            | .brk => .pure (.done .next)
            | .ret v => .pure (.done (.ret v))) (fun e => (do noteFrame e env; theTreesLotGoes e : Sem Unit).wrap (fun _ => .raise e) .raise id id) id id) fs s₂)
          (fun e s' => Seg (model prog w) A R Y n s₀ (.forLoop (.Name x px) it body [] env) ((do noteFrame e env; theTreesLotGoes e : Sem Unit).wrap (fun _ => .raise e) .raise id id) fs s') s₁)
      (fun e s' => Seg (model prog w) A R Y n s₀ (.forLoop (.Name x px) it body [] env) ((do noteFrame e env; theTreesLotGoes e : Sem Unit).wrap (fun _ => .raise e) .raise id id) fs s') s) :
    Seg (model prog w) A R Y n s₀ (.forLoop (.Name x px) it body [] env) ((model prog w).den (.forLoop (.Name x px) it body [] env)) fs s := by
  show Seg _ A R Y n s₀ _ ((forTurn (.Name x px) it body [] env).onRaise (fun x => do noteFrame x env; theTreesLotGoes x)) fs s
  unfold forTurn
  rw [Sem.onRaise_eq_wrap]
  refine seg_bind_wrap (wpAny_standAt ?_)
  refine seg_bind_wrap (wpAny_onRaise (wpAny_mono h (fun r s₁ h₁ => ?_) fun e s' he => wpAny_standAt ?_))
  · cases r with
    | none => exact h₁
    | some v =>
      refine seg_bind_wrap (wpAny_of_eq (rfl : letOwnedTupleGo (.Name x px) it v = pure ()) ?_)
      refine seg_bind_wrap (wpAny_mono h₁ (fun _ s₂ h₂ => ?_) fun e s' he => ?_)
      · rw [Sem.bind_eq_wrap', Sem.wrap_wrap]
        rw [Sem.wrap_congr (execs body env) _ _ (K' := fun f => match f with
            | .next | .cont => .pure (.again (.forLoop (.Name x px) it body [] env))
            | .brk => .pure (.done .next)
            | .ret v => .pure (.done (.ret v))) (H' := (fun e => (do noteFrame e env; theTreesLotGoes e : Sem Unit).wrap (fun _ => .raise e) .raise id id))
          (fun f => by cases f <;> rfl)
          (fun e => by first | exact Sem.bind_eq_wrap _ _ | (show (do noteFrame e env; theTreesLotGoes e : Sem Unit).bind (fun _ => .raise e) = _; rw [Sem.bind_eq_wrap]))]
        exact h₂
      · show Seg _ A R Y n s₀ _ ((do noteFrame e env; theTreesLotGoes e : Sem Unit).bind fun _ => .raise e) fs s'
        rw [Sem.bind_eq_wrap]; exact he
  · show Seg _ A R Y n s₀ _ ((do noteFrame e env; theTreesLotGoes e : Sem Unit).bind fun _ => .raise e) fs s'
    rw [Sem.bind_eq_wrap]; exact he
/-- the for's end: the empty block -/
theorem seg_forEnd {c' : Code} (h : Seg (model prog w) A R Y n s₀ (.block [] env) (.pure (.done .next)) fs s) :
    Seg (model prog w) A R Y n s₀ c (.pure (.again (.block [] env))) fs s := by
  refine seg_again rfl ?_
  show Seg _ A R Y n s₀ _ ((execs [] env >>= fun f => pure (.done f) : Sem Fin).onRaise (fun x => do noteFrame x env; theTreesLotGoes x)) fs s
  exact h
end
-- text G2
theorem fresh_G2 : True := by w_top off; trivial
/-- the for's body in _grouping_intervals -/
noncomputable def gFor : List Stmt := match (dr 2).body with | _ :: .For _ _ b _ _ :: _ => b | _ => []
/-- the generator changes its frame C and what lies behind N -/
noncomputable def Since (C N : Addr) (h₀ : Heap) (s₀ s : Shared) : Prop :=
  ∃ h' tk, s = { s₀ with heap := h', toks := tk } ∧ Keeps h₀ h' ∧ ∀ b o, b ≠ C → b < N → s₀.heap.get? b = some o → h'.get? b = some o
theorem Since.refl {C N h₀ s} (k : Keeps h₀ s.heap) : Since C N h₀ s s := ⟨s.heap, s.toks, rfl, k, fun _ _ _ _ e => e⟩
theorem Since.step {C N : Addr} {h₀ : Heap} {s₀ s : Shared} (x : Since C N h₀ s₀ s) {h' : Heap} {tk : Nat} (hk : ∀ b o, b ≠ C → b < N → s.heap.get? b = some o → h'.get? b = some o) (k : Keeps h₀ h') : Since C N h₀ s₀ { s with heap := h', toks := tk } := by
  obtain ⟨h₁, tk₁, rfl, k₁, hk₁⟩ := x
  exact ⟨h', tk, rfl, k, fun b o hC hN e => hk b o hC hN (hk₁ b o hC hN e)⟩
section
variable {prog : Program} {w : World} {mean : ExcName → Option Value} {mg mb : Str → Option Value} {ad : Nat → Addr} {A : Around} {R : GenEnd} {n : Nat} {s₀ s : Shared} {C N I rw : Addr} {cd : Value} {h₀ : Heap} {fs : List Frame}
  {m : Str → Option Value} {items : Array Value}
noncomputable abbrev gEnv (ad : Nat → Addr) (C : Addr) (cd : Value) : Env := envOf (nm 2) (dr 2).scope C (ad 2) cd
noncomputable abbrev gCode (ad : Nat → Addr) (C : Addr) (cd : Value) (I : Addr) (px : Pos) : Code := .forLoop (.Name "interval" px) (.ref I) gFor [] (gEnv ad C cd)
/-- the iterator moves on: the frame stays -/
theorem fr_iter {h h' : Heap} {a b : Addr} (F : Fr h₀ C h m) (sb : Heap.SameBut I h h') (hC : C < N) (hI : N ≤ I) (hN : h₀.objs.size ≤ N) : Fr h₀ C h' m :=
  ⟨F.ns.at' fun o e => sb.extBut _ _ (Nat.ne_of_lt (Nat.lt_of_lt_of_le hC hI)) e, fun b o e => sb.extBut _ _ (Nat.ne_of_lt (Nat.lt_of_lt_of_le (Heap.lt_size e) (Nat.le_trans hN hI))) (F.keep b o e), F.above⟩
theorem news_one {h : Heap} {a : Addr} {o : Obj} (e : h.get? a = some o) (hC : a ≠ C) (hN : h₀.objs.size ≤ a) : News h₀ C h [(a, o)] := by
  intro p hp
  rw [List.mem_singleton.mp hp]
  refine ⟨e, hC, ?_⟩
  cases hq : h₀.get? a with
  | none => rfl
  | some o' => exact absurd (Heap.lt_size hq) (Nat.not_lt_of_le hN)
end
end Mine
-- text X1
namespace Mine
theorem fresh_X1 : True := by w_top off; trivial
/-- all stays, save the slots of the frames S -/
noncomputable def Kf (S : List Addr) (h h' : Heap) : Prop := (∀ b o, b ∉ S → h.get? b = some o → h'.get? b = some o) ∧ ∀ b o, h.get? b = some o → ∃ sl, h'.get? b = some { o with slots := sl }
theorem Kf.refl (S : List Addr) (h : Heap) : Kf S h h := ⟨fun _ _ _ e => e, fun _ o e => ⟨o.slots, e⟩⟩
theorem Kf.trans {S : List Addr} {a b c : Heap} (x : Kf S a b) (y : Kf S b c) : Kf S a c :=
  ⟨fun i o hi e => y.1 i o hi (x.1 i o hi e), fun i o e => by obtain ⟨sl, e₁⟩ := x.2 i o e; obtain ⟨sl', e₂⟩ := y.2 i _ e₁; exact ⟨sl', e₂⟩⟩
theorem Kf.of_keeps {S : List Addr} {a b : Heap} (k : Keeps a b) : Kf S a b := ⟨fun i o _ e => k i o e, fun i o e => ⟨o.slots, k i o e⟩⟩
theorem Kf.mono {S T : List Addr} {a b : Heap} (x : Kf S a b) (h : ∀ i ∈ S, i ∈ T) : Kf T a b := ⟨fun i o hi e => x.1 i o (fun hS => hi (h i hS)) e, x.2⟩
/-- frames that are not in a heap do not matter to it -/
theorem Kf.drop {S : List Addr} {C : Addr} {a b : Heap} (x : Kf (C :: S) a b) (h : a.get? C = none) : Kf S a b :=
  ⟨fun i o hi e => x.1 i o (fun hm => by rcases List.mem_cons.mp hm with rfl | hm; · rw [h] at e; cases e
                                         · exact hi hm) e, x.2⟩
theorem Kf.none {S : List Addr} {a b : Heap} {i : Addr} (x : Kf S a b) (h : b.get? i = none) : a.get? i = none := by
  cases hq : a.get? i with
  | none => rfl
  | some o => obtain ⟨_, e⟩ := x.2 i o hq; rw [h] at e; cases e
theorem Kf.of_slots {S : List Addr} {a b : Heap} (x : Heap.SlotsOnly S a b) : Kf S a b := ⟨fun i o hi e => (x.2.1 i hi).trans e, x.2.2⟩
/-- the frames lie in the heap -/
noncomputable abbrev Fs (h : Heap) (l : List Env) : Prop := h.FunFrames ({ objs := #[] } : Heap) l
theorem get_nil (b : Addr) : (({ objs := #[] } : Heap) : Heap).get? b = none := by
  cases hq : (({ objs := #[] } : Heap) : Heap).get? b with
  | none => rfl
  | some o => exact absurd (Heap.lt_size hq) (Nat.not_lt_zero _)
theorem Fs.kf {S : List Addr} {a b : Heap} {l : List Env} (f : Fs a l) (x : Kf S a b) : Fs b l := f.of_keeps fun i o e _ => by obtain ⟨_, e'⟩ := x.2 i o e; exact ⟨_, e', rfl⟩
theorem Fs.cons {h : Heap} {L : Addr} {a : Addr} {m : Str → Option Value} {name : Str} {scope : Scope} {cd : Value} {l : List Env} (f : Fs h l) (n : h.Ns L m) (hk : scope.kind = .function := by rfl) : Fs h (envOf name scope L a cd :: l) :=
  Heap.FunFrames.cons (by show scope.kind ≠ .module; rw [hk]; decide) rfl n (get_nil _) f
noncomputable abbrev sOf (l : List Env) : List Addr := l.filterMap (·.frame)
/-- an exception in flight: e of class X, its entry's flight fl; h₀: the heap ahead of it -/
structure Held (S : List Addr) (h₀ h : Heap) (e : Addr) (X : String) (fl : Value) : Prop where
  kf : Kf S h₀ h
  new : h₀.get? e = none
  there : ∃ ob vs tb otb tvs, h.get? e = some ob ∧ ob.cls = .type X ∧ ob.data = .fields vs ∧ vs[1]? = some (.ref tb) ∧ h.get? tb = some otb ∧ otb.data = .fields tvs ∧ tvs[3]? = some fl ∧ tb ≠ e ∧ h₀.get? tb = none
section
variable {M : Model} {A : Around} {E : Value → Shared → Prop} {s : Shared} {Q : Unit → Shared → Prop} {S : List Addr} {h₀ : Heap} {e L : Addr} {X : String} {fl : Value} {env : Env} {outer : List Env}
theorem held_setFlight {f : Option Addr} (H : Held S h₀ s.heap e X fl) (h : ∀ h', Held S h₀ h' e X (f.elim .none fun f => rawInt f) → Q () { s with heap := h' }) : wpAny M A (setFlight (.ref e) f) Q E s := by
  obtain ⟨kf, new, ob, vs, tb, otb, tvs, he, hc, hd, h1, ht, htd, h3, hne, tnew⟩ := H
  unfold setFlight
  refine wpAny_bind (wpAny_field he hd h1 ?_)
  rw [if_pos (show (Value.ref tb != Value.none) = true from by simp)]
  refine wpAny_setField ht htd (Array.getElem?_eq_some_iff.mp h3).1 (h _ ⟨?_, new, ?_⟩)
  · refine ⟨fun b o hb hq => ?_, fun b o hq => ?_⟩
    · have : b ≠ tb := fun q => by rw [q, tnew] at hq; cases hq
      rw [Heap.get?_update_other _ _ this.symm]; exact kf.1 b o hb hq
    · have : b ≠ tb := fun q => by rw [q, tnew] at hq; cases hq
      rw [Heap.get?_update_other _ _ this.symm]; exact kf.2 b o hq
  · refine ⟨ob, vs, tb, _, _, (Heap.get?_update_other _ _ hne).trans he, hc, hd, h1, Heap.get?_update_self _ ht (Obj.isFreed_of_fields (Obj.data_mapFields htd _)), Obj.data_mapFields htd _, ?_, hne, tnew⟩
    have := (Array.getElem?_eq_some_iff.mp h3).1
    simp [Array.getElem?_setIfInBounds, this]
/-- a new entry -/
theorem held_entry {oe : Obj} {vs : Array Value} {head : Value} {hadNext : Bool} (hfr : A.frames = some (env :: outer)) (hf : env.frame = some L) (hl : Fs s.heap (env :: outer)) (hS : ∀ b ∈ sOf (env :: outer), b ∈ S)
    (kf : Kf S h₀ s.heap) (new : h₀.get? e = none) (he : s.heap.get? e = some oe) (hc : oe.cls = .type X) (hd : oe.data = .fields vs) (h1 : 1 < vs.size)
    (h : ∀ h', Held S h₀ h' e X (rawInt L) → Q () { s with heap := h' }) :
    wpAny M A (do let a ← frameOf env; let pl ← entryPlaceOf L hadNext; let b ← EntryCells.newEntry head a .none (rawInt L) .none pl; setField (.ref e) 1 b) Q E s := by
  have hene : e ∉ (env :: outer).filterMap (·.frame) := fun hm => by
    obtain ⟨_, o, ho, hnf⟩ := hl.mem hm
    rw [he] at ho; injection ho with ho; subst ho; exact hnf vs hd
  refine wpAny_bind (wpAny_frameOf_fun hfr hl hf fun h₁ hs₁ => ?_)
  refine wpAny_bind (wpAny_entryPlaceOf fun pl hpl => ?_)
  unfold EntryCells.newEntry newFields
  refine wpAny_bind (wpAny_newObj_type ?_ (hpl.sizeOk5 _ _ _ _ _))
  have he₁ : h₁.get? e = some oe := (hs₁.2.1 e hene).trans he
  have kf₁ : Kf S h₀ h₁ := kf.trans ((Kf.of_slots hs₁).mono hS)
  generalize ht : ({ cls := .type "traceback", dict := none, data := .fields ([head, .ref L, .none, rawInt L, .none] ++ (if pl.isEmpty then List.replicate 6 Value.none else pl)).toArray } : Obj) = ot
  have hod : ot.data = .fields ([head, .ref L, .none, rawInt L, .none] ++ (if pl.isEmpty then List.replicate 6 Value.none else pl)).toArray := by rw [← ht]
  have he₂ := Heap.get?_push_of_some (h := h₁) ot he₁
  have hTe : h₁.objs.size ≠ e := Nat.ne_of_gt (Heap.lt_size he₁)
  refine wpAny_setField he₂ hd h1 (h _ ⟨?_, new, ?_⟩)
  · have kf₂ : Kf S h₀ (h₁.push ot) := kf₁.trans (Kf.of_keeps fun b o q => Heap.get?_push_of_some _ q)
    refine ⟨fun b o hb hq => ?_, fun b o hq => ?_⟩
    · have : b ≠ e := fun q => by rw [q, new] at hq; cases hq
      rw [Heap.get?_update_other _ _ this.symm]; exact kf₂.1 b o hb hq
    · have : b ≠ e := fun q => by rw [q, new] at hq; cases hq
      rw [Heap.get?_update_other _ _ this.symm]; exact kf₂.2 b o hq
  · refine ⟨_, _, h₁.objs.size, _, _, Heap.get?_update_self _ he₂ (Obj.isFreed_of_fields (Obj.data_mapFields hd _)), (Obj.cls_mapFields _ _).trans hc, Obj.data_mapFields hd _, by simp [h1], (Heap.get?_update_other _ _ hTe.symm).trans (Heap.get?_push_size h₁ (Obj.isFreed_of_fields hod)), hod, by simp, hTe, ?_⟩
    exact kf₁.none (by
      cases hq : h₁.get? h₁.objs.size with
      | none => rfl
      | some o => exact absurd (Heap.lt_size hq) (Nat.lt_irrefl _))
/-- the frame takes note of a new exception -/
theorem note_new {oe : Obj} {vs : Array Value} (hfr : A.frames = some (env :: outer)) (hf : env.frame = some L) (hl : Fs s.heap (env :: outer)) (hS : ∀ b ∈ sOf (env :: outer), b ∈ S)
    (kf : Kf S h₀ s.heap) (new : h₀.get? e = none) (he : s.heap.get? e = some oe) (hc : oe.cls = .type X) (hd : oe.data = .fields vs) (h1 : vs[1]? = some .none)
    (h : ∀ h', Held S h₀ h' e X (rawInt L) → Q () { s with heap := h' }) : wpAny M A (noteFrame (.ref e) env) Q E s := by
  unfold noteFrame
  simp only [hf]
  refine wpAny_bind (wpAny_field he hd h1 ?_)
  rw [if_neg (by decide)]
  exact held_entry hfr hf hl hS kf new he hc hd (Array.getElem?_eq_some_iff.mp h1).1 h
/-- .. of one that came out of a callee -/
theorem note_on (hfr : A.frames = some (env :: outer)) (hf : env.frame = some L) (hl : Fs s.heap (env :: outer)) (hS : ∀ b ∈ sOf (env :: outer), b ∈ S)
    (H : Held S h₀ s.heap e X .none) (h : ∀ h', Held S h₀ h' e X (rawInt L) → Q () { s with heap := h' }) : wpAny M A (noteFrame (.ref e) env) Q E s := by
  obtain ⟨kf, new, ob, vs, tb, otb, tvs, he, hc, hd, h1, ht, htd, h3, hne, tnew⟩ := H
  unfold noteFrame
  simp only [hf]
  refine wpAny_bind (wpAny_field he hd h1 ?_)
  rw [if_pos (show (Value.ref tb != Value.none) = true from by simp)]
  refine wpAny_bind (wpAny_field ht htd h3 ?_)
  rw [if_neg (show ¬ ((Value.none == rawInt L) = true) from by simp [rawInt])]
  refine wpAny_bind (wpAny_setField ht htd (Array.getElem?_eq_some_iff.mp h3).1 ?_)
  have hfT : ∀ b o, s.heap.get? b = some o → (∀ vs, o.data ≠ .fields vs) → b ≠ tb := fun b o hb hnf q => by
    rw [q, ht] at hb; injection hb with hb; subst hb; exact hnf tvs htd
  refine held_entry hfr hf (hl.of_keeps fun b o hb hnf => ⟨o, (Heap.get?_update_other _ _ (hfT b o hb hnf).symm).trans hb, rfl⟩) hS ?_ new ((Heap.get?_update_other _ _ hne).trans he) hc hd (Array.getElem?_eq_some_iff.mp h1).1 h
  refine ⟨fun b o hb hq => ?_, fun b o hq => ?_⟩
  · have : b ≠ tb := fun q => by rw [q, tnew] at hq; cases hq
    rw [Heap.get?_update_other _ _ this.symm]; exact kf.1 b o hb hq
  · have : b ≠ tb := fun q => by rw [q, tnew] at hq; cases hq
    rw [Heap.get?_update_other _ _ this.symm]; exact kf.2 b o hq
/-- .. of one that it has noted -/
theorem note_again (hf : env.frame = some L) (H : Held S h₀ s.heap e X (rawInt L)) (h : Q () s) : wpAny M A (noteFrame (.ref e) env) Q E s := by
  obtain ⟨kf, new, ob, vs, tb, otb, tvs, he, hc, hd, h1, ht, htd, h3, hne, tnew⟩ := H
  unfold noteFrame
  simp only [hf]
  refine wpAny_bind (wpAny_field he hd h1 ?_)
  rw [if_pos (show (Value.ref tb != Value.none) = true from by simp)]
  refine wpAny_bind (wpAny_field ht htd h3 ?_)
  rw [if_pos (show (rawInt L == rawInt L) = true from by simp)]
  exact wpAny_pure h
/-- a loop's or a handler's way back -/
theorem held_back (hf : env.frame = some L) (H : Held S h₀ s.heap e X fl) (h : ∀ h', Held S h₀ h' e X (rawInt L) → E (.ref e) { s with heap := h' }) : cameBackBy M A env E (.ref e) s := by
  obtain ⟨_, _, ob, vs, tb, otb, tvs, he, hc, hd, h1, _⟩ := id H
  refine wpAny_bind (wpAny_field he hd h1 ?_)
  rw [if_neg (by simp)]
  refine held_setFlight H fun h' H' => ?_
  rw [hf] at H'
  exact h h' H'
end
end Mine
-- text S1
namespace Mine
theorem fresh_S1 : True := by w_top off; trivial
/-- a text by its signs -/
noncomputable abbrev mkS (l : List Nat) : Str := ⟨l.toArray⟩
theorem mkS_inj {a b : List Nat} : mkS a = mkS b ↔ a = b := by
  constructor
  · intro h
    have := congrArg (fun x : Str => x.cps.toList) h
    simpa using this
  · rintro rfl; rfl
theorem mkS_beq {a b : List Nat} : (mkS a == mkS b) = decide (a = b) := by
  by_cases h : a = b
  · subst h; simp
  · rw [decide_eq_false h]
    exact beq_false_of_ne fun e => h (mkS_inj.mp e)
theorem mkS_of (x : Str) : x = mkS x.cps.toList := by
  cases x; simp [mkS]
theorem mkS_len (l : List Nat) : (mkS l).length = l.length := by simp [Str.length]
theorem mkS_lit {x : String} {l : List Char} (h : x = String.ofList l) : (Str.ofString x) = mkS (l.map Char.toNat) := by rw [h]; exact PySem.W.Fast.ofString_ofList l
theorem sl_from (l : List Nat) (i : Nat) : Txt.slice (mkS l) (some (i : Int)) none = mkS (l.drop i) := by
  by_cases h : i ≤ l.length
  · rw [slice_from_eq (b := (l.length : Int)) (by omega) (by rw [mkS_len]; omega) (by rw [mkS_len])]
    refine mkS_inj.mpr ?_
    show (List.take _ (List.drop _ l)) = _
    rw [List.take_of_length_le (by simp)]
    simp
  · rw [slice_from_beyond (by rw [mkS_len]; omega), List.drop_of_length_le (by omega)]
theorem sl_to (l : List Nat) (j : Nat) : Txt.slice (mkS l) none (some (j : Int)) = mkS (l.take j) := by
  by_cases h : j ≤ l.length
  · have := beq_iff_eq.mp (slice_closes_toL (x := mkS l) (j := (j : Int)) (by omega) (by rw [mkS_len]; omega))
    rw [this]
    refine mkS_inj.mpr ?_
    show (List.take _ (List.drop _ l)) = _
    simp
  · rw [slice_to_beyond (by rw [mkS_len]; omega), mkS_len]
    have := beq_iff_eq.mp (slice_closes_toL (x := mkS l) (j := (l.length : Int)) (by omega) (by rw [mkS_len]; omega))
    rw [this]
    refine mkS_inj.mpr ?_
    show (List.take _ (List.drop _ l)) = _
    rw [List.take_of_length_le (by simp), List.take_of_length_le (by omega)]
    simp
theorem sl_to_neg (l : List Nat) (k : Nat) (h0 : 0 < k) (h : k ≤ l.length) : Txt.slice (mkS l) none (some (-(k : Int))) = mkS (l.take (l.length - k)) := by
  have := beq_iff_eq.mp (slice_closes_to_neg (x := mkS l) (j := -(k : Int)) (k := ((l.length - k : Nat) : Int)) (by omega) (by rw [mkS_len]; omega) (by rw [mkS_len]; omega))
  rw [this]
  refine mkS_inj.mpr ?_
  show (List.take _ (List.drop _ l)) = _
  simp
theorem sl_both (l : List Nat) (i j : Nat) (h1 : i ≤ j) (h2 : j ≤ l.length) : Txt.slice (mkS l) (some (i : Int)) (some (j : Int)) = mkS ((l.take j).drop i) := by
  have := beq_iff_eq.mp (slice_closesL (x := mkS l) (i := (i : Int)) (j := (j : Int)) (by omega) (by omega) (by rw [mkS_len]; omega))
  rw [this]
  refine mkS_inj.mpr ?_
  show (List.take _ (List.drop _ l)) = _
  rw [List.drop_take]
  congr 1
  omega
theorem sl_all (l : List Nat) : Txt.slice (mkS l) none none = mkS l := by
  unfold Txt.slice
  rw [if_pos]
  rw [mkS_len]
  unfold Builtin.Str.strSliceIndices
  simp [sliceRange]
  split <;> omega
theorem it_at (l : List Nat) (i : Nat) (h : i < l.length) : Txt.item (mkS l) (i : Int) = mkS [l[i]] := by
  unfold Txt.item Txt.charAt seqIndex?
  rw [mkS_len]
  have h1 : ¬ ((i : Int) < 0) := by omega
  simp [h1, h]
theorem it_neg (l : List Nat) (k : Nat) (h0 : 0 < k) (h : k ≤ l.length) : Txt.item (mkS l) (-(k : Int)) = mkS [l[l.length - k]'(by omega)] := by
  unfold Txt.item Txt.charAt seqIndex?
  rw [mkS_len]
  have h1 : (-(k : Int)) < 0 := by omega
  have h2 : (-(k : Int) + (l.length : Int)) = ((l.length - k : Nat) : Int) := by omega
  have h3 : l.length - k < l.length := by omega
  have h4 : ((l.length - k : Nat) : Int) < (l.length : Int) := by omega
  have h5 : ¬ (((l.length - k : Nat) : Int) < 0) := by omega
  simp only [h1, if_true, h2]
  simp [h4, h3]
end Mine
-- text C3
namespace Mine
theorem fresh_C3 : True := by w_top off; trivial
section
variable {prog : Program} {w : World} {mean : ExcName → Option Value} {mg mb : Str → Option Value} {ad : Nat → Addr} {A : Around} {s : Shared} {Q E : Value → Shared → Prop} {h : Heap}
theorem GG.obj {i : Nat} (G : GG w mean mg mb ad h) (hd : dr i ∈ recsOf qP) (hi : i ∈ fns) : ∃ o fd, h.get? (ad i) = some o ∧ o.data = .func fd := by
  obtain ⟨a, o, pm, cd, doc, h1, h2, h3, h4⟩ := G.T.fn _ hd
  have e : a = ad i := by have := G.fn i hi; rw [h1] at this; cases this; rfl
  subst e
  exact ⟨o, _, h2, h3⟩
/-- a def is entered; it may raise -/
theorem enterX {i : Nat} {f : Addr} {vals : List Value} {binds : List (Str × Value)} {n : Nat} (hd : dr i ∈ recsOf qP) (G : GG w mean mg mb ad s.heap) (hi : i ∈ fns) (hf : f = ad i) (r : Rm (n + 1) A)
    (hbind : ∀ pm cd doc, bindArgs (Calls.docDef (dr i).name (dr i).params (dr i).body (dr i).scope pm cd doc) ⟨vals, []⟩ = pure binds)
    (hloc : (binds.all fun x => decide ((dr i).scope.names.lookup x.1 = some .local)) = true)
    (hsc : ((dr i).scope.isCoroutine == false && (dr i).scope.isGenerator == false && (dr i).scope.kind == .function && (dr i).scope.names.all fun x => x.2 != .cell) = true)
    (h : ∀ L cd h₁, s.heap.get? L = none → Fr s.heap L h₁ (fun x => binds.reverse.lookup x) → News s.heap L h₁ [] → Rm n (A.deeper (envOf (nm i) (dr i).scope L f cd)) →
      wpAny (model prog w) (A.deeper (envOf (nm i) (dr i).scope L f cd)) (execs (dr i).body (envOf (nm i) (dr i).scope L f cd))
        (fun fl s' => Q (match fl with | .ret v => v | _ => .none) s')
        (fun e s' => wpAny (model prog w) (A.deeper (envOf (nm i) (dr i).scope L f cd)) (leaving (envOf (nm i) (dr i).scope L f cd) e) (fun _ s'' => E e s'') (fun e' s'' => E e' s'') s') { s with heap := h₁, toks := s.toks + binds.length }) :
    wpAny (model prog w) A (call (.ref f) vals) Q E s := by
  obtain ⟨a, o, pm, cd, doc, h1, h2, h3, h4⟩ := G.T.fn _ hd
  have e : a = f := by have := G.fn i hi; rw [h1] at this; cases this; exact hf.symm
  subst e
  simp only [Bool.and_eq_true, beq_iff_eq, List.all_eq_true, bne_iff_ne] at hsc
  refine wpAny_call (call_plain r.lt h2 h3 G.T.nolimit h4 (hbind pm cd doc) (locs hloc) (fun h₁ F => ?_) hsc.1.1.1 hsc.1.1.2 hsc.1.2 (fun x hx => hsc.2 x hx))
  refine h _ cd h₁ ?_ F .nil r.deeper
  cases hq : s.heap.get? s.heap.objs.size with
  | none => rfl
  | some o => exact absurd (Heap.lt_size hq) (Nat.lt_irrefl _)
end
section
variable {prog : Program} {w : World} {A : Around} {E : Value → Shared → Prop} {s : Shared} {env : Env} {h₀ : Heap} {x : Str} {body : List Stmt} {Q : Flow → Shared → Prop} {m : Str → Option Value} {news : List (Addr × Obj)}
/-- a while that may raise in its test; K: what holds behind it -/
theorem While_X {hp : Heap} {g : Array GenState} {d : Drawn} {tk₀ : Nat} {os : OsState} {test : Expr} {pos : Pos} (J : Nat → (Str → Option Value) → Prop) (K : (Str → Option Value) → Prop) (n : Nat) (F : Fr h₀ env.locals hp m) (N : News h₀ env.locals hp news) (hj : J n m)
    (turn : ∀ n m h tk, J n m → Fr h₀ env.locals h m → News h₀ env.locals h news →
      wpAny (model prog w) A (isTrue test env (eval test env)) (fun b s₂ =>
        if b = true then wpAny (model prog w) A (execs body env) (fun f s₃ => match f with
            | .next | .cont => ∃ h' tk' m' k, s₃ = ⟨h', g, d, tk', os⟩ ∧ k < n ∧ Fr h₀ env.locals h' m' ∧ News h₀ env.locals h' news ∧ J k m'
            | .brk => ∃ h' tk' m', s₃ = ⟨h', g, d, tk', os⟩ ∧ Fr h₀ env.locals h' m' ∧ News h₀ env.locals h' news ∧ K m'
            | .ret v => Q (.ret v) s₃) (notedBy (model prog w) A env (cameBackBy (model prog w) A env E)) s₂
        else ∃ h' tk' m', s₂ = ⟨h', g, d, tk', os⟩ ∧ Fr h₀ env.locals h' m' ∧ News h₀ env.locals h' news ∧ K m') (notedBy (model prog w) A env (cameBackBy (model prog w) A env E)) ⟨h, g, d, tk, os⟩)
    (done : ∀ h' tk' m', K m' → Fr h₀ env.locals h' m' → News h₀ env.locals h' news → Q .next ⟨h', g, d, tk', os⟩) :
    wpAny (model prog w) A (exec (.While test body [] pos) env) Q E ⟨hp, g, d, tk₀, os⟩ := by
  refine wpAny_While (codeAny_whileLoop (fun n s' => ∃ h tk m, s' = ⟨h, g, d, tk, os⟩ ∧ Fr h₀ env.locals h m ∧ News h₀ env.locals h news ∧ J n m) ?_ n ⟨hp, tk₀, m, rfl, F, N, hj⟩)
  rintro n s' ⟨h, tk, m, rfl, F, N, hj⟩
  refine wpAny_mono (turn n m h tk hj F N) (fun b s₂ hb => ?_) fun _ _ e => e
  cases b with
  | false =>
    rw [if_neg Bool.false_ne_true] at hb
    simp only [Bool.false_eq_true, if_false]
    obtain ⟨h', tk', m', rfl, F', N', k⟩ := hb
    exact wpAny_execs_nil (done _ _ _ k F' N')
  | true =>
    rw [if_pos rfl] at hb
    simp only [if_true]
    refine wpAny_mono hb (fun f s₃ hf => ?_) fun _ _ e => e
    cases f with
    | next => obtain ⟨h', tk', m', k, e, hk, F', N', hj'⟩ := hf; exact ⟨k, hk, h', tk', m', e, F', N', hj'⟩
    | cont => obtain ⟨h', tk', m', k, e, hk, F', N', hj'⟩ := hf; exact ⟨k, hk, h', tk', m', e, F', N', hj'⟩
    | brk => obtain ⟨h', tk', m', rfl, F', N', k⟩ := hf; exact done _ _ _ k F' N'
    | ret v => exact hf
end
section
variable {prog : Program} {w : World} {A : Around} {E : Value → Shared → Prop} {s : Shared} {Q : Value → Shared → Prop}
theorem len_S {l : List Nat} {t : Tok} (h : l.length ≤ 1000) (hq : Q (.int (l.length : Int) (s.toks + 1)) { s with toks := s.toks + 1 + 1 }) : wpAny (model prog w) A (call (.builtin "len") [.str (mkS l) t]) Q E s :=
  SBL.len (by rw [mkS_len]; omega) (by rw [mkS_len]; exact hq)
/-- min of two ints -/
theorem min_S {h₀ : Heap} {L : Addr} {m : Str → Option Value} {news : List (Addr × Obj)} {a b : Int} {t u : Tok} (hh : A.handled = none) (F : Fr h₀ L s.heap m) (N : News h₀ L s.heap news)
    (h : ∀ h' tk t', Fr h₀ L h' m → News h₀ L h' news → Q (.int (min a b) t') { s with heap := h', toks := tk }) : wpAny (model prog w) A (call (.builtin "min") [.int a t, .int b u]) Q E s :=
  min_two_N hh F N fun h' tk F' N' => by
    have := h h' tk (if b < a then u else t) F' N'
    rw [show (if b < a then b else a) = min a b by split <;> omega]
    exact this
end
theorem Held.drop {S : List Addr} {h₀ h : Heap} {e L : Addr} {X : String} {fl : Value} (H : Held (L :: S) h₀ h e X fl) (hL : h₀.get? L = none) : Held S h₀ h e X fl := ⟨H.kf.drop hL, H.new, H.there⟩
section
variable {M : Model} {A : Around} {E : Value → Shared → Prop} {s : Shared} {S : List Addr} {h₀ : Heap} {e L f : Addr} {X : String} {name : Str} {scope : Scope} {cd : Value} {outer : List Env}
/-- a frame is left by an exception that it has noted -/
theorem leave_held (H : Held (L :: S) h₀ s.heap e X (rawInt L)) (hL : h₀.get? L = none) (h : ∀ h', Held S h₀ h' e X .none → E (.ref e) { s with heap := h' }) :
    wpAny M A (leaving (envOf name scope L f cd) (.ref e)) (fun _ s'' => E (.ref e) s'') (fun e' s'' => E e' s'') s := by
  unfold leaving
  exact wpAny_bind (note_again rfl H (held_setFlight H fun h' H' => h h' (H'.drop hL)))
/-- a new exception is noted within a loop's test, and goes out of the loop and of the frame -/
theorem out_of_loop {h : Heap} {m : Str → Option Value} (hfr : A.frames = some outer) (hfs : Fs h₀ outer) (F : Fr h₀ L h m) (hL : h₀.get? L = none) (hx : Heap.NewExc h s.heap e X) (hk : scope.kind = .function)
    (k : ∀ h', Held (sOf outer) h₀ h' e X .none → E (.ref e) { s with heap := h' }) :
    notedBy M (A.deeper (envOf name scope L f cd)) (envOf name scope L f cd) (cameBackBy M (A.deeper (envOf name scope L f cd)) (envOf name scope L f cd)
      fun e s' => wpAny M (A.deeper (envOf name scope L f cd)) (leaving (envOf name scope L f cd) e) (fun _ s'' => E e s'') (fun e' s'' => E e' s'') s') (.ref e) s := by
  obtain ⟨ob, tp, he, hcls, hd⟩ := hx.there
  have kk : Keeps h₀ s.heap := fun b o q => hx.keeps b o (F.keep b o q)
  have hen : h₀.get? e = none := by
    cases hq : h₀.get? e with
    | none => rfl
    | some o' => have := F.keep e o' hq; rw [hx.new] at this; cases this
  have fs : Fs s.heap (envOf name scope L f cd :: outer) := Fs.cons (hfs.kf (S := []) (Kf.of_keeps kk)) (F.ns.keeps hx.keeps) hk
  refine note_new (S := L :: sOf outer) (Around.frames_deeper hfr) rfl fs (fun b hb => hb) (Kf.of_keeps kk) hen he hcls hd rfl fun h' H => ?_
  refine held_back rfl H fun h'' H' => ?_
  exact leave_held (s := { s with heap := h'' }) H' hL fun h3 H3 => k h3 H3
end
theorem int_eq {x y : Int} {t : Tok} (h : x = y) : some (Value.int x t) = some (Value.int y t) := by rw [h]
/-- the blanks ahead -/
noncomputable def blanks (l : List Nat) : Nat := (l.takeWhile (· == 32)).length
noncomputable def cutL (l : List Nat) (a : Nat) : Option (List Nat) :=
  if blanks l = l.length then (if a > l.length then none else some (l.drop a))
  else some ((l.take (l.length - min (a - min a (blanks l)) (blanks l.reverse))).drop (min a (blanks l)))
theorem blanks_le (l : List Nat) : blanks l ≤ l.length := (List.takeWhile_prefix _).length_le
theorem blanks_at {l : List Nat} {i : Nat} (h : i < blanks l) : l[i]'(Nat.lt_of_lt_of_le h (blanks_le l)) = 32 := by
  induction l generalizing i with
  | nil => simp [blanks] at h
  | cons a l ih =>
    unfold blanks at h
    rw [List.takeWhile_cons] at h
    by_cases e : a = 32
    · rw [if_pos (by simpa using e)] at h
      cases i with
      | zero => simpa using e
      | succ i => exact ih (i := i) (by unfold blanks; simpa using h)
    · rw [if_neg (by simpa using e)] at h
      simp at h
theorem blanks_end {l : List Nat} (h : blanks l < l.length) : l[blanks l] ≠ 32 := by
  induction l with
  | nil => simp at h
  | cons a l ih =>
    by_cases e : a = 32
    · have hb : blanks (a :: l) = blanks l + 1 := by unfold blanks; rw [List.takeWhile_cons, if_pos (by simpa using e)]; simp
      have := ih (by rw [hb] at h; simpa using h)
      simp only [hb, List.getElem_cons_succ]
      exact this
    · have hb : blanks (a :: l) = 0 := by unfold blanks; rw [List.takeWhile_cons, if_neg (by simpa using e)]; simp
      simp only [hb, List.getElem_cons_zero]
      exact e
/-- .. are known by their end -/
theorem blanks_eq {l : List Nat} {p : Nat} (hp : p ≤ l.length) (h1 : ∀ i (hi : i < p), l[i]'(Nat.lt_of_lt_of_le hi hp) = 32) (h2 : ∀ h : p < l.length, l[p] ≠ 32) : blanks l = p := by
  rcases Nat.lt_trichotomy (blanks l) p with h | h | h
  · exact absurd (h1 _ h) (blanks_end (Nat.lt_of_lt_of_le h hp))
  · exact h
  · exact absurd (blanks_at h) (h2 (Nat.lt_of_lt_of_le h (blanks_le l)))
end Mine
section
open Mine
local macro_rules | `(tactic| walk_at "mlook") => `(tactic| first | assumption | exact if_pos rfl | (refine (if_neg (by decide)).trans ?_; walk_at "mlook") | rfl)
local macro_rules | `(tactic| walk_at "eval Name") => `(tactic| first
  | refine ld (by assumption) (by walk_at "mlook") ?_
  | refine ld_global_at (by assumption) (by assumption) (by assumption) ?_
  | refine ld_builtin_at (by assumption) (by assumption) (by assumption) (by assumption) (by assumption) ?_)
local macro_rules | `(tactic| walk_at "loadName") => `(tactic| refine ldn (by assumption) (by walk_at "mlook") ?_)
local macro_rules | `(tactic| walk_at "call builtin:len") => `(tactic| refine len_S (by first | assumption | (simp; omega)) ?_)
-- text C4
namespace Mine
theorem fresh_C4 : True := by w_top off; trivial
local macro_rules | `(tactic| walk_at "w") => `(tactic| first | ((with_reducible show wpAny _ _ _ _ _ _); walk1) | rw [if_neg Bool.false_ne_true] | ((with_reducible show ite _ _ _); walk1) | dsimp only)
local macro_rules | `(tactic| walk_at "mi") => `(tactic| (first | assumption | ((refine (if_pos rfl).trans (int_eq ?_)); omega) | exact if_pos rfl | ((refine (if_neg (by decide)).trans ?_); walk_at "mi") | ((refine Eq.trans (by assumption) (int_eq ?_)); omega)))
theorem blank_is {c : Nat} (e : (mkS [c] == Str.ofString " ") = true) : c = 32 := by
  rw [mkS_lit (l := [' ']) rfl, mkS_beq] at e
  simpa using e
theorem blank_not {c : Nat} (e : (mkS [c] == Str.ofString " ") = false) : c ≠ 32 := by
  rw [mkS_lit (l := [' ']) rfl, mkS_beq] at e
  simpa using e
theorem blanks_more {l : List Nat} {p : Nat} (h : p ≤ blanks l) (g : p < l.length) (e : l[p] = 32) : p + 1 ≤ blanks l := by
  rcases Nat.lt_or_ge p (blanks l) with h' | h'
  · exact h'
  · obtain rfl : p = blanks l := by omega
    exact absurd e (blanks_end g)
theorem blanks_stop {l : List Nat} {p : Nat} (h : p ≤ blanks l) (g : p < l.length) (e : l[p] ≠ 32) : p = blanks l := by
  rcases Nat.lt_or_ge p (blanks l) with h' | h'
  · exact absurd (blanks_at h') e
  · omega
theorem rev_blanks {l : List Nat} (h : blanks l < l.length) : blanks l.reverse ≤ l.length - 1 - blanks l := by
  rcases Nat.lt_or_ge (l.length - 1 - blanks l) (blanks l.reverse) with h' | h'
  · have := blanks_at h'
    rw [List.getElem_reverse] at this
    refine absurd ?_ (blanks_end h)
    rw [← this]
    congr 1
    omega
  · exact h'
theorem fits_small {i : Int} (h : -1000 ≤ i ∧ i ≤ 1000) : fitsSsize i = true := by
  unfold fitsSsize
  simp
  omega
inductive SpA (l : List Nat) (t : Tok) (a : Nat) (n : Nat) (m : Str → Option Value) : Prop
  | mk (p : Nat) (t1 tc : Tok) (e1 : m "s" = some (.str (mkS l) t)) (e2 : m "lpos" = some (.int (p : Int) t1)) (e3 : m "amount" = some (.int (n : Int) tc)) (e4 : p + n = a) (e5 : p ≤ blanks l) : SpA l t a n m
inductive SpB (l : List Nat) (t : Tok) (a : Nat) (m : Str → Option Value) : Prop
  | mk (p c : Nat) (t1 tc : Tok) (e1 : m "s" = some (.str (mkS l) t)) (e2 : m "lpos" = some (.int (p : Int) t1)) (e3 : m "amount" = some (.int (c : Int) tc)) (e4 : p + c = a) (e5 : p ≤ blanks l) (e6 : c = 0 ∨ p = blanks l ∧ p < l.length) : SpB l t a m
inductive SpC (l : List Nat) (t : Tok) (p c : Nat) (n : Nat) (m : Str → Option Value) : Prop
  | mk (q : Nat) (t1 t2 tc : Tok) (e1 : m "s" = some (.str (mkS l) t)) (e2 : m "lpos" = some (.int (p : Int) t1)) (e3 : m "rpos" = some (.int ((l.length : Int) - 1 - (q : Int)) t2)) (e4 : m "amount" = some (.int (n : Int) tc)) (e5 : q + n = c) (e6 : q ≤ blanks l.reverse) : SpC l t p c n m
inductive SpD (l : List Nat) (t : Tok) (p c : Nat) (m : Str → Option Value) : Prop
  | mk (q : Nat) (t1 t2 : Tok) (e1 : m "s" = some (.str (mkS l) t)) (e2 : m "lpos" = some (.int (p : Int) t1)) (e3 : m "rpos" = some (.int ((l.length : Int) - 1 - (q : Int)) t2)) (e4 : q ≤ c) (e5 : q ≤ blanks l.reverse) (e6 : q = c ∨ q = blanks l.reverse) : SpD l t p c m
section
variable {prog : Program} {w : World} {mean : ExcName → Option Value} {mg mb : Str → Option Value} {ad : Nat → Addr} {A : Around} {s : Shared} {Q E : Value → Shared → Prop} {h : Heap}
theorem c_strip {l : List Nat} {a : Nat} {t u : Tok} {outer : List Env} (G : GG w mean mg mb ad s.heap) (r : Rm 1 A) (hl : l.length ≤ 1000) (hfr : A.frames = some outer) (hfs : Fs s.heap outer)
    (hQ : ∀ y, cutL l a = some y → ∀ h' t' tk, Keeps s.heap h' → Q (.str (mkS y) tk) { s with heap := h', toks := t' })
    (hE : cutL l a = none → ∀ e h' t', Held (sOf outer) s.heap h' e "IndexError" .none → E (.ref e) { s with heap := h', toks := t' }) :
    wpAny (model prog w) A (call (.ref (ad 3)) [.str (mkS l) t, .int a u]) Q E s := by
  refine enterX (i := 3) (binds := [("s", .str (mkS l) t), ("amount", .int a u)]) dr3 G (by decide) rfl r (fun _ _ _ => by kernel_rfl!) (by kernel_rfl!) (by kernel_rfl!) fun L cd h₁ hL F N r' => ?_
  have hg := G.T.g
  have hb := G.T.b
  obtain ⟨b1, b2⟩ := G.len
  repeat' (first | (fail_if_success (with_reducible show wpAny _ _ (exec (.While _ _ _ _) _) _ _ _)); walk1 | dsimp only)
  rename Fr s.heap L _ _ => F₁
  rename News s.heap L _ _ => N₁
  refine While_X (SpA l t a)
    (SpB l t a) a F₁ N₁ ⟨0, _, _, rfl, rfl, rfl, by omega, by omega⟩ ?_ ?_
  · rintro n m h₂ tk ⟨p, t1, tc, m1, m2, m3, hp, hpb⟩ F₂ N₂
    replace F₂ : Fr s.heap L h₂ m := F₂
    replace N₂ : News s.heap L h₂ [] := N₂
    have hbl := blanks_le l
    have hpl : p ≤ l.length := Nat.le_trans hpb hbl
    repeat' ((fail_if_success (with_reducible show wpAny _ _ (subscriptTail _ _ _ _) _ _ _)); walk_at "w")
    · rename (n : Int) ≠ 0 => hn
      refine item_str_or r'.2.2 (fits_small (by omega)) (fun hout h' tk' e hx => ?_) fun g0 g1 => ?_
      · have ho : blanks l = l.length := by rw [mkS_len] at hout; omega
        refine out_of_loop hfr hfs F₂ hL hx rfl fun h3 H3 => hE ?_ _ _ _ H3
        rw [mkS_len] at hout
        unfold cutL
        rw [if_pos ho, if_pos (by omega)]
      · rw [mkS_len] at g1
        have g2 : p < l.length := by omega
        rw [it_at l p g2]
        repeat' (walk_at "w")
        · rename _ = true => e
          rename Fr s.heap L _ _ => F₃
          rename News s.heap L _ _ => N₃
          have e' := blank_is e
          obtain ⟨k, rfl⟩ : ∃ k, n = k + 1 := ⟨n - 1, by omega⟩
          exact ⟨_, _, _, k, rfl, by omega, F₃, N₃, p + 1, _, _, by walk_at "mi", by walk_at "mi", by walk_at "mi", by omega, blanks_more hpb g2 e'⟩
        · rename _ = false => e
          have e' := blank_not e
          exact ⟨_, _, _, rfl, F₂, N₂, p, n, _, _, m1, m2, m3, hp, hpb, .inr ⟨blanks_stop hpb g2 e', g2⟩⟩
    · rename (n : Int) = 0 => hn
      exact ⟨_, _, _, rfl, F₂, N₂, p, n, _, _, m1, m2, m3, hp, hpb, .inl (by omega)⟩
  · rintro h₂ tk m ⟨p, c, t1, tc, m1, m2, m3, hp, hpb, hc⟩ F₂ N₂
    replace F₂ : Fr s.heap L h₂ m := F₂
    replace N₂ : News s.heap L h₂ [] := N₂
    repeat' ((fail_if_success (with_reducible show wpAny _ _ (exec (.While _ _ _ _) _) _ _ _)); walk_at "w")
    rename Fr s.heap L _ _ => F₃
    rename News s.heap L _ _ => N₃
    have hbl := blanks_le l
    have hrl := blanks_le l.reverse
    rw [List.length_reverse] at hrl
    refine While_X (SpC l t p c)
      (SpD l t p c) c F₃ N₃
      ⟨0, _, _, _, by walk_at "mi", by walk_at "mi", by walk_at "mi", by walk_at "mi", by omega, by omega⟩ ?_ ?_
    · rintro n m' h₄ tk' ⟨q, u1, u2, uc, k1, k2, k3, k4, hq, hqb⟩ F₄ N₄
      replace F₄ : Fr s.heap L h₄ m' := F₄
      replace N₄ : News s.heap L h₄ [] := N₄
      repeat' ((fail_if_success (with_reducible show wpAny _ _ (subscriptTail _ _ _ _) _ _ _)); walk_at "w")
      · rename (n : Int) ≠ 0 => hn
        obtain ⟨hpb', hpl⟩ : p = blanks l ∧ p < l.length := hc.resolve_left (by omega)
        subst hpb'
        have hr := rev_blanks hpl
        have g2 : l.length - 1 - q < l.length := by omega
        have eq : (l.length : Int) - 1 - (q : Int) = ((l.length - 1 - q : Nat) : Int) := by omega
        refine item_str_or r'.2.2 (fits_small (by omega)) (fun hout h' tk' e hx => ?_) fun g0 g1 => ?_
        · rw [mkS_len] at hout; omega
        rw [eq, it_at l _ g2]
        have er : l[l.length - 1 - q] = l.reverse[q]'(by rw [List.length_reverse]; omega) := by rw [List.getElem_reverse]
        repeat' (walk_at "w")
        · rename _ = true => e
          rename Fr s.heap L _ _ => F₅
          rename News s.heap L _ _ => N₅
          have e' := blank_is e
          obtain ⟨k, rfl⟩ : ∃ k, n = k + 1 := ⟨n - 1, by omega⟩
          exact ⟨_, _, _, k, rfl, by omega, F₅, N₅, q + 1, _, _, _, by walk_at "mi", by walk_at "mi", by walk_at "mi", by walk_at "mi", by omega, blanks_more hqb (by rw [List.length_reverse]; omega) (er.symm.trans e')⟩
        · rename _ = false => e
          have e' := blank_not e
          exact ⟨_, _, _, rfl, F₄, N₄, q, _, _, k1, k2, k3, by omega, hqb, .inr (blanks_stop hqb (by rw [List.length_reverse]; omega) (fun x => e' (er.trans x)))⟩
      · rename (n : Int) = 0 => hn
        exact ⟨_, _, _, rfl, F₄, N₄, q, _, _, k1, k2, k3, by omega, hqb, .inl (by omega)⟩
    · rintro h₄ tk' m' ⟨q, u1, u2, k1, k2, k3, hq, hqb, hqc⟩ F₄ N₄
      replace F₄ : Fr s.heap L h₄ m' := F₄
      replace N₄ : News s.heap L h₄ [] := N₄
      repeat' (walk_at "w")
      rename Fr s.heap L _ _ => F₅
      have e1 : (l.length : Int) - 1 - (q : Int) + 1 = ((l.length - q : Nat) : Int) := by omega
      have hle : p ≤ l.length - q := by
        rcases hc with rfl | ⟨rfl, g⟩
        · omega
        · have := rev_blanks g
          omega
      rw [e1, sl_both l p _ hle (by omega)]
      refine hQ _ ?_ _ _ _ F₅.keep
      unfold cutL
      by_cases g : blanks l = l.length
      · have hc0 : c = 0 := by omega
        obtain rfl : q = 0 := by omega
        obtain rfl : p = a := by omega
        rw [if_pos g, if_neg (by omega)]
        simp
      · rw [if_neg g]
        have h1 : p = min a (blanks l) := by omega
        have h2 : q = min (a - min a (blanks l)) (blanks l.reverse) := by omega
        rw [← h1] at h2 ⊢
        rw [← h2]
end
end Mine
-- text S2
namespace Mine
theorem fresh_S2 : True := by w_top off; trivial
section
variable {prog : Program} {w : World} {A : Around} {E : Value → Shared → Prop} {hp : Heap} {g : Array GenState} {d : Drawn} {tk : Nat} {os : OsState} {Q : Value → Shared → Prop} {h₀ : Heap} {L : Addr} {m : Str → Option Value} {news : List (Addr × Obj)} {value slice : Expr} {l : List Nat} {t : Tok}
theorem size_S (hl : l.length ≤ 1000) : (mkS l).length ≤ sizeLine := by rw [mkS_len]; exact Nat.le_trans hl (by decide)
theorem slS_sn {i : Nat} {ui : Tok} (hF : Fr h₀ L hp m) (hN : News h₀ L hp news) (hl : l.length ≤ 1000) (h : ∀ h' t' k, Fr h₀ L h' m → News h₀ L h' news → Q (.str (mkS (l.drop i)) t') ⟨h', g, d, k, os⟩)
    (hs : subscripted slice false (.str (mkS l) t) (.ref hp.objs.size) = operate [.ref hp.objs.size, .str (mkS l) t] (getItem (.str (mkS l) t) (.ref hp.objs.size)) := by with_unfolding_all rfl)
    (ht : ∀ r, letTemporaryGo value (.str (mkS l) t) r = pure () := by intro _; with_unfolding_all rfl) :
    wpAny (model prog w) A (subscriptTail value slice (.str (mkS l) t) (.ref hp.objs.size)) Q E ⟨hp.push { cls := .type "slice", data := .fields #[.int (i : Int) ui, .none, .none] }, g, d, tk, os⟩ :=
  slice_strN_sn (s := ⟨hp, g, d, tk, os⟩) hF hN (fun h' t' k a b => by rw [sl_from]; exact h h' t' k a b) hs ht (size_S hl)
theorem slS_ns {j : Nat} {ui : Tok} (hF : Fr h₀ L hp m) (hN : News h₀ L hp news) (hl : l.length ≤ 1000) (h : ∀ h' t' k, Fr h₀ L h' m → News h₀ L h' news → Q (.str (mkS (l.take j)) t') ⟨h', g, d, k, os⟩)
    (hs : subscripted slice false (.str (mkS l) t) (.ref hp.objs.size) = operate [.ref hp.objs.size, .str (mkS l) t] (getItem (.str (mkS l) t) (.ref hp.objs.size)) := by with_unfolding_all rfl)
    (ht : ∀ r, letTemporaryGo value (.str (mkS l) t) r = pure () := by intro _; with_unfolding_all rfl) :
    wpAny (model prog w) A (subscriptTail value slice (.str (mkS l) t) (.ref hp.objs.size)) Q E ⟨hp.push { cls := .type "slice", data := .fields #[.none, .int (j : Int) ui, .none] }, g, d, tk, os⟩ :=
  slice_strN_ns (s := ⟨hp, g, d, tk, os⟩) hF hN (fun h' t' k a b => by rw [sl_to]; exact h h' t' k a b) hs ht (size_S hl)
/-- l[:-k], and l[:None] for k nought -/
theorem slS_neg {k : Nat} {v : Value} (hF : Fr h₀ L hp m) (hN : News h₀ L hp news) (hl : l.length ≤ 1000) (hv : (k = 0 ∧ v = .none) ∨ (0 < k ∧ k ≤ l.length ∧ ∃ u, v = .int (-(k : Int)) u))
    (h : ∀ h' t' k', Fr h₀ L h' m → News h₀ L h' news → Q (.str (mkS (l.take (l.length - k))) t') ⟨h', g, d, k', os⟩)
    (hs : subscripted slice false (.str (mkS l) t) (.ref hp.objs.size) = operate [.ref hp.objs.size, .str (mkS l) t] (getItem (.str (mkS l) t) (.ref hp.objs.size)) := by with_unfolding_all rfl)
    (ht : ∀ r, letTemporaryGo value (.str (mkS l) t) r = pure () := by intro _; with_unfolding_all rfl) :
    wpAny (model prog w) A (subscriptTail value slice (.str (mkS l) t) (.ref hp.objs.size)) Q E ⟨hp.push { cls := .type "slice", data := .fields #[.none, v, .none] }, g, d, tk, os⟩ := by
  rcases hv with ⟨rfl, rfl⟩ | ⟨h0, h1, u, rfl⟩
  · refine slice_strN_nn (s := ⟨hp, g, d, tk, os⟩) hF hN (fun h' t' k a b => ?_) hs ht (size_S hl)
    rw [sl_all]
    have := h h' t' k a b
    simp only [Nat.sub_zero, List.take_length] at this
    exact this
  · refine slice_strN_ns (s := ⟨hp, g, d, tk, os⟩) hF hN (fun h' t' k' a b => ?_) hs ht (size_S hl)
    rw [sl_to_neg l k h0 h1]
    exact h h' t' k' a b
theorem slS_ss {z y : Int} {ui uj : Tok} {i j : Nat} (hF : Fr h₀ L hp m) (hN : News h₀ L hp news) (hl : l.length ≤ 1000) (hz : z = i) (hy : y = j) (h1 : i ≤ j) (h2 : j ≤ l.length) (h : ∀ h' t' k, Fr h₀ L h' m → News h₀ L h' news → Q (.str (mkS ((l.take j).drop i)) t') ⟨h', g, d, k, os⟩)
    (hs : subscripted slice false (.str (mkS l) t) (.ref hp.objs.size) = operate [.ref hp.objs.size, .str (mkS l) t] (getItem (.str (mkS l) t) (.ref hp.objs.size)) := by with_unfolding_all rfl)
    (ht : ∀ r, letTemporaryGo value (.str (mkS l) t) r = pure () := by intro _; with_unfolding_all rfl) :
    wpAny (model prog w) A (subscriptTail value slice (.str (mkS l) t) (.ref hp.objs.size)) Q E ⟨hp.push { cls := .type "slice", data := .fields #[.int z ui, .int y uj, .none] }, g, d, tk, os⟩ := by
  subst hz hy
  exact slice_strN_ss (s := ⟨hp, g, d, tk, os⟩) hF hN (fun h' t' k a b => by rw [sl_both l i j h1 h2]; exact h h' t' k a b) hs ht (size_S hl)
/-- one sign of a text -/
theorem itS {z : Int} {u : Tok} (i : Nat) (hA : A.handled = none) (hl : l.length ≤ 1000) (hi : i < l.length) (hz : z = i) (h : ∀ t', Q (.str (mkS [l[i]]) t') ⟨hp, g, d, tk + 1, os⟩)
    (hs : subscripted slice false (.str (mkS l) t) (.int z u) = operate [.str (mkS l) t, .int z u] (getItem (.str (mkS l) t) (.int z u)) := by with_unfolding_all rfl)
    (ht : ∀ r, letTemporaryGo value (.str (mkS l) t) r = pure () := by intro _; with_unfolding_all rfl) :
    wpAny (model prog w) A (subscriptTail value slice (.str (mkS l) t) (.int z u)) Q E ⟨hp, g, d, tk, os⟩ := by
  subst hz
  refine item_str_or hA (fits_small (by omega)) (fun ho => ?_) (fun _ _ => ?_) hs ht
  · rw [mkS_len] at ho; omega
  · rw [it_at l i hi]; exact h _
theorem itS_neg {z : Int} {u : Tok} (k : Nat) (hA : A.handled = none) (hl : l.length ≤ 1000) (h0 : 0 < k) (hi : k ≤ l.length) (hz : z = -(k : Int)) (h : ∀ t', Q (.str (mkS [l[l.length - k]'(by omega)]) t') ⟨hp, g, d, tk + 1, os⟩)
    (hs : subscripted slice false (.str (mkS l) t) (.int z u) = operate [.str (mkS l) t, .int z u] (getItem (.str (mkS l) t) (.int z u)) := by with_unfolding_all rfl)
    (ht : ∀ r, letTemporaryGo value (.str (mkS l) t) r = pure () := by intro _; with_unfolding_all rfl) :
    wpAny (model prog w) A (subscriptTail value slice (.str (mkS l) t) (.int z u)) Q E ⟨hp, g, d, tk, os⟩ := by
  subst hz
  refine item_str_or hA (fits_small (by omega)) (fun ho => ?_) (fun _ _ => ?_) hs ht
  · rw [mkS_len] at ho; omega
  · rw [it_neg l k h0 hi]; exact h _
theorem truthy_S {Q : Bool → Shared → Prop} (hl : l.length ≤ 1000) (h1 : l ≠ [] → Q true ⟨hp, g, d, tk + 1 + 1, os⟩) (h2 : l = [] → Q false ⟨hp, g, d, tk + 1 + 1, os⟩) : wpAny (model prog w) A (truthy (.str (mkS l) t)) Q E ⟨hp, g, d, tk, os⟩ := by
  refine P.truthy_str (by rw [mkS_len]; omega) ?_
  rw [mkS_len]
  cases l with
  | nil => exact h2 rfl
  | cons a l =>
    have : (((a :: l).length : Int) != 0) = true := by simp; omega
    rw [this]
    exact h1 (by simp)
end
end Mine
-- text L1
namespace Mine
theorem fresh_L1 : True := by w_top off; trivial
theorem range_size (n : Nat) : Builtin.Range.rangeSize 0 (n : Int) 1 = (n : Int) := by
  unfold Builtin.Range.rangeSize
  rw [if_pos (by decide)]
  by_cases h : (0 : Int) < n
  · rw [if_pos h, Int.ediv_one]; omega
  · rw [if_neg h]; omega
theorem range_small (n : Nat) (h : n < 2 ^ 31) : Builtin.Range.small 0 (n : Int) 1 = true := by
  unfold Builtin.Range.small
  rw [range_size]
  unfold Builtin.Range.rangeFitsLong
  simp
  omega
theorem News.one {h₀ h : Heap} {L a : Addr} {o : Obj} {news : List (Addr × Obj)} (N : News h₀ L h news) (e : h.get? a = some o) (hL : a ≠ L) (hn : h₀.get? a = none) : News h₀ L h ((a, o) :: news) := by
  intro p hp
  rcases List.mem_cons.mp hp with rfl | hp
  · exact ⟨e, hL, hn⟩
  · exact N p hp
theorem News.sub {h₀ h : Heap} {L : Addr} {a b : List (Addr × Obj)} (N : News h₀ L h a) (hs : ∀ p ∈ b, p ∈ a) : News h₀ L h b := fun p hp => N p (hs p hp)
theorem News.but {h₀ h h' : Heap} {L I : Addr} {o : Obj} {news : List (Addr × Obj)} (N : News h₀ L h news) (hs : Heap.SameBut I h h') (hI : ∀ p ∈ news, p.1 ≠ I) : News h₀ L h' news :=
  fun p hp => ⟨hs.extBut _ _ (hI p hp) (N p hp).1, (N p hp).2⟩
theorem Fr.but {h₀ h h' : Heap} {L I : Addr} {m : Str → Option Value} (F : Fr h₀ L h m) (hs : Heap.ExtBut I h h') (hI : L ≠ I) (hn : h₀.get? I = none) : Fr h₀ L h' m :=
  ⟨F.ns.at' fun o e => hs _ _ hI e, fun b o e => hs _ _ (fun q => by rw [q, hn] at e; cases e) (F.keep b o e), F.above⟩
/-- the last of the new objects is written -/
theorem News.put {h₀ h h' : Heap} {L a : Addr} {o o' : Obj} {pre : List (Addr × Obj)} (N : News h₀ L h (pre ++ [(a, o)])) (sb : Heap.SameBut a h h') (e : h'.get? a = some o') (hne : ∀ p ∈ pre, p.1 ≠ a) : News h₀ L h' (pre ++ [(a, o')]) := by
  intro p hp
  rcases List.mem_append.mp hp with hp | hp
  · have := N p (List.mem_append_left _ hp)
    exact ⟨sb.extBut _ _ (hne p hp) this.1, this.2⟩
  · rw [List.mem_singleton.mp hp]
    have := N (a, o) (by simp)
    exact ⟨e, this.2⟩
section
variable {prog : Program} {w : World} {A : Around} {E : Value → Shared → Prop} {env : Env} {h₀ hp : Heap} {g : Array GenState} {d : Drawn} {tk₀ : Nat} {os : OsState} {x : Str} {px : Pos} {body : List Stmt} {Q : Flow → Shared → Prop} {m : Str → Option Value} {nx : List (Addr × Obj)}
/-- a for over range(n): J by the turn's number -/
theorem loop_range {r : Addr} {b₀ : Int} {t₀ u₀ v₀ : Tok} {n : Nat} (J : Nat → (Str → Option Value) → List (Addr × Obj) → Prop) (hx : env.kindOf x = some .local)
    (hh : A.handled = none) (hr : IsRange hp r 0 b₀ 1 t₀ u₀ v₀) (hb : b₀ = (n : Int)) (hlt : n < 2 ^ 31) (F : Fr h₀ env.locals hp m) (N : News h₀ env.locals hp nx) (hJ : J 0 m nx)
    (turn : ∀ (i : Nat) t m nx h tk I oi, i < n → (∀ p ∈ nx, p.1 ≠ I) → J i m nx → Fr h₀ env.locals h (fun y => if y = x then some (.int (i : Int) t) else m y) → News h₀ env.locals h ((I, oi) :: nx) →
      wpAny (model prog w) A (execs body env) (fun f s₃ => match f with
        | .next | .cont => ∃ h' tk' m' nx', s₃ = ⟨h', g, d, tk', os⟩ ∧ Fr h₀ env.locals h' m' ∧ News h₀ env.locals h' ((I, oi) :: nx') ∧ nx'.map (·.1) = nx.map (·.1) ∧ J (i + 1) m' nx'
        | .brk => Q .next s₃
        | .ret v => Q (.ret v) s₃) (notedBy (model prog w) A env (cameBackBy (model prog w) A env E)) ⟨h, g, d, tk, os⟩)
    (done : ∀ m nx h tk, J n m nx → Fr h₀ env.locals h m → News h₀ env.locals h nx → Q .next ⟨h, g, d, tk, os⟩)
    (hk : (env.scope.kind == .class || (env.scope.kind == .module && env.locals != env.globals)) = false := by rfl) :
    wpAny (model prog w) A (pyIter (.ref r)) (fun it s₂ => codeAny (model prog w) A (.forLoop (.Name x px) it body [] env) (fun r s' => match r with | .ok f => Q f s' | .error e => cameBackBy (model prog w) A env E e s') s₂) E ⟨hp, g, d, tk₀, os⟩ := by
  subst hb
  refine wpAny_pyIter_range hr (range_small n hlt) ?_
  rw [range_size]
  generalize hI : hp.objs.size = I
  have hL : I ≠ env.locals := by rw [← hI]; exact Nat.ne_of_gt F.ns.lt
  have hn0 : h₀.get? I = none := by rw [← hI]; exact next_is_new F
  have hnI : ∀ p ∈ nx, p.1 ≠ I := fun p hp => by rw [← hI]; exact Nat.ne_of_lt (Heap.lt_size (N p hp).1)
  refine codeAny_forLoop (fun k s' => ∃ h tk m nx i, s' = ⟨h, g, d, tk, os⟩ ∧ i + k = n ∧ IsRangeIter h I (i : Int) ((n : Int) - i) 1 ∧ Fr h₀ env.locals h m ∧ News h₀ env.locals h nx ∧ (∀ p ∈ nx, p.1 ≠ I) ∧ J i m nx) ?_ n ?_
  · rintro k s' ⟨h, tk, m, nx, i, rfl, hk', it, F, N, hnI, hj⟩
    by_cases hin : i < n
    · refine wpAny_pyNext_range_item it (by omega) fun h' it' sb => ?_
      have F' := Fr.but F sb.extBut hL.symm hn0
      have e1 : ((i : Int) + 1) = ((i + 1 : Nat) : Int) := by omega
      have e2 : ((n : Int) - i - 1) = (n : Int) - (i + 1 : Nat) := by omega
      rw [e1, e2] at it'
      obtain ⟨oi, hoi, hod⟩ : ∃ oi, h'.get? I = some oi ∧ ∀ h'', h''.get? I = some oi → IsRangeIter h'' I ((i + 1 : Nat) : Int) ((n : Int) - (i + 1 : Nat)) 1 := by
        unfold IsRangeIter at it' ⊢
        exact ⟨_, it', fun h'' e => e⟩
      have N' : News h₀ env.locals h' ((I, oi) :: nx) := News.one (News.but (o := oi) N sb hnI) hoi hL hn0
      refine wpAny_assign_Name (wpAny_storeName_local hx F'.ns (fun h₂ hn₂ sb₂ => ?_) hk)
      refine wpAny_mono (turn i _ m nx h₂ _ I oi hin hnI hj (F'.set hn₂ sb₂) (N'.set sb₂)) (fun f s₃ hf => ?_) fun _ _ e => e
      cases f with
      | next =>
        obtain ⟨h₃, tk₃, m₃, nx₃, rfl, F₃, N₃, ha, hj₃⟩ := hf
        exact ⟨k - 1, by omega, h₃, tk₃, m₃, nx₃, i + 1, rfl, by omega, hod _ (N₃.get (.head _)), F₃, News.sub N₃ fun p hp => .tail _ hp, fun p hp => by
          have : p.1 ∈ nx₃.map (·.1) := List.mem_map_of_mem hp
          rw [ha] at this
          obtain ⟨q, hq, e⟩ := List.mem_map.mp this
          rw [← e]; exact hnI q hq, hj₃⟩
      | cont =>
        obtain ⟨h₃, tk₃, m₃, nx₃, rfl, F₃, N₃, ha, hj₃⟩ := hf
        exact ⟨k - 1, by omega, h₃, tk₃, m₃, nx₃, i + 1, rfl, by omega, hod _ (N₃.get (.head _)), F₃, News.sub N₃ fun p hp => .tail _ hp, fun p hp => by
          have : p.1 ∈ nx₃.map (·.1) := List.mem_map_of_mem hp
          rw [ha] at this
          obtain ⟨q, hq, e⟩ := List.mem_map.mp this
          rw [← e]; exact hnI q hq, hj₃⟩
      | brk => exact hf
      | ret v => exact hf
    · obtain rfl : i = n := by omega
      refine wpAny_pyNext_range_end hh it (by omega) fun h' sb => ?_
      refine wpAny_execs_nil (done m nx h' _ hj (Fr.but F sb hL.symm hn0) fun p hp => ⟨sb _ _ (hnI p hp) (N p hp).1, (N p hp).2⟩)
  · refine ⟨_, _, m, nx, 0, rfl, by omega, ?_, F.push _, fun p hp => ⟨Heap.get?_push_of_some _ (N p hp).1, (N p hp).2⟩, hnI, hJ⟩
    rw [← hI]
    unfold IsRangeIter
    have := Heap.get?_push_size hp (o := { cls := .type "range_iterator", data := .fields #[rawInt 0, rawInt n, rawInt 1] }) rfl
    simpa using this
end
end Mine
section
open Mine
local macro_rules | `(tactic| walk_at "w") => `(tactic| first | ((with_reducible show wpAny _ _ _ _ _ _); walk1) | ((with_reducible show _ ∧ wpAny _ _ _ _ _ _); refine ⟨Fr.keep (by assumption) _ _ (by assumption), ?_⟩) | rw [if_neg Bool.false_ne_true] | ((with_reducible show ite _ _ _); walk1) | dsimp only)
local macro_rules | `(tactic| walk_at "mi") => `(tactic| (first | assumption | ((refine (if_pos rfl).trans (int_eq ?_)); omega) | exact if_pos rfl | ((refine (if_neg (by decide)).trans ?_); walk_at "mi") | ((refine Eq.trans (by assumption) (int_eq ?_)); omega) | rfl))
local macro_rules | `(tactic| walk_at "lenS") => `(tactic| (first | assumption | ((simp only [List.length_drop, List.length_take]); omega)))
local macro_rules | `(tactic| walk_at "truthy str") => `(tactic| refine truthy_S (by walk_at "lenS") (fun _ => ?_) (fun _ => ?_))
local macro_rules | `(tactic| walk_at "subscriptTail Name Slice str ref") => `(tactic| first
  | refine slS_sn (by assumption) (by assumption) (by walk_at "lenS") (fun _ _ _ _ _ => ?_)
  | refine slS_ns (by assumption) (by assumption) (by walk_at "lenS") (fun _ _ _ _ _ => ?_))
local macro_rules | `(tactic| walk_at "call builtin:min") => `(tactic| refine min_S (Rm.hd (by assumption)) (by assumption) (by assumption) (fun _ _ _ _ _ => ?_))
local macro_rules | `(tactic| walk_at "unpackItems ref") => `(tactic| (refine unpackItems_ (by assumption) (News.isTup (by assumption) (.head _)) (Rm.hd (by assumption)) (by rfl) ?_; intro _ _))
-- text C5
namespace Mine
theorem fresh_C5 : True := by w_top off; trivial
section
variable {prog : Program} {w : World} {A : Around} {E : Value → Shared → Prop} {s : Shared} {Q : Value → Shared → Prop} {h₀ : Heap} {L : Addr} {m : Str → Option Value} {f : Addr} {cd : Value}
theorem ev_post {q : Nat} {tq : Tok} {k : Nat} {p1 p2 p3 : Pos} (F : Fr h₀ L s.heap m) (hv : m "post" = some (.int (-(q : Int)) tq)) (h : ∀ v, (q = 0 ∧ v = .none) ∨ (0 < q ∧ v = .int (-(q : Int)) tq) → Q v s) :
    wpAny (model prog w) A (eval (.BoolOp .Or [.Name "post" p1, .Constant .none k p2] p3) (envOf (nm 14) (dr 14).scope L f cd)) Q E s := by
  repeat' (walk_at "w")
  · exact h _ (.inr ⟨by omega, rfl⟩)
  · exact h _ (.inl ⟨by omega, rfl⟩)
theorem neg_of {q n : Nat} {v : Value} {tq : Tok} (h : (q = 0 ∧ v = .none) ∨ (0 < q ∧ v = .int (-(q : Int)) tq)) (hq : q ≤ n) : (q = 0 ∧ v = .none) ∨ (0 < q ∧ q ≤ n ∧ ∃ u, v = .int (-(q : Int)) u) := by
  rcases h with h | ⟨h1, h2⟩
  · exact .inl h
  · exact .inr ⟨h1, hq, _, h2⟩
end
local macro_rules | `(tactic| walk_at "eval BoolOp") => `(tactic| refine ev_post (by assumption) (by walk_at "mlook") (fun _ _ => ?_))
local macro_rules | `(tactic| walk_at "subscriptTail Name Slice str ref") => `(tactic| refine slS_neg (by assumption) (by assumption) (by walk_at "lenS") (neg_of (by assumption) (by omega)) (fun _ _ _ _ _ => ?_))
/-- the signs two texts have in common ahead -/
noncomputable def cpre : List Nat → List Nat → Nat
  | x :: xs, y :: ys => if x = y then cpre xs ys + 1 else 0
  | _, _ => 0
theorem cpre_le : ∀ (a b : List Nat), cpre a b ≤ a.length ∧ cpre a b ≤ b.length
  | x :: xs, y :: ys => by
    unfold cpre
    have := cpre_le xs ys
    split <;> simp <;> omega
  | [], _ => by simp [cpre]
  | _ :: _, [] => by simp [cpre]
theorem cpre_at : ∀ (a b : List Nat) (i : Nat) (h : i < cpre a b), a[i]'(Nat.lt_of_lt_of_le h (cpre_le a b).1) = b[i]'(Nat.lt_of_lt_of_le h (cpre_le a b).2)
  | x :: xs, y :: ys, i, h => by
    unfold cpre at h
    by_cases e : x = y
    · cases i with
      | zero => simpa using e
      | succ i => simpa using cpre_at xs ys i (by rw [if_pos e] at h; omega)
    · rw [if_neg e] at h; omega
  | [], _, i, h => by simp [cpre] at h
  | _ :: _, [], i, h => by simp [cpre] at h
theorem cpre_end : ∀ (a b : List Nat) (h1 : cpre a b < a.length) (h2 : cpre a b < b.length), a[cpre a b] ≠ b[cpre a b]
  | x :: xs, y :: ys, h1, h2 => by
    by_cases e : x = y
    · have hc : cpre (x :: xs) (y :: ys) = cpre xs ys + 1 := by simp [cpre, e]
      have := cpre_end xs ys (by rw [hc] at h1; simpa using h1) (by rw [hc] at h2; simpa using h2)
      simp only [hc, List.getElem_cons_succ]
      exact this
    · have hc : cpre (x :: xs) (y :: ys) = 0 := by simp [cpre, e]
      simp only [hc, List.getElem_cons_zero]
      exact e
  | [], _, h1, _ => by simp at h1
  | _ :: _, [], _, h2 => by simp at h2
theorem cpre_more {a b : List Nat} {p : Nat} (h : p ≤ cpre a b) (g1 : p < a.length) (g2 : p < b.length) (e : a[p] = b[p]) : p + 1 ≤ cpre a b := by
  rcases Nat.lt_or_ge p (cpre a b) with h' | h'
  · exact h'
  · obtain rfl : p = cpre a b := by omega
    exact absurd e (cpre_end a b g1 g2)
theorem cpre_stop {a b : List Nat} {p : Nat} (h : p ≤ cpre a b) (g1 : p < a.length) (g2 : p < b.length) (e : a[p] ≠ b[p]) : p = cpre a b := by
  rcases Nat.lt_or_ge p (cpre a b) with h' | h'
  · exact absurd (cpre_at a b p h') e
  · omega
theorem sign_is {c d : Nat} (e : (mkS [c] == mkS [d]) = true) : c = d := by
  rw [mkS_beq] at e
  simpa using e
theorem sign_not {c d : Nat} (e : (mkS [c] == mkS [d]) = false) : c ≠ d := by
  rw [mkS_beq] at e
  simpa using e
/-- a row of the table, for one sign of b: the new row, its last and its least -/
noncomputable def sc (x y : Nat) : Int := subCost (mkS [x]) (mkS [y])
noncomputable def inner (c : Nat) : List Nat → List Int → Int → Int → Int → List Int × Int × Int
  | x :: xs, o :: os, d, r, mn =>
    let r' := min (min r o + 2) (d + sc c x)
    let y := inner c xs os o r' (if r' < mn then r' else mn)
    (r' :: y.1, y.2)
  | _, _, _, r, mn => ([], r, mn)
noncomputable def rows (a : List Nat) (mx : Int) : List Nat → Int → List Int → Int → Int
  | [], _, _, last => last
  | c :: b, j, row, _ =>
    let y := inner c a row (j * 2) (j * 2) 9223372036854775807
    if y.2.2 > mx then mx + 1 else rows a mx b (j + 1) y.1 y.2.1
noncomputable def lev2 (a b : List Nat) (mx : Int) : Int :=
  if ((b.length : Int) - a.length) * 2 > mx then mx + 1 else rows a mx b 0 (List.map (fun (i : Nat) => 2 + (i : Int) * 2) (List.range a.length)) 0
noncomputable def lev1 (a b : List Nat) (mx : Int) : Int :=
  if a = [] ∨ b = [] then 2 * ((a.length : Int) + b.length)
  else if 40 < a.length ∨ 40 < b.length then mx + 1
  else if b.length < a.length then lev2 b a mx else lev2 a b mx
noncomputable def trimB (a b : List Nat) : List Nat := a.take (a.length - cpre a.reverse b.reverse)
noncomputable def lev (a b : List Nat) (mx : Int) : Int :=
  if a = b then 0 else lev1 (trimB (a.drop (cpre a b)) (b.drop (cpre a b))) (trimB (b.drop (cpre a b)) (a.drop (cpre a b))) mx
noncomputable def K1 (a b : List Nat) (mx : Nat) (t u v : Tok) (m : Str → Option Value) : Prop := ∃ (t1 : Tok), m "a" = some (.str (mkS a) t) ∧ m "b" = some (.str (mkS b) u) ∧ m "max_cost" = some (.int mx v) ∧ m "pre" = some (.int (cpre a b : Int) t1)
noncomputable def K2 (a b : List Nat) (mx : Nat) (v : Tok) (m : Str → Option Value) : Prop := ∃ (q : Nat) (ta tb tq : Tok), m "a" = some (.str (mkS a) ta) ∧ m "b" = some (.str (mkS b) tb) ∧ m "max_cost" = some (.int mx v) ∧ m "post" = some (.int (-(q : Int)) tq) ∧ q = cpre a.reverse b.reverse
end Mine
-- text C6
namespace Mine
theorem fresh_C6 : True := by w_top off; trivial
theorem IntsAre.put : ∀ {vs : List Value} {ns : List Int}, IntsAre vs ns → ∀ (i : Nat) (x : Int) (t : Tok), IntsAre (vs.set i (.int x t)) (ns.set i x)
  | _, _, .nil, i, x, t => by simp; exact .nil
  | _, _, .cons n u h, 0, x, t => by simp; exact .cons x t h
  | _, _, .cons n u h, i + 1, x, t => by simp; exact .cons n u (IntsAre.put h i x t)
theorem set_mid {np : List Int} {x y : Int} {r : List Int} {i : Nat} (h : np.length = i) : (np ++ x :: r).set i y = (np ++ [y]) ++ r := by
  subst h
  simp
theorem inner_step {c x : Nat} {xs : List Nat} {o : Int} {os : List Int} {d r mn R : Int} (h : min (min r o + 2) (d + subCost (mkS [c]) (mkS [x])) = R) :
    inner c (x :: xs) (o :: os) d r mn = (R :: (inner c xs os o R (if R < mn then R else mn)).1, (inner c xs os o R (if R < mn then R else mn)).2) := by
  subst h
  rfl
theorem rows_cons {a : List Nat} {mx : Int} {c : Nat} {b : List Nat} {j : Int} {row : List Int} {l : Int} :
    rows a mx (c :: b) j row l = if (inner c a row (j * 2) (j * 2) 9223372036854775807).2.2 > mx then mx + 1 else rows a mx b (j + 1) (inner c a row (j * 2) (j * 2) 9223372036854775807).1 (inner c a row (j * 2) (j * 2) 9223372036854775807).2.1 := rfl
noncomputable def dpRest : List Stmt := (dr 14).body.drop 12
inductive RowsInv (a b : List Nat) (mx : Nat) (ta tb v : Tok) (j : Nat) (m : Str → Option Value) (nx : List (Addr × Obj)) : Prop
  | mk (ra : Addr) (o : Obj) (vs : List Value) (cn : Nat) (row : List Int) (last : Int) (tl : Tok) (e0 : nx = [(ra, o)]) (e1 : o.cls = .type "list") (e2 : o.data = .seq vs.toArray cn) (e3 : IntsAre vs row) (e4 : row.length = a.length)
      (e5 : m "a" = some (.str (mkS a) ta)) (e6 : m "b" = some (.str (mkS b) tb)) (e7 : m "max_cost" = some (.int mx v)) (e8 : m "row" = some (.ref ra)) (e9 : m "result" = some (.int last tl)) (e10 : rows a mx b 0 (rangeInts 2 2 a.length) 0 = rows a mx (b.drop j) j row last) : RowsInv a b mx ta tb v j m nx
inductive InnerInv (a b : List Nat) (mx : Nat) (ta tb v : Tok) (row : List Int) (I : Addr) (oi : Obj) (ra : Addr) (bj j : Nat) (i : Nat) (m : Str → Option Value) (nx : List (Addr × Obj)) : Prop
  | mk (o : Obj) (vs : List Value) (cn : Nat) (np : List Int) (dd rr mn : Int) (t1 t2 t3 tj tc : Tok) (e0 : nx = [(I, oi), (ra, o)]) (e1 : o.cls = .type "list") (e2 : o.data = .seq vs.toArray cn) (e3 : IntsAre vs (np ++ row.drop i)) (e4 : np.length = i)
      (e5 : m "a" = some (.str (mkS a) ta)) (e6 : m "b" = some (.str (mkS b) tb)) (e7 : m "max_cost" = some (.int mx v)) (e8 : m "row" = some (.ref ra)) (e9 : m "bchar" = some (.str (mkS [bj]) tc)) (e10 : m "distance" = some (.int dd t1)) (e11 : m "result" = some (.int rr t2)) (e12 : m "minimum" = some (.int mn t3))
      (e13 : inner bj a row ((j : Int) * 2) ((j : Int) * 2) 9223372036854775807 = (np ++ (inner bj (a.drop i) (row.drop i) dd rr mn).1, (inner bj (a.drop i) (row.drop i) dd rr mn).2)) : InnerInv a b mx ta tb v row I oi ra bj j i m nx
section
variable {prog : Program} {w : World} {mean : ExcName → Option Value} {mg mb : Str → Option Value} {ad : Nat → Addr} {A : Around} {hp h₀ : Heap} {g : Array GenState} {d : Drawn} {tk : Nat} {os : OsState} {Q : Flow → Shared → Prop} {E : Value → Shared → Prop} {L f : Addr} {cd : Value} {m : Str → Option Value}
theorem lev_dp {a b : List Nat} {mx : Nat} {ta tb v : Tok} (G : GG w mean mg mb ad h₀) (r : Rm 1 (A.deeper (envOf (nm 14) (dr 14).scope L f cd))) (ha : a.length ≤ 40) (hb' : b.length ≤ 40) (hab : a.length ≤ b.length)
    (k1 : m "a" = some (.str (mkS a) ta)) (k2 : m "b" = some (.str (mkS b) tb)) (k3 : m "max_cost" = some (.int mx v)) (F : Fr h₀ L hp m) (N : News h₀ L hp [])
    (hQ : ∀ h' t' tk', Keeps h₀ h' → Q (.ret (.int (lev2 a b mx) tk')) ⟨h', g, d, t', os⟩) :
    wpAny (model prog w) (A.deeper (envOf (nm 14) (dr 14).scope L f cd)) (execs dpRest (envOf (nm 14) (dr 14).scope L f cd)) Q E ⟨hp, g, d, tk, os⟩ := by
  have hg := G.T.g
  have hb := G.T.b
  have ha' : a.length ≤ 1000 := by omega
  have hb'' : b.length ≤ 1000 := by omega
  obtain ⟨b1, b2⟩ := G.len
  obtain ⟨r1, r2⟩ := G.range
  obtain ⟨l1, l2⟩ := G.list
  obtain ⟨n1, n2⟩ := G.min
  obtain ⟨tm, hm⟩ := G.moveCost
  obtain ⟨ts, hs⟩ := G.maxStr
  have hsc : mg "_substitution_cost" = some (.ref (ad 13)) := G.fn 13 (by decide)
  obtain ⟨o13, f13, e13, d13⟩ := G.obj dr13 (by decide)
  repeat' ((fail_if_success (with_reducible show wpAny _ _ (call (.type "list") _) _ _ _)); walk_at "w")
  · have e : lev2 a b mx = mx + 1 := by unfold lev2; rw [if_pos (by omega)]
    rw [e] at hQ
    exact hQ _ _ _ F.keep
  rename ¬ (mx : Int) < _ => hd
  rename IsRange _ _ _ _ _ _ _ _ => R₁
  rename Fr h₀ L _ _ => F₁
  rename News h₀ L _ _ => N₁
  have e : lev2 a b mx = rows a mx b 0 (rangeInts 2 2 a.length) 0 := by unfold lev2; rw [if_neg (by omega)]; rfl
  rw [e] at hQ
  have hsz : Builtin.Range.rangeSize 2 (2 * ((a.length : Int) + 1)) 2 = (a.length : Int) := by
    unfold Builtin.Range.rangeSize
    rw [if_pos (by decide)]
    by_cases h : (2 : Int) < 2 * ((a.length : Int) + 1)
    · rw [if_pos h]; omega
    · rw [if_neg h]; omega
  refine list_rangeD r.2.2 F₁ N₁ R₁ ?_ hsz (by omega) fun h' tk' ys F₂ N₂ hk₂ hnew hl hpl hc => ?_
  · unfold Builtin.Range.small
    rw [hsz]
    unfold Builtin.Range.rangeFitsLong
    simp
    omega
  obtain ⟨o₀, ho₀, hc₀, cn₀, hd₀⟩ := hl
  have N₃ : News h₀ L h' [(_, o₀)] := News.one N₂ ho₀ (Nat.ne_of_gt F₁.ns.lt) hnew
  have hi₀ := IntsAre.ofCarried hc
  clear N₂ hpl hc hk₂ R₁
  clear F₁ N₁
  repeat' ((fail_if_success (with_reducible show wpAny _ _ (exec (.For _ _ _ _ _) _) _ _ _)); walk_at "w")
  refine wpAny_For ?_
  repeat' ((fail_if_success (with_reducible show wpAny _ _ (pyIter _) _ _ _)); walk_at "w")
  rename IsRange _ _ _ _ _ _ _ _ => R₂
  rename Fr h₀ L _ _ => F₄
  rename News h₀ L _ _ => N₄
  refine loop_range (RowsInv a b mx ta tb v)
    rfl r.2.2 R₂ rfl (by omega) F₄ N₄ ⟨_, _, _, _, _, _, _, rfl, hc₀, hd₀, hi₀, by rw [rangeInts_length], by walk_at "mi", by walk_at "mi", by walk_at "mi", by walk_at "mi", by walk_at "mi", rfl⟩ ?_ ?_
  · rintro j tj m nx h₅ tk₅ I oi hj hnI ⟨ra, o, vs, cn, row, last, tl, rfl, hoc, hod, hiv, hrl, q1, q2, q3, q4, q5, hrows⟩ F₅ N₅
    replace F₅ : Fr h₀ L h₅ _ := F₅
    replace N₅ : News h₀ L h₅ _ := N₅
    repeat' ((fail_if_success (with_reducible show wpAny _ _ (exec (.For _ _ _ _ _) _) _ _ _)); (fail_if_success (with_reducible show wpAny _ _ (subscriptTail _ _ _ (.int _ _)) _ _ _)); walk_at "w")
    refine itS j r.2.2 hb'' hj rfl fun _ => ?_
    repeat' ((fail_if_success (with_reducible show wpAny _ _ (exec (.For _ _ _ _ _) _) _ _ _)); walk_at "w")
    refine wpAny_For ?_
    repeat' ((fail_if_success (with_reducible show wpAny _ _ (pyIter _) _ _ _)); walk_at "w")
    rename IsRange _ _ _ _ _ _ _ _ => R₃
    rename Fr h₀ L _ _ => F₆
    rename News h₀ L _ _ => N₆
    refine loop_range (nx := [(I, oi), (ra, o)]) (InnerInv a b mx ta tb v row I oi ra b[j] j)
      rfl r.2.2 R₃ rfl (by omega) F₆ N₆ ⟨_, _, _, [], _, _, _, _, _, _, tj, _, rfl, hoc, hod, hiv, rfl, by walk_at "mi", by walk_at "mi", by walk_at "mi", by walk_at "mi", by walk_at "mi", by walk_at "mi", by walk_at "mi", by walk_at "mi", rfl⟩ ?_ ?_
    · rintro i ti m' nx' h₇ tk₇ I' oi' hi hnI' ⟨o', vs', cn', np, dd, rr, mn, t1, t2, t3, tj', tc, rfl, hoc', hod', hiv', hnp, z1, z2, z3, z4, z5, z6, z7, z8, hinner⟩ F₇ N₇
      replace F₇ : Fr h₀ L h₇ _ := F₇
      replace N₇ : News h₀ L h₇ _ := N₇
      repeat' ((fail_if_success (with_reducible show wpAny _ _ (subscriptTail _ _ _ (.int _ _)) _ _ _)); walk_at "w")
      have hdr : row.drop i = row[i] :: row.drop (i + 1) := List.drop_eq_getElem_cons (by omega)
      have hda : a.drop i = a[i] :: a.drop (i + 1) := List.drop_eq_getElem_cons hi
      refine itS i r.2.2 ha' hi rfl fun _ => ?_
      repeat' ((fail_if_success (with_reducible show wpAny _ _ (call (.ref _) _) _ _ _)); walk_at "w")
      refine c_cost (G.keeps F₇.keep) r (by rw [mkS_len]; simp) (by rw [mkS_len]; simp) fun h₈ tk₈ t₈ k₈ => ?_
      have F₈ := F₇.keeps k₈
      have N₈ : News h₀ L h₈ _ := fun p hp => ⟨k₈ _ _ (N₇ p hp).1, (N₇ p hp).2⟩
      repeat' ((fail_if_success (with_reducible show wpAny _ _ (subscriptTail _ _ _ (.int _ _)) _ _ _)); (fail_if_success (with_reducible show wpAny _ _ (call (.builtin "min") _) _ _ _)); walk_at "w")
      rename Fr h₀ L _ _ => F₉
      rename News h₀ L _ _ => N₉
      have hget : (np ++ row.drop i).getD ((i : Int)).toNat 0 = row[i]'(by omega) := by
        rw [hdr, Int.toNat_natCast, List.getD_eq_getElem?_getD, List.getElem?_append_right (by omega), hnp]
        simp [show i < row.length by omega]
      refine item_list_ints ⟨o', N₉.get (.tail _ (.tail _ (.head _))), hoc', cn', hod'⟩ hiv' (by omega) (by simp [hnp]; omega) (by omega) fun t => ?_
      rw [hget]
      repeat' ((fail_if_success (with_reducible show wpAny _ _ (setItem _ _ _) _ _ _)); walk_at "w")
      rename Fr h₀ L _ _ => Fa
      rename News h₀ L _ _ => Na
      have hvl : vs'.length = a.length := by rw [hiv'.length, List.length_append, List.length_drop, hnp]; omega
      refine wpAny_setItem_list ⟨o', Na.get (.tail _ (.tail _ (.head _))), hoc', cn', hod'⟩ (by omega) (by omega) (by simp [hvl]; omega) fun hb₁ hl₁ sb₁ => ?_
      obtain ⟨o₂, ho₂, hc₂, cn₂, hd₂⟩ := hl₁
      have hra : ra ≠ L := (Na _ (.tail _ (.tail _ (.head _)))).2.1
      have Fb : Fr h₀ L hb₁ _ := Fr.but Fa sb₁.extBut hra.symm (Na _ (.tail _ (.tail _ (.head _)))).2.2
      have Nb : News h₀ L hb₁ [(I', oi'), (I, oi), (ra, o₂)] := News.put (pre := [(I', oi'), (I, oi)]) Na sb₁ ho₂ (fun p hp => by
        rcases List.mem_cons.mp hp with rfl | hp
        · exact (hnI' (ra, o') (by simp)).symm
        · rw [List.mem_singleton.mp hp]; exact (hnI (ra, o) (by simp)).symm)
      rw [List.setIfInBounds_toArray, Int.toNat_natCast] at hd₂
      have hiv2 := IntsAre.put hiv' i
      rw [hdr] at hiv2
      have hset := fun y => set_mid (x := row[i]) (y := y) (r := row.drop (i + 1)) hnp
      repeat' (walk_at "w")
      · have hst := inner_step (xs := a.drop (i + 1)) (os := row.drop (i + 1)) (mn := mn) (rfl : min (min rr row[i] + 2) (dd + subCost (mkS [b[j]]) (mkS [a[i]])) = _)
        rw [if_pos (by assumption)] at hst
        rw [hda, hdr, hst] at hinner
        rename Fr h₀ L _ _ => Fc
        rename News h₀ L _ _ => Nc
        exact ⟨_, _, _, _, rfl, Fc, Nc, rfl, o₂, _, cn₂, np ++ [min (min rr row[i] + 2) (dd + subCost (mkS [b[j]]) (mkS [a[i]]))], row[i], _, _, _, _, _, tj, _, rfl, hc₂, hd₂, by rw [← hset]; exact hiv2 _ _, by simp [hnp], by walk_at "mi", by walk_at "mi", by walk_at "mi", by walk_at "mi", by walk_at "mi", by walk_at "mi", by walk_at "mi", by walk_at "mi", by rw [hinner]; simp⟩
      · have hst := inner_step (xs := a.drop (i + 1)) (os := row.drop (i + 1)) (mn := mn) (rfl : min (min rr row[i] + 2) (dd + subCost (mkS [b[j]]) (mkS [a[i]])) = _)
        rw [if_neg (by assumption)] at hst
        rw [hda, hdr, hst] at hinner
        exact ⟨_, _, _, _, rfl, Fb, Nb, rfl, o₂, _, cn₂, np ++ [min (min rr row[i] + 2) (dd + subCost (mkS [b[j]]) (mkS [a[i]]))], row[i], _, _, _, _, _, tj, _, rfl, hc₂, hd₂, by rw [← hset]; exact hiv2 _ _, by simp [hnp], by walk_at "mi", by walk_at "mi", by walk_at "mi", by walk_at "mi", by walk_at "mi", by walk_at "mi", by walk_at "mi", by walk_at "mi", by rw [hinner]; simp⟩
    · rintro m' nx' h₇ tk₇ ⟨o', vs', cn', np, dd, rr, mn, t1, t2, t3, tj', tc, rfl, hoc', hod', hiv', hnp, z1, z2, z3, z4, z5, z6, z7, z8, hinner⟩ F₇ N₇
      replace F₇ : Fr h₀ L h₇ _ := F₇
      replace N₇ : News h₀ L h₇ _ := N₇
      have e0 : inner b[j] (a.drop a.length) (row.drop a.length) dd rr mn = ([], rr, mn) := by rw [List.drop_length]; rfl
      rw [e0, List.append_nil] at hinner
      have e1 : b.drop j = b[j] :: b.drop (j + 1) := List.drop_eq_getElem_cons hj
      have e2 := hrows
      rw [e1, rows_cons, hinner] at e2
      dsimp only at e2
      have hnp2 : IntsAre vs' np := by
        have := hiv'
        rw [List.drop_of_length_le (by omega), List.append_nil] at this
        exact this
      repeat' (walk_at "w")
      · rename (mx : Int) < mn => g1
        rw [if_pos g1] at e2
        rw [e2] at hQ
        exact hQ _ _ _ F₇.keep
      · rename ¬ (mx : Int) < mn => g1
        rw [if_neg g1] at e2
        exact ⟨_, _, _, _, rfl, F₇, N₇, rfl, ra, o', vs', cn', np, rr, t2, rfl, hoc', hod', hnp2, hnp, z1, z2, z3, z4, z7, e2⟩
  · rintro m nx h₅ tk₅ ⟨ra, o, vs, cn, row, last, tl, rfl, hoc, hod, hiv, hrl, q1, q2, q3, q4, q5, hrows⟩ F₅ N₅
    replace F₅ : Fr h₀ L h₅ _ := F₅
    repeat' (walk_at "w")
    rw [hrows, List.drop_length] at hQ
    exact hQ _ _ _ F₅.keep
end
end Mine
-- text C7
namespace Mine
theorem fresh_C7 : True := by w_top off; trivial
local macro_rules | `(tactic| walk_at "eval BoolOp") => `(tactic| refine ev_post (by assumption) (by walk_at "mlook") (fun _ _ => ?_))
local macro_rules | `(tactic| walk_at "subscriptTail Name Slice str ref") => `(tactic| refine slS_neg (by assumption) (by assumption) (by walk_at "lenS") (neg_of (by assumption) (by omega)) (fun _ _ _ _ _ => ?_))
theorem cpre_comm : ∀ (a b : List Nat), cpre a b = cpre b a
  | x :: xs, y :: ys => by
    unfold cpre
    rw [cpre_comm xs ys]
    by_cases e : x = y
    · rw [if_pos e, if_pos e.symm]
    · rw [if_neg e, if_neg (fun q => e q.symm)]
  | [], [] => rfl
  | [], _ :: _ => rfl
  | _ :: _, [] => rfl
section
variable {prog : Program} {w : World} {mean : ExcName → Option Value} {mg mb : Str → Option Value} {ad : Nat → Addr} {A : Around} {hp h₀ : Heap} {g : Array GenState} {d : Drawn} {tk : Nat} {os : OsState} {Q : Flow → Shared → Prop} {E : Value → Shared → Prop} {L f : Addr} {cd : Value} {m : Str → Option Value}
noncomputable def levRest : List Stmt := (dr 14).body.drop 7
theorem lev_tail {a b : List Nat} {mx : Nat} {v : Tok} (G : GG w mean mg mb ad h₀) (r : Rm 1 (A.deeper (envOf (nm 14) (dr 14).scope L f cd))) (hda : a.length ≤ 1000) (hdb : b.length ≤ 1000)
    (hk : K2 a b mx v m) (F : Fr h₀ L hp m) (N : News h₀ L hp [])
    (hQ : ∀ h' t' tk', Keeps h₀ h' → Q (.ret (.int (lev1 (trimB a b) (trimB b a) mx) tk')) ⟨h', g, d, t', os⟩) :
    wpAny (model prog w) (A.deeper (envOf (nm 14) (dr 14).scope L f cd)) (execs levRest (envOf (nm 14) (dr 14).scope L f cd)) Q E ⟨hp, g, d, tk, os⟩ := by
  obtain ⟨q, ta, tb, tq, k1, k2, k3, k4, hq⟩ := hk
  obtain ⟨hca, hcb⟩ := cpre_le a.reverse b.reverse
  rw [List.length_reverse] at hca hcb
  have ea : trimB a b = a.take (a.length - q) := by unfold trimB; rw [hq]
  have eb : trimB b a = b.take (b.length - q) := by unfold trimB; rw [hq, cpre_comm]
  rw [ea, eb] at hQ
  have hg := G.T.g
  have hb := G.T.b
  obtain ⟨b1, b2⟩ := G.len
  obtain ⟨tm, hm⟩ := G.moveCost
  obtain ⟨ts, hs⟩ := G.maxStr
  repeat' ((fail_if_success (with_reducible show wpAny _ _ (exec (.If _ _ _ _) _) _ _ _)); walk_at "w")
  rename Fr h₀ L _ _ => F₁
  rename News h₀ L _ _ => N₁
  have hla : (a.take (a.length - q)).length ≤ 1000 := by rw [List.length_take]; omega
  have hlb : (b.take (b.length - q)).length ≤ 1000 := by rw [List.length_take]; omega
  clear ea eb hca hcb
  generalize a.take (a.length - q) = x at *
  generalize b.take (b.length - q) = y at *
  repeat' ((fail_if_success (with_reducible show wpAny _ _ (execs [.If _ _ _ _, .Assign _ _ _, .Assign _ _ _, .For _ _ _ _ _, .Return _ _] _) _ _ _)); walk_at "w")
  · rename x ≠ [] => hx
    rename y ≠ [] => hy
    rename (40 : Int) < _ => hl
    have e : lev1 x y mx = mx + 1 := by unfold lev1; rw [if_neg (by simp [hx, hy]), if_pos (.inl (by omega))]
    rw [e] at hQ
    exact hQ _ _ _ (by rename Fr h₀ L _ _ => F'; exact F'.keep)
  · rename x ≠ [] => hx
    rename y ≠ [] => hy
    rename (40 : Int) < _ => hl
    have e : lev1 x y mx = mx + 1 := by unfold lev1; rw [if_neg (by simp [hx, hy]), if_pos (.inr (by omega))]
    rw [e] at hQ
    exact hQ _ _ _ (by rename Fr h₀ L _ _ => F'; exact F'.keep)
  · rename x ≠ [] => hx
    rename y ≠ [] => hy
    rename ¬ (40 : Int) < x.length => hl1
    rename ¬ (40 : Int) < y.length => hl2
    rename (y.length : Int) < x.length => hl
    have e : lev1 x y mx = lev2 y x mx := by unfold lev1; rw [if_neg (by simp [hx, hy]), if_neg (by omega), if_pos (by omega)]
    rw [e] at hQ
    dsimp only
    rename Fr h₀ L _ _ => F'
    exact lev_dp G r (by omega) (by omega) (by omega) (by walk_at "mi") (by walk_at "mi") (by walk_at "mi") F' .nil hQ
  · rename x ≠ [] => hx
    rename y ≠ [] => hy
    rename ¬ (40 : Int) < x.length => hl1
    rename ¬ (40 : Int) < y.length => hl2
    rename ¬ (y.length : Int) < x.length => hl
    have e : lev1 x y mx = lev2 x y mx := by unfold lev1; rw [if_neg (by simp [hx, hy]), if_neg (by omega), if_neg (by omega)]
    rw [e] at hQ
    dsimp only
    rename Fr h₀ L _ _ => F'
    exact lev_dp G r (by omega) (by omega) (by omega) (by walk_at "mi") (by walk_at "mi") (by walk_at "mi") F' .nil hQ
  · rename y = [] => hy
    have e : lev1 x y mx = 2 * ((x.length : Int) + y.length) := by unfold lev1; rw [if_pos (.inr hy)]
    rw [e] at hQ
    exact hQ _ _ _ (by rename Fr h₀ L _ _ => F'; exact F'.keep)
  · rename x = [] => hx
    have e : lev1 x y mx = 2 * ((x.length : Int) + y.length) := by unfold lev1; rw [if_pos (.inl hx)]
    rw [e] at hQ
    exact hQ _ _ _ (by rename Fr h₀ L _ _ => F'; exact F'.keep)
end
-- text C8
theorem fresh_C8 : True := by w_top off; trivial
inductive LvA (a b : List Nat) (mx : Nat) (t u v : Tok) (n : Nat) (m : Str → Option Value) : Prop
  | mk (p : Nat) (t1 : Tok) (e1 : m "a" = some (.str (mkS a) t)) (e2 : m "b" = some (.str (mkS b) u)) (e3 : m "max_cost" = some (.int mx v)) (e4 : m "pre" = some (.int (p : Int) t1)) (e5 : p + n = cpre a b) : LvA a b mx t u v n m
inductive LvB (a1 b1 : List Nat) (mx : Nat) (v : Tok) (n : Nat) (m : Str → Option Value) : Prop
  | mk (q : Nat) (ta tb tq : Tok) (e1 : m "a" = some (.str (mkS a1) ta)) (e2 : m "b" = some (.str (mkS b1) tb)) (e3 : m "max_cost" = some (.int mx v)) (e4 : m "post" = some (.int (-(q : Int)) tq)) (e5 : q + n = cpre a1.reverse b1.reverse) : LvB a1 b1 mx v n m
section
variable {prog : Program} {w : World} {mean : ExcName → Option Value} {mg mb : Str → Option Value} {ad : Nat → Addr} {A : Around} {s : Shared} {Q E : Value → Shared → Prop} {h : Heap}
theorem c_lev {a b : List Nat} {mx : Nat} {t u v : Tok} (G : GG w mean mg mb ad s.heap) (r : Rm 2 A) (ha : a.length ≤ 1000) (hb' : b.length ≤ 1000)
    (hQ : ∀ h' t' tk, Keeps s.heap h' → Q (.int (lev a b mx) tk) { s with heap := h', toks := t' }) :
    wpAny (model prog w) A (call (.ref (ad 14)) [.str (mkS a) t, .str (mkS b) u, .int mx v]) Q E s := by
  refine enter (i := 14) (binds := [("a", .str (mkS a) t), ("b", .str (mkS b) u), ("max_cost", .int mx v)]) dr14 G (by decide) rfl r (fun _ _ _ => by kernel_rfl!) (by kernel_rfl!) (by kernel_rfl!) fun L cd h₁ F N r' => ?_
  have hg := G.T.g
  have hb := G.T.b
  obtain ⟨b1, b2⟩ := G.len
  obtain ⟨r1, r2⟩ := G.range
  obtain ⟨l1, l2⟩ := G.list
  obtain ⟨n1, n2⟩ := G.min
  obtain ⟨tm, hm⟩ := G.moveCost
  obtain ⟨ts, hs⟩ := G.maxStr
  repeat' ((fail_if_success (with_reducible show wpAny _ _ (exec (.While _ _ _ _) _) _ _ _)); walk_at "w")
  · rename _ = true => e
    rw [mkS_beq, decide_eq_true_eq] at e
    have e0 : lev a b mx = 0 := by unfold lev; rw [if_pos e]
    rw [e0] at hQ
    exact hQ _ _ _ F.keep
  rename _ = false => e
  rw [mkS_beq, decide_eq_false_iff_not] at e
  rename Fr s.heap L _ _ => F₁
  rename News s.heap L _ _ => N₁
  obtain ⟨hca, hcb⟩ := cpre_le a b
  refine While_X (LvA a b mx t u v)
    (K1 a b mx t u v) (cpre a b) F₁ N₁ ⟨0, _, by walk_at "mi", by walk_at "mi", by walk_at "mi", by walk_at "mi", by omega⟩ ?_ ?_
  · rintro n m h₂ tk ⟨p, t1, m1, m2, m3, m4, hp⟩ F₂ N₂
    replace F₂ : Fr s.heap L h₂ m := F₂
    replace N₂ : News s.heap L h₂ [] := N₂
    have out : p = cpre a b → ∀ h₃ (tk₃ : Nat), Fr s.heap L h₃ m → News s.heap L h₃ [] → ∃ h' tk' m', (⟨h₃, s.gens, s.drawn, tk₃, s.os⟩ : Shared) = ⟨h', s.gens, s.drawn, tk', s.os⟩ ∧ Fr s.heap L h' m' ∧ News s.heap L h' [] ∧ K1 a b mx t u v m' := fun e1 _ _ F N => ⟨_, _, _, rfl, F, N, t1, m1, m2, m3, by rw [← e1]; exact m4⟩
    repeat' ((fail_if_success (with_reducible show wpAny _ _ (subscriptTail _ _ _ (.int _ _)) _ _ _)); walk_at "w")
    · rename List.drop p a ≠ [] => ga
      rename List.drop p b ≠ [] => gb
      have la : p < a.length := by rcases Nat.lt_or_ge p a.length with g | g; exact g; exact absurd (List.drop_of_length_le g) ga
      have lb : p < b.length := by rcases Nat.lt_or_ge p b.length with g | g; exact g; exact absurd (List.drop_of_length_le g) gb
      refine itS p r'.2.2 ha la rfl fun _ => ?_
      repeat' ((fail_if_success (with_reducible show wpAny _ _ (subscriptTail _ _ _ (.int _ _)) _ _ _)); walk_at "w")
      refine itS p r'.2.2 hb' lb rfl fun _ => ?_
      repeat' (walk_at "w")
      · rename _ = true => e
        rename Fr s.heap L _ _ => F₃
        rename News s.heap L _ _ => N₃
        have hm' := cpre_more (by omega) la lb (sign_is e)
        obtain ⟨k, rfl⟩ : ∃ k, n = k + 1 := ⟨n - 1, by omega⟩
        exact ⟨_, _, _, k, rfl, by omega, F₃, N₃, p + 1, _, by walk_at "mi", by walk_at "mi", by walk_at "mi", by walk_at "mi", by omega⟩
      · rename _ = false => e
        exact out (cpre_stop (by omega) la lb (sign_not e)) _ _ (by assumption) (by assumption)
    · rename List.drop p b = [] => gb
      have := List.drop_eq_nil_iff.mp gb
      exact out (by omega) _ _ (by assumption) (by assumption)
    · rename List.drop p a = [] => ga
      have := List.drop_eq_nil_iff.mp ga
      exact out (by omega) _ _ (by assumption) (by assumption)
  · rintro h₂ tk m ⟨t1, m1, m2, m3, m4⟩ F₂ N₂
    replace F₂ : Fr s.heap L h₂ m := F₂
    replace N₂ : News s.heap L h₂ [] := N₂
    repeat' ((fail_if_success (with_reducible show wpAny _ _ (exec (.While _ _ _ _) _) _ _ _)); walk_at "w")
    have hda : (a.drop (cpre a b)).length ≤ 1000 := by rw [List.length_drop]; omega
    have hdb : (b.drop (cpre a b)).length ≤ 1000 := by rw [List.length_drop]; omega
    have hlev : lev a b mx = lev1 (trimB (a.drop (cpre a b)) (b.drop (cpre a b))) (trimB (b.drop (cpre a b)) (a.drop (cpre a b))) mx := by unfold lev; rw [if_neg e]
    rw [hlev] at hQ
    clear hlev
    rename Fr s.heap L _ _ => F₃
    rename News s.heap L _ _ => N₃
    generalize a.drop (cpre a b) = a1 at *
    generalize b.drop (cpre a b) = b1 at *
    obtain ⟨hca', hcb'⟩ := cpre_le a1.reverse b1.reverse
    rw [List.length_reverse] at hca' hcb'
    refine While_X (LvB a1 b1 mx v)
      (K2 a1 b1 mx v) (cpre a1.reverse b1.reverse) F₃ N₃ ⟨0, _, _, _, by walk_at "mi", by walk_at "mi", by walk_at "mi", by walk_at "mi", by omega⟩ ?_ ?_
    · rintro n m h₄ tk' ⟨q, ta, tb, tq, k1, k2, k3, k4, hq⟩ F₄ N₄
      replace F₄ : Fr s.heap L h₄ m := F₄
      replace N₄ : News s.heap L h₄ [] := N₄
      have out : q = cpre a1.reverse b1.reverse → ∀ h₃ (tk₃ : Nat), Fr s.heap L h₃ m → News s.heap L h₃ [] → ∃ h' tk' m', (⟨h₃, s.gens, s.drawn, tk₃, s.os⟩ : Shared) = ⟨h', s.gens, s.drawn, tk', s.os⟩ ∧ Fr s.heap L h' m' ∧ News s.heap L h' [] ∧ K2 a1 b1 mx v m' := fun e1 _ _ F N => ⟨_, _, _, rfl, F, N, q, ta, tb, tq, k1, k2, k3, k4, e1⟩
      repeat' ((fail_if_success (with_reducible show wpAny _ _ (subscriptTail _ _ _ (.int _ _)) _ _ _)); walk_at "w")
      · rename List.take (a1.length - q) a1 ≠ [] => ga
        rename List.take (b1.length - q) b1 ≠ [] => gb
        have la : q < a1.length := by
          rcases Nat.lt_or_ge q a1.length with g | g
          · exact g
          · rw [show a1.length - q = 0 by omega] at ga; exact absurd rfl ga
        have lb : q < b1.length := by
          rcases Nat.lt_or_ge q b1.length with g | g
          · exact g
          · rw [show b1.length - q = 0 by omega] at gb; exact absurd rfl gb
        refine itS_neg (q + 1) r'.2.2 hda (by omega) (by omega) (by omega) fun _ => ?_
        repeat' ((fail_if_success (with_reducible show wpAny _ _ (subscriptTail _ _ _ (.int _ _)) _ _ _)); walk_at "w")
        refine itS_neg (q + 1) r'.2.2 hdb (by omega) (by omega) (by omega) fun _ => ?_
        have la' : q < a1.reverse.length := by rw [List.length_reverse]; exact la
        have lb' : q < b1.reverse.length := by rw [List.length_reverse]; exact lb
        have ea : a1[a1.length - (q + 1)] = a1.reverse[q] := by rw [List.getElem_reverse]; congr 1; omega
        have eb : b1[b1.length - (q + 1)] = b1.reverse[q] := by rw [List.getElem_reverse]; congr 1; omega
        rw [ea, eb]
        repeat' (walk_at "w")
        · rename _ = true => e
          rename Fr s.heap L _ _ => F₃
          rename News s.heap L _ _ => N₃
          have hm' := cpre_more (by omega) la' lb' (sign_is e)
          obtain ⟨k, rfl⟩ : ∃ k, n = k + 1 := ⟨n - 1, by omega⟩
          exact ⟨_, _, _, k, rfl, by omega, F₃, N₃, q + 1, _, _, _, by walk_at "mi", by walk_at "mi", by walk_at "mi", by walk_at "mi", by omega⟩
        · rename _ = false => e
          exact out (cpre_stop (by omega) la' lb' (sign_not e)) _ _ (by assumption) (by assumption)
      · rename List.take (b1.length - q) b1 = [] => gb
        have := List.take_eq_nil_iff.mp gb
        exact out (by rcases this with g | g; omega; have h0 := congrArg List.length g; rw [List.length_nil] at h0; omega) _ _ (by assumption) (by assumption)
      · rename List.take (a1.length - q) a1 = [] => ga
        have := List.take_eq_nil_iff.mp ga
        exact out (by rcases this with g | g; omega; have h0 := congrArg List.length g; rw [List.length_nil] at h0; omega) _ _ (by assumption) (by assumption)
    · rintro h₄ tk' m ⟨q, ta, tb, tq, k1, k2, k3, k4, hq⟩ F₄ N₄
      replace F₄ : Fr s.heap L h₄ m := F₄
      replace N₄ : News s.heap L h₄ [] := N₄
      exact lev_tail (G.keeps fun _ _ e => e) r' hda hdb ⟨q, ta, tb, tq, k1, k2, k3, k4, hq⟩ F₄ N₄ fun h' t' tk' k => hQ _ _ _ k
end
end Mine
-- text M1
namespace Mine
theorem fresh_M1 : True := by w_top off; trivial
/-- the entries of b1_set -/
noncomputable def b1E (p : Params) : List (Int × Value) := match (b1Obj p).data with | .set es _ _ => es.toList | _ => []
/-- the signs that are left out -/
noncomputable def unseen : List Nat := [173, 847, 6150, 6155, 6156, 6157, 8203, 8204, 8205, 8288, 65279] ++ (List.range 16).map (65024 + ·)
theorem b1E_ok (p : Params) : ((b1E p).all fun e => match e.2 with | .int n t => e.1 == n && hashInt n == n && decide (0 ≤ n) && (Value.int n t).scannable | _ => false) = true := by kernel_rfl!
theorem b1E_in (p : Params) : ((b1E p).all fun e => unseen.contains e.1.toNat) = true := by kernel_rfl!
theorem b1E_out (p : Params) : (unseen.all fun u => (b1E p).any fun e => e.1 == (u : Int)) = true := by kernel_rfl!
theorem b1_set {prog : Program} {w : World} {h : Heap} (h1 : h.get? 36 = some (b1Obj w.params)) : h.SetOf (intKind prog w) 36 (fun k => (b1E w.params).any fun e => e.1 == k) 27 := by
  have sh : ∀ e ∈ b1E w.params, ∃ n t, e = (n, .int n t) ∧ hashInt n = n ∧ 0 ≤ n ∧ (Value.int n t).scannable = true := by
    intro e he
    have := List.all_eq_true.mp (b1E_ok w.params) e he
    obtain ⟨a, v⟩ := e
    cases v <;> simp at this
    rename_i n t
    obtain ⟨⟨⟨rfl, hh⟩, h0⟩, hs⟩ := this
    exact ⟨_, _, rfl, hh, h0, hs⟩
  refine ⟨b1Obj w.params, (b1E w.params).toArray, _, _, h1, ⟨rfl, rfl, rfl⟩, rfl, ?_, ?_, (by show (27 : Nat) < scanBound; decide), ?_, rfl⟩
  · intro e he
    obtain ⟨n, t, rfl, hh, h0, hs⟩ := sh e (by simpa using he)
    exact ⟨⟨n, by simp [intKind, Value.isInt], hh.symm⟩, hs⟩
  · intro k
    rw [List.any_eq_true]
    constructor
    · rintro ⟨e, he, hk⟩
      obtain ⟨n, t, rfl, hh, h0, hs⟩ := sh e he
      refine ⟨_, by simpa using he, ?_⟩
      simp at hk
      simp [intKind, Value.isInt, hk]
    · rintro ⟨e, he, hk⟩
      obtain ⟨n, t, rfl, hh, h0, hs⟩ := sh e (by simpa using he)
      refine ⟨_, by simpa using he, ?_⟩
      simp [intKind, Value.isInt] at hk
      simp [hk]
  · show SetTable.fits _ 27 = true
    rfl
theorem b1_any (p : Params) (c : Nat) : ((b1E p).any fun e => e.1 == (c : Int)) = unseen.contains c := by
  rw [Bool.eq_iff_iff, List.any_eq_true]
  constructor
  · rintro ⟨e, he, hk⟩
    have := List.all_eq_true.mp (b1E_in p) e he
    have hk' : e.1 = (c : Int) := by simpa using hk
    rw [hk'] at this
    simpa using this
  · intro h
    have hm : c ∈ unseen := by simpa using h
    have := List.all_eq_true.mp (b1E_out p) c hm
    exact List.any_eq_true.mp this
section
variable {prog : Program} {w : World} {mean : ExcName → Option Value} {mg mb : Str → Option Value} {ad : Nat → Addr} {A : Around} {s : Shared} {Q E : Value → Shared → Prop}
/-- contract of in_table_b1 -/
theorem c_b1 {c : Nat} {t : Tok} (G : GG w mean mg mb ad s.heap) (r : Rm 1 A)
    (hQ : ∀ h' t', Keeps s.heap h' → Q (.bool (unseen.contains c)) { s with heap := h', toks := t' }) :
    wpAny (model prog w) A (call (.ref (ad 6)) [.str (mkS [c]) t]) Q E s := by
  refine enter (i := 6) (binds := [("code", .str (mkS [c]) t)]) dr6 G (by decide) rfl r (fun _ _ _ => by kernel_rfl!) (by kernel_rfl!) (by kernel_rfl!) fun L cd h₁ F N r' => ?_
  have hg := G.T.g
  have hb := G.T.b
  obtain ⟨o1, o2⟩ := G.ord
  have hs := G.b1
  repeat' ((fail_if_success (with_reducible show wpAny _ _ (call (.builtin "ord") _) _ _ _)); walk_at "w")
  refine P.ord_of_char ?_
  repeat' ((fail_if_success (with_reducible show wpAny _ _ (compareOp _ _ _) _ _ _)); walk_at "w")
  refine wpAny_inSet_of (knd := intKind prog w) (k := (c : Int)) (by simp [intKind, Value.isInt]) rfl (b1_set (F.keep _ _ G.o1)) ?_
  rw [b1_any]
  repeat' (walk_at "w")
  exact hQ _ _ F.keep
end
end Mine
-- text M2
namespace Mine
theorem fresh_M2 : True := by w_top off; trivial

/-- b3_exceptions, by sign -/
noncomputable def b3 (c : Nat) : Option (List Nat) := (ents.find? fun e => e.1 == c).map (·.2)
theorem b3_hash : (b3L.all fun e => match e.key with | .int n _ => hashInt n == n && e.hash == n | _ => false) = true := by kernel_rfl!
noncomputable def valS : Option Value → Option (List Nat)
  | some (.str x _) => some x.cps.toList
  | _ => none
noncomputable def FF (c : Nat) (es : List DictEntry) (L : List (Nat × List Nat)) : Prop :=
  (∃ v t, (L.find? fun e => e.1 == c).map (·.2) = some v ∧ (es.find? fun e => Value.isInt (c : Int) e.key).map (·.val) = some (.str (mkS v) t)) ∨ ((L.find? fun e => e.1 == c).map (·.2) = none ∧ (es.find? fun e => Value.isInt (c : Int) e.key).map (·.val) = none)
theorem FF.cons {c k : Nat} {v : List Nat} {h : Int} {t t' : Tok} {es : List DictEntry} {L : List (Nat × List Nat)} (x : FF c es L) : FF c (⟨h, .int (k : Int) t, .str ⟨⟨v⟩⟩ t'⟩ :: es) ((k, v) :: L) := by
  unfold FF
  rw [List.find?_cons, List.find?_cons]
  by_cases e : k = c
  · subst e
    left
    exact ⟨v, t', by simp, by simp [Value.isInt]⟩
  · have h1 : (k == c) = false := by simpa using e
    have h2 : Value.isInt (c : Int) (.int (k : Int) t) = false := by simp [Value.isInt]; omega
    simp only [h1, h2]
    exact x
theorem FF.append {c : Nat} {es es' : List DictEntry} {L L' : List (Nat × List Nat)} (x : FF c es L) (y : FF c es' L') : FF c (es ++ es') (L ++ L') := by
  unfold FF at *
  rw [List.find?_append, List.find?_append]
  rcases x with ⟨v, t, h1, h2⟩ | ⟨h1, h2⟩
  · left
    refine ⟨v, t, ?_, ?_⟩
    · cases h : L.find? fun e => e.1 == c with
      | none => rw [h] at h1; cases h1
      | some z => rw [h] at h1; exact h1
    · cases h : es.find? fun e => Value.isInt (c : Int) e.key with
      | none => rw [h] at h2; cases h2
      | some z => rw [h] at h2; exact h2
  · have e1 : (L.find? fun e => e.1 == c) = none := by
      cases h : L.find? fun e => e.1 == c with
      | none => rfl
      | some z => rw [h] at h1; cases h1
    have e2 : (es.find? fun e => Value.isInt (c : Int) e.key) = none := by
      cases h : es.find? fun e => Value.isInt (c : Int) e.key with
      | none => rfl
      | some z => rw [h] at h2; cases h2
    rw [e1, e2]
    simpa using y
theorem ff_at (c : Nat) : ∀ (L : List (Nat × List Nat)) (t : Nat), FF c (entsAt t L) L
  | [], _ => .inr ⟨rfl, rfl⟩
  | (k, v) :: r, t => FF.cons (ff_at c r (t + 3))
theorem ff_last (c : Nat) : ∀ (L : List (Nat × List Nat)) (t : Nat), FF c (entsLast t L) L
  | [], _ => .inr ⟨rfl, rfl⟩
  | (k, v) :: r, t => FF.cons (ff_last c r (t + 2))
theorem b3_find (c : Nat) : (∃ v t, b3 c = some v ∧ findBy Value.isInt ⟨b3L⟩ (c : Int) = some (.str (mkS v) t)) ∨ (b3 c = none ∧ findBy Value.isInt ⟨b3L⟩ (c : Int) = none) := by
  have h := FF.append (ff_at c (ents.take 646) 279) (ff_last c (ents.drop 646) 2217)
  rw [List.take_append_drop] at h
  unfold findBy b3
  rw [List.find?_toArray]
  exact h
theorem b3_map {prog : Program} {w : World} {h : Heap} (h1 : h.get? 47 = some b3Obj) : h.MapOf (intKind prog w) 47 (fun k => findBy Value.isInt ⟨b3L⟩ k) := by
  refine ⟨b3Obj, _, _, h1, ⟨rfl, rfl, rfl⟩, rfl, ?_, fun _ => rfl⟩
  intro e he
  have := List.all_eq_true.mp b3_hash e (by simpa using he)
  obtain ⟨a, b, c⟩ := e
  cases b <;> simp at this
  rename_i n t
  exact ⟨n, by simp [intKind, Value.isInt], by simp [intKind, this.1, this.2]⟩
/-- what map_table_b3 answers -/
noncomputable def mapB3 (c : Nat) : List Nat := (b3 c).getD (Txt.lower (mkS [c])).cps.toList
section
variable {prog : Program} {w : World} {mean : ExcName → Option Value} {mg mb : Str → Option Value} {ad : Nat → Addr} {A : Around} {s : Shared} {Q E : Value → Shared → Prop}
theorem getMethod_b3 {pl : Sem Bool} {f : Int → Option Value} {Q : Value × List Value → Shared → Prop} {E : Value → Shared → Prop} (T : s.heap.MapOf (intKind prog w) 47 f) (h : Q (.builtin "dict.get", [.ref 47]) s) :
    wpAny (model prog w) A (getMethod (.ref 47) "get" pl) Q E s :=
  getMethod_builtin T.typeIs PySem.F.plainAttrs_dict PySem.F.slot_dict_get PySem.F.type_dict_get T.noDict h
/-- contract of map_table_b3 -/
theorem c_b3 {c : Nat} {t : Tok} (G : GG w mean mg mb ad s.heap) (r : Rm 1 A)
    (hQ : ∀ h' t' tk, Keeps s.heap h' → Q (.str (mkS (mapB3 c)) tk) { s with heap := h', toks := t' }) :
    wpAny (model prog w) A (call (.ref (ad 8)) [.str (mkS [c]) t]) Q E s := by
  refine enter (i := 8) (binds := [("code", .str (mkS [c]) t)]) dr8 G (by decide) rfl r (fun _ _ _ => by kernel_rfl!) (by kernel_rfl!) (by kernel_rfl!) fun L cd h₁ F N r' => ?_
  have hg := G.T.g
  have hb := G.T.b
  obtain ⟨o1, o2⟩ := G.ord
  have hs := G.b3
  repeat' ((fail_if_success (with_reducible show wpAny _ _ (call (.builtin "ord") _) _ _ _)); walk_at "w")
  refine getMethod_b3 (b3_map (prog := prog) (w := w) (F.keep _ _ G.o3)) ?_
  dsimp only
  refine wpAny_dict_get1 (knd := intKind prog w) (by decide) ?_
  rw [if_neg Bool.false_ne_true]
  repeat' ((fail_if_success (with_reducible show wpAny _ _ (call (.builtin "ord") _) _ _ _)); walk_at "w")
  refine P.ord_of_char ?_
  refine ⟨(c : Int), _, by simp [intKind, Value.isInt], b3_map (F.keep _ _ G.o3), ?_⟩
  rcases b3_find c with ⟨v, tv, h1, h2⟩ | ⟨h1, h2⟩
  · have e : mapB3 c = v := by unfold mapB3; rw [h1]; rfl
    rw [e] at hQ
    rw [h2]
    dsimp only [Option.getD]
    repeat' (walk_at "w")
    rename Fr s.heap L _ _ => F₁
    exact hQ _ _ _ F₁.keep
  · have e : mapB3 c = (Txt.lower (mkS [c])).cps.toList := by unfold mapB3; rw [h1]; rfl
    rw [e] at hQ
    rw [h2]
    dsimp only [Option.getD]
    repeat' (walk_at "w")
    rename Fr s.heap L _ _ => F₁
    refine SCL.lower (by rw [mkS_len]; show 1 ≤ 5592405; decide) fun _ => ?_
    rw [← mkS_of] at hQ
    exact hQ _ _ _ F₁.keep
end
end Mine
-- text M3
namespace Mine
theorem fresh_M3 : True := by w_top off; trivial
section
variable {M : Model} {A : Around} {E : Value → Shared → Prop} {s : Shared} {h₀ : Heap} {m mg mb : Str → Option Value} {env : Env} {x : Str} {pos : Pos} {v : Value} {Q : Value → Shared → Prop}
/-- a global's name, in any function-like scope -/
theorem ldg (hg : s.heap.Ns mainGlobals mg) (hv : mg x = some v) (h : Q v s) (hk : env.scope.kind = .function := by rfl) (hx : env.kindOf x = some .globalImplicit := by rfl) (hG : env.globals = mainGlobals := by rfl) (hd : (x == ("__debug__" : Str)) = false := by decide) :
    wpAny M A (eval (.Name x pos) env) Q E s :=
  Calls.Name_function_global hk hx (Calls.loadGlobal_global (env := env) (hG ▸ hg) hv h) hd
/-- a local's name, in any function-like scope -/
theorem ldl (hn : s.heap.Ns env.locals m) (hv : m x = some v) (h : Q v s) (hk : env.scope.kind = .function := by rfl) (hx : env.kindOf x = some .local := by rfl) (hd : (x == ("__debug__" : Str)) = false := by decide) :
    wpAny M A (eval (.Name x pos) env) Q E s := wpAny_Name (wpAny_loadName_local hk hx hn hv h) hd
end
/-- what _law_read answers -/
noncomputable def readS (l : List Nat) : List Nat := (l.filter fun c => !unseen.contains c).flatMap mapB3
theorem read_strs {p : Value → Bool} {q : Nat → Bool} {f : Nat → List Nat} (hp : ∀ c u, p (.str (mkS [c]) u) = q c) : ∀ (l : List Nat) (vs ys : List Value), vs.length = l.length → (∀ (j : Nat) (v : Value), vs[j]? = some v → ∃ c u, l[j]? = some c ∧ v = .str (mkS [c]) u) →
    Paired (fun (v y : Value) => ∀ c u, v = .str (mkS [c]) u → ∃ t', y = .str (mkS (f c)) t') (vs.filter p) ys → StrsAre ys ((l.filter q).map fun c => mkS (f c))
  | [], vs, ys, hl, _, h => by
    obtain rfl : vs = [] := List.eq_nil_of_length_eq_zero hl
    cases h
    exact .nil
  | c :: l, [], ys, hl, _, h => by simp at hl
  | c :: l, v :: vs, ys, hl, hv, h => by
    obtain ⟨c', u, hc, rfl⟩ := hv 0 v rfl
    obtain rfl : c = c' := by simpa using hc
    have ih := fun ys h => read_strs (f := f) hp l vs ys (by simpa using hl) (fun j v e => hv (j + 1) v (by simpa using e)) h
    rw [List.filter_cons, hp] at h
    rw [List.filter_cons]
    cases hq : q c with
    | true =>
      rw [hq, if_pos rfl] at h
      rw [if_pos rfl, List.map_cons]
      cases h with
      | cons h1 h2 =>
        obtain ⟨t', rfl⟩ := h1 c u rfl
        exact .cons _ _ (ih _ h2)
    | false =>
      rw [hq, if_neg Bool.false_ne_true] at h
      rw [if_neg Bool.false_ne_true]
      exact ih _ h
theorem ents_short : (ents.all fun e => e.2.length ≤ 20) = true := by kernel_rfl!
theorem mapB3_len (c : Nat) : (mapB3 c).length ≤ 20 := by
  unfold mapB3 b3
  cases h : ents.find? fun e => e.1 == c with
  | none =>
    have := PyProof.Rows.len_lower (mkS [c])
    show (Txt.lower (mkS [c])).cps.toList.length ≤ 20
    have e : (Txt.lower (mkS [c])).cps.toList.length = (Txt.lower (mkS [c])).length := by simp [Str.length]
    rw [e]
    have e2 : (mkS [c]).length = 1 := rfl
    omega
  | some z =>
    have := List.all_eq_true.mp ents_short z (List.mem_of_find?_eq_some h)
    simpa using this
theorem mkS_append (a b : List Nat) : mkS a ++ mkS b = mkS (a ++ b) := by
  show (⟨a.toArray ++ b.toArray⟩ : Str) = _
  simp
theorem join_S : ∀ (zs : List (List Nat)), Str.join (mkS []) (zs.map mkS) = mkS zs.flatten
  | [] => rfl
  | [z] => by simp [Str.join]
  | x :: y :: r => by
    have ih := join_S (y :: r)
    rw [List.map_cons, List.map_cons, join_cons_cons, ← List.map_cons, ih, mkS_append, mkS_append]
    simp
section
variable {prog : Program} {w : World} {mean : ExcName → Option Value} {mg mb : Str → Option Value} {ad : Nat → Addr} {A : Around} {s : Shared} {Q E : Value → Shared → Prop}
theorem c_read {l : List Nat} {t : Tok} (G : GG w mean mg mb ad s.heap) (r : Rm 2 A) (hl : l.length ≤ 100)
    (hQ : ∀ h' t' tk, Keeps s.heap h' → Q (.str (mkS (readS l)) tk) { s with heap := h', toks := t' }) :
    wpAny (model prog w) A (call (.ref (ad 21)) [.str (mkS l) t]) Q E s := by
  refine enter (i := 21) (binds := [("line", .str (mkS l) t)]) dr21 G (by decide) rfl r (fun _ _ _ => by kernel_rfl!) (by kernel_rfl!) (by kernel_rfl!) fun L cd h₁ F N r' => ?_
  have hg := G.T.g
  have hb := G.T.b
  repeat' ((fail_if_success (with_reducible show wpAny _ _ (eval (.ListComp _ _ _ _) _) _ _ _)); walk_at "w")
  have hi6 : mg "in_table_b1" = some (.ref (ad 6)) := G.fn 6 (by decide)
  have hi8 : mg "map_table_b3" = some (.ref (ad 8)) := G.fn 8 (by decide)
  obtain ⟨o6, f6, e6, d6⟩ := G.obj dr6 (by decide)
  obtain ⟨o8, f8, e8, d8⟩ := G.obj dr8 (by decide)
  refine wpAny_ListComp_free (cl := []) (fun v => match v with | .str x _ => !unseen.contains (x.cps.toList.headD 0) | _ => false)
    (fun v y => ∀ c u, v = .str (mkS [c]) u → ∃ t', y = .str (mkS (mapB3 c)) t') rfl (by decide) rfl (by decide) rfl ?_
  repeat' ((fail_if_success (with_reducible show wpAny _ _ (pyIter _) _ _ _)); walk_at "w")
  refine wpAny_pyIter_str fun o St W hst => ?_
  refine ⟨_, _, _, _, _, _, rfl, W _ r'.2.2, ?_, hst, ?_, ?_, ?_⟩
  · show (mkS l).length ≤ sizeLine
    exact size_S (by omega)
  · intro b hb
    rw [List.mem_singleton.mp hb, Heap.size_push]
    exact Nat.lt_succ_self _
  · constructor
    · intro C i v s₃ m₃ E' hC hP hn hm hk htk
      obtain ⟨c, u, hc, rfl⟩ := hP
      have k₃ : Keeps h₁ s₃.heap := fun b o' e => hk b o' (fun hm => Nat.ne_of_lt (Heap.lt_size e) (List.mem_singleton.mp hm)) (Heap.get?_push_of_some _ e)
      have kk : Keeps s.heap s₃.heap := fun b o' e => k₃ b o' (F.keep b o' e)
      have hg₃ : s₃.heap.Ns mainGlobals mg := hg.keeps kk
      have e6' : s₃.heap.get? (ad 6) = some o6 := kk _ _ e6
      simp only [List.forIn_cons, List.forIn_nil, if_true]
      refine wpAny_bind (wpAny_bind ?_)
      repeat' (first | refine ldg hg₃ (by assumption) ?_ | refine ldl hn hm ?_ | ((fail_if_success (with_reducible show wpAny _ _ (call (.ref _) _) _ _ _)); walk_at "w"))
      refine ⟨e6', c_b1 (G.keeps kk) r' fun h₅ t₅ k₅ => ?_⟩
      repeat' (walk_at "w")
      refine wpAny_pure (wpAny_pure ⟨?_, h₅, t₅, rfl, k₅⟩)
      show (unseen.contains c == false) = !unseen.contains c
      cases unseen.contains c <;> rfl
    · intro C i v s₃ m₃ E' hC hP hp hn hm hk htk
      obtain ⟨c, u, hc, rfl⟩ := hP
      have k₃ : Keeps h₁ s₃.heap := fun b o' e => hk b o' (fun hm => Nat.ne_of_lt (Heap.lt_size e) (List.mem_singleton.mp hm)) (Heap.get?_push_of_some _ e)
      have kk : Keeps s.heap s₃.heap := fun b o' e => k₃ b o' (F.keep b o' e)
      have hg₃ : s₃.heap.Ns mainGlobals mg := hg.keeps kk
      have e8' : s₃.heap.get? (ad 8) = some o8 := kk _ _ e8
      repeat' (first | refine ldg hg₃ (by assumption) ?_ | refine ldl hn hm ?_ | ((fail_if_success (with_reducible show wpAny _ _ (call (.ref _) _) _ _ _)); walk_at "w"))
      refine ⟨e8', c_b3 (G.keeps kk) r' fun h₅ t₅ tk₅ k₅ => ?_⟩
      repeat' (walk_at "w")
      refine ⟨fun c' u' e => ?_, h₅, t₅, rfl, k₅⟩
      have : c = c' := by
        injection e with e1
        simpa using congrArg (fun x : Str => x.cps.toList) e1
      subst this
      exact ⟨_, rfl⟩
  · intro D h' tk ys vs hD hl' hpl hlen hP hF hk
    repeat' (walk_at "w")
    have hs := read_strs (q := fun c => !unseen.contains c) (f := mapB3) (p := fun v => match v with | .str x _ => !unseen.contains (x.cps.toList.headD 0) | _ => false) (fun c u => rfl) l vs ys.toList (by rw [hlen]; simp) (fun j v e => by
      obtain ⟨c, u, h1, h2⟩ := hP j v e
      exact ⟨c, u, by simpa using h1, h2⟩) hF
    refine join_listW hl' hs (by decide) ?_ fun t' k => ?_
    · have h1 : ((l.filter fun c => !unseen.contains c).map fun c => mkS (mapB3 c)).length ≤ 100 := by
        rw [List.length_map]
        exact Nat.le_trans (List.length_filter_le _ _) hl
      have h2 : ∀ (zs : List Nat), ((zs.map fun c => mkS (mapB3 c)).map (·.length)).sum ≤ 20 * zs.length := by
        intro zs
        induction zs with
        | nil => simp
        | cons z zs ih =>
          have := mapB3_len z
          simp only [List.map_cons, List.sum_cons, List.length_cons]
          rw [mkS_len]
          omega
      have h3 := h2 (l.filter fun c => !unseen.contains c)
      rw [List.length_map] at h1
      rw [List.length_map]
      omega
    · have e : Txt.join (Str.ofString "") ((l.filter fun c => !unseen.contains c).map fun c => mkS (mapB3 c)) = mkS (readS l) := by
        have e1 : ((l.filter fun c => !unseen.contains c).map fun c => mkS (mapB3 c)) = ((l.filter fun c => !unseen.contains c).map mapB3).map mkS := by rw [List.map_map]; rfl
        rw [e1]
        rw [beq_iff_eq.mp (join_plain_closes _ _), mkS_lit (l := []) rfl]
        show Str.join (mkS []) _ = _
        rw [join_S]
        unfold readS
        rw [List.flatMap_def]
      rw [e]
      exact hQ _ _ _ fun b o' e => hk b o' (fun hm => Nat.ne_of_lt (Heap.lt_size (F.keep b o' e)) (List.mem_singleton.mp hm)) (Heap.get?_push_of_some _ (F.keep b o' e))
end
end Mine
-- text M4
namespace Mine
theorem fresh_M4 : True := by w_top off; trivial
section
variable {prog : Program} {w : World} {mean : ExcName → Option Value} {mg mb : Str → Option Value} {ad : Nat → Addr} {A : Around} {s : Shared} {Q E : Value → Shared → Prop}
theorem chr_S {c : Nat} {t : Tok} (h : c ≤ 1114111) (hQ : ∀ t', Q (.str (mkS [c]) t') { s with toks := s.toks + 1 }) : wpAny (model prog w) A (call (.builtin "chr") [.int (c : Int) t]) Q E s := by
  refine P.chr_of_int ?_ ?_
  · simp; omega
  · rw [Int.toNat_natCast]; exact hQ _
theorem unseen_le : ∀ k, k < 27 → unseen.getD k 0 ≤ 1114111 := by decide
theorem c_unseen {n : Nat} {t : Tok} (G : GG w mean mg mb ad s.heap) (r : Rm 1 A) (hn : n ≤ 10 ^ 13)
    (hQ : ∀ h' t' a u1 u2, Keeps s.heap h' → s.heap.get? a = none → IsTup h' a #[.str (mkS [unseen.getD (n % 27) 0]) u1, .str (mkS []) u2] → Q (.ref a) { s with heap := h', toks := t' }) :
    wpAny (model prog w) A (call (.ref (ad 16)) [.int (n : Int) t]) Q E s := by
  refine enter (i := 16) (binds := [("number", .int (n : Int) t)]) dr16 G (by decide) rfl r (fun _ _ _ => by kernel_rfl!) (by kernel_rfl!) (by kernel_rfl!) fun L cd h₁ F N r' => ?_
  have hg := G.T.g
  have hb := G.T.b
  obtain ⟨r1, r2⟩ := G.range
  obtain ⟨l1, l2⟩ := G.list
  obtain ⟨c1, c2⟩ := G.chr
  repeat' (walk_at "w")
  rename IsRange _ _ _ _ _ _ _ _ => R₁
  rename Fr s.heap L _ _ => F₁
  rename News s.heap L _ _ => N₁
  refine list_rangeD r'.2.2 F₁ N₁ R₁ (by decide) (n := 16) (by decide) (by decide) fun h' tk' ys F₂ N₂ hk₂ hnew hl hpl hc => ?_
  obtain ⟨o₀, ho₀, hc₀, cn₀, hd₀⟩ := hl
  have N₃ : News s.heap L h' ((_, o₀) :: _) := News.one N₂ ho₀ (Nat.ne_of_gt F₁.ns.lt) hnew
  have hi₀ := IntsAre.ofCarried hc
  clear N₂ hpl hc hk₂ R₁ F₁ N₁
  repeat' ((fail_if_success (with_reducible show wpAny _ _ (binaryOp _ _ _) _ _ _)); walk_at "w")
  refine add_lists_ints (ns := [173, 847, 6150, 6155, 6156, 6157, 8203, 8204, 8205, 8288, 65279]) F₂ N₃ (News.isList N₃ (.tail _ (.head _))) ⟨o₀, ho₀, hc₀, cn₀, hd₀⟩ (by repeat constructor) hi₀ (fun h₅ F₅ N₅ hi₅ => ?_)
  repeat' ((fail_if_success (with_reducible show wpAny _ _ (subscriptTail _ _ _ _) _ _ _)); walk_at "w")
  · rename Fr s.heap L _ _ => F₆
    rename News s.heap L _ _ => N₆
    have em : (n : Int).fmod 27 = ((n % 27 : Nat) : Int) := by rw [Int.fmod_eq_emod_of_nonneg _ (by decide)]; omega
    rw [em]
    have hlt : n % 27 < 27 := Nat.mod_lt _ (by decide)
    refine item_list_ints (News.isList N₆ (.head _)) hi₅ (by omega) (by show ((n % 27 : Nat) : Int) < 27; omega) (by omega) fun tv => ?_
    have eg : (([173, 847, 6150, 6155, 6156, 6157, 8203, 8204, 8205, 8288, 65279] : List Int) ++ rangeInts 65024 1 16).getD ((n % 27 : Nat) : Int).toNat 0 = ((unseen.getD (n % 27) 0 : Nat) : Int) := by
      rw [Int.toNat_natCast]
      generalize n % 27 = k at hlt
      revert k
      decide
    rw [eg]
    repeat' ((fail_if_success (with_reducible show wpAny _ _ (call (.builtin "chr") _) _ _ _)); walk_at "w")
    refine chr_S (unseen_le _ hlt) fun tq => ?_
    repeat' (walk_at "w")
    rename Fr s.heap L _ _ => F₇
    rename News s.heap L _ _ => N₇
    have T := News.isTup N₇ (.head _)
    rw [show Str.ofString "" = mkS [] from mkS_lit (l := []) rfl] at T
    exact hQ _ _ _ _ _ F₇.keep (N₇ _ (.head _)).2.2 T
  all_goals trace_state
end
end Mine
-- text M5
namespace Mine
theorem fresh_M5 : True := by w_top off; trivial
section
variable {prog : Program} {w : World} {mean : ExcName → Option Value} {mg mb : Str → Option Value} {ad : Nat → Addr} {A : Around} {s : Shared} {Q E : Value → Shared → Prop}
/-- a def with cells is entered; it raises nothing -/
theorem enterC {i : Nat} {f : Addr} {vals : List Value} {binds : List (Str × Value)} {n : Nat} (hd : dr i ∈ recsOf qP) (G : GG w mean mg mb ad s.heap) (hi : i ∈ fns) (hf : f = ad i) (r : Rm (n + 1) A)
    (hbind : ∀ pm cd doc, bindArgs (Calls.docDef (dr i).name (dr i).params (dr i).body (dr i).scope pm cd doc) ⟨vals, []⟩ = pure binds)
    (hkind : ∀ L, ∀ x ∈ binds, (dr i).scope.names.lookup x.1 = some .local ∨ ((dr i).scope.names.lookup x.1 = some .cell ∧ ((cellsFrom (L + 1) (dr i).scope.names []).lookup x.1).isSome = true))
    (hsc : ((dr i).scope.isCoroutine == false && (dr i).scope.isGenerator == false && (dr i).scope.kind == .function) = true)
    (h : ∀ L cd h₁ tk, Fr s.heap L h₁ (bindL (envOfC (nm i) (dr i).scope L f cd).kindOf binds fun _ => none) → Cl L (cellsFrom (L + 1) (dr i).scope.names []) h₁ (bindC (envOfC (nm i) (dr i).scope L f cd).kindOf binds fun _ => none) →
      Rm n (A.deeper (envOfC (nm i) (dr i).scope L f cd)) →
      wpAny (model prog w) (A.deeper (envOfC (nm i) (dr i).scope L f cd)) (execs (dr i).body (envOfC (nm i) (dr i).scope L f cd))
        (fun fl s' => Q (match fl with | .ret v => v | _ => .none) s') (fun _ _ => False) { s with heap := h₁, toks := tk }) :
    wpAny (model prog w) A (call (.ref f) vals) Q E s := by
  obtain ⟨a, o, pm, cd, doc, h1, h2, h3, h4⟩ := G.T.fn _ hd
  have e : a = f := by have := G.fn i hi; rw [h1] at this; cases this; exact hf.symm
  subst e
  simp only [Bool.and_eq_true, beq_iff_eq] at hsc
  exact wpAny_call (call_cells_ret r.lt h2 h3 G.T.nolimit h4 (hbind pm cd doc) (hkind _) (fun h₁ tk F X => h _ cd h₁ tk F X r.deeper) hsc.1.1 hsc.1.2 hsc.2)
end
section
variable {M : Model} {A : Around} {E : Value → Shared → Prop} {s : Shared} {mg mb : Str → Option Value} {env : Env} {x : Str} {pos : Pos} {v : Value} {Q : Value → Shared → Prop}
/-- a built-in's name, in any function-like scope -/
theorem ldb (hg : s.heap.Ns mainGlobals mg) (hmiss : mg x = none) (hb : s.heap.Ns builtinsNs mb) (hv : mb x = some v) (h : Q v s) (hk : env.scope.kind = .function := by rfl) (hx : env.kindOf x = some .globalImplicit := by rfl) (hG : env.globals = mainGlobals := by rfl) (hB : env.builtins = builtinsNs := by rfl) (hd : (x == ("__debug__" : Str)) = false := by decide) :
    wpAny M A (eval (.Name x pos) env) Q E s :=
  Calls.Name_function_global hk hx (Calls.loadGlobal_builtin (env := env) (hG ▸ hg) hmiss (hB ▸ hb) hv h) hd
/-- a cell's name, in any function-like scope -/
theorem ldc {c : Addr} (hc : env.cells.lookup x = some c) (hv : s.heap.IsCell c (some v)) (h : Q v s) (hk : env.scope.kind = .function := by rfl) (hx : env.kindOf x = some .cell := by rfl) (hd : (x == ("__debug__" : Str)) = false := by decide) :
    wpAny M A (eval (.Name x pos) env) Q E s := wpAny_Name (wpAny_loadName_cell hk hx hc hv h) hd
end
end Mine
-- text L2
namespace Mine
theorem fresh_L2 : True := by w_top off; trivial
section
variable {prog : Program} {w : World} {A : Around} {E : Value → Shared → Prop} {env : Env} {hp : Heap} {g : Array GenState} {d : Drawn} {tk₀ : Nat} {os : OsState}
/-- a list comprehension by an invariant over the heap and the items made so far; X: what the comprehension itself writes -/
theorem comp_J {elt target iter : Expr} {ifs : List Expr} {scope : Scope} {cl : List (Str × Addr)} {pos : Pos} {I : Addr} {fp wr : List Addr} {n : Nat} {P : Nat → Value → Prop} {St : Nat → Heap → Prop} {Q : Value → Shared → Prop}
    (W : Walks prog w A I fp wr n P St) (hst : St 0 hp) (hfp : ∀ b ∈ fp, b < hp.objs.size) (hlive : ∀ i h, St i h → ∀ b ∈ wr, ∃ o, h.get? b = some o) (hn1 : n ≤ 1000)
    (hcell : ∀ y ∈ scope.names, y.2 ≠ .cell) (hkind : scope.kind = .function)
    (J : (Addr → Prop) → Nat → Heap → List Value → Prop) (Bd : Nat → Heap → (Str → Option Value) → Prop)
    (J0 : ∀ X h, (∀ b o, b ∉ wr → hp.get? b = some o → h.get? b = some o) → J X 0 h [])
    (Jlen : ∀ X i h ys, i ≤ n → J X i h ys → ys.length ≤ 1000)
    (Jk : ∀ X i h h' ys, (∀ b o, ¬ X b → h.get? b = some o → h'.get? b = some o) → J X i h ys → J X i h' ys)
    (asg : ∀ X i v h tk m C ys (Q' : Unit → Shared → Prop) (E' : Value → Shared → Prop), i < n → hp.objs.size ≤ C → P i v → J X i h ys → (∀ b o, b ∉ wr → hp.get? b = some o → h.get? b = some o) → h.Ns C m →
      (∀ h' tk' m', h'.Ns C m' → Bd i h' m' → Heap.SameBut C h h' → Q' () ⟨h', g, d, tk', os⟩) → wpAny (model prog w) A (assign target (compEnvC scope cl C env) v) Q' E' ⟨h, g, d, tk, os⟩)
    (turn : ∀ X i h tk m C ys (E' : Value → Shared → Prop), i < n → hp.objs.size ≤ C → J X i h ys → Bd i h m → h.Ns C m → (∀ b, X b → ∃ o, h.get? b = some o) → (∀ b o, b ∉ wr → hp.get? b = some o → h.get? b = some o) →
      wpAny (model prog w) A (forIn ifs true fun c r => if r = true then do let ok ← isTrue c (compEnvC scope cl C env) (eval c (compEnvC scope cl C env)); pure (ForInStep.yield ok) else pure (ForInStep.yield r)) (fun ok s₃ =>
        ∃ h' tk', s₃ = ⟨h', g, d, tk', os⟩ ∧ Keeps h h' ∧ if ok = true then wpAny (model prog w) A (eval elt (compEnvC scope cl C env)) (fun y s₄ => ∃ h'' tk'', s₄ = ⟨h'', g, d, tk'', os⟩ ∧ Keeps h' h'' ∧ J X (i + 1) h'' (ys ++ [y])) E' s₃
          else J X (i + 1) h' ys) E' ⟨h, g, d, tk, os⟩)
    (done : ∀ X D h tk ys cn, J X n h ys → hp.get? D = none → h.get? D = some { cls := .type "list", data := .seq ys.toArray cn } → (∀ b o, b ∉ wr → hp.get? b = some o → h.get? b = some o) → (∀ X', (∀ b, X b ↔ X' b) → J X' n h ys) → X D → Q (.ref D) ⟨h, g, d, tk, os⟩)
    (hna : target.pos = target.pos) (ht : ∀ v, letOwnedTupleGo target (.ref I) v = pure () := by intro _; rfl) :
    wpAny (model prog w) A (newList []) (fun acc s₃ => wpAny (model prog w) A (newFunctionEnv scope env.globals cl [] env.qual none .none (some env)) (fun cenv s₄ =>
      codeAny (model prog w) A (.compStart (.ListComp elt [⟨target, iter, ifs, 0⟩] scope pos) 0 (.ref I) acc { cenv with scope := relabel scope env }) (compPost (model prog w) A E none Q acc cenv.locals) s₄) E s₃) E ⟨hp, g, d, tk₀, os⟩ := by
  refine wpAny_newObj_type (wpAny_newFunctionEnv hcell (by intro y hy; simp at hy) (fun h₁ hns₁ hsb₁ => ?_) hkind)
  dsimp only at hns₁ hsb₁ ⊢
  generalize hD : hp.objs.size = D at hns₁ hsb₁ ⊢
  generalize hH2 : hp.push { cls := .type "list", dict := none, data := .seq ([] : List Value).toArray } = H2 at hns₁ hsb₁ ⊢
  generalize hC : H2.objs.size = C at hns₁ hsb₁ ⊢
  have hC' : C = D + 1 := by rw [← hC, ← hH2, Heap.size_push, hD]
  have hDC' : D < C := by rw [hC']; exact Nat.lt_succ_self _
  have hDC : D ≠ C := Nat.ne_of_lt hDC'
  have hlt : ∀ b o, hp.get? b = some o → b < D := fun b o e => by rw [← hD]; exact Heap.lt_size e
  have ltC : ∀ b o, hp.get? b = some o → b ≠ C := fun b o e => Nat.ne_of_lt (Nat.lt_trans (hlt b o e) hDC')
  have ltD : ∀ b o, hp.get? b = some o → b ≠ D := fun b o e => Nat.ne_of_lt (hlt b o e)
  have hCle : hp.objs.size ≤ C := by rw [hD]; exact Nat.le_of_lt hDC'
  have old : ∀ b o, hp.get? b = some o → h₁.get? b = some o := fun b o e => hsb₁.extBut b o (ltC b o e) (Heap.get?_push_of_some _ (hH2 ▸ Heap.get?_push_of_some _ e))
  have hwr : ∀ b ∈ wr, b < D := fun b hb => by rw [← hD]; exact hfp b (W.sub b hb)
  have hacc : h₁.PlainList D #[] := by
    have e0 : H2.get? D = some { cls := .type "list", dict := none, data := .seq ([] : List Value).toArray } := by rw [← hH2, ← hD]; exact Heap.get?_push_size _ rfl
    exact ⟨_, hsb₁.extBut _ _ hDC (Heap.get?_push_of_some _ e0)⟩
  have hst₁ : St 0 h₁ := W.frame _ _ _ hst fun b _ o e => old b o e
  let X : Addr → Prop := fun b => b = C ∨ b = D ∨ b ∈ wr
  have hDnone : hp.get? D = none := by
    cases e : hp.get? D with
    | none => rfl
    | some o => exact absurd (hlt D o e) (Nat.lt_irrefl _)
  have hCf : C ∉ fp := fun hm => Nat.lt_irrefl _ (Nat.lt_trans hDC' (by have := hfp _ hm; rw [hD] at this; exact this))
  have hDf : D ∉ fp := fun hm => Nat.lt_irrefl _ (by have := hfp _ hm; rw [hD] at this; exact this)
  have hCw : C ∉ wr := fun hm => hCf (W.sub _ hm)
  have hDw : D ∉ wr := fun hm => hDf (W.sub _ hm)
  have loop : ∀ tk, codeAny (model prog w) A (.compLoop (.ListComp elt [⟨target, iter, ifs, 0⟩] scope pos) 0 (.ref I) (.ref D) (compEnvC scope cl C env)) (compPost (model prog w) A E none Q (.ref D) C) ⟨h₁, g, d, tk, os⟩ := by
    intro tk
    refine codeAny_compLoop_tests (fun k s' => ∃ h tk m ys i, s' = ⟨h, g, d, tk, os⟩ ∧ i + k = n ∧ St i h ∧ h.PlainList D (List.toArray ys) ∧ h.Ns C m ∧ J X i h ys ∧ (∀ b o, b ∉ wr → hp.get? b = some o → h.get? b = some o)) ?_ n
      ⟨h₁, tk, _, [], 0, rfl, by omega, hst₁, hacc, hns₁, J0 X h₁ (fun b o _ e => old b o e), fun b o _ e => old b o e⟩ ht
    rintro k s' ⟨h, tk, m, ys, i, rfl, hk, st, ha, hn, hj, hkp⟩
    by_cases hin : i < n
    · refine W.item i _ _ _ hin st fun v h' tk' hP st' hk' => ?_
      have hj' : J X i h' ys := Jk X i h h' ys (fun b o hb e => hk' b o (fun hm => hb (.inr (.inr hm))) e) hj
      have hn' : h'.Ns C m := hn.at' fun o e => hk' _ o hCw e
      have ha' : h'.PlainList D ys.toArray := ha.at fun o e => hk' _ o hDw e
      have hkp' : ∀ b o, b ∉ wr → hp.get? b = some o → h'.get? b = some o := fun b o hb e => hk' b o hb (hkp b o hb e)
      refine asg X i v h' tk' m C ys _ _ hin hCle hP hj' hkp' hn' fun h₂ tk₂ m₂ hn₂ hb₂ sb₂ => ?_
      have st₂ : St (i + 1) h₂ := W.frame _ _ _ st' fun b hb o e => sb₂.extBut b o (fun q => hCf (q ▸ hb)) e
      have ha₂ : h₂.PlainList D ys.toArray := ha'.at fun o e => sb₂.extBut _ o hDC e
      have hj₂ : J X i h₂ ys := Jk X i h' h₂ ys (fun b o hb e => sb₂.extBut b o (fun q => hb (.inl q)) e) hj'
      have hkp₂ : ∀ b o, b ∉ wr → hp.get? b = some o → h₂.get? b = some o := fun b o hb e => sb₂.extBut b o (ltC b o e) (hkp' b o hb e)
      have alive : ∀ b, X b → ∃ o, h₂.get? b = some o := by
        rintro b (rfl | rfl | hb)
        · obtain ⟨o, _, _, ho, _⟩ := hn₂; exact ⟨o, ho⟩
        · obtain ⟨_, ho⟩ := ha₂; exact ⟨_, ho⟩
        · exact hlive _ _ st₂ b hb
      refine wpAny_mono (turn X i h₂ tk₂ m₂ C ys _ hin hCle hj₂ hb₂ hn₂ alive hkp₂) (fun ok s₃ h₃ => ?_) fun _ _ e => e
      obtain ⟨h₃, tk₃, rfl, k₃, rest⟩ := h₃
      cases ok with
      | false =>
        rw [if_neg Bool.false_ne_true] at rest ⊢
        exact ⟨k - 1, by omega, h₃, tk₃, m₂, ys, i + 1, rfl, by omega, W.frame _ _ _ st₂ fun b _ o e => k₃ b o e, ha₂.at fun o e => k₃ _ o e, hn₂.keeps k₃, rest, fun b o hb e => k₃ b o (hkp₂ b o hb e)⟩
      | true =>
        rw [if_pos rfl] at rest ⊢
        refine wpAny_mono rest (fun y s₄ h₄ => ?_) fun _ _ e => e
        obtain ⟨h₄, tk₄, rfl, k₄, hj₄⟩ := h₄
        have ha₄ : h₄.PlainList D ys.toArray := ha₂.at fun o e => k₄ _ o (k₃ _ o e)
        have hl := Jlen X (i + 1) h₄ _ (by omega) hj₄
        refine wpAny_list_append_plain ha₄ (fun h₅ ha₅ sb₅ => ?_) (by
          rw [List.length_append] at hl
          simp only [List.size_toArray]
          exact Nat.le_trans (by omega : ys.length ≤ 1000) (by decide))
        refine ⟨k - 1, by omega, h₅, tk₄, m₂, ys ++ [y], i + 1, rfl, by omega, W.frame _ _ _ st₂ fun b hb o e => sb₅.extBut b o (fun q => hDf (q ▸ hb)) (k₄ _ _ (k₃ _ _ e)), by simpa using ha₅, ((hn₂.keeps k₃).keeps k₄).sameBut sb₅ (Ne.symm hDC), Jk X (i + 1) h₄ h₅ _ (fun b o hb e => sb₅.extBut b o (fun q => hb (.inr (.inl q))) e) hj₄, fun b o hb e => sb₅.extBut b o (ltD b o e) (k₄ _ _ (k₃ _ _ (hkp₂ b o hb e)))⟩
    · obtain rfl : i = n := by omega
      refine W.done _ _ _ st fun h' tk' hk' => ?_
      have hn' : h'.Ns C m := hn.at' fun o e => hk' _ o hCw e
      refine ⟨m, hn', fun h'' sb => ?_⟩
      have ha' : h'.PlainList D ys.toArray := ha.at fun o e => hk' _ o hDw e
      obtain ⟨cn, ho⟩ : h''.PlainList D ys.toArray := ha'.at fun o e => sb.extBut _ o hDC e
      have hj' : J X i h'' ys := Jk X i h' h'' ys (fun b o hb e => sb.extBut b o (fun q => hb (.inl q)) e) (Jk X i h h' ys (fun b o hb e => hk' b o (fun hm => hb (.inr (.inr hm))) e) hj)
      refine done X D h'' tk' ys cn hj' hDnone ho (fun b o hb e => sb.extBut b o (ltC b o e) (hk' b o hb (hkp b o hb e))) (fun X' hx => ?_) (.inr (.inl rfl))
      have : X = X' := funext fun b => propext (hx b)
      exact this ▸ hj'
  exact codeAny_compStart_list (loop _) (W.self 0 _ _ _ hst₁ (loop _))
end
end Mine
-- text L3
namespace Mine
theorem fresh_L3 : True := by w_top off; trivial
section
variable {prog : Program} {w : World} {A : Around} {s : Shared} {Q E : Value → Shared → Prop}
/-- sums on naturals -/
theorem fdN {a : Nat} {b : Int} {t u : Tok} (hb : 0 < b ∧ b < 1073741824) (h : ∀ t' tk, Q (.int ((a / b.toNat : Nat) : Int) t') { s with toks := tk }) : wpAny (model prog w) A (binaryOp .FloorDiv (.int (a : Int) t) (.int b u)) Q E s := by
  refine floordiv_int (by omega) ?_ (.inl (PyProof.noPylong_small (by omega)))
  have e : (a : Int).fdiv b = ((a / b.toNat : Nat) : Int) := by
    obtain ⟨c, rfl⟩ : ∃ c : Nat, b = c := ⟨b.toNat, by omega⟩
    rw [Int.fdiv_eq_ediv_of_nonneg _ (by omega), Int.toNat_natCast]
    rfl
  rw [e]
  exact h _ _
theorem modN {a : Nat} {b : Int} {t u : Tok} (hb : 0 < b) (h : ∀ t' tk, Q (.int ((a % b.toNat : Nat) : Int) t') { s with toks := tk }) : wpAny (model prog w) A (binaryOp .Mod (.int (a : Int) t) (.int b u)) Q E s := by
  refine mod_int' (by omega) ?_
  have e : (a : Int).fmod b = ((a % b.toNat : Nat) : Int) := by
    obtain ⟨c, rfl⟩ : ∃ c : Nat, b = c := ⟨b.toNat, by omega⟩
    rw [Int.fmod_eq_emod_of_nonneg _ (by omega), Int.toNat_natCast]
    rfl
  rw [e]
  exact h _ _
theorem addN {a b : Nat} {t u : Tok} (h : ∀ t' tk, Q (.int ((a + b : Nat) : Int) t') { s with toks := tk }) : wpAny (model prog w) A (binaryOp .Add (.int (a : Int) t) (.int (b : Int) u)) Q E s := by
  refine add_int ?_
  rw [← Int.natCast_add]
  exact h _ _
theorem addLN {a : Int} {b : Nat} {t u : Tok} (ha : 0 ≤ a) (h : ∀ t' tk, Q (.int ((a.toNat + b : Nat) : Int) t') { s with toks := tk }) : wpAny (model prog w) A (binaryOp .Add (.int a t) (.int (b : Int) u)) Q E s := by
  refine add_int ?_
  rw [show a + (b : Int) = ((a.toNat + b : Nat) : Int) by omega]
  exact h _ _
end
section
variable {prog : Program} {w : World} {A : Around} {E : Value → Shared → Prop} {env : Env} {h₀ hp : Heap} {g : Array GenState} {d : Drawn} {tk₀ : Nat} {os : OsState} {x : Str} {px : Pos} {body : List Stmt} {Q : Flow → Shared → Prop} {m : Str → Option Value} {nx : List (Addr × Obj)}
/-- .. that may bring new objects on -/
theorem loop_range2 {r : Addr} {b₀ : Int} {t₀ u₀ v₀ : Tok} {n : Nat} (J : Nat → (Str → Option Value) → List (Addr × Obj) → Prop) (hx : env.kindOf x = some .local)
    (hh : A.handled = none) (hr : IsRange hp r 0 b₀ 1 t₀ u₀ v₀) (hb : b₀ = (n : Int)) (hlt : n < 2 ^ 31) (F : Fr h₀ env.locals hp m) (N : News h₀ env.locals hp nx) (hJ : J 0 m nx)
    (turn : ∀ (i : Nat) t m nx h tk I oi, i < n → (∀ p ∈ nx, p.1 ≠ I) → J i m nx → Fr h₀ env.locals h (fun y => if y = x then some (.int (i : Int) t) else m y) → News h₀ env.locals h ((I, oi) :: nx) →
      wpAny (model prog w) A (execs body env) (fun f s₃ => match f with
        | .next | .cont => ∃ h' tk' m' nx', s₃ = ⟨h', g, d, tk', os⟩ ∧ Fr h₀ env.locals h' m' ∧ News h₀ env.locals h' ((I, oi) :: nx') ∧ (∀ p ∈ nx', p.1 ≠ I) ∧ J (i + 1) m' nx'
        | .brk => Q .next s₃
        | .ret v => Q (.ret v) s₃) (notedBy (model prog w) A env (cameBackBy (model prog w) A env E)) ⟨h, g, d, tk, os⟩)
    (done : ∀ m nx h tk, J n m nx → Fr h₀ env.locals h m → News h₀ env.locals h nx → Q .next ⟨h, g, d, tk, os⟩)
    (hk : (env.scope.kind == .class || (env.scope.kind == .module && env.locals != env.globals)) = false := by rfl) :
    wpAny (model prog w) A (pyIter (.ref r)) (fun it s₂ => codeAny (model prog w) A (.forLoop (.Name x px) it body [] env) (fun r s' => match r with | .ok f => Q f s' | .error e => cameBackBy (model prog w) A env E e s') s₂) E ⟨hp, g, d, tk₀, os⟩ := by
  subst hb
  refine wpAny_pyIter_range hr (range_small n hlt) ?_
  rw [range_size]
  generalize hI : hp.objs.size = I
  have hL : I ≠ env.locals := by rw [← hI]; exact Nat.ne_of_gt F.ns.lt
  have hn0 : h₀.get? I = none := by rw [← hI]; exact next_is_new F
  have hnI : ∀ p ∈ nx, p.1 ≠ I := fun p hp => by rw [← hI]; exact Nat.ne_of_lt (Heap.lt_size (N p hp).1)
  refine codeAny_forLoop (fun k s' => ∃ h tk m nx i, s' = ⟨h, g, d, tk, os⟩ ∧ i + k = n ∧ IsRangeIter h I (i : Int) ((n : Int) - i) 1 ∧ Fr h₀ env.locals h m ∧ News h₀ env.locals h nx ∧ (∀ p ∈ nx, p.1 ≠ I) ∧ J i m nx) ?_ n ?_
  · rintro k s' ⟨h, tk, m, nx, i, rfl, hk', it, F, N, hnI, hj⟩
    by_cases hin : i < n
    · refine wpAny_pyNext_range_item it (by omega) fun h' it' sb => ?_
      have F' := Fr.but F sb.extBut hL.symm hn0
      have e1 : ((i : Int) + 1) = ((i + 1 : Nat) : Int) := by omega
      have e2 : ((n : Int) - i - 1) = (n : Int) - (i + 1 : Nat) := by omega
      rw [e1, e2] at it'
      obtain ⟨oi, hoi, hod⟩ : ∃ oi, h'.get? I = some oi ∧ ∀ h'', h''.get? I = some oi → IsRangeIter h'' I ((i + 1 : Nat) : Int) ((n : Int) - (i + 1 : Nat)) 1 := by
        unfold IsRangeIter at it' ⊢
        exact ⟨_, it', fun h'' e => e⟩
      have N' : News h₀ env.locals h' ((I, oi) :: nx) := News.one (News.but (o := oi) N sb hnI) hoi hL hn0
      refine wpAny_assign_Name (wpAny_storeName_local hx F'.ns (fun h₂ hn₂ sb₂ => ?_) hk)
      refine wpAny_mono (turn i _ m nx h₂ _ I oi hin hnI hj (F'.set hn₂ sb₂) (N'.set sb₂)) (fun f s₃ hf => ?_) fun _ _ e => e
      cases f with
      | next =>
        obtain ⟨h₃, tk₃, m₃, nx₃, rfl, F₃, N₃, ha, hj₃⟩ := hf
        exact ⟨k - 1, by omega, h₃, tk₃, m₃, nx₃, i + 1, rfl, by omega, hod _ (N₃.get (.head _)), F₃, News.sub N₃ fun p hp => .tail _ hp, ha, hj₃⟩
      | cont =>
        obtain ⟨h₃, tk₃, m₃, nx₃, rfl, F₃, N₃, ha, hj₃⟩ := hf
        exact ⟨k - 1, by omega, h₃, tk₃, m₃, nx₃, i + 1, rfl, by omega, hod _ (N₃.get (.head _)), F₃, News.sub N₃ fun p hp => .tail _ hp, ha, hj₃⟩
      | brk => exact hf
      | ret v => exact hf
    · obtain rfl : i = n := by omega
      refine wpAny_pyNext_range_end hh it (by omega) fun h' sb => ?_
      refine wpAny_execs_nil (done m nx h' _ hj (Fr.but F sb hL.symm hn0) fun p hp => ⟨sb _ _ (hnI p hp) (N p hp).1, (N p hp).2⟩)
  · refine ⟨_, _, m, nx, 0, rfl, by omega, ?_, F.push _, fun p hp => ⟨Heap.get?_push_of_some _ (N p hp).1, (N p hp).2⟩, hnI, hJ⟩
    rw [← hI]
    unfold IsRangeIter
    have := Heap.get?_push_size hp (o := { cls := .type "range_iterator", data := .fields #[rawInt 0, rawInt n, rawInt 1] }) rfl
    simpa using this
end
end Mine
-- text M6
namespace Mine
theorem fresh_M6 : True := by w_top off; trivial
local macro_rules | `(tactic| walk_at "binaryOp FloorDiv int int") => `(tactic| refine fdN (by first | decide | omega) (fun _ _ => ?_))
local macro_rules | `(tactic| walk_at "binaryOp Mod int int") => `(tactic| refine modN (by first | decide | omega) (fun _ _ => ?_))
/-- a new tuple of two texts: a sign and what it means -/
noncomputable def PairAt (X : Addr → Prop) (h₀ h : Heap) (v : Value) (p : Nat × List Nat) : Prop := ∃ T u1 u2, v = .ref T ∧ ¬ X T ∧ h₀.get? T = none ∧ IsTup h T #[.str (mkS [p.1]) u1, .str (mkS p.2) u2]
noncomputable def PairsAt (X : Addr → Prop) (h₀ h : Heap) (ps : List (Nat × List Nat)) (ys : List Value) : Prop := Paired (fun p v => PairAt X h₀ h v p) ps ys
theorem PairAt.at {X : Addr → Prop} {h₀ h h' : Heap} {v : Value} {p : Nat × List Nat} (x : PairAt X h₀ h v p) (k : ∀ b o, ¬ X b → h.get? b = some o → h'.get? b = some o) : PairAt X h₀ h' v p := by
  obtain ⟨T, u1, u2, rfl, hX, hn, ht⟩ := x
  refine ⟨T, u1, u2, rfl, hX, hn, ?_⟩
  obtain ⟨o, ho, r⟩ := ht
  exact ⟨o, k _ _ hX ho, r⟩
noncomputable def unseenPair (n : Nat) : Nat × List Nat := (unseen.getD (n % 27) 0, [])
noncomputable def sideAt (n k : Nat) : Nat × List Nat := if n / 3 ^ k % 3 = 2 then unseenPair (n / 81 + k) else (32, [32])
noncomputable def sideP (n : Nat) : List (Nat × List Nat) := (List.range 4).map (sideAt n)
section
variable {prog : Program} {w : World} {mean : ExcName → Option Value} {mg mb : Str → Option Value} {ad : Nat → Addr} {A : Around} {s : Shared} {Q E : Value → Shared → Prop}
theorem c_side {n : Nat} {t : Tok} (G : GG w mean mg mb ad s.heap) (r : Rm 2 A) (hn : n ≤ 10 ^ 12)
    (hQ : ∀ h' t' a ys, Keeps s.heap h' → s.heap.get? a = none → h'.IsList a (List.toArray ys) → PairsAt (fun b => b = a) s.heap h' (sideP n) ys → Q (.ref a) { s with heap := h', toks := t' }) :
    wpAny (model prog w) A (call (.ref (ad 17)) [.int (n : Int) t]) Q E s := by
  refine enterC (i := 17) (binds := [("number", .int (n : Int) t)]) dr17 G (by decide) rfl r (fun _ _ _ => by kernel_rfl!) ?_ (by kernel_rfl!) fun L cd h₁ tk F X₀ r' => ?_
  · intro L x hx
    rw [List.mem_singleton.mp hx]
    exact .inr ⟨rfl, rfl⟩
  have kF : Keeps s.heap h₁ := F.keep
  have hg := G.T.g
  have hb := G.T.b
  obtain ⟨r1, r2⟩ := G.range
  repeat' ((fail_if_success (with_reducible show wpAny _ _ (eval (.ListComp _ _ _ _) _) _ _ _)); walk_at "w")
  rw [eval_ListComp]
  have N : News s.heap L h₁ [] := .nil
  have hg₁ := hg.keeps F.keep
  have hb₁ := hb.keeps F.keep
  refine wpAny_comprehension_free (use := none) (cl := [("number", L + 1)]) rfl (fun _ => rfl) rfl rfl (by decide) ?_
  dsimp only [firstIter, firstAsync]
  repeat' (first | refine ldb hg₁ (by assumption) hb₁ (by assumption) ?_ | ((fail_if_success (with_reducible show wpAny _ _ (pyIter _) _ _ _)); walk_at "w"))
  rename IsRange _ _ _ _ _ _ _ _ => R₁
  rename Fr s.heap L _ _ => F₂
  rename ∀ b o, _ => k₂
  refine wpAny_pyIter_range R₁ (by decide) ?_
  dsimp only
  refine comp_J (J := fun X i h ys => PairsAt X s.heap h ((List.range i).map (sideAt n)) ys) (Bd := fun i h m => ∃ t, m "k" = some (.int (i : Int) t)) (Walks.range r'.2.2 _ 0 1 4).bound ?_ ?_ ?_ (by decide) (by decide) rfl ?_ ?_ ?_ ?_ ?_ ?_ rfl
  · show IsRangeIter _ _ _ _ _
    rw [show Builtin.Range.rangeSize 0 4 1 = 4 by decide]
    simpa using Heap.get?_push_size _ rfl
  · intro b hb
    rw [List.mem_singleton.mp hb, Heap.size_push]
    exact Nat.lt_succ_self _
  · intro i h st b hb
    rw [List.mem_singleton.mp hb]
    exact ⟨_, st⟩
  · intro X h _
    exact .nil
  · intro X i h ys hi hj
    have := Paired.length hj
    simp at this
    omega
  · intro X i h h' ys hk hj
    exact hj.mono fun _ _ x => x.at hk
  · rintro X i v h tk m C ys Q' E' hi hC ⟨_, u, rfl⟩ hj hk hn hq
    refine wpAny_assign_Name (wpAny_storeName_local rfl hn (fun h' hn' sb => ?_) rfl)
    exact hq h' _ _ hn' ⟨u, by simp⟩ sb
  · rintro X i h tk m C ys E' hi hC hj ⟨u, hm⟩ hn hal hk
    simp only [List.forIn_nil]
    refine wpAny_pure ⟨h, tk, rfl, fun _ _ e => e, ?_⟩
    rw [if_pos rfl]
    have kk : Keeps h₁ h := fun b o e => hk b o (fun hm => Nat.lt_irrefl _ (Nat.lt_of_lt_of_eq (Heap.lt_size (k₂ b o e)) (List.mem_singleton.mp hm).symm)) (Heap.get?_push_of_some _ (k₂ b o e))
    have hgh := hg₁.keeps kk
    have hcell := (X₀.cell "number" (L + 1) rfl).keeps kk
    have Gh := G.keeps fun b o e => kk b o (kF b o e)
    have h16 : mg "_law_unseen" = some (.ref (ad 16)) := G.fn 16 (by decide)
    obtain ⟨o16, fd16, q16, e16⟩ := Gh.obj dr16 (by decide)
    repeat' (first | ((with_reducible show wpAny _ _ (eval (.Name _ _) _) _ _ _); first | refine ldc rfl hcell ?_ | refine ldl hn hm ?_ | refine ldg hgh (by assumption) ?_) | ((fail_if_success (with_reducible show wpAny _ _ (call (.ref _) _) _ _ _)); walk_at "w"))
    rw [show (3 : Int) ^ ((i : Int)).toNat = ((3 ^ i : Nat) : Int) by rw [Int.toNat_natCast]; simp]
    have p3 : 0 < 3 ^ i ∧ 3 ^ i ≤ 27 := by
      have : i = 0 ∨ i = 1 ∨ i = 2 ∨ i = 3 := by omega
      rcases this with rfl | rfl | rfl | rfl <;> decide
    refine fdN (by omega) fun _ _ => ?_
    rw [Int.toNat_natCast]
    repeat' (first | ((with_reducible show wpAny _ _ (eval (.Name _ _) _) _ _ _); first | refine ldc rfl hcell ?_ | refine ldl hn hm ?_ | refine ldg hgh (by assumption) ?_) | ((fail_if_success (with_reducible show wpAny _ _ (call (.ref _) _) _ _ _)); walk_at "w"))
    · rename ((_ : Nat) : Int) = 2 => e2
      refine ⟨q16, ?_⟩
      rw [show ((n / Int.toNat 81 : Nat) : Int) + (i : Int) = ((n / 81 + i : Nat) : Int) from rfl]
      refine c_unseen Gh r' (by omega) fun h' t' a u1 u2 k hn' T => ⟨h', t', rfl, k, ?_⟩
      rw [List.range_succ, List.map_append, List.map_singleton]
      refine Paired.snoc (hj.mono fun _ _ x => x.at fun b o _ e => k b o e) ?_
      rw [show sideAt n i = unseenPair (n / 81 + i) from if_pos (by have : Int.toNat 3 = 3 := rfl; rw [this] at e2; omega)]
      refine ⟨a, u1, u2, rfl, fun hx => ?_, ?_, T⟩
      · obtain ⟨o, ho⟩ := hal a hx
        rw [hn'] at ho; cases ho
      · cases e : s.heap.get? a with
        | none => rfl
        | some o => have := kk _ _ (kF _ _ e); rw [hn'] at this; cases this
    · rename ((_ : Nat) : Int) ≠ 2 => e2
      refine wpAny_newTuple ?_
      have hnew : h.get? h.objs.size = none := by
        cases e : h.get? h.objs.size with
        | none => rfl
        | some o => exact absurd (Heap.lt_size e) (Nat.lt_irrefl _)
      refine ⟨_, _, rfl, fun b o e => Heap.get?_push_of_some _ e, ?_⟩
      rw [List.range_succ, List.map_append, List.map_singleton]
      refine Paired.snoc (hj.mono fun _ _ x => x.at fun b o _ e => Heap.get?_push_of_some _ e) ?_
      rw [show sideAt n i = (32, [32]) from if_neg (by have : Int.toNat 3 = 3 := rfl; rw [this] at e2; omega)]
      rw [show Str.ofString " " = mkS [32] from mkS_lit (l := [' ']) rfl]
      refine ⟨_, _, _, rfl, fun hx => ?_, ?_, ⟨_, Heap.get?_push_size _ rfl, rfl, _, rfl⟩⟩
      · obtain ⟨o, ho⟩ := hal _ hx
        rw [hnew] at ho; cases ho
      · cases e : s.heap.get? h.objs.size with
        | none => rfl
        | some o => have := kk _ _ (kF _ _ e); rw [hnew] at this; cases this
  · intro X D h tk ys cn hj hD hl hk _ hX
    have kh : Keeps s.heap h := fun b o e => by
      have e1 := k₂ b o (kF b o e)
      exact hk b o (fun hm => Nat.lt_irrefl _ (Nat.lt_of_lt_of_eq (Heap.lt_size e1) (List.mem_singleton.mp hm).symm)) (Heap.get?_push_of_some _ e1)
    refine hQ h tk D ys kh ?_ ⟨_, hl, rfl, cn, rfl⟩ (hj.mono fun _ _ ⟨T, u1, u2, e, hx, r⟩ => ⟨T, u1, u2, e, fun q => hx (q ▸ hX), r⟩)
    cases e : s.heap.get? D with
    | none => rfl
    | some o => rw [Heap.get?_push_of_some _ (k₂ _ _ (kF _ _ e))] at hD; cases hD
end
-- text M7
theorem fresh_M7 : True := by w_top off; trivial
local macro_rules | `(tactic| walk_at "binaryOp Add int int") => `(tactic| first | refine addN (fun _ _ => ?_) | refine addLN (by decide) (fun _ _ => ?_))
local macro_rules | `(tactic| walk_at "call builtin:chr") => `(tactic| refine chr_S (by first | decide | (simp only [Int.reduceToNat]; omega)) (fun _ => ?_))
/-- the signs between -/
noncomputable def middleAt (n k : Nat) : List (Nat × List Nat) :=
  let kind := n / 7 ^ k % 7
  let which := n / 343 + k
  if kind = 1 then [(65 + which % 26, [97 + which % 26])] else if kind = 2 then [(19968 + which % 20000, [19968 + which % 20000])] else if kind = 6 then [unseenPair which]
  else if kind = 3 then [(890, [32, 953])] else if kind = 4 then [(64259, [102, 102, 105])] else if kind = 5 then [(64256, [102, 102])] else []
noncomputable def middleP (n : Nat) : List (Nat × List Nat) := (List.range 3).flatMap (middleAt n)
/-- a new tuple of two texts among the new objects -/
noncomputable def PairIn (nx : List (Addr × Obj)) (v : Value) (p : Nat × List Nat) : Prop := ∃ T o u1 u2 cn, v = .ref T ∧ (T, o) ∈ nx ∧ o.cls = .type "tuple" ∧ o.data = .seq #[.str (mkS [p.1]) u1, .str (mkS p.2) u2] cn
theorem all_cons1 {P : Addr × Obj → Prop} {a : Addr × Obj} {l : List (Addr × Obj)} (ha : P a) (hl : ∀ p ∈ l, P p) : ∀ p ∈ a :: l, P p := fun p hp => by
  rcases List.mem_cons.mp hp with rfl | hp
  · exact ha
  · exact hl p hp
theorem all_cons2 {P : Addr × Obj → Prop} {a b : Addr × Obj} {l : List (Addr × Obj)} (ha : P a) (hb : P b) (hl : ∀ p ∈ l, P p) : ∀ p ∈ a :: b :: l, P p := all_cons1 ha (all_cons1 hb hl)
inductive MidInv (n : Nat) (t : Tok) (D : Addr) (i : Nat) (m : Str → Option Value) (nx : List (Addr × Obj)) : Prop
  | mk (ys : List Value) (rest : List (Addr × Obj)) (e0 : nx = (D, { cls := .type "list", data := .seq ys.toArray ys.length }) :: rest) (e1 : ∀ p ∈ rest, p.1 ≠ D) (e2 : ys.length ≤ i)
      (e3 : Paired (fun p v => PairIn rest v p) ((List.range i).flatMap (middleAt n)) ys) (e4 : m "middle" = some (.ref D)) (e5 : m "number" = some (.int (n : Int) t)) : MidInv n t D i m nx
section
variable {prog : Program} {w : World} {mean : ExcName → Option Value} {mg mb : Str → Option Value} {ad : Nat → Addr} {A : Around} {s : Shared} {Q E : Value → Shared → Prop}
theorem app1 {h₀ : Heap} {L T I D : Addr} {oT oi : Obj} {ys : List Value} {rest : List (Addr × Obj)} {m : Str → Option Value} (F : Fr h₀ L s.heap m) (N : News h₀ L s.heap ((T, oT) :: (I, oi) :: (D, { cls := .type "list", data := .seq ys.toArray ys.length }) :: rest))
    (hTD : T ≠ D) (hID : I ≠ D) (hr : ∀ p ∈ rest, p.1 ≠ D) (hy : ys.length ≤ 1000)
    (h : ∀ h', Fr h₀ L h' m → News h₀ L h' ((I, oi) :: (D, { cls := .type "list", data := .seq (ys ++ [Value.ref T]).toArray (ys ++ [Value.ref T]).length }) :: (T, oT) :: rest) → Q .none { s with heap := h' }) :
    wpAny (model prog w) A (call (.builtin "list.append") [.ref D, .ref T]) Q E s := by
  refine append_in (own := [(T, oT), (I, oi)]) F N (fun p hp => ?_) hr (fun h' F' N' => h h' F' ?_) (Nat.le_trans hy (by decide))
  · rcases List.mem_cons.mp hp with rfl | hp
    · exact hTD
    · rw [List.mem_singleton.mp hp]; exact hID
  · rw [show (ys ++ [Value.ref T]).length = ys.length + 1 by simp]
    refine News.sub N' fun p hp => ?_
    simp only [List.mem_cons, List.mem_append, List.not_mem_nil, or_false] at hp ⊢
    rcases hp with h | h | h | h
    · exact .inl (.inr h)
    · exact .inr (.inl h)
    · exact .inl (.inl h)
    · exact .inr (.inr h)
theorem mid_succ {α : Type} (f : Nat → List α) (i : Nat) : (List.range (i + 1)).flatMap f = (List.range i).flatMap f ++ f i := by
  rw [List.range_succ, List.flatMap_append]; simp
theorem mid_more {n i T : Nat} {oT : Obj} {rest : List (Addr × Obj)} {ys : List Value} {p : Nat × List Nat} {u1 u2 : Tok} {cn : Nat} (hP : Paired (fun p v => PairIn rest v p) ((List.range i).flatMap (middleAt n)) ys) (hm : middleAt n i = [p])
    (hc : oT.cls = .type "tuple") (hd : oT.data = .seq #[.str (mkS [p.1]) u1, .str (mkS p.2) u2] cn) :
    Paired (fun p v => PairIn ((T, oT) :: rest) v p) ((List.range (i + 1)).flatMap (middleAt n)) (ys ++ [Value.ref T]) := by
  rw [mid_succ, hm]
  exact Paired.snoc (hP.mono fun _ _ ⟨T', o, u1, u2, cn, e, hm, r⟩ => ⟨T', o, u1, u2, cn, e, .tail _ hm, r⟩) ⟨T, oT, u1, u2, cn, rfl, .head _, hc, hd⟩
theorem news_apart {h₀ h : Heap} {L : Addr} {news : List (Addr × Obj)} (N : News h₀ L h news) : ∀ p ∈ news, h.objs.size ≠ p.1 := fun p hp => Nat.ne_of_gt (Heap.lt_size (N p hp).1)
theorem c_middle {n : Nat} {t : Tok} (G : GG w mean mg mb ad s.heap) (r : Rm 2 A) (hn : n ≤ 10 ^ 12)
    (hQ : ∀ h' t' a ys, Keeps s.heap h' → s.heap.get? a = none → h'.IsList a (List.toArray ys) → PairsAt (fun b => b = a) s.heap h' (middleP n) ys → Q (.ref a) { s with heap := h', toks := t' }) :
    wpAny (model prog w) A (call (.ref (ad 18)) [.int (n : Int) t]) Q E s := by
  refine enter (i := 18) (binds := [("number", .int (n : Int) t)]) dr18 G (by decide) rfl r (fun _ _ _ => by kernel_rfl!) (by kernel_rfl!) (by kernel_rfl!) fun L cd h₁ F N r' => ?_
  have hg := G.T.g
  have hb := G.T.b
  obtain ⟨r1, r2⟩ := G.range
  obtain ⟨c1, c2⟩ := G.chr
  have h16 : mg "_law_unseen" = some (.ref (ad 16)) := G.fn 16 (by decide)
  obtain ⟨o16, fd16, q16, e16⟩ := G.obj dr16 (by decide)
  repeat' ((fail_if_success (with_reducible show wpAny _ _ (exec (.For _ _ _ _ _) _) _ _ _)); walk_at "w")
  refine wpAny_For ?_
  repeat' ((fail_if_success (with_reducible show wpAny _ _ (pyIter _) _ _ _)); walk_at "w")
  rename IsRange _ _ _ _ _ _ _ _ => R₁
  rename Fr s.heap L _ _ => F₁
  rename News s.heap L _ _ => N₁
  generalize hD : h₁.objs.size = D at *
  refine loop_range2 (n := 3) (nx := [(D, _)]) (MidInv n t D)
    rfl r'.2.2 R₁ rfl (by decide) F₁ N₁ ⟨[], [], rfl, by simp, by simp, .nil, by walk_at "mi", by walk_at "mi"⟩ ?_ ?_
  · rintro i ti m' nx' h₇ tk₇ I oi hi hnI ⟨ys, rest, rfl, hrD, hyl, hP, z1, z2⟩ F₇ N₇
    replace F₇ : Fr s.heap L h₇ _ := F₇
    replace N₇ : News s.heap L h₇ _ := N₇
    have hID : I ≠ D := (hnI _ (.head _)).symm
    repeat' ((fail_if_success (with_reducible show wpAny _ _ (binaryOp .FloorDiv _ _) _ _ _)); walk_at "w")
    rw [show (7 : Int) ^ ((i : Int)).toNat = ((7 ^ i : Nat) : Int) by rw [Int.toNat_natCast]; simp]
    have p7 : 0 < 7 ^ i ∧ 7 ^ i ≤ 49 := by
      have : i = 0 ∨ i = 1 ∨ i = 2 := by omega
      rcases this with rfl | rfl | rfl <;> decide
    refine fdN (by omega) fun _ _ => ?_
    rw [Int.toNat_natCast]
    repeat' ((fail_if_success (with_reducible show wpAny _ _ (getMethod _ _ _) _ _ _)); walk_at "w")
    · rename Fr s.heap L _ _ => Fx
      rename News s.heap L _ _ => Nx
      rename ((_ : Nat) : Int) = 1 => e2
      have dT := news_apart Nx
      refine Calls.getMethod_list_append (Nx.get (.tail _ (.head _))) rfl rfl ?_
      repeat' ((fail_if_success (with_reducible show wpAny _ _ (call (.builtin "list.append") _) _ _ _)); walk_at "w")
      rename Fr s.heap L _ _ => Fy
      rename News s.heap L _ _ => Ny
      refine app1 Fy Ny (dT _ (.tail _ (.head _))) hID hrD (by omega) fun h₈ F₈ N₈ => ?_
      repeat' (walk_at "w")
      refine ⟨_, _, _, _, rfl, F₈, N₈, ?_, _, _, rfl, ?_, by simp; omega, mid_more hP (p := (65 + (n / 343 + i) % 26, [97 + (n / 343 + i) % 26])) (by simp only [Int.reduceToNat] at e2; simp only [middleAt]; rw [if_pos (by omega)]) rfl rfl, by walk_at "mi", by walk_at "mi"⟩
      · exact all_cons2 hID.symm (dT _ (.head _)) (fun p hp => hnI p (.tail _ hp))
      · exact all_cons1 (dT _ (.tail _ (.head _))) hrD
    · rename Fr s.heap L _ _ => Fx
      rename News s.heap L _ _ => Nx
      rename ((_ : Nat) : Int) = 2 => e2
      have dT := news_apart Nx
      refine Calls.getMethod_list_append (Nx.get (.tail _ (.head _))) rfl rfl ?_
      repeat' ((fail_if_success (with_reducible show wpAny _ _ (call (.builtin "list.append") _) _ _ _)); walk_at "w")
      rename Fr s.heap L _ _ => Fy
      rename News s.heap L _ _ => Ny
      refine app1 Fy Ny (dT _ (.tail _ (.head _))) hID hrD (by omega) fun h₈ F₈ N₈ => ?_
      repeat' (walk_at "w")
      refine ⟨_, _, _, _, rfl, F₈, N₈, ?_, _, _, rfl, ?_, by simp; omega, mid_more hP (p := (19968 + (n / 343 + i) % 20000, [19968 + (n / 343 + i) % 20000])) (by simp only [Int.reduceToNat] at e2; simp only [middleAt]; rw [if_neg (by omega), if_pos (by omega)]) rfl rfl, by walk_at "mi", by walk_at "mi"⟩
      · exact all_cons2 hID.symm (dT _ (.head _)) (fun p hp => hnI p (.tail _ hp))
      · exact all_cons1 (dT _ (.tail _ (.head _))) hrD
    · rename Fr s.heap L _ _ => Fx
      rename News s.heap L _ _ => Nx
      rename ((_ : Nat) : Int) = 6 => e2
      have Gx := G.keeps Fx.keep
      obtain ⟨o16, fd16, q16, e16⟩ := Gx.obj dr16 (by decide)
      refine Calls.getMethod_list_append (Nx.get (.tail _ (.head _))) rfl rfl ?_
      repeat' ((fail_if_success (with_reducible show wpAny _ _ (call (.ref _) _) _ _ _)); walk_at "w")
      refine ⟨q16, ?_⟩
      have hu : n / Int.toNat 343 + i ≤ 10 ^ 13 := by simp only [Int.reduceToNat]; omega
      refine c_unseen Gx r' hu fun h₉ t₉ T u1 u2 k hnT hT => ?_
      obtain ⟨oT, hoT, hcT, cnT, hdT⟩ := hT
      have hne : ∀ p ∈ ((I, oi) :: (D, ({ cls := .type "list", data := .seq ys.toArray ys.length } : Obj)) :: rest), T ≠ p.1 := fun p hp q => by
        have := (Nx p hp).1
        rw [← q, hnT] at this
        cases this
      have Fy := Fx.keeps k
      have Ny := News.one (News.grown Nx k) hoT (fun q => by obtain ⟨o, _, _, ho, _⟩ := Fx.ns; rw [q, ho] at hnT; cases hnT) (by
        cases e : s.heap.get? T with
        | none => rfl
        | some o => have := Fx.keep _ _ e; rw [hnT] at this; cases this)
      repeat' ((fail_if_success (with_reducible show wpAny _ _ (call (.builtin "list.append") _) _ _ _)); walk_at "w")
      refine app1 Fy Ny (hne _ (.tail _ (.head _))) hID hrD (by omega) fun h₈ F₈ N₈ => ?_
      repeat' (walk_at "w")
      refine ⟨_, _, _, _, rfl, F₈, N₈, ?_, _, _, rfl, ?_, by simp; omega, mid_more hP (p := unseenPair (n / 343 + i)) (by simp only [Int.reduceToNat] at e2; simp only [middleAt]; rw [if_neg (by omega), if_neg (by omega), if_pos (by omega)]) hcT hdT, by walk_at "mi", by walk_at "mi"⟩
      · exact all_cons2 hID.symm (hne _ (.head _)) (fun p hp => hnI p (.tail _ hp))
      · exact all_cons1 (hne _ (.tail _ (.head _))) hrD
    · rename Fr s.heap L _ _ => Fx
      rename News s.heap L _ _ => Nx
      have dT := news_apart Nx
      rename ((_ : Nat) : Int) ≠ 1 => q1
      rename ((_ : Nat) : Int) ≠ 2 => q2
      rename ((_ : Nat) : Int) ≠ 6 => q6
      rename (2 : Int) < _ => q3
      have hm7 : n / 7 ^ i % 7 < 7 := Nat.mod_lt _ (by decide)
      have hk : n / 7 ^ i % 7 = 3 ∨ n / 7 ^ i % 7 = 4 ∨ n / 7 ^ i % 7 = 5 := by simp only [Int.reduceToNat] at q1 q2 q6 q3; omega
      refine Calls.getMethod_list_append (Nx.get (.tail _ (.head _))) rfl rfl ?_
      repeat' ((fail_if_success (with_reducible show wpAny _ _ (subscriptTail _ _ _ _) _ _ _)); walk_at "w")
      rename News s.heap L _ ((_, _) :: (_, _) :: (_, _) :: (_, _) :: (I, oi) :: _) => N5
      rename News s.heap L _ ((_, _) :: (_, _) :: (I, oi) :: _) => N3
      rename News s.heap L _ ((_, _) :: (I, oi) :: _) => N2
      have d2 := news_apart N2
      have d3 := news_apart N3
      have eb : Str.ofString " " ++ (⟨#[Int.toNat 953]⟩ : Str) = mkS [32, 953] := by rw [mkS_lit (l := [' ']) rfl]; rfl
      have ec : Str.ofString "ffi" = mkS [102, 102, 105] := mkS_lit (l := ['f', 'f', 'i']) rfl
      have ed : Str.ofString "ff" = mkS [102, 102] := mkS_lit (l := ['f', 'f']) rfl
      rw [eb, ec, ed] at N5
      have h7 : Int.toNat 7 = 7 := rfl
      rw [h7]
      rcases hk with hk | hk | hk
      · rw [hk]
        refine subscriptTail_builtinR (News.isList N5 (.head _)).typeIs slot_list_getitem.lookup (wpAny_getItem_list (News.isList N5 (.head _)) (by decide) (by decide) rfl ⟨rfl, ?_⟩)
        repeat' ((fail_if_success (with_reducible show wpAny _ _ (call (.builtin "list.append") _) _ _ _)); walk_at "w")
        rename News s.heap L _ ((_, _) :: (_, _) :: (_, _) :: (_, _) :: (I, oi) :: _) => N6
        rename Fr s.heap L _ _ => F6
        refine app1 F6 (News.sub N6 fun p hp => by
          rcases List.mem_cons.mp hp with rfl | hp
          · exact (.tail _ (.tail _ (.tail _ (.head _))))
          · exact .tail _ (.tail _ (.tail _ (.tail _ hp)))) (dT _ (.tail _ (.head _))) hID hrD (by omega) fun h₈ F₈ N₈ => ?_
        repeat' (walk_at "w")
        refine ⟨_, _, _, _, rfl, F₈, N₈, ?_, _, _, rfl, ?_, by simp; omega, mid_more hP (p := (890, [32, 953])) (by simp only [middleAt]; rw [hk]; rfl) rfl rfl, by walk_at "mi", by walk_at "mi"⟩
        · exact all_cons2 hID.symm (dT _ (.head _)) (fun p hp => hnI p (.tail _ hp))
        · exact all_cons1 (dT _ (.tail _ (.head _))) hrD
      · rw [hk]
        refine subscriptTail_builtinR (News.isList N5 (.head _)).typeIs slot_list_getitem.lookup (wpAny_getItem_list (News.isList N5 (.head _)) (by decide) (by decide) rfl ⟨rfl, ?_⟩)
        repeat' ((fail_if_success (with_reducible show wpAny _ _ (call (.builtin "list.append") _) _ _ _)); walk_at "w")
        rename News s.heap L _ ((_, _) :: (_, _) :: (_, _) :: (_, _) :: (I, oi) :: _) => N6
        rename Fr s.heap L _ _ => F6
        refine app1 F6 (News.sub N6 fun p hp => by
          rcases List.mem_cons.mp hp with rfl | hp
          · exact (.tail _ (.tail _ (.head _)))
          · exact .tail _ (.tail _ (.tail _ (.tail _ hp)))) (d2 _ (.tail _ (.tail _ (.head _)))) hID hrD (by omega) fun h₈ F₈ N₈ => ?_
        repeat' (walk_at "w")
        refine ⟨_, _, _, _, rfl, F₈, N₈, ?_, _, _, rfl, ?_, by simp; omega, mid_more hP (p := (64259, [102, 102, 105])) (by simp only [middleAt]; rw [hk]; rfl) rfl rfl, by walk_at "mi", by walk_at "mi"⟩
        · exact all_cons2 hID.symm (d2 _ (.tail _ (.head _))) (fun p hp => hnI p (.tail _ hp))
        · exact all_cons1 (d2 _ (.tail _ (.tail _ (.head _)))) hrD
      · rw [hk]
        refine subscriptTail_builtinR (News.isList N5 (.head _)).typeIs slot_list_getitem.lookup (wpAny_getItem_list (News.isList N5 (.head _)) (by decide) (by decide) rfl ⟨rfl, ?_⟩)
        repeat' ((fail_if_success (with_reducible show wpAny _ _ (call (.builtin "list.append") _) _ _ _)); walk_at "w")
        rename News s.heap L _ ((_, _) :: (_, _) :: (_, _) :: (_, _) :: (I, oi) :: _) => N6
        rename Fr s.heap L _ _ => F6
        refine app1 F6 (News.sub N6 fun p hp => by
          rcases List.mem_cons.mp hp with rfl | hp
          · exact (.tail _ (.head _))
          · exact .tail _ (.tail _ (.tail _ (.tail _ hp)))) (d3 _ (.tail _ (.tail _ (.tail _ (.head _))))) hID hrD (by omega) fun h₈ F₈ N₈ => ?_
        repeat' (walk_at "w")
        refine ⟨_, _, _, _, rfl, F₈, N₈, ?_, _, _, rfl, ?_, by simp; omega, mid_more hP (p := (64256, [102, 102])) (by simp only [middleAt]; rw [hk]; rfl) rfl rfl, by walk_at "mi", by walk_at "mi"⟩
        · exact all_cons2 hID.symm (d3 _ (.tail _ (.tail _ (.head _)))) (fun p hp => hnI p (.tail _ hp))
        · exact all_cons1 (d3 _ (.tail _ (.tail _ (.tail _ (.head _))))) hrD
    · rename Fr s.heap L _ _ => Fx
      rename News s.heap L _ _ => Nx
      refine ⟨_, _, _, _, rfl, Fx, Nx, hnI, _, _, rfl, hrD, by omega, ?_, by walk_at "mi", by walk_at "mi"⟩
      rw [mid_succ]
      rw [show middleAt n i = [] from ?_, List.append_nil]
      · exact hP
      · rename ((_ : Nat) : Int) ≠ 1 => q1
        rename ((_ : Nat) : Int) ≠ 2 => q2
        rename ((_ : Nat) : Int) ≠ 6 => q6

        rename ¬ (2 : Int) < _ => q3
        simp only [Int.reduceToNat] at q1 q2 q6 q3
        simp only [middleAt]
        rw [if_neg (by omega), if_neg (by omega), if_neg (by omega), if_neg (by omega), if_neg (by omega), if_neg (by omega)]
  · rintro m' nx' h₇ tk₇ ⟨ys, rest, rfl, hrD, hyl, hP, z1, z2⟩ F₇ N₇
    replace F₇ : Fr s.heap L h₇ _ := F₇
    replace N₇ : News s.heap L h₇ _ := N₇
    repeat' (walk_at "w")
    refine hQ _ _ D ys F₇.keep (N₇ _ (.head _)).2.2 ⟨_, N₇.get (.head _), rfl, _, rfl⟩ (hP.mono fun p v ⟨T, o, u1, u2, cn, e, hm, hc, hd⟩ => ⟨T, u1, u2, e, hrD _ hm, (N₇ _ (.tail _ hm)).2.2, o, (N₇ _ (.tail _ hm)).1, hc, cn, hd⟩)
end
end Mine
-- text S3
namespace Mine
theorem fresh_S3 : True := by w_top off; trivial
/-- signs, each a text of its own -/
noncomputable def SignsAre (vs : List Value) (l : List Nat) : Prop := Paired (fun (c : Nat) (v : Value) => ∃ t, v = .str (mkS [c]) t) l vs
theorem SignsAre.len {vs : List Value} {l : List Nat} (h : SignsAre vs l) : vs.length = l.length := (Paired.length h).symm
theorem SignsAre.at : ∀ {vs : List Value} {l : List Nat}, SignsAre vs l → ∀ i (hi : i < l.length), ∃ t, vs[i]? = some (.str (mkS [l[i]]) t)
  | _, _, .cons ⟨t, e⟩ _, 0, _ => ⟨t, by simp [e]⟩
  | _, _, .cons _ h, i + 1, hi => by
    obtain ⟨t, e⟩ := SignsAre.at h i (by simpa using hi)
    exact ⟨t, by simpa using e⟩
theorem SignsAre.drop : ∀ {vs : List Value} {l : List Nat}, SignsAre vs l → ∀ k, SignsAre (vs.drop k) (l.drop k)
  | _, _, h, 0 => h
  | _, _, .nil, _ + 1 => .nil
  | _, _, .cons _ h, k + 1 => SignsAre.drop h k
theorem SignsAre.take : ∀ {vs : List Value} {l : List Nat}, SignsAre vs l → ∀ k, SignsAre (vs.take k) (l.take k)
  | _, _, _, 0 => .nil
  | _, _, .nil, _ + 1 => .nil
  | _, _, .cons e h, k + 1 => .cons e (SignsAre.take h k)
/-- a text, or a list of signs -/
inductive SV (h : Heap) : Bool → Value → List Nat → Prop
  | str {l t} : SV h true (.str (mkS l) t) l
  | lst {a vs l} : h.IsList a (List.toArray vs) → SignsAre vs l → SV h false (.ref a) l
theorem SV.keeps {h h' : Heap} {b : Bool} {V : Value} {l : List Nat} (x : SV h b V l) (k : Keeps h h') : SV h' b V l := by
  cases x with
  | str => exact .str
  | lst a s => exact .lst (let ⟨o, ho, r⟩ := a; ⟨o, k _ _ ho, r⟩) s
section
variable {prog : Program} {w : World} {A : Around} {s : Shared} {Q E : Value → Shared → Prop} {b : Bool} {V : Value} {l : List Nat} {value slice : Expr}
theorem sv_len (x : SV s.heap b V l) (hl : l.length ≤ 1000) (h : ∀ t tk, Q (.int (l.length : Int) t) { s with toks := tk }) : wpAny (model prog w) A (call (.builtin "len") [V]) Q E s := by
  cases x with
  | str => exact len_S hl (h _ _)
  | lst a i =>
    refine Calls.call_len_list a (by rw [List.size_toArray, i.len]; omega) ?_
    rw [List.size_toArray, i.len]
    exact h _ _
theorem sv_item (x : SV s.heap b V l) (hA : A.handled = none) (hl : l.length ≤ 1000) (i : Nat) (hi : i < l.length) {z : Int} {u : Tok} (hz : z = i) (h : ∀ t tk, Q (.str (mkS [l[i]]) t) { s with toks := tk })
    (hs : ∀ V, subscripted slice false V (.int z u) = operate [V, .int z u] (getItem V (.int z u)) := by intro _; with_unfolding_all rfl)
    (ht : ∀ V r, letTemporaryGo value V r = pure () := by intro _ _; with_unfolding_all rfl) : wpAny (model prog w) A (subscriptTail value slice V (.int z u)) Q E s := by
  subst hz
  cases x with
  | str => exact itS (hp := s.heap) (g := s.gens) (d := s.drawn) (tk := s.toks) (os := s.os) i hA hl hi rfl (fun t => h t _) (hs _) (ht _)
  | lst a sg =>
    obtain ⟨t, e⟩ := sg.at i hi
    exact item_list a (by omega) (by omega) (by simpa using e) (h t s.toks) (hs _) (ht _)
theorem keptK {hp : Heap} : KeptH (fun h => Keeps hp h) := fun _ _ k b o e => Heap.get?_push_of_some _ (k b o e)
theorem none_after {hp : Heap} {o : Obj} : hp.get? (hp.push o).objs.size = none := by
  cases e : hp.get? (hp.push o).objs.size with
  | none => rfl
  | some o' => have := Heap.lt_size e; rw [Heap.size_push] at this; exact absurd this (Nat.not_lt.mpr (Nat.le_succ _))
/-- V[a:] -/
theorem sv_from {hp : Heap} {g : Array GenState} {d : Drawn} {tk : Nat} {os : OsState} (x : SV hp b V l) (hl : l.length ≤ 1000) (a : Nat) (ha : a ≤ l.length) {u : Tok}
    (h : ∀ h' V' k, Keeps hp h' → SV h' b V' (l.drop a) → (b = false → ∃ D, V' = .ref D ∧ hp.get? D = none) → Q V' ⟨h', g, d, k, os⟩)
    (hs : ∀ V, subscripted slice false V (.ref hp.objs.size) = operate [.ref hp.objs.size, V] (getItem V (.ref hp.objs.size)) := by intro _; with_unfolding_all rfl)
    (ht : ∀ V r, letTemporaryGo value V r = pure () := by intro _ _; with_unfolding_all rfl) :
    wpAny (model prog w) A (subscriptTail value slice V (.ref hp.objs.size)) Q E ⟨hp.push { cls := .type "slice", data := .fields #[.int (a : Int) u, .none, .none] }, g, d, tk, os⟩ := by
  cases x with
  | str => exact tail_of_ItemOn (SBH.sliceItem_sn (s := ⟨hp, g, d, tk, os⟩) keptK (fun _ _ e => e) (fun h' t' k a => by rw [sl_from]; exact h _ _ _ a .str fun e => by cases e) (size_S hl)) (hs _) (ht _)
  | lst a' sg =>
    refine subscriptTail_ops (Heap.IsList.typeIs (s := ⟨hp.push _, g, d, tk, os⟩) (a'.push _)) list_getitem_lookup
      (wpAny_getItem_list_slice (a'.push _) (Heap.IsSliceOf.new ..) (.int _ _) .none .none (by simp) ?_ (by rw [List.size_toArray, sg.len]; exact Nat.le_trans hl (by decide))) (hs _) (ht _)
    rw [slicePick_from _ a (by rw [List.size_toArray, sg.len]; exact ha)]
    exact h _ _ _ (fun b o e => Heap.get?_push_of_some _ (Heap.get?_push_of_some _ e)) (.lst (vs := _) ⟨_, Heap.get?_push_size _ rfl, rfl, _, rfl⟩ (sg.drop a)) fun _ => ⟨_, rfl, none_after⟩
/-- V[a:b] -/
theorem sv_run {hp : Heap} {g : Array GenState} {d : Drawn} {tk : Nat} {os : OsState} (x : SV hp b V l) (hl : l.length ≤ 1000) {z y : Int} (i j : Nat) (hz : z = i) (hy : y = j) (h1 : i ≤ j) (h2 : j ≤ l.length) {u v : Tok}
    (h : ∀ h' V' k, Keeps hp h' → SV h' b V' ((l.take j).drop i) → (b = false → ∃ D, V' = .ref D ∧ hp.get? D = none) → Q V' ⟨h', g, d, k, os⟩)
    (hs : ∀ V, subscripted slice false V (.ref hp.objs.size) = operate [.ref hp.objs.size, V] (getItem V (.ref hp.objs.size)) := by intro _; with_unfolding_all rfl)
    (ht : ∀ V r, letTemporaryGo value V r = pure () := by intro _ _; with_unfolding_all rfl) :
    wpAny (model prog w) A (subscriptTail value slice V (.ref hp.objs.size)) Q E ⟨hp.push { cls := .type "slice", data := .fields #[.int z u, .int y v, .none] }, g, d, tk, os⟩ := by
  subst hz hy
  cases x with
  | str => exact tail_of_ItemOn (SBH.sliceItem_ss (s := ⟨hp, g, d, tk, os⟩) keptK (fun _ _ e => e) (fun h' t' k a => by rw [sl_both l i j h1 h2]; exact h _ _ _ a .str fun e => by cases e) (size_S hl)) (hs _) (ht _)
  | lst a' sg =>
    refine subscriptTail_ops (Heap.IsList.typeIs (s := ⟨hp.push _, g, d, tk, os⟩) (a'.push _)) list_getitem_lookup
      (wpAny_getItem_list_slice (a'.push _) (Heap.IsSliceOf.new ..) (.int _ _) (.int _ _) .none (by simp) ?_ (by rw [List.size_toArray, sg.len]; exact Nat.le_trans hl (by decide))) (hs _) (ht _)
    rw [slicePick_run _ i j (by rw [List.size_toArray, sg.len]; exact h2) h1]
    exact h _ _ _ (fun b o e => Heap.get?_push_of_some _ (Heap.get?_push_of_some _ e)) (.lst (vs := _) ⟨_, Heap.get?_push_size _ rfl, rfl, _, rfl⟩ (by rw [List.drop_take]; exact (sg.drop i).take (j - i))) fun _ => ⟨_, rfl, none_after⟩
end
end Mine
-- text P1
namespace Mine
theorem fresh_P1 : True := by w_top off; trivial
theorem sc_bounds (c x : Nat) : 0 ≤ sc c x ∧ sc c x ≤ 2 := by
  unfold sc subCost
  split
  · decide
  · split <;> decide
theorem sc_same (c : Nat) : sc c c = 0 := by
  unfold sc subCost
  rw [if_pos (by rw [mkS_beq]; simp)]
theorem sc_other {c x : Nat} (h : c ≠ x) : 1 ≤ sc c x := by
  unfold sc subCost
  rw [if_neg (by rw [mkS_beq]; simpa using h)]
  split <;> decide
theorem sc_case {c x : Nat} (h : Txt.lower (mkS [c]) = Txt.lower (mkS [x])) : sc c x ≤ 1 := by
  unfold sc subCost
  split
  · decide
  · rw [if_pos (by rw [h]; simp)]
    decide
/-- one row of the table of distances -/
noncomputable def Dr (a : List Nat) (c : Nat) (j : Nat) (f : Nat → Int) : Nat → Int
  | 0 => 2 * (j : Int)
  | i + 1 => min (min (Dr a c j f i) (f (i + 1)) + 2) ((if i = 0 then 2 * (j : Int) else f i) + sc c (a.getD i 0))
noncomputable def Dt (a b : List Nat) : Nat → Nat → Int
  | 0 => fun i => 2 * (i : Int)
  | j + 1 => Dr a (b.getD j 0) j (Dt a b j)
theorem inner_D {a : List Nat} {c j : Nat} {f : Nat → Int} : ∀ (xs : List Nat) (os : List Int) (i : Nat) (mn : Int), a.drop i = xs → os.length = xs.length → (∀ k (h : k < os.length), os[k] = f (i + k + 1)) →
    ∃ y ls mn', inner c xs os (if i = 0 then 2 * (j : Int) else f i) (Dr a c j f i) mn = (y, ls, mn') ∧ y.length = xs.length ∧ (∀ k (h : k < y.length), y[k] = Dr a c j f (i + k + 1)) ∧ ls = Dr a c j f (i + xs.length) ∧ mn' ≤ mn ∧ ∀ k, i < k → k ≤ i + xs.length → mn' ≤ Dr a c j f k
  | [], os, i, mn, _, _, _ => by
    refine ⟨[], Dr a c j f i, mn, by cases os <;> rfl, rfl, fun k h => absurd h (by simp), by simp, Int.le_refl _, fun k h1 h2 => ?_⟩
    simp at h2; omega
  | x :: xs, [], i, mn, _, hl, _ => by simp at hl
  | x :: xs, o :: os, i, mn, hd, hl, ho => by
    have e0 : o = f (i + 1) := by have := ho 0 (by simp); simpa using this
    have ex : a.getD i 0 = x := by
      have : a[i]? = some x := by rw [← List.head?_drop, hd]; rfl
      rw [List.getD_eq_getElem?_getD, this]; rfl
    have hd' : a.drop (i + 1) = xs := by rw [← List.tail_drop, hd]; rfl
    have er : min (min (Dr a c j f i) o + 2) ((if i = 0 then 2 * (j : Int) else f i) + sc c x) = Dr a c j f (i + 1) := by
      rw [Dr, ex, e0]
    have ed : o = if i + 1 = 0 then 2 * (j : Int) else f (i + 1) := by rw [if_neg (by omega), e0]
    obtain ⟨y, ls, mn', h1, h2, h3, h4, h5, h6⟩ := inner_D (a := a) (c := c) (j := j) (f := f) xs os (i + 1) (if Dr a c j f (i + 1) < mn then Dr a c j f (i + 1) else mn) hd' (by simpa using hl) (fun k h => by
      have := ho (k + 1) (by simpa using h)
      rw [List.getElem_cons_succ] at this
      rw [this]; congr 1; omega)
    refine ⟨Dr a c j f (i + 1) :: y, ls, mn', ?_, by simp [h2], ?_, ?_, ?_, ?_⟩
    · unfold inner
      dsimp only
      rw [er]
      rw [← ed] at h1
      rw [h1]
    · intro k h
      cases k with
      | zero => rfl
      | succ k =>
        rw [List.getElem_cons_succ, h3 k (by simpa using h)]
        congr 1; omega
    · rw [h4]; congr 1; simp; omega
    · split at h5 <;> omega
    · intro k k1 k2
      by_cases e : k = i + 1
      · subst e
        split at h5 <;> omega
      · exact h6 k (by omega) (by simp at k2; omega)
theorem rows_D {a b : List Nat} {mx : Int} : ∀ (b' : List Nat) (j : Nat) (row : List Int) (last : Int), b.drop j = b' → row.length = a.length → (∀ k (h : k < row.length), row[k] = Dt a b j (k + 1)) →
    (∀ j', j < j' → j' ≤ j + b'.length → ∃ k, 0 < k ∧ k ≤ a.length ∧ Dt a b j' k ≤ mx) → rows a mx b' j row last = if b' = [] then last else Dt a b (j + b'.length) a.length
  | [], j, row, last, _, _, _, _ => by simp [rows]
  | c :: b', j, row, last, hd, hl, hr, hm => by
    have ec : b.getD j 0 = c := by
      have : b[j]? = some c := by rw [← List.head?_drop, hd]; rfl
      rw [List.getD_eq_getElem?_getD, this]; rfl
    have hd' : b.drop (j + 1) = b' := by rw [← List.tail_drop, hd]; rfl
    obtain ⟨y, ls, mn', h1, h2, h3, h4, h5, h6⟩ := inner_D (a := a) (c := c) (j := j) (f := Dt a b j) a row 0 9223372036854775807 rfl hl (fun k h => by rw [hr k h]; congr 1; omega)
    have eD : Dt a b (j + 1) = Dr a c j (Dt a b j) := by rw [Dt, ec]
    obtain ⟨k, k1, k2, k3⟩ := hm (j + 1) (by omega) (by simp)
    have hle : ¬ mn' > mx := by
      have := h6 k k1 (by omega)
      rw [eD] at k3
      omega
    rw [if_pos rfl, show Dr a c j (Dt a b j) 0 = 2 * (j : Int) from rfl, Int.mul_comm] at h1
    unfold rows
    dsimp only
    rw [h1]
    dsimp only
    rw [if_neg hle]
    have ej : (j : Int) + 1 = ((j + 1 : Nat) : Int) := by omega
    rw [ej, rows_D b' (j + 1) y ls hd' (by omega) (fun k h => by rw [h3 k h, eD]; congr 1; omega) (fun j' j1 j2 => hm j' (by omega) (by rw [List.length_cons]; omega)), if_neg (List.cons_ne_nil c b')]
    by_cases e : b' = []
    · subst e
      rw [if_pos rfl, h4, ← eD]
      simp
    · rw [if_neg e]
      congr 1
      simp; omega
theorem lev2_D {a b : List Nat} {mx : Int} (hb : b ≠ []) (h : ((b.length : Int) - a.length) * 2 ≤ mx) (hm : ∀ j, 0 < j → j ≤ b.length → ∃ k, 0 < k ∧ k ≤ a.length ∧ Dt a b j k ≤ mx) : lev2 a b mx = Dt a b b.length a.length := by
  unfold lev2
  rw [if_neg (by omega), show (0 : Int) = ((0 : Nat) : Int) from rfl, rows_D b 0 _ _ rfl (by simp) (fun k h => by simp [Dt]; omega) (fun j h1 h2 => hm j h1 (by omega)), if_neg hb]
  simp
-- bounds
theorem Dr_le_up (a : List Nat) (c j : Nat) (f : Nat → Int) (i : Nat) : Dr a c j f (i + 1) ≤ f (i + 1) + 2 := by
  unfold Dr; omega
theorem Dr_le_diag (a : List Nat) (c j : Nat) (f : Nat → Int) (i : Nat) : Dr a c j f (i + 1) ≤ (if i = 0 then 2 * (j : Int) else f i) + sc c (a.getD i 0) := by
  unfold Dr; omega
theorem Dt_lo (a b : List Nat) : ∀ (j i : Nat), 0 < i → 2 * ((j : Int) - i) ≤ Dt a b j i ∧ 2 * ((i : Int) - j) ≤ Dt a b j i
  | 0, i, _ => by unfold Dt; omega
  | j + 1, i, hi => by
    have key : ∀ i, 0 < i → 2 * (((j + 1 : Nat) : Int) - i) ≤ Dr a (b.getD j 0) j (Dt a b j) i ∧ 2 * ((i : Int) - (j + 1 : Nat)) ≤ Dr a (b.getD j 0) j (Dt a b j) i := by
      intro i
      induction i with
      | zero => intro h; omega
      | succ i ih =>
        intro _
        have s := sc_bounds (b.getD j 0) (a.getD i 0)
        have u := Dt_lo a b j (i + 1) (by omega)
        unfold Dr
        by_cases e : i = 0
        · subst e
          rw [if_pos rfl]
          unfold Dr
          omega
        · rw [if_neg e]
          have v := Dt_lo a b j i (by omega)
          have x := ih (by omega)
          omega
    rw [Dt]
    exact key i hi
theorem Dt_hi (a b : List Nat) : ∀ (j i : Nat), 0 < i → Dt a b j i ≤ 2 * (max j i : Nat)
  | 0, i, _ => by unfold Dt; omega
  | j + 1, 0, h => by omega
  | j + 1, i + 1, _ => by
    rw [Dt]
    have s := sc_bounds (b.getD j 0) (a.getD i 0)
    have d := Dr_le_diag a (b.getD j 0) j (Dt a b j) i
    by_cases e : i = 0
    · subst e
      rw [if_pos rfl] at d
      omega
    · rw [if_neg e] at d
      have v := Dt_hi a b j i (by omega)
      omega
/-- how many of the first j are of a kind -/
noncomputable def cnt (p : Nat → Bool) (l : List Nat) : Nat := (l.filter p).length
theorem cnt_take_succ (p : Nat → Bool) (l : List Nat) (j : Nat) (h : j < l.length) : cnt p (l.take (j + 1)) = cnt p (l.take j) + if p (l.getD j 0) then 1 else 0 := by
  unfold cnt
  rw [List.take_succ_eq_append_getElem h, List.filter_append, List.length_append]
  have : l.getD j 0 = l[j] := by simp [List.getD_eq_getElem?_getD, h]
  rw [this]
  by_cases e : p l[j] <;> simp [e]
theorem cnt_take_le (p : Nat → Bool) (l : List Nat) (j : Nat) : cnt p (l.take j) ≤ j := by
  unfold cnt
  exact Nat.le_trans (List.length_filter_le _ _) (by simp; omega)
/-- the signs of b of that kind that a has none of cost one each at least -/
theorem Dt_great (a b : List Nat) (p : Nat → Bool) (h : ∀ x ∈ a, p x = false) : ∀ (j i : Nat), j ≤ b.length → 0 < i → i ≤ a.length → (cnt p (b.take j) : Int) ≤ Dt a b j i
  | 0, i, _, hi, _ => by unfold Dt; simp [cnt]; omega
  | j + 1, i, hj, hi, hl => by
    have key : ∀ i, 0 < i → i ≤ a.length → (cnt p (b.take (j + 1)) : Int) ≤ Dr a (b.getD j 0) j (Dt a b j) i := by
      intro i
      induction i with
      | zero => intro h; omega
      | succ i ih =>
        intro _ hi
        have s := sc_bounds (b.getD j 0) (a.getD i 0)
        have c := cnt_take_succ p b j (by omega)
        have cl := cnt_take_le p b (j + 1)
        have cl' := cnt_take_le p b j
        have u := Dt_great a b p h j (i + 1) (by omega) (by omega) hi
        have sp : p (b.getD j 0) = true → 1 ≤ sc (b.getD j 0) (a.getD i 0) := by
          intro e
          refine sc_other fun q => ?_
          have : a.getD i 0 ∈ a := by
            have : a.getD i 0 = a[i] := by simp [List.getD_eq_getElem?_getD, show i < a.length by omega]
            rw [this]; exact List.getElem_mem _
          rw [q, h _ this] at e
          cases e
        have c' : cnt p (b.take (j + 1)) ≤ cnt p (b.take j) + 1 ∧ (p (b.getD j 0) = false → cnt p (b.take (j + 1)) = cnt p (b.take j)) := by
          rw [c]; constructor
          · split <;> omega
          · intro e; rw [e]; simp
        have sp' : (cnt p (b.take (j + 1)) : Int) ≤ cnt p (b.take j) + sc (b.getD j 0) (a.getD i 0) := by
          cases e : p (b.getD j 0) with
          | true => have := sp e; omega
          | false => have := c'.2 e; omega
        unfold Dr
        by_cases e : i = 0
        · subst e
          rw [if_pos rfl]
          unfold Dr
          omega
        · rw [if_neg e]
          have v := Dt_great a b p h j i (by omega) (by omega) (by omega)
          have x := ih (by omega) (by omega)
          omega
    rw [Dt]
    exact key i hi hl
/-- a lies in b at x -/
theorem Dt_infix (a b : List Nat) (x : Nat) (h : ∀ i, i < a.length → b.getD (x + i) 0 = a.getD i 0) : ∀ i, 0 < i → i ≤ a.length → Dt a b (x + i) i ≤ 2 * (x : Int)
  | 0, h0, _ => by omega
  | i + 1, _, hl => by
    rw [show x + (i + 1) = (x + i) + 1 by omega, Dt]
    have d := Dr_le_diag a (b.getD (x + i) 0) (x + i) (Dt a b (x + i)) i
    rw [h i (by omega), sc_same] at d
    rw [h i (by omega)]
    by_cases e : i = 0
    · subst e
      rw [if_pos rfl] at d
      simpa using d
    · rw [if_neg e] at d
      have := Dt_infix a b x h i (by omega) (by omega)
      omega
theorem Dt_more (a b : List Nat) (j n : Nat) (hn : 0 < n) : ∀ k, Dt a b (j + k) n ≤ Dt a b j n + 2 * (k : Int)
  | 0 => by simp
  | k + 1 => by
    rw [show j + (k + 1) = (j + k) + 1 by omega, Dt]
    obtain ⟨n, rfl⟩ : ∃ m, n = m + 1 := ⟨n - 1, by omega⟩
    have := Dr_le_up a (b.getD (j + k) 0) (j + k) (Dt a b (j + k)) n
    have := Dt_more a b j (n + 1) hn k
    omega
theorem Dt_diag (a b : List Nat) (p : Nat → Bool) (hl : a.length = b.length) (h : ∀ i, i < a.length → sc (b.getD i 0) (a.getD i 0) ≤ if p (b.getD i 0) then 1 else 0) : ∀ i, 0 < i → i ≤ a.length → Dt a b i i ≤ (cnt p (b.take i) : Int)
  | 0, h0, _ => by omega
  | i + 1, _, hi => by
    rw [Dt]
    have d := Dr_le_diag a (b.getD i 0) i (Dt a b i) i
    have c := cnt_take_succ p b i (by omega)
    have s := h i (by omega)
    have c' : (cnt p (b.take (i + 1)) : Int) = cnt p (b.take i) + if p (b.getD i 0) then 1 else 0 := by rw [c]; split <;> simp
    rw [c']
    by_cases e : i = 0
    · subst e
      rw [if_pos rfl] at d
      simp [cnt] at *
      omega
    · rw [if_neg e] at d
      have := Dt_diag a b p hl h i (by omega) (by omega)
      omega
/-- a within b, both sides longer, or one -/
theorem lev2_infix {a b : List Nat} {x : Nat} {mx : Int} (ha : 0 < a.length) (hx : x + a.length ≤ b.length) (h : ∀ i, i < a.length → b.getD (x + i) 0 = a.getD i 0) (hmx : mx = 2 * ((b.length : Int) - a.length) ∨ mx = 2 * ((b.length : Int) - a.length) - 1) : lev2 a b mx = 2 * ((b.length : Int) - a.length) := by
  rcases hmx with hmx | hmx
  · have last : Dt a b b.length a.length ≤ 2 * ((b.length : Int) - a.length) := by
      have d := Dt_infix a b x h a.length ha (Nat.le_refl _)
      have m := Dt_more a b (x + a.length) a.length ha (b.length - (x + a.length))
      rw [show x + a.length + (b.length - (x + a.length)) = b.length by omega] at m
      omega
    rw [lev2_D (by rintro rfl; rw [List.length_nil] at hx; omega) (by omega) (fun j h1 h2 => ?_)]
    · have := Dt_lo a b b.length a.length ha
      omega
    · by_cases e : j ≤ x
      · have := Dt_hi a b j 1 (by omega)
        exact ⟨1, by omega, by omega, by omega⟩
      · by_cases e2 : j ≤ x + a.length
        · have := Dt_infix a b x h (j - x) (by omega) (by omega)
          rw [show x + (j - x) = j by omega] at this
          exact ⟨j - x, by omega, by omega, by omega⟩
        · have d := Dt_infix a b x h a.length ha (Nat.le_refl _)
          have m := Dt_more a b (x + a.length) a.length ha (j - (x + a.length))
          rw [show x + a.length + (j - (x + a.length)) = j by omega] at m
          exact ⟨a.length, by omega, by omega, by omega⟩
  · unfold lev2
    rw [if_pos (by omega)]
    omega
end Mine
-- text P2
namespace Mine
theorem fresh_P2 : True := by w_top off; trivial
noncomputable abbrev bl (n : Nat) : List Nat := List.replicate n 32
theorem cpre_nil_right (a : List Nat) : cpre a [] = 0 := by cases a <;> rfl
theorem cpre_nil_left (a : List Nat) : cpre [] a = 0 := rfl
theorem cpre_ne {x y : Nat} {xs ys : List Nat} (h : x ≠ y) : cpre (x :: xs) (y :: ys) = 0 := by simp [cpre, h]
theorem cpre_append (s t : List Nat) : ∀ u, cpre (u ++ s) (u ++ t) = u.length + cpre s t
  | [] => by simp
  | x :: u => by simp [cpre, cpre_append s t u]; omega
theorem cpre_swap : ∀ (a b : List Nat), cpre a b = cpre b a
  | x :: xs, y :: ys => by
    unfold cpre
    by_cases h : x = y
    · rw [if_pos h, if_pos h.symm, cpre_swap xs ys]
    · rw [if_neg h, if_neg fun e => h e.symm]
  | [], b => by rw [cpre_nil_right]; rfl
  | _ :: _, [] => rfl
theorem trimB_len (a b : List Nat) : (trimB a b).length = a.length - cpre a.reverse b.reverse := by
  unfold trimB; simp
theorem lev1_comm {a b : List Nat} (mx : Int) (h : a.length ≠ b.length) : lev1 a b mx = lev1 b a mx := by
  unfold lev1
  by_cases h1 : a = [] ∨ b = []
  · rw [if_pos h1, if_pos h1.symm]; omega
  · rw [if_neg h1, if_neg (show ¬ (b = [] ∨ a = []) from fun e => h1 e.symm)]
    by_cases h2 : 40 < a.length ∨ 40 < b.length
    · rw [if_pos h2, if_pos h2.symm]
    · rw [if_neg h2, if_neg (show ¬ (40 < b.length ∨ 40 < a.length) from fun e => h2 e.symm)]
      by_cases h3 : b.length < a.length
      · rw [if_pos h3, if_neg (by omega)]
      · rw [if_neg h3, if_pos (by omega)]
theorem lev_comm {a b : List Nat} (mx : Int) (h : a.length ≠ b.length) : lev a b mx = lev b a mx := by
  have hab : a ≠ b := fun e => h (by rw [e])
  unfold lev
  rw [if_neg hab, if_neg fun e => hab e.symm, cpre_swap b a]
  refine lev1_comm mx ?_
  rw [trimB_len, trimB_len, cpre_swap (List.drop _ b).reverse]
  have l1 := cpre_le a b
  have l2 := cpre_le (a.drop (cpre a b)).reverse (b.drop (cpre a b)).reverse
  simp only [List.length_reverse, List.length_drop] at l2 ⊢
  omega
/-- neither end is a blank -/
structure Core (K : List Nat) : Prop where
  hd : ∃ k ks, K = k :: ks ∧ k ≠ 32
  tl : ∃ k ks, K.reverse = k :: ks ∧ k ≠ 32
theorem bl_add (p x : Nat) : bl (p + x) = bl p ++ bl x := by unfold bl; exact (List.replicate_append_replicate).symm
theorem lev_out {K : List Nat} (c : Core K) (p q x y : Nat) (mx : Int) (hl : x + K.length + y ≤ 40) (hmx : mx = 2 * ((x + y : Nat) : Int) ∨ mx = 2 * ((x + y : Nat) : Int) - 1) : lev (bl p ++ K ++ bl q) (bl (p + x) ++ K ++ bl (q + y)) mx = 2 * ((x + y : Nat) : Int) := by
  by_cases h0 : x = 0 ∧ y = 0
  · obtain ⟨rfl, rfl⟩ := h0
    unfold lev
    rw [if_pos (by simp)]
    rfl
  have hne : bl p ++ K ++ bl q ≠ bl (p + x) ++ K ++ bl (q + y) := by
    intro e
    have := congrArg List.length e
    simp at this
    omega
  obtain ⟨k, ks, hk, hk32⟩ := c.hd
  obtain ⟨k', ks', hk', hk32'⟩ := c.tl
  unfold lev
  rw [if_neg hne]
  by_cases hx : x = 0
  · subst hx
    have e1 : bl (p + 0) ++ K ++ bl (q + y) = (bl p ++ K ++ bl q) ++ bl y := by rw [bl_add q y, Nat.add_zero]; simp only [List.append_assoc]
    have e2 : cpre (bl p ++ K ++ bl q) ((bl p ++ K ++ bl q) ++ bl y) = (bl p ++ K ++ bl q).length := by
      have := cpre_append [] (bl y) (bl p ++ K ++ bl q)
      rw [List.append_nil, cpre_nil_left] at this
      exact this
    rw [e1, e2, List.drop_length, List.drop_left]
    unfold lev1
    rw [if_pos (.inl (by unfold trimB; simp))]
    rw [trimB_len, trimB_len]
    simp [cpre_nil_right, cpre_nil_left]
  · have e1 : bl (p + x) ++ K ++ bl (q + y) = bl p ++ (bl x ++ K ++ bl (q + y)) := by rw [bl_add p x]; simp only [List.append_assoc]
    have e2 : bl p ++ K ++ bl q = bl p ++ (K ++ bl q) := by simp
    have e3 : cpre (bl p ++ (K ++ bl q)) (bl p ++ (bl x ++ K ++ bl (q + y))) = (bl p).length := by
      rw [cpre_append, hk]
      obtain ⟨x', rfl⟩ : ∃ x', x = x' + 1 := ⟨x - 1, by omega⟩
      have : cpre (k :: ks ++ bl q) (bl (x' + 1) ++ (k :: ks) ++ bl (q + y)) = 0 := by
        show cpre (k :: (ks ++ bl q)) (32 :: _) = 0
        exact cpre_ne hk32
      rw [this]
      rfl
    rw [e1, e2, e3, List.drop_left, List.drop_left]
    by_cases hy : y = 0
    · subst hy
      have e4 : cpre (K ++ bl q).reverse (bl x ++ K ++ bl (q + 0)).reverse = (K ++ bl q).reverse.length := by
        have := cpre_append [] (bl x).reverse (K ++ bl q).reverse
        rw [List.append_nil, cpre_nil_left] at this
        rw [show (bl x ++ K ++ bl (q + 0)).reverse = (K ++ bl q).reverse ++ (bl x).reverse by simp]
        exact this
      unfold lev1
      rw [if_pos (.inl (by unfold trimB; rw [e4, List.length_reverse, Nat.sub_self]; rfl)), trimB_len, trimB_len, cpre_swap (bl x ++ K ++ bl (q + 0)).reverse, e4]
      simp
      omega
    · have e4 : cpre (K ++ bl q).reverse (bl x ++ K ++ bl (q + y)).reverse = q := by
        have r1 : (K ++ bl q).reverse = bl q ++ (k' :: ks') := by rw [List.reverse_append, hk']; simp [bl]
        have r2 : (bl x ++ K ++ bl (q + y)).reverse = bl q ++ (bl y ++ ((k' :: ks') ++ bl x)) := by
          rw [List.reverse_append, List.reverse_append, hk', List.reverse_replicate, List.reverse_replicate, show List.replicate (q + y) 32 = bl q ++ bl y from bl_add q y, List.append_assoc]
        rw [r1, r2, cpre_append]
        obtain ⟨y', rfl⟩ : ∃ y', y = y' + 1 := ⟨y - 1, by omega⟩
        have : cpre (k' :: ks') (bl (y' + 1) ++ ((k' :: ks') ++ bl x)) = 0 := by
          show cpre (k' :: ks') (32 :: _) = 0
          exact cpre_ne hk32'
        rw [this]
        simp [bl]
      have t1 : trimB (K ++ bl q) (bl x ++ K ++ bl (q + y)) = K := by
        unfold trimB
        rw [e4]
        simp
      have t2 : trimB (bl x ++ K ++ bl (q + y)) (K ++ bl q) = bl x ++ K ++ bl y := by
        unfold trimB
        rw [cpre_swap, e4, bl_add]
        rw [show bl x ++ K ++ (bl q ++ bl y) = (bl x ++ K ++ bl y) ++ bl q by rw [← bl_add, Nat.add_comm, bl_add]; simp]
        rw [List.take_append_of_le_length (by simp; omega), List.take_of_length_le (by simp; omega)]
      rw [t1, t2]
      have kl : 0 < K.length := by rw [hk]; simp
      have ll : (bl x ++ K ++ bl y).length = x + K.length + y := by simp; omega
      unfold lev1
      rw [if_neg (by rintro (e | e)
                     · rw [e] at kl; exact absurd kl (by simp)
                     · rw [e] at ll; simp at ll; omega), if_neg (by rw [ll]; omega), if_neg (by rw [ll]; omega)]
      rw [lev2_infix (x := x) kl (by rw [ll]; omega) (fun i hi => by
        rw [List.append_assoc, List.getD_eq_getElem?_getD, List.getElem?_append_right (by simp), List.getElem?_append_left (by simpa using hi)]
        simp [List.getD_eq_getElem?_getD]) (by rw [ll]; omega), ll]
      omega
theorem filter_none {p : Nat → Bool} {l : List Nat} (h : ∀ x ∈ l, p x = false) : cnt p l = 0 := by
  unfold cnt
  rw [List.filter_eq_nil_iff.mpr fun x hx => by rw [h x hx]; simp]
  rfl
theorem cnt_append (p : Nat → Bool) (a b : List Nat) : cnt p (a ++ b) = cnt p a + cnt p b := by unfold cnt; rw [List.filter_append, List.length_append]
/-- a text and itself in great letters -/
theorem lev_upper {M : List Nat} (up : Nat → Nat) (p : Nat → Bool) (h1 : ∀ c ∈ M, p c = false) (h2 : ∀ c ∈ M, up c ≠ c → p (up c) = true ∧ Txt.lower (mkS [up c]) = Txt.lower (mkS [c])) (hl : M.length ≤ 40) :
    lev M (M.map up) (cnt (fun c => decide (up c ≠ c)) M : Nat) = (cnt (fun c => decide (up c ≠ c)) M : Nat) := by
  generalize hs : (fun c => decide (up c ≠ c)) = sm
  have hsm : ∀ c, sm c = decide (up c ≠ c) := fun c => by rw [← hs]
  unfold lev
  split
  · rename_i e
    have : cnt sm M = 0 := filter_none fun x hx => by
      rw [hsm]
      obtain ⟨i, hi, rfl⟩ := List.getElem_of_mem hx
      have := List.getElem_of_eq e hi
      rw [List.getElem_map] at this
      simp [← this]
    rw [this]; rfl
  · have d1 : (M.map up).drop (cpre M (M.map up)) = (M.drop (cpre M (M.map up))).map up := by rw [List.map_drop]
    have c1 : cnt sm M = cnt sm (M.drop (cpre M (M.map up))) := by
      conv => lhs; rw [← List.take_append_drop (cpre M (M.map up)) M]
      rw [cnt_append, filter_none fun x hx => ?_, Nat.zero_add]
      rw [hsm]
      obtain ⟨i, hi, rfl⟩ := List.getElem_of_mem hx
      rw [List.length_take] at hi
      have := cpre_at M (M.map up) i (by omega)
      rw [List.getElem_map] at this
      rw [List.getElem_take]
      simp [← this]
    have m1 : ∀ c ∈ M.drop (cpre M (M.map up)), c ∈ M := fun c hc => List.mem_of_mem_drop hc
    have l1 : (M.drop (cpre M (M.map up))).length ≤ 40 := by rw [List.length_drop]; omega
    rw [d1, c1]
    generalize M.drop (cpre M (M.map up)) = N at m1 l1
    generalize hq : cpre N.reverse (N.map up).reverse = q
    have ql : q ≤ N.length := by rw [← hq]; have := cpre_le N.reverse (N.map up).reverse; simp at this; omega
    have t1 : trimB N (N.map up) = N.take (N.length - q) := by unfold trimB; rw [hq]
    have t2 : trimB (N.map up) N = (N.take (N.length - q)).map up := by unfold trimB; rw [cpre_swap, hq, List.length_map, List.map_take]
    have c2 : cnt sm N = cnt sm (N.take (N.length - q)) := by
      conv => lhs; rw [← List.take_append_drop (N.length - q) N]
      rw [cnt_append, filter_none (l := N.drop (N.length - q)) fun x hx => ?_, Nat.add_zero]
      rw [hsm]
      obtain ⟨i, hi, rfl⟩ := List.getElem_of_mem hx
      rw [List.length_drop] at hi
      have := cpre_at N.reverse (N.map up).reverse (q - 1 - i) (by omega)
      rw [List.getElem_reverse, List.getElem_reverse, List.getElem_map] at this
      rw [List.getElem_drop]
      have e : N[N.length - q + i]'(by omega) = N[N.length - 1 - (q - 1 - i)]'(by omega) := by congr 1; omega
      have e' : N[N.length - q + i]'(by omega) = N[(N.map up).length - 1 - (q - 1 - i)]'(by simp; omega) := by congr 1; simp; omega
      rw [← e, ← e'] at this
      simp [← this]
    rw [t1, t2, c2]
    have m2 : ∀ c ∈ N.take (N.length - q), c ∈ M := fun c hc => m1 c (List.mem_of_mem_take hc)
    have l2 : (N.take (N.length - q)).length ≤ 40 := by rw [List.length_take]; omega
    generalize N.take (N.length - q) = a at m2 l2
    have cp : cnt p (a.map up) = cnt sm a := by
      unfold cnt
      rw [List.filter_map, List.length_map]
      congr 1
      refine List.filter_congr fun x hx => ?_
      rw [hsm]
      show p (up x) = _
      by_cases e : up x = x
      · rw [e, h1 x (m2 x hx)]; simp
      · rw [(h2 x (m2 x hx) e).1]; simp [e]
    unfold lev1
    by_cases ha : a = []
    · subst ha
      simp [cnt]
    · have al : 0 < a.length := List.length_pos_iff.mpr ha
      rw [if_neg (by simp [ha]), if_neg (by simp; omega), if_neg (by simp)]
      have diag : ∀ i, 0 < i → i ≤ a.length → Dt a (a.map up) i i ≤ (cnt p ((a.map up).take i) : Int) := Dt_diag a (a.map up) p (by simp) fun i hi => by
        have e1 : (a.map up).getD i 0 = up a[i] := by simp [List.getD_eq_getElem?_getD, hi]
        have e2 : a.getD i 0 = a[i] := by simp [List.getD_eq_getElem?_getD, hi]
        rw [e1, e2]
        have ham := m2 a[i] (List.getElem_mem hi)
        by_cases e : up a[i] = a[i]
        · rw [e, sc_same]; split <;> decide
        · rw [if_pos (h2 _ ham e).1]
          exact sc_case (h2 _ ham e).2
      have le : ∀ i, cnt p ((a.map up).take i) ≤ cnt p (a.map up) := fun i => by
        conv => rhs; rw [← List.take_append_drop i (a.map up)]
        rw [cnt_append]; omega
      rw [lev2_D (by simpa using ha) (by simp) (fun j j1 j2 => ?_)]
      · have lo := Dt_great a (a.map up) p (fun x hx => h1 x (m2 x hx)) a.length a.length (by simp) al (Nat.le_refl _)
        have hi := diag a.length al (Nat.le_refl _)
        rw [show (a.map up).take a.length = a.map up from List.take_of_length_le (by simp), cp] at lo hi
        rw [List.length_map]
        omega
      · rw [List.length_map] at j2
        have := diag j j1 j2
        have := le j
        exact ⟨j, j1, j2, by omega⟩
end Mine
-- text P3
namespace Mine
theorem fresh_P3 : True := by w_top off; trivial
/-- where the first i signs are no blanks -/
noncomputable def nz (l : List Nat) (i : Nat) : List Nat := (List.range i).filter fun k => l.getD k 0 != 32
theorem nz_succ (l : List Nat) (i : Nat) : nz l (i + 1) = nz l i ++ if l.getD i 0 != 32 then [i] else [] := by
  unfold nz
  rw [List.range_succ, List.filter_append]
  cases h : l.getD i 0 != 32 <;> simp only [List.filter_cons, h, List.filter_nil] <;> rfl
theorem nz_len (l : List Nat) (i : Nat) : (nz l i).length ≤ i := by
  unfold nz
  exact Nat.le_trans (List.length_filter_le _ _) (by simp)
theorem mem_nz {l : List Nat} {i k : Nat} : k ∈ nz l i ↔ k < i ∧ l.getD k 0 ≠ 32 := by
  unfold nz
  simp [List.mem_filter]
theorem nz_nil {l : List Nat} : nz l l.length = [] ↔ blanks l = l.length := by
  constructor
  · intro h
    refine blanks_eq (Nat.le_refl _) (fun i hi => ?_) (fun h => absurd h (Nat.lt_irrefl _))
    by_cases e : l[i] = 32
    · exact e
    · have : i ∈ nz l l.length := mem_nz.mpr ⟨hi, by simpa [List.getD_eq_getElem?_getD, hi] using e⟩
      rw [h] at this
      cases this
  · intro h
    refine List.eq_nil_iff_forall_not_mem.mpr fun k hk => ?_
    obtain ⟨h1, h2⟩ := mem_nz.mp hk
    refine h2 ?_
    have := blanks_at (l := l) (i := k) (by omega)
    simpa [List.getD_eq_getElem?_getD, h1] using this
theorem nz_sorted (l : List Nat) (i : Nat) : (nz l i).Pairwise (· < ·) := by
  unfold nz
  exact List.Pairwise.filter _ List.pairwise_lt_range
theorem nz_head {l : List Nat} (h : blanks l < l.length) : ∃ r, nz l l.length = blanks l :: r := by
  have hm : blanks l ∈ nz l l.length := mem_nz.mpr ⟨h, by simpa [List.getD_eq_getElem?_getD, h] using blanks_end h⟩
  cases e : nz l l.length with
  | nil => rw [e] at hm; cases hm
  | cons a r =>
    have ha : a ∈ nz l l.length := by rw [e]; exact .head _
    obtain ⟨h1, h2⟩ := mem_nz.mp ha
    have s := nz_sorted l l.length
    rw [e] at s hm
    rcases List.mem_cons.mp hm with q | q
    · exact ⟨r, by rw [q]⟩
    · have := (List.pairwise_cons.mp s).1 _ q
      have e2 := blanks_at (l := l) (i := a) this
      exact absurd (by simpa [List.getD_eq_getElem?_getD, h1] using e2) h2
theorem blanks_rev_lt {l : List Nat} (h : blanks l < l.length) : blanks l.reverse < l.length := by
  rcases Nat.lt_or_ge (blanks l.reverse) l.length with h' | h'
  · exact h'
  · have e : blanks l.reverse = l.reverse.length := by have := blanks_le l.reverse; simp at this ⊢; omega
    have := blanks_at (l := l.reverse) (i := l.length - 1 - blanks l) (by rw [e]; simp; omega)
    rw [List.getElem_reverse] at this
    have e2 := blanks_end h
    have e3 : l[l.length - 1 - (l.length - 1 - blanks l)]'(by omega) = l[blanks l] := by congr 1; omega
    exact absurd (e3 ▸ this) e2
theorem nz_last {l : List Nat} (h : blanks l < l.length) : ∃ r, nz l l.length = r ++ [l.length - 1 - blanks l.reverse] := by
  have hr := blanks_rev_lt h
  have hb : l[l.length - 1 - blanks l.reverse] ≠ 32 := by
    have := blanks_end (l := l.reverse) (by simpa using hr)
    rw [List.getElem_reverse] at this
    exact this
  have hm : l.length - 1 - blanks l.reverse ∈ nz l l.length := mem_nz.mpr ⟨by omega, by simpa [List.getD_eq_getElem?_getD, show l.length - 1 - blanks l.reverse < l.length by omega] using hb⟩
  have hne : nz l l.length ≠ [] := fun e => by rw [e] at hm; cases hm
  refine ⟨(nz l l.length).dropLast, ?_⟩
  have hl := List.dropLast_concat_getLast hne
  rw [← hl]
  generalize hlast : (nz l l.length).getLast hne = k at hl
  have hk : k ∈ nz l l.length := by rw [← hlast]; exact List.getLast_mem hne
  obtain ⟨h1, h2⟩ := mem_nz.mp hk
  have s := nz_sorted l l.length
  rw [← hl] at s hm
  simp only [List.dropLast_concat]
  congr 1
  congr 1
  rcases List.mem_append.mp hm with q | q
  · have lt := (List.pairwise_append.mp s).2.2 _ q k (by simp)
    have := blanks_at (l := l.reverse) (i := l.length - 1 - k) (by omega)
    rw [List.getElem_reverse] at this
    have e3 : l[l.length - 1 - (l.length - 1 - k)]'(by omega) = l[k] := by congr 1; omega
    exact absurd (by simpa [List.getD_eq_getElem?_getD, h1] using e3 ▸ this) h2
  · simpa using (List.mem_singleton.mp q).symm
theorem blanks_sum {l : List Nat} (h : blanks l < l.length) : blanks l + blanks l.reverse < l.length := by
  have hr := blanks_rev_lt h
  rcases Nat.lt_or_ge (blanks l + blanks l.reverse) l.length with h' | h'
  · exact h'
  · have := blanks_at (l := l.reverse) (i := l.length - 1 - blanks l) (by omega)
    rw [List.getElem_reverse] at this
    have e2 := blanks_end h
    have e3 : l[l.length - 1 - (l.length - 1 - blanks l)]'(by omega) = l[blanks l] := by congr 1; omega
    exact absurd (e3 ▸ this) e2
end Mine
-- text L4
namespace Mine
theorem fresh_L4 : True := by w_top off; trivial
section
variable {prog : Program} {w : World} {A : Around} {s : Shared} {R : Result → Shared → Prop}
theorem compLoop_go {elt target iter : Expr} {ifs : List Expr} {scope : Scope} {pos : Pos} {it acc : Value} {env : Env} (I : Nat → Shared → Prop)
    (turn : ∀ n s, I n s → wpAny (model prog w) A (pyNext it) (fun r s₁ => match r with
      | none => R (.ok .next) s₁
      | some v => wpAny (model prog w) A (letOwnedTupleGo target it v) (fun _ s₁ => wpAny (model prog w) A (assign target env v) (fun _ s₂ =>
          wpAny (model prog w) A (forIn ifs true fun c r => if r = true then do let ok ← isTrue c env (eval c env); pure (ForInStep.yield ok) else pure (ForInStep.yield r)) (fun ok s₃ =>
            if ok = true then wpAny (model prog w) A (eval elt env) (fun x s₄ =>
              wpAny (model prog w) A (call (.builtin "list.append") [acc, x]) (fun _ s₅ => ∃ m, m < n ∧ I m s₅) (notedBy (model prog w) A env fun e s' => R (.error e) s') s₄) (notedBy (model prog w) A env fun e s' => R (.error e) s') s₃
            else ∃ m, m < n ∧ I m s₃) (notedBy (model prog w) A env fun e s' => R (.error e) s') s₂) (notedBy (model prog w) A env fun e s' => R (.error e) s') s₁) (notedBy (model prog w) A env fun e s' => R (.error e) s') s₁) (notedBy (model prog w) A env fun e s' => R (.error e) s') s)
    (n : Nat) (h : I n s) :
    codeAny (model prog w) A (.compLoop (.ListComp elt [⟨target, iter, ifs, 0⟩] scope pos) 0 it acc env) R s := by
  refine codeAny_loop rfl I (fun n s hI => ?_) n h
  show wpAny _ A ((compTurn (.ListComp elt [⟨target, iter, ifs, 0⟩] scope pos) 0 it acc env).onRaise (fun x => do noteFrame x env; theTreesLotGoes x)) _ _ s
  refine wpAny_noted ?_
  rw [compTurn_list]
  refine wpAny_bind (wpAny_standAt (wpAny_bind (wpAny_mono (turn n s hI) (fun r s₁ h₁ => ?_) fun _ _ h' => h')))
  cases r with
  | none => exact wpAny_pure h₁
  | some v =>
    refine wpAny_bind (wpAny_mono h₁ (fun _ s₁ h₁ => ?_) fun _ _ h' => h')
    refine wpAny_bind (wpAny_mono h₁ (fun _ s₂ h₂ => wpAny_bind (wpAny_mono h₂ (fun ok s₃ h₃ => ?_) fun _ _ h' => h')) fun _ _ h' => h')
    cases ok with
    | false => exact wpAny_pure ⟨rfl, h₃⟩
    | true =>
      exact wpAny_bind (wpAny_bind (wpAny_mono h₃ (fun x s₄ h₄ => wpAny_bind (wpAny_mono h₄ (fun _ s₅ h₅ => wpAny_pure (wpAny_pure ⟨rfl, h₅⟩)) fun _ _ h' => h')) fun _ _ h' => h'))
end
section
variable {prog : Program} {w : World} {A : Around} {E : Value → Shared → Prop} {env : Env} {hp : Heap} {g : Array GenState} {d : Drawn} {tk₀ : Nat} {os : OsState}
/-- a list comprehension by an invariant over the heap and the items made so far; X: what the comprehension itself writes -/
theorem comp_JR {elt target iter : Expr} {ifs : List Expr} {scope : Scope} {cl : List (Str × Addr)} {pos : Pos} {I : Addr} {fp wr : List Addr} {n : Nat} {P : Nat → Value → Prop} {St : Nat → Heap → Prop} {RR : Value → Addr → Result → Shared → Prop}
    (W : Walks prog w A I fp wr n P St) (hst : St 0 hp) (hfp : ∀ b ∈ fp, b < hp.objs.size) (hlive : ∀ i h, St i h → ∀ b ∈ wr, ∃ o, h.get? b = some o) (hn1 : n ≤ 1000)
    (hcell : ∀ y ∈ scope.names, y.2 ≠ .cell) (hkind : scope.kind = .function)
    (J : (Addr → Prop) → Nat → Heap → List Value → Prop) (Bd : Nat → Heap → (Str → Option Value) → Prop)
    (J0 : ∀ X h, (∀ b o, b ∉ wr → hp.get? b = some o → h.get? b = some o) → J X 0 h [])
    (Jlen : ∀ X i h ys, i ≤ n → J X i h ys → ys.length ≤ 1000)
    (Jk : ∀ X i h h' ys, (∀ b o, ¬ X b → h.get? b = some o → h'.get? b = some o) → J X i h ys → J X i h' ys)
    (asg : ∀ X i v h tk m C ys (Q' : Unit → Shared → Prop) (E' : Value → Shared → Prop), i < n → hp.objs.size ≤ C → P i v → J X i h ys → (∀ b o, b ∉ wr → hp.get? b = some o → h.get? b = some o) → h.Ns C m →
      (∀ h' tk' m', h'.Ns C m' → Bd i h' m' → Heap.ExtBut C h h' → Q' () ⟨h', g, d, tk', os⟩) → wpAny (model prog w) A (assign target (compEnvC scope cl C env) v) Q' E' ⟨h, g, d, tk, os⟩)
    (turn : ∀ X i h tk m C ys (E' : Value → Shared → Prop), i < n → hp.objs.size ≤ C → J X i h ys → Bd i h m → h.Ns C m → (∀ b, X b → ∃ o, h.get? b = some o) → (∀ b o, b ∉ wr → hp.get? b = some o → h.get? b = some o) →
      wpAny (model prog w) A (forIn ifs true fun c r => if r = true then do let ok ← isTrue c (compEnvC scope cl C env) (eval c (compEnvC scope cl C env)); pure (ForInStep.yield ok) else pure (ForInStep.yield r)) (fun ok s₃ =>
        ∃ h' tk', s₃ = ⟨h', g, d, tk', os⟩ ∧ Keeps h h' ∧ if ok = true then wpAny (model prog w) A (eval elt (compEnvC scope cl C env)) (fun y s₄ => ∃ h'' tk'', s₄ = ⟨h'', g, d, tk'', os⟩ ∧ Keeps h' h'' ∧ J X (i + 1) h'' (ys ++ [y])) E' s₃
          else J X (i + 1) h' ys) E' ⟨h, g, d, tk, os⟩)
    (done : ∀ X D C m h tk ys cn, J X n h ys → hp.get? D = none → hp.get? C = none → D ≠ C → h.Ns C m → h.get? D = some { cls := .type "list", data := .seq ys.toArray cn } → (∀ b o, b ∉ wr → hp.get? b = some o → h.get? b = some o) → X D → X C → (∀ h', (∀ b o, ¬ X b → h.get? b = some o → h'.get? b = some o) → J X n h' ys) → RR (.ref D) C (.ok .next) ⟨h, g, d, tk, os⟩)
    (hna : target.pos = target.pos) (ht : ∀ i h tk v (Q' : Unit → Shared → Prop) (E' : Value → Shared → Prop), P i v → St (i + 1) h → Q' () ⟨h, g, d, tk, os⟩ → wpAny (model prog w) A (letOwnedTupleGo target (.ref I) v) Q' E' ⟨h, g, d, tk, os⟩ := by intro _ _ _ _ _ _ _ _ h; exact wpAny_of_eq rfl h) :
    wpAny (model prog w) A (newList []) (fun acc s₃ => wpAny (model prog w) A (newFunctionEnv scope env.globals cl [] env.qual none .none (some env)) (fun cenv s₄ =>
      codeAny (model prog w) A (.compStart (.ListComp elt [⟨target, iter, ifs, 0⟩] scope pos) 0 (.ref I) acc { cenv with scope := relabel scope env }) (RR acc cenv.locals) s₄) E s₃) E ⟨hp, g, d, tk₀, os⟩ := by
  refine wpAny_newObj_type (wpAny_newFunctionEnv hcell (by intro y hy; simp at hy) (fun h₁ hns₁ hsb₁ => ?_) hkind)
  dsimp only at hns₁ hsb₁ ⊢
  generalize hD : hp.objs.size = D at hns₁ hsb₁ ⊢
  generalize hH2 : hp.push { cls := .type "list", dict := none, data := .seq ([] : List Value).toArray } = H2 at hns₁ hsb₁ ⊢
  generalize hC : H2.objs.size = C at hns₁ hsb₁ ⊢
  have hC' : C = D + 1 := by rw [← hC, ← hH2, Heap.size_push, hD]
  have hDC' : D < C := by rw [hC']; exact Nat.lt_succ_self _
  have hDC : D ≠ C := Nat.ne_of_lt hDC'
  have hlt : ∀ b o, hp.get? b = some o → b < D := fun b o e => by rw [← hD]; exact Heap.lt_size e
  have ltC : ∀ b o, hp.get? b = some o → b ≠ C := fun b o e => Nat.ne_of_lt (Nat.lt_trans (hlt b o e) hDC')
  have ltD : ∀ b o, hp.get? b = some o → b ≠ D := fun b o e => Nat.ne_of_lt (hlt b o e)
  have hCle : hp.objs.size ≤ C := by rw [hD]; exact Nat.le_of_lt hDC'
  have old : ∀ b o, hp.get? b = some o → h₁.get? b = some o := fun b o e => hsb₁.extBut b o (ltC b o e) (Heap.get?_push_of_some _ (hH2 ▸ Heap.get?_push_of_some _ e))
  have hwr : ∀ b ∈ wr, b < D := fun b hb => by rw [← hD]; exact hfp b (W.sub b hb)
  have hacc : h₁.PlainList D #[] := by
    have e0 : H2.get? D = some { cls := .type "list", dict := none, data := .seq ([] : List Value).toArray } := by rw [← hH2, ← hD]; exact Heap.get?_push_size _ rfl
    exact ⟨_, hsb₁.extBut _ _ hDC (Heap.get?_push_of_some _ e0)⟩
  have hst₁ : St 0 h₁ := W.frame _ _ _ hst fun b _ o e => old b o e
  let X : Addr → Prop := fun b => b = C ∨ b = D ∨ b ∈ wr
  have hDnone : hp.get? D = none := by
    cases e : hp.get? D with
    | none => rfl
    | some o => exact absurd (hlt D o e) (Nat.lt_irrefl _)
  have hCf : C ∉ fp := fun hm => Nat.lt_irrefl _ (Nat.lt_trans hDC' (by have := hfp _ hm; rw [hD] at this; exact this))
  have hDf : D ∉ fp := fun hm => Nat.lt_irrefl _ (by have := hfp _ hm; rw [hD] at this; exact this)
  have hCw : C ∉ wr := fun hm => hCf (W.sub _ hm)
  have hDw : D ∉ wr := fun hm => hDf (W.sub _ hm)
  have loop : ∀ tk, codeAny (model prog w) A (.compLoop (.ListComp elt [⟨target, iter, ifs, 0⟩] scope pos) 0 (.ref I) (.ref D) (compEnvC scope cl C env)) (RR (.ref D) C) ⟨h₁, g, d, tk, os⟩ := by
    intro tk
    refine compLoop_go (fun k s' => ∃ h tk m ys i, s' = ⟨h, g, d, tk, os⟩ ∧ i + k = n ∧ St i h ∧ h.PlainList D (List.toArray ys) ∧ h.Ns C m ∧ J X i h ys ∧ (∀ b o, b ∉ wr → hp.get? b = some o → h.get? b = some o)) ?_ n
      ⟨h₁, tk, _, [], 0, rfl, by omega, hst₁, hacc, hns₁, J0 X h₁ (fun b o _ e => old b o e), fun b o _ e => old b o e⟩
    rintro k s' ⟨h, tk, m, ys, i, rfl, hk, st, ha, hn, hj, hkp⟩
    by_cases hin : i < n
    · refine W.item i _ _ _ hin st fun v h' tk' hP st' hk' => ?_
      have hj' : J X i h' ys := Jk X i h h' ys (fun b o hb e => hk' b o (fun hm => hb (.inr (.inr hm))) e) hj
      have hn' : h'.Ns C m := hn.at' fun o e => hk' _ o hCw e
      have ha' : h'.PlainList D ys.toArray := ha.at fun o e => hk' _ o hDw e
      have hkp' : ∀ b o, b ∉ wr → hp.get? b = some o → h'.get? b = some o := fun b o hb e => hk' b o hb (hkp b o hb e)
      refine ht i h' tk' v _ _ hP st' ?_
      refine asg X i v h' tk' m C ys _ _ hin hCle hP hj' hkp' hn' fun h₂ tk₂ m₂ hn₂ hb₂ sb₂ => ?_
      have st₂ : St (i + 1) h₂ := W.frame _ _ _ st' fun b hb o e => sb₂ b o (fun q => hCf (q ▸ hb)) e
      have ha₂ : h₂.PlainList D ys.toArray := ha'.at fun o e => sb₂ _ o hDC e
      have hj₂ : J X i h₂ ys := Jk X i h' h₂ ys (fun b o hb e => sb₂ b o (fun q => hb (.inl q)) e) hj'
      have hkp₂ : ∀ b o, b ∉ wr → hp.get? b = some o → h₂.get? b = some o := fun b o hb e => sb₂ b o (ltC b o e) (hkp' b o hb e)
      have alive : ∀ b, X b → ∃ o, h₂.get? b = some o := by
        rintro b (rfl | rfl | hb)
        · obtain ⟨o, _, _, ho, _⟩ := hn₂; exact ⟨o, ho⟩
        · obtain ⟨_, ho⟩ := ha₂; exact ⟨_, ho⟩
        · exact hlive _ _ st₂ b hb
      refine wpAny_mono (turn X i h₂ tk₂ m₂ C ys _ hin hCle hj₂ hb₂ hn₂ alive hkp₂) (fun ok s₃ h₃ => ?_) fun _ _ e => e
      obtain ⟨h₃, tk₃, rfl, k₃, rest⟩ := h₃
      cases ok with
      | false =>
        rw [if_neg Bool.false_ne_true] at rest ⊢
        exact ⟨k - 1, by omega, h₃, tk₃, m₂, ys, i + 1, rfl, by omega, W.frame _ _ _ st₂ fun b _ o e => k₃ b o e, ha₂.at fun o e => k₃ _ o e, hn₂.keeps k₃, rest, fun b o hb e => k₃ b o (hkp₂ b o hb e)⟩
      | true =>
        rw [if_pos rfl] at rest ⊢
        refine wpAny_mono rest (fun y s₄ h₄ => ?_) fun _ _ e => e
        obtain ⟨h₄, tk₄, rfl, k₄, hj₄⟩ := h₄
        have ha₄ : h₄.PlainList D ys.toArray := ha₂.at fun o e => k₄ _ o (k₃ _ o e)
        have hl := Jlen X (i + 1) h₄ _ (by omega) hj₄
        refine wpAny_list_append_plain ha₄ (fun h₅ ha₅ sb₅ => ?_) (by
          rw [List.length_append] at hl
          simp only [List.size_toArray]
          exact Nat.le_trans (by omega : ys.length ≤ 1000) (by decide))
        refine ⟨k - 1, by omega, h₅, tk₄, m₂, ys ++ [y], i + 1, rfl, by omega, W.frame _ _ _ st₂ fun b hb o e => sb₅.extBut b o (fun q => hDf (q ▸ hb)) (k₄ _ _ (k₃ _ _ e)), by simpa using ha₅, ((hn₂.keeps k₃).keeps k₄).sameBut sb₅ (Ne.symm hDC), Jk X (i + 1) h₄ h₅ _ (fun b o hb e => sb₅.extBut b o (fun q => hb (.inr (.inl q))) e) hj₄, fun b o hb e => sb₅.extBut b o (ltD b o e) (k₄ _ _ (k₃ _ _ (hkp₂ b o hb e)))⟩
    · obtain rfl : i = n := by omega
      refine W.done _ _ _ st fun h' tk' hk' => ?_
      have hn' : h'.Ns C m := hn.at' fun o e => hk' _ o hCw e
      have ha' : h'.PlainList D ys.toArray := ha.at fun o e => hk' _ o hDw e
      obtain ⟨cn, ho⟩ : h'.PlainList D ys.toArray := ha'
      have hj' : J X i h' ys := Jk X i h h' ys (fun b o hb e => hk' b o (fun hm => hb (.inr (.inr hm))) e) hj
      have hCnone : hp.get? C = none := by
        cases e : hp.get? C with
        | none => rfl
        | some o => exact absurd (Nat.lt_trans (hlt C o e) hDC') (Nat.lt_irrefl _)
      exact done X D C m h' tk' ys cn hj' hDnone hCnone hDC hn' ho (fun b o hb e => hk' b o hb (hkp b o hb e)) (.inr (.inl rfl)) (.inl rfl) fun h'' hh => Jk X i h' h'' ys hh hj'
  exact codeAny_compStart_list (loop _) (W.self 0 _ _ _ hst₁ (loop _))
/-- .. whose value is bound to a name -/
theorem comp_Ja {elt target iter : Expr} {ifs : List Expr} {scope : Scope} {cl : List (Str × Addr)} {pos spos : Pos} {y : Str} {py : Pos} {Q : Flow → Shared → Prop}
    (hsw : swapsWith (.ListComp elt [⟨target, iter, ifs, 0⟩] scope pos) (some (.Name y py)) spos.line env = pure true)
    (hclos : closureFor scope env = pure cl) (hkind : scope.kind = .function)
    (hnames : ∀ z ∈ scope.names, z.2 = .local → scope.names.lookup z.1 = some .local)
    (h : wpAny (model prog w) A (eval iter env) (fun xv s₁ => wpAny (model prog w) A (pyIter xv) (fun it s₂ =>
      wpAny (model prog w) A (newList []) (fun acc s₃ => wpAny (model prog w) A (newFunctionEnv scope env.globals cl [] env.qual none .none (some env)) (fun cenv s₄ =>
      codeAny (model prog w) A (.compStart (.ListComp elt [⟨target, iter, ifs, 0⟩] scope pos) 0 it acc { cenv with scope := relabel scope env }) (compPost (model prog w) A E (some (assign (.Name y py) env)) (fun _ s' => Q .next s') acc cenv.locals) s₄) E s₃) E s₂) E s₁) E ⟨hp, g, d, tk₀, os⟩)
    (hs : ∀ x, foldedSetIterable iter env x = pure x := by intro _; rfl) :
    wpAny (model prog w) A (exec (.Assign [.Name y py] (.ListComp elt [⟨target, iter, ifs, 0⟩] scope pos) spos) env) Q E ⟨hp, g, d, tk₀, os⟩ := by
  rw [exec_Assign_Name_used _ _ _ _ hsw]
  refine wpAny_bind (wpAny_standAt (wpAny_bind ?_))
  show wpAny _ A (do let _ ← comprehension (.ListComp elt [⟨target, iter, ifs, 0⟩] scope pos) scope env _ (newList []) false (eval iter env) (some (assign (.Name y py) env))) _ _ _
  exact wpAny_bind (wpAny_mono (wpAny_comprehension_free (use := some (assign (.Name y py) env)) (Q := fun _ s' => Q .next s') rfl hs hclos hkind hnames h) (fun _ s' hq => wpAny_pure (wpAny_pure hq)) fun _ _ e => e)
/-- the end of it -/
theorem comp_use {C D : Addr} {y : Str} {py : Pos} {Q : Value → Shared → Prop} {h₀ h : Heap} {tk : Nat} {m mC : Str → Option Value} (hy : env.kindOf y = some .local)
    (F : Fr h₀ env.locals h m) (hnC : h.Ns C mC) (hLC : env.locals ≠ C) (hq : ∀ h' tk', Fr h₀ env.locals h' (fun z => if z = y then some (.ref D) else m z) → (∀ b o, b ≠ env.locals → b ≠ C → h.get? b = some o → h'.get? b = some o) → Q .none ⟨h', g, d, tk', os⟩)
    (hC0 : h₀.get? C = none) (hp : (env.scope.kind == .class || (env.scope.kind == .module && env.locals != env.globals)) = false := by rfl) :
    compPost (model prog w) A E (some (assign (.Name y py) env)) Q (.ref D) C (.ok .next) ⟨h, g, d, tk, os⟩ := by
  show wpAny _ A (assign (.Name y py) env (.ref D)) _ _ _
  refine wpAny_assign_Name (wpAny_storeName_local hy F.ns (fun h₂ hn₂ hs₂ => ?_) hp)
  refine ⟨mC, hnC.sameBut hs₂ (Ne.symm hLC), fun h₃ hs₃ => ?_⟩
  have F₂ := F.set hn₂ hs₂
  exact hq h₃ _ ⟨hn₂.sameBut hs₃ hLC, fun b o e => hs₃.extBut b o (by rintro rfl; rw [hC0] at e; cases e) (F₂.keep b o e), F.above⟩ fun b o hbL hbC e => hs₃.extBut b o hbC (hs₂.extBut b o hbL e)
end
end Mine
-- text L5
namespace Mine
theorem fresh_L5 : True := by w_top off; trivial
/-- tuples of two texts: a sign and what it means -/
noncomputable def PairsH (h : Heap) (ps : List (Nat × List Nat)) (vs : List Value) : Prop := Paired (fun p v => ∃ T u1 u2, v = .ref T ∧ IsTup h T #[.str (mkS [p.1]) u1, .str (mkS p.2) u2]) ps vs
theorem PairsH.keeps {h h' : Heap} {ps vs} (x : PairsH h ps vs) (k : Keeps h h') : PairsH h' ps vs := Paired.mono (fun _ _ ⟨T, u1, u2, e, ht⟩ => ⟨T, u1, u2, e, ht.keeps k⟩) x
theorem Paired.get {α β : Type} {F : α → β → Prop} : ∀ {l₁ : List α} {l₂ : List β}, Paired F l₁ l₂ → ∀ (i : Nat) (b : β), l₂[i]? = some b → ∃ a, l₁[i]? = some a ∧ F a b
  | _, _, .nil, i, b, h => by simp at h
  | _, _, .cons h t, 0, b, hb => ⟨_, rfl, by simp at hb; exact hb ▸ h⟩
  | _, _, .cons h t, i + 1, b, hb => Paired.get t i b (by simpa using hb)
theorem Paired.drop {α β : Type} {F : α → β → Prop} : ∀ {l₁ : List α} {l₂ : List β}, Paired F l₁ l₂ → ∀ k, Paired F (l₁.drop k) (l₂.drop k)
  | _, _, h, 0 => h
  | _, _, .nil, _ + 1 => .nil
  | _, _, .cons _ t, k + 1 => Paired.drop t k
theorem Paired.take {α β : Type} {F : α → β → Prop} : ∀ {l₁ : List α} {l₂ : List β}, Paired F l₁ l₂ → ∀ k, Paired F (l₁.take k) (l₂.take k)
  | _, _, _, 0 => .nil
  | _, _, .nil, _ + 1 => .nil
  | _, _, .cons h t, k + 1 => .cons h (Paired.take t k)
theorem none_of_push {h : Heap} {o : Obj} {b : Addr} (e : (h.push o).get? b = none) : h.get? b = none := by
  cases q : h.get? b with
  | none => rfl
  | some o' => rw [Heap.get?_push_of_some _ q] at e; cases e
section
variable {prog : Program} {w : World} {A : Around} {E : Value → Shared → Prop} {env : Env} {hp : Heap} {g : Array GenState} {d : Drawn} {tk₀ : Nat} {os : OsState}
/-- [x for sign, meant in pairs] -/
theorem comp_pairs {x : Str} {px p1 p2 p3 pos : Pos} {k : Nat} {iter : Expr} {scope : Scope} {cl : List (Str × Addr)} {a : Addr} {ps : List (Nat × List Nat)} {vs : List Value} {RR : Value → Addr → Result → Shared → Prop} (f : Nat × List Nat → List Nat)
    (hA : A.handled = none) (hl : hp.IsList a vs.toArray) (hP : PairsH hp ps vs) (hn : ps.length ≤ 1000) (hcell : ∀ y ∈ scope.names, y.2 ≠ .cell) (hkind : scope.kind = .function)
    (h1 : ∀ C, (compEnvC scope cl C env).kindOf "sign" = some .local) (h2 : ∀ C, (compEnvC scope cl C env).kindOf "meant" = some .local)
    (hx : (x = "sign" ∧ f = fun p => [p.1]) ∨ (x = "meant" ∧ f = fun p => p.2)) (hsm : ("sign" : Str) ≠ "meant")
    (hdbg : (x == ("__debug__" : Str)) = false)
    (done : ∀ D C m h tk ys cn, Paired (fun p v => ∃ t, v = .str (mkS (f p)) t) ps ys → hp.get? D = none → hp.get? C = none → D ≠ C → h.Ns C m → h.get? D = some { cls := .type "list", data := .seq ys.toArray cn } → Keeps hp h → RR (.ref D) C (.ok .next) ⟨h, g, d, tk, os⟩) :
    wpAny (model prog w) A (pyIter (.ref a)) (fun it s₂ => wpAny (model prog w) A (newList []) (fun acc s₃ => wpAny (model prog w) A (newFunctionEnv scope env.globals cl [] env.qual none .none (some env)) (fun cenv s₄ =>
      codeAny (model prog w) A (.compStart (.ListComp (.Name x px) [⟨.Tuple [.Name "sign" p1, .Name "meant" p2] k p3, iter, [], 0⟩] scope pos) 0 it acc { cenv with scope := relabel scope env }) (RR acc cenv.locals) s₄) E s₃) E s₂) E ⟨hp, g, d, tk₀, os⟩ := by
  refine wpAny_pyIter_list hl ?_
  have hne : a ≠ hp.objs.size := by obtain ⟨o, ho, _⟩ := hl; exact Nat.ne_of_lt (Heap.lt_size ho)
  have hvl : vs.length = ps.length := (Paired.length hP).symm
  refine comp_JR (J := fun X i h ys => Paired (fun p v => ∃ t, v = .str (mkS (f p)) t) (ps.take i) ys) (Bd := fun i h m => ∃ p t1 t2, ps[i]? = some p ∧ m "sign" = some (.str (mkS [p.1]) t1) ∧ m "meant" = some (.str (mkS p.2) t2))
    (Walks.list hA hp.objs.size a hne vs.toArray) ⟨⟨_, Heap.get?_push_size _ rfl, rfl, rfl⟩, hl.push _⟩ ?_ ?_ (by rw [List.size_toArray, hvl]; exact hn) hcell hkind ?_ ?_ ?_ ?_ ?_ ?_ rfl ?_
  · intro b hb
    rw [Heap.size_push]
    rcases List.mem_cons.mp hb with rfl | hb
    · exact Nat.lt_succ_self _
    · rw [List.mem_singleton.mp hb]
      obtain ⟨o, ho, _⟩ := hl
      exact Nat.lt_succ_of_lt (Heap.lt_size ho)
  · intro i h st b hb
    rw [List.mem_singleton.mp hb]
    obtain ⟨o, ho, _⟩ := st.1
    exact ⟨o, ho⟩
  · intro X h _
    exact .nil
  · intro X i h ys hi hj
    have := Paired.length hj
    rw [List.length_take] at this
    omega
  · intro X i h h' ys hk hj
    exact hj
  · rintro X i v h tk m C ys Q' E' hi hC hv hj hk hns hq
    obtain ⟨p, hp1, T, u1, u2, rfl, ht⟩ := Paired.get hP i v (by simpa using hv)
    have hT : IsTup h T #[.str (mkS [p.1]) u1, .str (mkS p.2) u2] := ht.keeps fun b o e => hk b o (fun hm => Nat.lt_irrefl _ (Nat.lt_of_lt_of_eq (Heap.lt_size e) (List.mem_singleton.mp hm).symm)) (Heap.get?_push_of_some _ e)
    refine wpAny_assign_Tuple hA hT rfl rfl fun h₁ ex => ?_
    have hlt : C ≠ h.objs.size := by obtain ⟨o, _, _, ho, _⟩ := hns; exact Nat.ne_of_lt (Heap.lt_size ho)
    have hns₁ : h₁.Ns C m := hns.at' fun o e => ex _ _ hlt e
    show wpAny _ _ (assignInOrder [assign (.Name "sign" p1) _, assign (.Name "meant" p2) _] [_, _]) _ _ _
    refine wpAny_assignInOrder_more ?_
    refine wpAny_assign_Name (wpAny_storeName_local (h1 C) hns₁ (fun h₂ hn₂ sb₂ => ?_) ?_)
    · refine wpAny_assignInOrder_more ?_
      refine wpAny_assign_Name (wpAny_storeName_local (h2 C) hn₂ (fun h₃ hn₃ sb₃ => ?_) ?_)
      · refine wpAny_assignInOrder_none ?_
        refine hq h₃ _ _ hn₃ ⟨p, u1, u2, hp1, (if_neg hsm).trans (if_pos rfl), if_pos rfl⟩ fun b o hb e => sb₃.extBut b o hb (sb₂.extBut b o hb (ex b o (Nat.ne_of_lt (Heap.lt_size e)) e))
      · simp [compEnvC, relabel, hkind]
    · simp [compEnvC, relabel, hkind]
  · rintro X i h tk m C ys E' hi hC hj ⟨p, t1, t2, hp1, m1, m2⟩ hns hal hk
    simp only [List.forIn_nil]
    refine wpAny_pure ⟨h, tk, rfl, fun _ _ e => e, ?_⟩
    rw [if_pos rfl]
    have hst : ps.take (i + 1) = ps.take i ++ [p] := by
      rw [List.take_add_one, hp1]; rfl
    rcases hx with ⟨rfl, rfl⟩ | ⟨rfl, rfl⟩
    · refine ldl hns m1 ⟨h, _, rfl, fun _ _ e => e, ?_⟩ (by simp [compEnvC, relabel, hkind]) (h1 C) hdbg
      rw [hst]
      exact hj.snoc ⟨_, rfl⟩
    · refine ldl hns m2 ⟨h, _, rfl, fun _ _ e => e, ?_⟩ (by simp [compEnvC, relabel, hkind]) (h2 C) hdbg
      rw [hst]
      exact hj.snoc ⟨_, rfl⟩
  · intro X D C m h tk ys cn hj hD hC hDC hns hl' hk hXD hXC hJ
    rw [show vs.toArray.size = ps.length by rw [List.size_toArray, hvl], List.take_length] at hj
    exact done D C m h tk ys cn hj (none_of_push hD) (none_of_push hC) hDC hns hl' fun b o e => hk b o (fun hm => Nat.lt_irrefl _ (Nat.lt_of_lt_of_eq (Heap.lt_size e) (List.mem_singleton.mp hm).symm)) (Heap.get?_push_of_some _ e)
  · intro i h tk v Q' E' hv hst hq
    obtain ⟨p, hp1, T, u1, u2, rfl, ht⟩ := Paired.get hP i v (by simpa using hv)
    exact wpAny_letOwnedTupleGo_listiter hst.1 hq
end
end Mine
-- text L6
namespace Mine
theorem fresh_L6 : True := by w_top off; trivial
/-- texts -/
noncomputable def TextsAre (vs : List Value) (zs : List (List Nat)) : Prop := Paired (fun (z : List Nat) (v : Value) => ∃ t, v = .str (mkS z) t) zs vs
theorem TextsAre.strs : ∀ {vs : List Value} {zs : List (List Nat)}, TextsAre vs zs → StrsAre vs (zs.map mkS)
  | _, _, .nil => .nil
  | _, _, .cons ⟨t, e⟩ h => e ▸ .cons _ t (TextsAre.strs h)
theorem texts_of {ps : List (Nat × List Nat)} {f : Nat × List Nat → List Nat} : ∀ {ps : List (Nat × List Nat)} {vs : List Value}, Paired (fun p v => ∃ t, v = .str (mkS (f p)) t) ps vs → TextsAre vs (ps.map f)
  | _, _, .nil => .nil
  | _, _, .cons e h => .cons e (texts_of (ps := ps) h)
theorem signs_of : ∀ {ps : List (Nat × List Nat)} {vs : List Value}, Paired (fun (p : Nat × List Nat) v => ∃ t, v = .str (mkS [p.1]) t) ps vs → SignsAre vs (ps.map (·.1))
  | _, _, .nil => .nil
  | _, _, .cons e h => .cons e (signs_of h)
theorem texts_weight : ∀ (zs : List (List Nat)), ((zs.map mkS).map (·.length)).sum = zs.flatten.length
  | [] => rfl
  | z :: zs => by
    have := texts_weight zs
    simp only [List.map_cons, List.sum_cons, List.flatten_cons, List.length_append]
    rw [mkS_len]
    omega
section
variable {prog : Program} {w : World} {A : Around} {s : Shared} {Q E : Value → Shared → Prop}
/-- ''.join -/
theorem join_T {D : Addr} {vs : List Value} {zs : List (List Nat)} {t : Tok} (hl : s.heap.IsList D vs.toArray) (hi : TextsAre vs zs) (hw : zs.flatten.length + zs.length ≤ 100000) (h : ∀ t' k, Q (.str (mkS zs.flatten) t') { s with toks := k }) :
    wpAny (model prog w) A (call (.builtin "str.join") [.str (Str.ofString "") t, .ref D]) Q E s := by
  refine join_listW hl (ys := zs.map mkS) hi.strs (by decide) (by rw [texts_weight, List.length_map]; omega) fun t' k => ?_
  have e : Txt.join (Str.ofString "") (zs.map mkS) = mkS zs.flatten := by
    rw [beq_iff_eq.mp (join_plain_closes _ _), mkS_lit (l := []) rfl]
    exact join_S zs
  rw [e]
  exact h _ _
/-- l[i:j] -/
theorem ls_run {value slice : Expr} {a : Addr} {vs : List Value} {hp : Heap} {g : Array GenState} {d : Drawn} {tk : Nat} {os : OsState} (x : hp.IsList a vs.toArray) (hl : vs.length ≤ 1000) {z y : Int} (i j : Nat) (hz : z = i) (hy : y = j) (h1 : i ≤ j) (h2 : j ≤ vs.length) {u v : Tok}
    (h : ∀ h' D k, Keeps hp h' → h'.IsList D ((vs.drop i).take (j - i)).toArray → hp.get? D = none → Q (.ref D) ⟨h', g, d, k, os⟩)
    (hs : subscripted slice false (.ref a) (.ref hp.objs.size) = operate [.ref hp.objs.size, .ref a] (getItem (.ref a) (.ref hp.objs.size)) := by with_unfolding_all rfl)
    (ht : ∀ r, letTemporaryGo value (.ref a) r = pure () := by intro _; with_unfolding_all rfl) :
    wpAny (model prog w) A (subscriptTail value slice (.ref a) (.ref hp.objs.size)) Q E ⟨hp.push { cls := .type "slice", data := .fields #[.int z u, .int y v, .none] }, g, d, tk, os⟩ := by
  subst hz hy
  refine subscriptTail_ops (Heap.IsList.typeIs (s := ⟨hp.push _, g, d, tk, os⟩) (x.push _)) list_getitem_lookup
    (wpAny_getItem_list_slice (x.push _) (Heap.IsSliceOf.new ..) (.int _ _) (.int _ _) .none (by simp) ?_ (by rw [List.size_toArray]; exact Nat.le_trans hl (by decide))) hs ht
  rw [slicePick_run _ i j (by rw [List.size_toArray]; exact h2) h1]
  exact h _ _ _ (fun b o e => Heap.get?_push_of_some _ (Heap.get?_push_of_some _ e)) ⟨_, Heap.get?_push_size _ rfl, rfl, _, rfl⟩ none_after
end
section
variable {prog : Program} {w : World} {A : Around} {E : Value → Shared → Prop} {env : Env} {hp : Heap} {g : Array GenState} {d : Drawn} {tk₀ : Nat} {os : OsState}
/-- the end of a comprehension whose value is bound to a cell's name -/
theorem comp_useC {C D cell : Addr} {y : Str} {py : Pos} {Q : Value → Shared → Prop} {h₀ h : Heap} {tk : Nat} {m mC : Str → Option Value} {v₀ : Option Value} (hy : env.kindOf y = some .cell) (hc : env.cells.lookup y = some cell) (hv : h.IsCell cell v₀) (hk : env.scope.kind = .function)
    (F : Fr h₀ env.locals h m) (hnC : h.Ns C mC) (hLC : env.locals ≠ C) (hcC : cell ≠ C) (hLc : env.locals ≠ cell) (hc0 : h₀.get? cell = none) (hq : ∀ h' tk', h'.IsCell cell (some (.ref D)) → Fr h₀ env.locals h' m → (∀ b o, b ≠ cell → b ≠ C → h.get? b = some o → h'.get? b = some o) → Q .none ⟨h', g, d, tk', os⟩)
    (hC0 : h₀.get? C = none) :
    compPost (model prog w) A E (some (assign (.Name y py) env)) Q (.ref D) C (.ok .next) ⟨h, g, d, tk, os⟩ := by
  show wpAny _ A (assign (.Name y py) env (.ref D)) _ _ _
  refine wpAny_assign_Name (wpAny_storeName_cell hk hy hc hv fun h₂ hv₂ hs₂ => ?_)
  refine ⟨mC, hnC.sameBut hs₂ (Ne.symm hcC), fun h₃ hs₃ => ?_⟩
  have k : ∀ b o, b ≠ cell → b ≠ C → h.get? b = some o → h₃.get? b = some o := fun b o h1 h2 e => hs₃.extBut b o h2 (hs₂.extBut b o h1 e)
  obtain ⟨oc, hoc, hod⟩ := hv₂
  exact hq h₃ _ ⟨oc, hs₃.extBut _ _ hcC hoc, hod⟩ ⟨F.ns.at' fun o e => k _ o hLc hLC e, fun b o e => k b o (by rintro rfl; rw [hc0] at e; cases e) (by rintro rfl; rw [hC0] at e; cases e) (F.keep b o e), F.above⟩ k
end
local macro_rules | `(tactic| walk_at "w") => `(tactic| first | ((with_reducible show wpAny _ _ _ _ _ _); walk1) | ((with_reducible show ite _ _ _); walk1) | dsimp only)
section
variable {prog : Program} {w : World} {A : Around} {E : Value → Shared → Prop} {env : Env} {hp : Heap} {g : Array GenState} {d : Drawn} {tk₀ : Nat} {os : OsState}
/-- [k for k in range(len(signs)) if signs[k] != ' '], from its iterator on -/
theorem comp_nz {b : Bool} {V : Value} {l : List Nat} {R cell : Addr} {pk pt p1 p2 p3 p4 p5 pos : Pos} {iter : Expr} {scope : Scope} {cl : List (Str × Addr)} {t₀ u₀ v₀ : Tok} {kk : Nat} {RR : Value → Addr → Result → Shared → Prop}
    (hA : A.handled = none) (hR : IsRange hp R 0 (l.length : Int) 1 t₀ u₀ v₀) (hl : l.length ≤ 1000) (hV : SV hp b V l) (hcl : cl.lookup ("signs" : Str) = some cell) (hcv : hp.IsCell cell (some V))
    (hcell : ∀ y ∈ scope.names, y.2 ≠ .cell) (hkind : scope.kind = .function) (hk2 : ∀ C, (compEnvC scope cl C env).scope.kind = .function)
    (h1 : ∀ C, (compEnvC scope cl C env).kindOf "k" = some .local) (h2 : ∀ C, (compEnvC scope cl C env).kindOf "signs" = some .cell) (h3 : ∀ C, (compEnvC scope cl C env).cells.lookup ("signs" : Str) = some cell)
    (done : ∀ D C m h tk ys cn, IntsAre ys ((nz l l.length).map fun (k : Nat) => (k : Int)) → hp.get? D = none → hp.get? C = none → D ≠ C → h.Ns C m → h.get? D = some { cls := .type "list", data := .seq ys.toArray cn } → Keeps hp h → RR (.ref D) C (.ok .next) ⟨h, g, d, tk, os⟩) :
    wpAny (model prog w) A (pyIter (.ref R)) (fun it s₂ => wpAny (model prog w) A (newList []) (fun acc s₃ => wpAny (model prog w) A (newFunctionEnv scope env.globals cl [] env.qual none .none (some env)) (fun cenv s₄ =>
      codeAny (model prog w) A (.compStart (.ListComp (.Name "k" pk) [⟨.Name "k" pt, iter, [.Compare (.Subscript (.Name "signs" p1) (.Name "k" p2) p3) [.NotEq] [.Constant (.str " ") kk p4] p5], 0⟩] scope pos) 0 it acc { cenv with scope := relabel scope env }) (RR acc cenv.locals) s₄) E s₃) E s₂) E ⟨hp, g, d, tk₀, os⟩ := by
  refine wpAny_pyIter_range hR (range_small l.length (by omega)) ?_
  dsimp only
  rw [range_size]
  refine comp_JR (J := fun X i h ys => IntsAre ys ((nz l i).map fun (k : Nat) => (k : Int))) (Bd := fun i h m => ∃ t, m "k" = some (.int (i : Int) t)) (Walks.range hA _ 0 1 l.length).bound ?_ ?_ ?_ hl hcell hkind ?_ ?_ ?_ ?_ ?_ ?_ rfl
  · show IsRangeIter _ _ _ _ _
    simpa using Heap.get?_push_size _ rfl
  · intro b hb
    rw [List.mem_singleton.mp hb, Heap.size_push]
    exact Nat.lt_succ_self _
  · intro i h st b hb
    rw [List.mem_singleton.mp hb]
    exact ⟨_, st⟩
  · intro X h _
    exact .nil
  · intro X i h ys hi hj
    have := hj.length
    have := nz_len l i
    simp at *
    omega
  · intro X i h h' ys hk hj
    exact hj
  · rintro X i v h tk m C ys Q' E' hi hC ⟨_, u, rfl⟩ hj hk hn hq
    refine wpAny_assign_Name (wpAny_storeName_local (h1 C) hn (fun h' hn' sb => ?_) (by rw [hk2 C]; rfl))
    exact hq h' _ _ hn' ⟨u, by simp⟩ sb.extBut
  · rintro X i h tk m C ys E' hi hC hj ⟨u, hm⟩ hn hal hk
    have kk : Keeps hp h := fun b o e => hk b o (fun hm => Nat.lt_irrefl _ (Nat.lt_of_lt_of_eq (Heap.lt_size e) (List.mem_singleton.mp hm).symm)) (Heap.get?_push_of_some _ e)
    have hVh := hV.keeps kk
    have hcell := hcv.keeps kk
    simp only [List.forIn_cons, List.forIn_nil, if_true]
    refine wpAny_bind (wpAny_bind ?_)
    repeat' ((fail_if_success (with_reducible show wpAny _ _ (eval (.Name _ _) _) _ _ _)); walk_at "w")
    refine ldc (h3 C) hcell ?_ (hk2 C) (h2 C)
    repeat' ((fail_if_success (with_reducible show wpAny _ _ (eval (.Name _ _) _) _ _ _)); walk_at "w")
    refine ldl hn hm ?_ (hk2 C) (h1 C)
    refine sv_item hVh hA hl i hi rfl fun _ _ => ?_
    repeat' (walk_at "w")
    refine wpAny_pure (wpAny_pure ⟨h, _, rfl, fun _ _ e => e, ?_⟩)
    have e1 : (mkS [l[i]] != Str.ofString " ") = (l.getD i 0 != 32) := by
      rw [show Str.ofString " " = mkS [32] from mkS_lit (l := [' ']) rfl]
      show (!(mkS [l[i]] == mkS [32])) = _
      rw [mkS_beq]
      simp [List.getD_eq_getElem?_getD, hi, bne, Bool.beq_eq_decide_eq]
    rw [e1]
    cases hb2 : (l.getD i 0 != 32) with
    | false =>
      rw [if_neg Bool.false_ne_true, nz_succ, hb2]
      simpa using hj
    | true =>
      rw [if_pos rfl]
      refine ldl hn hm ⟨h, _, rfl, fun _ _ e => e, ?_⟩ (hk2 C) (h1 C)
      rw [nz_succ, hb2, if_pos rfl, List.map_append]
      exact hj.append (.cons _ _ .nil)
  · intro X D C m h tk ys cn hj hD hC hDC hn hl' hk hXD hXC hJ
    exact done D C m h tk ys cn hj (none_of_push hD) (none_of_push hC) hDC hn hl' fun b o e => hk b o (fun hm => Nat.lt_irrefl _ (Nat.lt_of_lt_of_eq (Heap.lt_size e) (List.mem_singleton.mp hm).symm)) (Heap.get?_push_of_some _ e)
end
end Mine
-- text M8
namespace Mine
theorem fresh_M8 : True := by w_top off; trivial
local macro_rules | `(tactic| walk_at "eval Name") => `(tactic| first
  | refine ldl (Fr.ns (by assumption)) (by walk_at "mlook") ?_
  | refine ldc rfl ⟨_, News.get (by assumption) (by first | exact .head _ | exact .tail _ (.head _) | exact .tail _ (.tail _ (.head _)) | exact .tail _ (.tail _ (.tail _ (.head _)))), by assumption⟩ ?_
  | refine ldg (Heap.Ns.keeps (by assumption) (Fr.keep (by assumption))) (by assumption) ?_
  | refine ldb (Heap.Ns.keeps (by assumption) (Fr.keep (by assumption))) (by assumption) (Heap.Ns.keeps (by assumption) (Fr.keep (by assumption))) (by assumption) ?_)
local macro_rules | `(tactic| walk_at "storeName") => `(tactic| (rename Fr _ _ _ _ => F'; rename News _ _ _ _ => N'; refine wpAny_storeName_local rfl F'.ns (fun _ hn' sb' => ?_) rfl; replace F' := F'.set hn' sb'; replace N' := N'.set sb'; clear hn' sb'))
theorem min_cast {n a x y : Nat} (h : y < n) : (n : Int) - min ((a : Int) - min (a : Int) (x : Int)) ((n : Int) - 1 - ((n - 1 - y : Nat) : Int)) = ((n - min (a - min a x) y : Nat) : Int) := by
  have e1 : (n : Int) - 1 - ((n - 1 - y : Nat) : Int) = (y : Int) := by omega
  have e2 : min (a : Int) (x : Int) = ((min a x : Nat) : Int) := by omega
  have h2 := Nat.min_le_left a x
  rw [e1, e2]
  clear e1 e2
  generalize min a x = z at *
  have e3 : (a : Int) - (z : Int) = ((a - z : Nat) : Int) := by omega
  rw [e3]
  clear e3
  have e4 : min ((a - z : Nat) : Int) (y : Int) = ((min (a - z) y : Nat) : Int) := by generalize a - z = b; omega
  rw [e4]
  have h3 := Nat.min_le_right (a - z) y
  generalize min (a - z) y = b at *
  omega
theorem le_cut {n a x y : Nat} (h : x + y < n) : min a x ≤ n - min (a - min a x) y := by
  have h2 := Nat.min_le_right a x
  have h3 := Nat.min_le_right (a - min a x) y
  generalize min (a - min a x) y = b at *
  generalize min a x = c at *
  omega
section
variable {prog : Program} {w : World} {mean : ExcName → Option Value} {mg mb : Str → Option Value} {ad : Nat → Addr} {A : Around} {s : Shared} {Q E : Value → Shared → Prop}
/-- l == [] -/
theorem eq_nil {a b : Addr} {vs : List Value} (ha : s.heap.IsList a vs.toArray) (hb : s.heap.IsList b #[]) (hu : A.units < cLine) (h : Q (.bool vs.isEmpty) s) : wpAny (model prog w) A (compareOp .Eq (.ref a) (.ref b)) Q E s := by
  cases vs with
  | nil => exact PySem.SeqAt.eq_listAt (e := fun _ => true) ha hb rfl hu (fun j h1 _ => absurd h1 (Nat.not_lt_zero _)) h
  | cons x xs => exact PySem.SeqAt.eq_list_lengthsAt ha hb (by simp) hu h
theorem c_cut {b : Bool} {V : Value} {l : List Nat} {a : Nat} {t : Tok} (G : GG w mean mg mb ad s.heap) (r : Rm 1 A) (hV : SV s.heap b V l) (hl : l.length ≤ 1000)
    (hN : cutL l a = none → ∀ h' t', Keeps s.heap h' → Q .none { s with heap := h', toks := t' })
    (hS : ∀ y, cutL l a = some y → ∀ h' V' t', Keeps s.heap h' → SV h' b V' y → (b = false → ∃ D, V' = .ref D ∧ s.heap.get? D = none) → Q V' { s with heap := h', toks := t' }) :
    wpAny (model prog w) A (call (.ref (ad 23)) [V, .int (a : Int) t]) Q E s := by
  refine enterC (i := 23) (binds := [("signs", V), ("amount", .int (a : Int) t)]) dr23 G (by decide) rfl r (fun _ _ _ => by kernel_rfl!) ?_ (by kernel_rfl!) fun L cd h₁ tk F X₀ r' => ?_
  · intro L x hx
    rcases List.mem_cons.mp hx with rfl | hx
    · exact .inr ⟨rfl, rfl⟩
    · rw [List.mem_singleton.mp hx]
      exact .inl rfl
  have kF : Keeps s.heap h₁ := F.keep
  have hg := G.T.g
  have hb := G.T.b
  obtain ⟨r1, r2⟩ := G.range
  obtain ⟨l1, l2⟩ := G.len
  obtain ⟨m1, m2⟩ := G.min
  obtain ⟨oc, hoc, hod⟩ := X₀.cell "signs" (L + 1) rfl
  replace hod : oc.data = .cell (some V) := hod
  have hLn : ∀ k, s.heap.get? (L + k) = none := fun k => by
    cases e : s.heap.get? (L + k) with
    | none => rfl
    | some o => exact absurd (Nat.lt_of_lt_of_le (Heap.lt_size e) F.above) (Nat.not_lt.mpr (Nat.le_add_right _ _))
  have N : News s.heap L h₁ [(L + 1, oc)] := News.one .nil hoc (Nat.succ_ne_self _) (hLn 1)
  have z1 : (bindL (envOfC (nm 23) (dr 23).scope L (ad 23) cd).kindOf [("signs", V), ("amount", .int (a : Int) t)] fun _ => none) "amount" = some (.int (a : Int) t) := rfl
  generalize (bindL (envOfC (nm 23) (dr 23).scope L (ad 23) cd).kindOf [("signs", V), ("amount", .int (a : Int) t)] fun _ => none) = m₀ at F z1
  repeat' ((fail_if_success (with_reducible show wpAny _ _ (eval (.ListComp _ _ _ _) _) _ _ _)); walk_at "w")
  refine comp_Ja (cl := [("signs", L + 1)]) rfl rfl rfl (by decide) ?_
  repeat' ((fail_if_success (with_reducible show wpAny _ _ (pyIter _) _ _ _)); (fail_if_success (with_reducible show wpAny _ _ (call (.builtin "len") _) _ _ _)); walk_at "w")
  refine sv_len (hV.keeps kF) hl fun _ _ => ?_
  repeat' ((fail_if_success (with_reducible show wpAny _ _ (pyIter _) _ _ _)); walk_at "w")
  rename IsRange _ _ _ _ _ _ _ _ => R₁
  rename Fr s.heap L _ _ => F₂
  rename News s.heap L _ _ => N₂
  refine wpAny_pyIter_range R₁ (range_small l.length (by omega)) ?_
  dsimp only
  rw [range_size]
  refine comp_JR (J := fun X i h ys => IntsAre ys ((nz l i).map fun (k : Nat) => (k : Int))) (Bd := fun i h m => ∃ t, m "k" = some (.int (i : Int) t)) (Walks.range r'.2.2 _ 0 1 l.length).bound ?_ ?_ ?_ hl (by decide) rfl ?_ ?_ ?_ ?_ ?_ ?_ rfl
  · show IsRangeIter _ _ _ _ _
    simpa using Heap.get?_push_size _ rfl
  · intro b hb
    rw [List.mem_singleton.mp hb, Heap.size_push]
    exact Nat.lt_succ_self _
  · intro i h st b hb
    rw [List.mem_singleton.mp hb]
    exact ⟨_, st⟩
  · intro X h _
    exact .nil
  · intro X i h ys hi hj
    have := hj.length
    have := nz_len l i
    simp at *
    omega
  · intro X i h h' ys hk hj
    exact hj
  · rintro X i v h tk m C ys Q' E' hi hC ⟨_, u, rfl⟩ hj hk hn hq
    refine wpAny_assign_Name (wpAny_storeName_local rfl hn (fun h' hn' sb => ?_) rfl)
    exact hq h' _ _ hn' ⟨u, by simp⟩ sb.extBut
  · rintro X i h tk m C ys E' hi hC hj ⟨u, hm⟩ hn hal hk
    have kk : Keeps _ h := fun b o e => hk b o (fun hm => Nat.lt_irrefl _ (Nat.lt_of_lt_of_eq (Heap.lt_size e) (List.mem_singleton.mp hm).symm)) (Heap.get?_push_of_some _ e)
    have hVh := (hV.keeps F₂.keep).keeps kk
    have hcell : h.IsCell (L + 1) (some V) := ⟨oc, kk _ _ (N₂.get (.head _)), hod⟩
    simp only [List.forIn_cons, List.forIn_nil, if_true]
    refine wpAny_bind (wpAny_bind ?_)
    repeat' (first | ((with_reducible show wpAny _ _ (eval (.Name _ _) _) _ _ _); first | refine ldc rfl hcell ?_ | refine ldl hn hm ?_) | ((fail_if_success (with_reducible show wpAny _ _ (subscriptTail _ _ _ _) _ _ _)); walk_at "w"))
    refine sv_item hVh r'.2.2 hl i hi rfl fun _ _ => ?_
    repeat' (first | ((with_reducible show wpAny _ _ (eval (.Name _ _) _) _ _ _); first | refine ldc rfl hcell ?_ | refine ldl hn hm ?_) | walk_at "w")
    refine wpAny_pure (wpAny_pure ⟨h, _, rfl, fun _ _ e => e, ?_⟩)
    have e1 : (mkS [l[i]] != Str.ofString " ") = (l.getD i 0 != 32) := by
      rw [show Str.ofString " " = mkS [32] from mkS_lit (l := [' ']) rfl]
      show (!(mkS [l[i]] == mkS [32])) = _
      rw [mkS_beq]
      simp [List.getD_eq_getElem?_getD, hi, bne, Bool.beq_eq_decide_eq]
    rw [e1]
    cases hb2 : (l.getD i 0 != 32) with
    | false =>
      rw [if_neg Bool.false_ne_true, nz_succ, hb2]
      simpa using hj
    | true =>
      rw [if_pos rfl]
      refine ldl hn hm ⟨h, _, rfl, fun _ _ e => e, ?_⟩
      rw [nz_succ, hb2, if_pos rfl, List.map_append]
      exact hj.append (.cons _ _ .nil)
  · intro X D C m h tk ys cn hj hD hC hDC hn hl' hk hXD hXC hJ
    have kk : Keeps _ h := fun b o e => hk b o (fun hm => Nat.lt_irrefl _ (Nat.lt_of_lt_of_eq (Heap.lt_size e) (List.mem_singleton.mp hm).symm)) (Heap.get?_push_of_some _ e)
    have F₃ := F₂.keeps kk
    have N₃ := News.grown N₂ kk
    have hC0 : s.heap.get? C = none := by
      cases e : s.heap.get? C with
      | none => rfl
      | some o => rw [Heap.get?_push_of_some _ (F₂.keep _ _ e)] at hC; cases hC
    have hD0 : s.heap.get? D = none := by
      cases e : s.heap.get? D with
      | none => rfl
      | some o => rw [Heap.get?_push_of_some _ (F₂.keep _ _ e)] at hD; cases hD
    have hLC : L ≠ C := by
      rintro rfl
      obtain ⟨o, _, _, ho, _⟩ := F₂.ns
      rw [Heap.get?_push_of_some _ ho] at hC; cases hC
    have hLD : L ≠ D := by
      rintro rfl
      obtain ⟨o, _, _, ho, _⟩ := F₂.ns
      rw [Heap.get?_push_of_some _ ho] at hD; cases hD
    have hcC : L + 1 ≠ C := fun q => by
      have := N₂.get (.head _)
      rw [← q, Heap.get?_push_of_some _ this] at hC; cases hC
    refine comp_use (y := "full") (env := envOfC (nm 23) (dr 23).scope L (ad 23) cd) rfl F₃ hn hLC (fun h₄ tk₄ F₄ k₄ => ?_) hC0
    replace F₄ : Fr s.heap L h₄ _ := F₄
    have N₄ : News s.heap L h₄ [(D, _), (L + 1, oc)] := News.one (News.one .nil (k₄ _ _ (Nat.succ_ne_self _) hcC (N₃.get (.head _))) (Nat.succ_ne_self _) (hLn 1)) (k₄ _ _ hLD.symm hDC hl') hLD.symm hD0
    have hys := hj.length
    rw [List.length_map] at hys
    clear N₃ N₂ F₃ F₂ R₁
    repeat' ((fail_if_success (with_reducible show wpAny _ _ (compareOp _ _ _) _ _ _)); walk_at "w")
    rename Fr s.heap L _ _ => F₅
    rename News s.heap L _ _ => N₅
    refine eq_nil (News.isList N₅ (.tail _ (.head _))) (News.isList N₅ (.head _)) (by have := r'.cl; exact this) ?_
    repeat' ((fail_if_success (with_reducible show wpAny _ _ (call (.builtin "len") _) _ _ _)); (fail_if_success (with_reducible show wpAny _ _ (subscriptTail _ _ _ _) _ _ _)); walk_at "w")
    · rename List.isEmpty _ = true => he
      have hb0 : blanks l = l.length := nz_nil.mp (List.length_eq_zero_iff.mp (by rw [← hys, List.isEmpty_iff.mp he]; rfl))
      have hc : cutL l a = if a > l.length then none else some (l.drop a) := by unfold cutL; rw [if_pos hb0]
      rename Fr s.heap L _ _ => F₆
      refine sv_len (hV.keeps F₆.keep) hl fun _ _ => ?_
      repeat' ((fail_if_success (with_reducible show wpAny _ _ (subscriptTail _ _ _ _) _ _ _)); walk_at "w")
      · rename (l.length : Int) < _ => hlt
        exact hN (by rw [hc, if_pos (by omega)]) _ _ F₆.keep
      · rename ¬ (l.length : Int) < _ => hlt
        refine sv_from (hV.keeps F₆.keep) hl a (by omega) fun h' V' k kk' hV' hf => hS _ (by rw [hc, if_neg (by omega)]) _ _ _ (fun b o e => kk' _ _ (F₆.keep b o e)) hV' fun q => ?_
        obtain ⟨D', e1, e2⟩ := hf q
        refine ⟨D', e1, ?_⟩
        cases e : s.heap.get? D' with
        | none => rfl
        | some o => rw [F₆.keep _ _ e] at e2; cases e2
    · rename List.isEmpty _ = false => he
      have hb1 : blanks l < l.length := Nat.lt_of_le_of_ne (blanks_le l) fun e => by
        rw [nz_nil.mpr e] at hys
        rw [List.length_eq_zero_iff.mp hys] at he
        cases he
      have hb2 := blanks_rev_lt hb1
      obtain ⟨r1', e1⟩ := nz_head hb1
      obtain ⟨r2', e2⟩ := nz_last hb1
      have hnl : 0 < (nz l l.length).length := by rw [e1]; simp
      rename News s.heap L _ _ => N₆
      refine item_list_ints (News.isList N₆ (.tail _ (.head _))) hj (by decide) (by rw [List.length_map]; omega) (by decide) fun t₁ => ?_
      rw [show ((nz l l.length).map fun (k : Nat) => (k : Int)).getD (Int.toNat 0) 0 = (blanks l : Int) by rw [e1]; rfl]
      repeat' ((fail_if_success (with_reducible show wpAny _ _ (subscriptTail _ _ _ _) _ _ _)); (fail_if_success (with_reducible show wpAny _ _ (call (.builtin "len") _) _ _ _)); walk_at "w")
      rename Fr s.heap L _ _ => F₇
      refine sv_len (hV.keeps F₇.keep) hl fun _ _ => ?_
      repeat' ((fail_if_success (with_reducible show wpAny _ _ (subscriptTail _ _ _ _) _ _ _)); (fail_if_success (with_reducible show wpAny _ _ (call (.builtin "len") _) _ _ _)); walk_at "w")
      rename News s.heap L _ _ => N₇
      refine item_list_ints_neg (News.isList N₇ (.tail _ (.head _))) hj (by decide) (by rw [List.length_map]; omega) (by decide) fun t₂ => ?_
      rw [show ((nz l l.length).map fun (k : Nat) => (k : Int)).getD (-1 + (((nz l l.length).map fun (k : Nat) => (k : Int)).length : Int)).toNat 0 = ((l.length - 1 - blanks l.reverse : Nat) : Int) by
        have : (-1 + (((nz l l.length).map fun (k : Nat) => (k : Int)).length : Int)).toNat = r2'.length := by rw [e2]; simp; omega
        rw [this, e2]
        simp]
      repeat' ((fail_if_success (with_reducible show wpAny _ _ (subscriptTail _ _ _ _) _ _ _)); (fail_if_success (with_reducible show wpAny _ _ (call (.builtin "len") _) _ _ _)); walk_at "w")
      rename Fr s.heap L _ _ => F₈
      refine sv_len (hV.keeps F₈.keep) hl fun _ _ => ?_
      repeat' ((fail_if_success (with_reducible show wpAny _ _ (subscriptTail _ _ _ _) _ _ _)); (fail_if_success (with_reducible show wpAny _ _ (call (.builtin "len") _) _ _ _)); walk_at "w")
      have hc : cutL l a = some ((l.take (l.length - min (a - min a (blanks l)) (blanks l.reverse))).drop (min a (blanks l))) := by unfold cutL; rw [if_neg (by omega)]
      have hsum := blanks_sum hb1
      refine sv_run (hV.keeps F₈.keep) hl (min a (blanks l)) (l.length - min (a - min a (blanks l)) (blanks l.reverse)) (by first | exact min_cast (by omega) | exact le_cut hsum | omega) (by first | exact min_cast (by omega) | exact le_cut hsum | omega) (by first | exact min_cast (by omega) | exact le_cut hsum | omega) (by first | exact min_cast (by omega) | exact le_cut hsum | omega) fun h' V' k kk' hV' hf => hS _ hc _ _ _ (fun b o e => kk' _ _ (F₈.keep b o e)) hV' fun q => ?_
      obtain ⟨D', e1, e2⟩ := hf q
      refine ⟨D', e1, ?_⟩
      cases e : s.heap.get? D' with
      | none => rfl
      | some o => rw [F₈.keep _ _ e] at e2; cases e2
end
-- text M9
theorem fresh_M9 : True := by w_top off; trivial

/-- where the cut of the signs begins -/
noncomputable def firstOf (sg : List Nat) (e : Nat) : Nat := if blanks sg = sg.length then 0 else min e (blanks sg)
/-- what _law_due answers -/
noncomputable def dueP (ps : List (Nat × List Nat)) (e l : Nat) : Option (List Nat) :=
  (cutL (ps.map (·.1)) e).bind fun left => cutL (((ps.drop (firstOf (ps.map (·.1)) e)).take left.length).flatMap (·.2)) l
theorem cutL_len {l y : List Nat} {a : Nat} (h : cutL l a = some y) : firstOf l a + y.length ≤ l.length := by
  unfold cutL at h
  unfold firstOf
  split at h
  · rename_i hb
    rw [if_pos hb]
    split at h
    · cases h
    · injection h with h; rw [← h, List.length_drop]; omega
  · rename_i hb
    rw [if_neg hb]
    injection h with h
    have := blanks_le l
    rw [← h, List.length_drop, List.length_take]; omega
theorem News.use {h₀ h h' : Heap} {L C : Addr} {news : List (Addr × Obj)} (N : News h₀ L h news) (k : ∀ b o, b ≠ L → b ≠ C → h.get? b = some o → h'.get? b = some o) (hC : ∀ p ∈ news, p.1 ≠ C) : News h₀ L h' news :=
  fun p hp => ⟨k _ _ (N p hp).2.1 (hC p hp) (N p hp).1, (N p hp).2⟩
theorem flat_le : ∀ (ps : List (Nat × List Nat)), (∀ p ∈ ps, p.2.length ≤ 9) → (ps.map (·.2)).flatten.length ≤ 9 * ps.length
  | [], _ => by simp
  | p :: ps, h => by
    have h1 := h p (.head _)
    have h2 := flat_le ps fun q hq => h q (.tail _ hq)
    simp only [List.map_cons, List.flatten_cons, List.length_append, List.length_cons]
    omega
theorem ne_of_none {h : Heap} {a b : Addr} {o : Obj} (ha : h.get? a = some o) (hb : h.get? b = none) : a ≠ b := fun e => by rw [e, hb] at ha; cases ha
section
variable {prog : Program} {w : World} {mean : ExcName → Option Value} {mg mb : Str → Option Value} {ad : Nat → Addr} {A : Around} {s : Shared} {Q E : Value → Shared → Prop}
theorem c_due {ps : List (Nat × List Nat)} {a : Addr} {vs : List Value} {e l : Nat} {t u : Tok} (G : GG w mean mg mb ad s.heap) (r : Rm 2 A) (hL : s.heap.IsList a vs.toArray) (hP : PairsH s.heap ps vs) (hn : ps.length ≤ 100) (hw : ∀ p ∈ ps, p.2.length ≤ 9)
    (hN : dueP ps e l = none → ∀ h' t', Keeps s.heap h' → Q .none { s with heap := h', toks := t' })
    (hS : ∀ y, dueP ps e l = some y → ∀ h' t' k, Keeps s.heap h' → Q (.str (mkS y) k) { s with heap := h', toks := t' }) :
    wpAny (model prog w) A (call (.ref (ad 24)) [.ref a, .int (e : Int) t, .int (l : Int) u]) Q E s := by
  refine enterC (i := 24) (binds := [("pairs", .ref a), ("early", .int (e : Int) t), ("late", .int (l : Int) u)]) dr24 G (by decide) rfl r (fun _ _ _ => by kernel_rfl!) ?_ (by kernel_rfl!) fun L cd h₁ tk F X₀ r' => ?_
  · intro L x hx
    simp only [List.mem_cons, List.not_mem_nil, or_false] at hx
    rcases hx with rfl | rfl | rfl
    · exact .inl rfl
    · exact .inl rfl
    · exact .inl rfl
  have kF : Keeps s.heap h₁ := F.keep
  obtain ⟨oL, hoL, hcL, cnL, hdL⟩ := hL
  have hg := G.T.g
  have hb := G.T.b
  obtain ⟨r1, r2⟩ := G.range
  obtain ⟨l1, l2⟩ := G.len
  obtain ⟨m1, m2⟩ := G.min
  have h23 : mg "_law_cut" = some (.ref (ad 23)) := G.fn 23 (by decide)
  obtain ⟨oc, hoc, hod⟩ := X₀.cell "signs" (L + 1) rfl
  have hLn : ∀ k, s.heap.get? (L + k) = none := fun k => by
    cases e : s.heap.get? (L + k) with
    | none => rfl
    | some o => exact absurd (Nat.lt_of_lt_of_le (Heap.lt_size e) F.above) (Nat.not_lt.mpr (Nat.le_add_right _ _))
  have N : News s.heap L h₁ [(L + 1, oc)] := News.one .nil hoc (Nat.succ_ne_self _) (hLn 1)
  have z1 : (bindL (envOfC (nm 24) (dr 24).scope L (ad 24) cd).kindOf [("pairs", .ref a), ("early", .int (e : Int) t), ("late", .int (l : Int) u)] fun _ => none) "pairs" = some (.ref a) := rfl
  have z2 : (bindL (envOfC (nm 24) (dr 24).scope L (ad 24) cd).kindOf [("pairs", .ref a), ("early", .int (e : Int) t), ("late", .int (l : Int) u)] fun _ => none) "early" = some (.int (e : Int) t) := rfl
  have z3 : (bindL (envOfC (nm 24) (dr 24).scope L (ad 24) cd).kindOf [("pairs", .ref a), ("early", .int (e : Int) t), ("late", .int (l : Int) u)] fun _ => none) "late" = some (.int (l : Int) u) := rfl
  generalize (bindL (envOfC (nm 24) (dr 24).scope L (ad 24) cd).kindOf [("pairs", .ref a), ("early", .int (e : Int) t), ("late", .int (l : Int) u)] fun _ => none) = m₀ at F z1 z2 z3
  repeat' ((fail_if_success (with_reducible show wpAny _ _ (eval (.ListComp _ _ _ _) _) _ _ _)); walk_at "w")
  rw [eval_ListComp]
  refine wpAny_comprehension_free (use := none) (cl := []) rfl (fun _ => rfl) rfl rfl (by decide) ?_
  dsimp only [firstIter, firstAsync]
  repeat' ((fail_if_success (with_reducible show wpAny _ _ (pyIter _) _ _ _)); walk_at "w")
  have hvl : vs.length = ps.length := (Paired.length hP).symm
  refine comp_pairs (fun p => [p.1]) r'.2.2 ⟨oL, kF _ _ hoL, hcL, cnL, hdL⟩ (hP.keeps kF) (by omega) (by decide) rfl (fun _ => rfl) (fun _ => rfl) (.inl ⟨rfl, rfl⟩) (by decide) (by decide) ?_
  intro D C mC h tk ys cn hys hD hC hDC hnC hlD kk
  have hLC : L ≠ C := by
    rintro rfl
    obtain ⟨o, _, _, ho, _⟩ := F.ns
    rw [ho] at hC; cases hC
  have hLD : L ≠ D := by
    rintro rfl
    obtain ⟨o, _, _, ho, _⟩ := F.ns
    rw [ho] at hD; cases hD
  have hcC : L + 1 ≠ C := fun q => by rw [← q, hoc] at hC; cases hC
  have hcD : L + 1 ≠ D := fun q => by rw [← q, hoc] at hD; cases hD
  have old : ∀ b, h₁.get? b = none → s.heap.get? b = none := fun b hb => by
    cases q : s.heap.get? b with
    | none => rfl
    | some o => rw [kF _ _ q] at hb; cases hb
  refine ⟨mC, hnC, fun h₃ hs₃ => ?_⟩
  have F₃ : Fr s.heap L h₃ _ := ⟨((F.keeps kk).ns).sameBut hs₃ hLC, fun b o e => hs₃.extBut b o (by rintro rfl; rw [old _ hC] at e; cases e) ((F.keeps kk).keep b o e), F.above⟩
  have hoc₃ : h₃.IsCell (L + 1) none := ⟨oc, hs₃.extBut _ _ hcC (kk _ _ hoc), hod⟩
  have hlD₃ := hs₃.extBut _ _ hDC hlD
  repeat' ((fail_if_success (with_reducible show wpAny _ _ (storeName _ _ _) _ _ _)); walk_at "w")
  refine wpAny_storeName_cell rfl rfl rfl hoc₃ fun h₄ hv₄ hs₄ => ?_
  have F₄ : Fr s.heap L h₄ _ := ⟨F₃.ns.sameBut hs₄ (Nat.ne_of_lt (Nat.lt_succ_self _)), fun b o e => hs₄.extBut b o (by rintro rfl; rw [hLn 1] at e; cases e) (F₃.keep b o e), F.above⟩
  obtain ⟨oc', hoc', hod'⟩ := hv₄
  have N₄ : News s.heap L h₄ [(D, _), (L + 1, oc')] := News.one (News.one .nil hoc' (Nat.succ_ne_self _) (hLn 1)) (hs₄.extBut _ _ hcD.symm hlD₃) hLD.symm (old _ hD)
  have hsg : SignsAre ys (ps.map (·.1)) := signs_of hys
  have hsl : (ps.map (·.1)).length ≤ 1000 := by rw [List.length_map]; omega
  clear N F hoc hod hys F₃ hoc₃ hlD₃ hlD
  have G₄ := G.keeps F₄.keep
  obtain ⟨o23, f23, q23, e23⟩ := G.obj dr23 (by decide)
  repeat' ((fail_if_success (with_reducible show wpAny _ _ (call (.ref _) _) _ _ _)); walk_at "w")
  rename Fr s.heap L _ _ => F₄
  rename News s.heap L _ _ => N₄
  refine c_cut G₄ r' (.lst (News.isList N₄ (.head _)) hsg) hsl (fun hc h' t' k => ?_) (fun y hc h' V' t' k hV' hf => ?_)
  · have F₅ := F₄.keeps k
    have N₅ := News.grown N₄ k
    repeat' (walk_at "w")
    rename Fr s.heap L _ _ => F₆
    exact hN (by unfold dueP; rw [hc]; rfl) _ _ F₆.keep
  · have hyl := cutL_len hc
    obtain ⟨Y, eY, hY⟩ := hf rfl
    cases hV' with
    | lst hl' sg' =>
    rename_i aY vY
    injection eY with eY
    subst eY
    obtain ⟨oY, hoY, hcY, cnY, hdY⟩ := hl'
    have hLY : L ≠ aY := by
      rintro rfl
      obtain ⟨o, _, _, ho, _⟩ := F₄.ns
      rw [ho] at hY; cases hY
    have hY0 : s.heap.get? aY = none := by
      cases q : s.heap.get? aY with
      | none => rfl
      | some o => rw [F₄.keep _ _ q] at hY; cases hY
    have F₅ := F₄.keeps k
    have N₅ := News.one (News.grown N₄ k) hoY hLY.symm hY0
    clear F₄ N₄
    repeat' ((fail_if_success (with_reducible show wpAny _ _ (exec (.Assign [_] (.ListComp _ _ _ _) _) _) _ _ _)); walk_at "w")
    refine comp_Ja (cl := [("signs", L + 1)]) rfl rfl rfl (by decide) ?_
    repeat' ((fail_if_success (with_reducible show wpAny _ _ (pyIter _) _ _ _)); (fail_if_success (with_reducible show wpAny _ _ (call (.builtin "len") _) _ _ _)); walk_at "w")
    rename News s.heap L _ _ => N₆
    refine sv_len (b := false) (l := ps.map (·.1)) (.lst (News.isList N₆ (.tail _ (.head _))) hsg) hsl fun _ _ => ?_
    repeat' ((fail_if_success (with_reducible show wpAny _ _ (pyIter _) _ _ _)); walk_at "w")
    rename IsRange _ _ _ _ _ _ _ _ => R₁
    rename Fr s.heap L _ _ => F₇
    rename News s.heap L _ _ => N₇
    refine comp_nz (b := false) r'.2.2 R₁ hsl (.lst (News.isList N₇ (.tail _ (.head _))) hsg) (cell := L + 1) rfl ⟨oc', N₇.get (.tail _ (.tail _ (.head _))), hod'⟩ (by decide) rfl (fun _ => rfl) (fun _ => rfl) (fun _ => rfl) (fun _ => rfl) ?_
    intro D2 C2 mC2 h tk ys2 cn2 hi2 hD2 hC2 hDC2 hnC2 hlD2 kk2
    have down : ∀ b, Heap.get? _ b = none → s.heap.get? b = none := fun b hb => by
      cases q : s.heap.get? b with
      | none => rfl
      | some o => exact absurd rfl (ne_of_none (F₇.keep _ _ q) hb)
    have hLC2 : L ≠ C2 := by obtain ⟨o, _, _, ho, _⟩ := F₇.ns; exact ne_of_none ho hC2
    have hLD2 : L ≠ D2 := by obtain ⟨o, _, _, ho, _⟩ := F₇.ns; exact ne_of_none ho hD2
    refine comp_use (y := "full") (env := envOfC (nm 24) (dr 24).scope L (ad 24) cd) rfl (F₇.keeps kk2) hnC2 hLC2 (fun h₉ tk₉ F₉ k₉ => ?_) (down _ hC2)
    replace F₉ : Fr s.heap L h₉ _ := F₉
    have N₉ := News.one (News.use (News.grown N₇ kk2) k₉ fun p hp => ne_of_none (N₇ p hp).1 hC2) (k₉ _ _ hLD2.symm hDC2 hlD2) hLD2.symm (down _ hD2)
    have hys2 := hi2.length
    rw [List.length_map] at hys2
    clear F₇ N₇ R₁
    repeat' ((fail_if_success (with_reducible show wpAny _ _ (compareOp _ _ _) _ _ _)); walk_at "w")
    rename News s.heap L _ _ => N₅
    refine eq_nil (News.isList N₅ (.tail _ (.head _))) (News.isList N₅ (.head _)) (by have := r'.cl; exact this) ?_
    repeat' ((fail_if_success (with_reducible show wpAny _ _ (eval (.ListComp _ _ _ _) _) _ _ _)); (fail_if_success (with_reducible show wpAny _ _ (subscriptTail _ _ _ _) _ _ _)); walk_at "w")
    · rename List.isEmpty _ = true => he
      have hfirst : firstOf (ps.map (·.1)) e = 0 := if_pos (nz_nil.mp (List.length_eq_zero_iff.mp (by rw [← hys2, List.isEmpty_iff.mp he]; rfl)))
      rw [eval_ListComp]
      refine wpAny_comprehension_free (use := none) (cl := []) rfl (fun _ => rfl) rfl rfl (by decide) ?_
      dsimp only [firstIter, firstAsync]
      repeat' ((fail_if_success (with_reducible show wpAny _ _ (subscriptTail _ _ _ _) _ _ _)); (fail_if_success (with_reducible show wpAny _ _ (call (.builtin "len") _) _ _ _)); walk_at "w")
      rename News s.heap L _ _ => Na
      refine sv_len (b := false) (l := y) (.lst ⟨oY, Na.get (.tail _ (.tail _ (.head _))), hcY, cnY, hdY⟩ sg') (by omega) fun _ _ => ?_
      repeat' ((fail_if_success (with_reducible show wpAny _ _ (subscriptTail _ _ _ _) _ _ _)); walk_at "w")
      rename Fr s.heap L _ _ => Fb
      rename News s.heap L _ _ => Nb
      refine ls_run ⟨oL, Fb.keep _ _ hoL, hcL, cnL, hdL⟩ (by omega) (firstOf (ps.map (·.1)) e) (firstOf (ps.map (·.1)) e + y.length) (by rw [hfirst]; omega) (by rw [hfirst]; omega) (by omega) (by rw [hvl, ← List.length_map (f := (·.1)) (as := ps)]; exact hyl) fun h3 D3 k3 kk3 hl3 hD3 => ?_
      have hP3 : PairsH h3 ((ps.drop (firstOf (ps.map (·.1)) e)).take (firstOf (ps.map (·.1)) e + y.length - firstOf (ps.map (·.1)) e)) ((vs.drop (firstOf (ps.map (·.1)) e)).take (firstOf (ps.map (·.1)) e + y.length - firstOf (ps.map (·.1)) e)) := Paired.take (Paired.drop (hP.keeps fun b o q => kk3 _ _ (Fb.keep b o q)) _) _
      refine comp_pairs (fun p => p.2) r'.2.2 hl3 hP3 (by rw [List.length_take, List.length_drop]; omega) (by decide) rfl (fun _ => rfl) (fun _ => rfl) (.inr ⟨rfl, rfl⟩) (by decide) (by decide) ?_
      intro D4 C4 mC4 h4 tk4 ys4 cn4 hy4 hD4 hC4 hDC4 hnC4 hlD4 kk4
      have F4 := (Fb.keeps kk3).keeps kk4
      have N4 := News.grown (News.grown Nb kk3) kk4
      have hLC4 : L ≠ C4 := by obtain ⟨o, _, _, ho, _⟩ := (Fb.keeps kk3).ns; exact ne_of_none ho hC4
      refine ⟨mC4, hnC4, fun h5 hs5 => ?_⟩
      have F5 : Fr s.heap L h5 _ := ⟨F4.ns.sameBut hs5 hLC4, fun b o q => hs5.extBut b o (ne_of_none ((Fb.keeps kk3).keep _ _ q) hC4) (F4.keep b o q), F4.above⟩
      have N5 : News s.heap L h5 _ := fun p hp => ⟨hs5.extBut _ _ (ne_of_none (News.grown Nb kk3 p hp).1 hC4) (N4 p hp).1, (N4 p hp).2⟩
      have hl5 := hs5.extBut _ _ hDC4 hlD4
      clear Fb Nb F4 N4
      repeat' ((fail_if_success (with_reducible show wpAny _ _ (call (.builtin "str.join") _) _ _ _)); walk_at "w")
      have hflat : ((((ps.drop (firstOf (ps.map (·.1)) e)).take (firstOf (ps.map (·.1)) e + y.length - firstOf (ps.map (·.1)) e)).map (·.2)).flatten).length ≤ 9 * ps.length := by
        refine Nat.le_trans (flat_le _ fun p hp => hw p (List.mem_of_mem_drop (List.mem_of_mem_take hp))) ?_
        rw [List.length_take, List.length_drop]
        omega
      have hT : TextsAre ys4 (((ps.drop (firstOf (ps.map (·.1)) e)).take (firstOf (ps.map (·.1)) e + y.length - firstOf (ps.map (·.1)) e)).map (·.2)) := texts_of (ps := ps) hy4
      refine join_T (vs := ys4) ⟨_, hl5, rfl, cn4, rfl⟩ hT (by rw [List.length_map, List.length_take, List.length_drop]; omega) fun t5 k5 => ?_
      have G5 := G.keeps F5.keep
      repeat' ((fail_if_success (with_reducible show wpAny _ _ (call (.ref _) _) _ _ _)); walk_at "w")
      rename Fr s.heap L _ _ => F6
      have hd : dueP ps e l = cutL ((((ps.drop (firstOf (ps.map (·.1)) e)).take (firstOf (ps.map (·.1)) e + y.length - firstOf (ps.map (·.1)) e)).map (·.2)).flatten) l := by
        unfold dueP
        rw [hc, Nat.add_sub_cancel_left, ← List.flatMap_def]
        rfl
      refine c_cut (b := true) G5 r' .str (by omega) (fun hc2 h' t' k => ?_) (fun y2 hc2 h' V' t' k hV' hf => ?_)
      · have F7 := F6.keeps k
        repeat' (walk_at "w")
        rename Fr s.heap L _ _ => F8
        exact hN (hd.trans hc2) _ _ F8.keep
      · have F7 := F6.keeps k
        cases hV'
        repeat' (walk_at "w")
        rename Fr s.heap L _ _ => F8
        exact hS _ (hd.trans hc2) _ _ _ F8.keep
    · rename List.isEmpty _ = false => he
      have hb1 : blanks (ps.map (·.1)) < (ps.map (·.1)).length := Nat.lt_of_le_of_ne (blanks_le _) fun e => by
        rw [nz_nil.mpr e] at hys2
        rw [List.length_eq_zero_iff.mp hys2] at he
        cases he
      have hfirst : firstOf (ps.map (·.1)) e = min e (blanks (ps.map (·.1))) := if_neg (by omega)
      obtain ⟨r1', e1⟩ := nz_head hb1
      have hnl : 0 < (nz (ps.map (·.1)) (ps.map (·.1)).length).length := by rw [e1]; simp
      rename News s.heap L _ _ => N₆
      refine item_list_ints (News.isList N₆ (.tail _ (.head _))) hi2 (by decide) (by rw [List.length_map]; omega) (by decide) fun t₁ => ?_
      rw [show ((nz (ps.map (·.1)) (ps.map (·.1)).length).map fun (k : Nat) => (k : Int)).getD (Int.toNat 0) 0 = (blanks (ps.map (·.1)) : Int) by rw [e1]; rfl]
      repeat' ((fail_if_success (with_reducible show wpAny _ _ (eval (.ListComp _ _ _ _) _) _ _ _)); (fail_if_success (with_reducible show wpAny _ _ (subscriptTail _ _ _ _) _ _ _)); walk_at "w")
      rw [eval_ListComp]
      refine wpAny_comprehension_free (use := none) (cl := []) rfl (fun _ => rfl) rfl rfl (by decide) ?_
      dsimp only [firstIter, firstAsync]
      repeat' ((fail_if_success (with_reducible show wpAny _ _ (subscriptTail _ _ _ _) _ _ _)); (fail_if_success (with_reducible show wpAny _ _ (call (.builtin "len") _) _ _ _)); walk_at "w")
      rename News s.heap L _ _ => Na
      refine sv_len (b := false) (l := y) (.lst ⟨oY, Na.get (.tail _ (.tail _ (.head _))), hcY, cnY, hdY⟩ sg') (by omega) fun _ _ => ?_
      repeat' ((fail_if_success (with_reducible show wpAny _ _ (subscriptTail _ _ _ _) _ _ _)); walk_at "w")
      rename Fr s.heap L _ _ => Fb
      rename News s.heap L _ _ => Nb
      refine ls_run ⟨oL, Fb.keep _ _ hoL, hcL, cnL, hdL⟩ (by omega) (firstOf (ps.map (·.1)) e) (firstOf (ps.map (·.1)) e + y.length) (by rw [hfirst]; omega) (by rw [hfirst]; omega) (by omega) (by rw [hvl, ← List.length_map (f := (·.1)) (as := ps)]; exact hyl) fun h3 D3 k3 kk3 hl3 hD3 => ?_
      have hP3 : PairsH h3 ((ps.drop (firstOf (ps.map (·.1)) e)).take (firstOf (ps.map (·.1)) e + y.length - firstOf (ps.map (·.1)) e)) ((vs.drop (firstOf (ps.map (·.1)) e)).take (firstOf (ps.map (·.1)) e + y.length - firstOf (ps.map (·.1)) e)) := Paired.take (Paired.drop (hP.keeps fun b o q => kk3 _ _ (Fb.keep b o q)) _) _
      refine comp_pairs (fun p => p.2) r'.2.2 hl3 hP3 (by rw [List.length_take, List.length_drop]; omega) (by decide) rfl (fun _ => rfl) (fun _ => rfl) (.inr ⟨rfl, rfl⟩) (by decide) (by decide) ?_
      intro D4 C4 mC4 h4 tk4 ys4 cn4 hy4 hD4 hC4 hDC4 hnC4 hlD4 kk4
      have F4 := (Fb.keeps kk3).keeps kk4
      have N4 := News.grown (News.grown Nb kk3) kk4
      have hLC4 : L ≠ C4 := by obtain ⟨o, _, _, ho, _⟩ := (Fb.keeps kk3).ns; exact ne_of_none ho hC4
      refine ⟨mC4, hnC4, fun h5 hs5 => ?_⟩
      have F5 : Fr s.heap L h5 _ := ⟨F4.ns.sameBut hs5 hLC4, fun b o q => hs5.extBut b o (ne_of_none ((Fb.keeps kk3).keep _ _ q) hC4) (F4.keep b o q), F4.above⟩
      have N5 : News s.heap L h5 _ := fun p hp => ⟨hs5.extBut _ _ (ne_of_none (News.grown Nb kk3 p hp).1 hC4) (N4 p hp).1, (N4 p hp).2⟩
      have hl5 := hs5.extBut _ _ hDC4 hlD4
      clear Fb Nb F4 N4
      repeat' ((fail_if_success (with_reducible show wpAny _ _ (call (.builtin "str.join") _) _ _ _)); walk_at "w")
      have hflat : ((((ps.drop (firstOf (ps.map (·.1)) e)).take (firstOf (ps.map (·.1)) e + y.length - firstOf (ps.map (·.1)) e)).map (·.2)).flatten).length ≤ 9 * ps.length := by
        refine Nat.le_trans (flat_le _ fun p hp => hw p (List.mem_of_mem_drop (List.mem_of_mem_take hp))) ?_
        rw [List.length_take, List.length_drop]
        omega
      have hT : TextsAre ys4 (((ps.drop (firstOf (ps.map (·.1)) e)).take (firstOf (ps.map (·.1)) e + y.length - firstOf (ps.map (·.1)) e)).map (·.2)) := texts_of (ps := ps) hy4
      refine join_T (vs := ys4) ⟨_, hl5, rfl, cn4, rfl⟩ hT (by rw [List.length_map, List.length_take, List.length_drop]; omega) fun t5 k5 => ?_
      have G5 := G.keeps F5.keep
      repeat' ((fail_if_success (with_reducible show wpAny _ _ (call (.ref _) _) _ _ _)); walk_at "w")
      rename Fr s.heap L _ _ => F6
      have hd : dueP ps e l = cutL ((((ps.drop (firstOf (ps.map (·.1)) e)).take (firstOf (ps.map (·.1)) e + y.length - firstOf (ps.map (·.1)) e)).map (·.2)).flatten) l := by
        unfold dueP
        rw [hc, Nat.add_sub_cancel_left, ← List.flatMap_def]
        rfl
      refine c_cut (b := true) G5 r' .str (by omega) (fun hc2 h' t' k => ?_) (fun y2 hc2 h' V' t' k hV' hf => ?_)
      · have F7 := F6.keeps k
        repeat' (walk_at "w")
        rename Fr s.heap L _ _ => F8
        exact hN (hd.trans hc2) _ _ F8.keep
      · have F7 := F6.keeps k
        cases hV'
        repeat' (walk_at "w")
        rename Fr s.heap L _ _ => F8
        exact hS _ (hd.trans hc2) _ _ _ F8.keep
end
end Mine
-- text P4
namespace Mine
theorem fresh_P4 : True := by w_top off; trivial
theorem blanks_bl (p : Nat) (s : List Nat) : blanks (bl p ++ s) = p + blanks s := by
  induction p with
  | zero => simp [bl]
  | succ p ih =>
    have : bl (p + 1) ++ s = 32 :: (bl p ++ s) := rfl
    rw [this]
    unfold blanks at ih ⊢
    rw [List.takeWhile_cons, if_pos (by simp), List.length_cons, ih]
    omega
theorem blanks_other {k : Nat} {s : List Nat} (h : k ≠ 32) : blanks (k :: s) = 0 := by
  unfold blanks
  rw [List.takeWhile_cons, if_neg (by simpa using h)]
  rfl
theorem blanks_nil : blanks [] = 0 := rfl
theorem blanks_all (n : Nat) : blanks (bl n) = n := by
  have := blanks_bl n []
  rw [List.append_nil, blanks_nil] at this
  exact this
theorem core_blanks {K : List Nat} (c : Core K) (p : Nat) (s : List Nat) : blanks (bl p ++ (K ++ s)) = p := by
  obtain ⟨k, ks, rfl, h⟩ := c.hd
  rw [blanks_bl]
  have := blanks_other (s := ks ++ s) h
  rw [List.cons_append, this]
  rfl
theorem core_rev {K : List Nat} (c : Core K) : Core K.reverse := ⟨c.tl, by rw [List.reverse_reverse]; exact c.hd⟩
theorem core_pos {K : List Nat} (c : Core K) : 0 < K.length := by obtain ⟨k, ks, rfl, _⟩ := c.hd; simp
theorem rev3 (p q : Nat) (K : List Nat) : (bl p ++ (K ++ bl q)).reverse = bl q ++ (K.reverse ++ bl p) := by simp [bl]
theorem core_blanks_rev {K : List Nat} (c : Core K) (p q : Nat) : blanks (bl p ++ (K ++ bl q)).reverse = q := by
  rw [rev3]; exact core_blanks (core_rev c) q _
/-- a text is blank, or has a core -/
theorem bl_or_core (l : List Nat) : (∃ n, l = bl n) ∨ ∃ p K q, Core K ∧ l = bl p ++ (K ++ bl q) := by
  have ahead : ∀ l : List Nat, (∃ n, l = bl n) ∨ ∃ p k ks, k ≠ 32 ∧ l = bl p ++ k :: ks := by
    intro l
    induction l with
    | nil => exact .inl ⟨0, rfl⟩
    | cons x l ih =>
      by_cases e : x = 32
      · subst e
        rcases ih with ⟨n, rfl⟩ | ⟨p, k, ks, h, rfl⟩
        · exact .inl ⟨n + 1, rfl⟩
        · exact .inr ⟨p + 1, k, ks, h, rfl⟩
      · exact .inr ⟨0, x, l, e, rfl⟩
  rcases ahead l with h | ⟨p, k, ks, h, rfl⟩
  · exact .inl h
  · rcases ahead (k :: ks).reverse with ⟨n, e⟩ | ⟨q, k', ks', h', e⟩
    · exfalso
      have : k ∈ (k :: ks).reverse := by simp
      rw [e] at this
      exact h (List.eq_of_mem_replicate this)
    · have e2 : k :: ks = (k' :: ks').reverse ++ bl q := by
        have := congrArg List.reverse e
        rw [List.reverse_reverse, List.reverse_append] at this
        rw [this]; simp [bl]
      refine .inr ⟨p, (k' :: ks').reverse, q, ⟨?_, k', ks', List.reverse_reverse _, h'⟩, by rw [e2]⟩
      cases e3 : (k' :: ks').reverse with
      | nil => simp at e3
      | cons a r =>
        rw [e3] at e2
        simp only [List.cons_append, List.cons.injEq] at e2
        exact ⟨a, r, rfl, by rw [← e2.1]; exact h⟩
theorem sub32 (c : Nat) : (mkS [32]).cps.contains c = (c == 32) := by
  show (#[32] : Array Nat).contains c = _
  simp [Bool.beq_eq_decide_eq]
theorem goes32 : (fun c => (mkS [32]).cps.contains c) = (· == 32) := funext sub32
theorem strip_core {K : List Nat} (c : Core K) (p q : Nat) : Txt.stripChars (mkS (bl p ++ (K ++ bl q))) (mkS [32]) = mkS K := by
  unfold Txt.stripChars
  rw [PyProof.Rows.stripBy_eq]
  have g : (mkS [32]).cps.contains = (fun c : Nat => c == 32) := goes32
  have lo : stripLo (mkS [32]).cps.contains true (mkS (bl p ++ (K ++ bl q))) = p := by
    rw [g]
    exact core_blanks c p _
  rw [lo]
  have hi : stripHi (mkS [32]).cps.contains true (mkS (bl p ++ (K ++ bl q))) p = p + K.length := by
    rw [g]
    show (mkS (bl p ++ (K ++ bl q))).length - (((bl p ++ (K ++ bl q)).drop p).reverse.takeWhile fun c : Nat => c == 32).length = _
    have e : (bl p ++ (K ++ bl q)).drop p = bl 0 ++ (K ++ bl q) := by
      rw [List.drop_append_of_le_length (by simp [bl])]
      simp [bl]
    rw [e]
    have := core_blanks_rev c 0 q
    unfold blanks at this
    rw [this, mkS_len]
    simp [bl]
    omega
  rw [hi]
  unfold Builtin.Str.strSub
  apply congrArg Str.mk
  apply Array.toList_inj.mp
  rw [Array.toList_extract]
  show ((bl p ++ (K ++ bl q)).extract p (p + K.length)) = K
  rw [List.extract_eq_take_drop]
  simp [bl]
theorem strip_bl (n : Nat) : Txt.stripChars (mkS (bl n)) (mkS [32]) = mkS [] := by
  unfold Txt.stripChars
  rw [PyProof.Rows.stripBy_eq]
  have g : (mkS [32]).cps.contains = (fun c : Nat => c == 32) := goes32
  have lo : stripLo (mkS [32]).cps.contains true (mkS (bl n)) = n := by
    rw [g]
    exact blanks_all n
  rw [lo]
  unfold Builtin.Str.strSub
  apply congrArg Str.mk
  apply Array.toList_inj.mp
  rw [Array.toList_extract, List.extract_eq_take_drop]
  show List.take _ (List.drop n (bl n)) = []
  rw [List.drop_of_length_le (by simp [bl])]
  simp
theorem at_iff {x y : List Nat} {hi i : Nat} : StrLaws.At (mkS x) (mkS y) hi i ↔ i + y.length ≤ hi ∧ (x.drop i).take y.length = y := by
  unfold StrLaws.At
  rw [StrLaws.subAt_eq, mkS_len]
  show _ ∧ ((x.drop i).take y.length == y) = true ↔ _
  rw [beq_iff_eq]
theorem find_core {K : List Nat} (c : Core K) (p q : Nat) : Txt.find (mkS (bl p ++ (K ++ bl q))) (mkS K) = (p : Int) := by
  have at_p : StrLaws.At (mkS (bl p ++ (K ++ bl q))) (mkS K) (mkS (bl p ++ (K ++ bl q))).length p := by
    rw [at_iff, mkS_len]
    refine ⟨by simp [bl], ?_⟩
    simp [bl]
  rcases find_whole (mkS (bl p ++ (K ++ bl q))) (mkS K) with ⟨_, h⟩ | ⟨i, h1, h2, h3⟩
  · exact absurd at_p (h p)
  · rw [h1]
    rcases Nat.lt_trichotomy i p with h | h | h
    · exfalso
      have := (at_iff.mp h2).2
      obtain ⟨k, ks, rfl, hk⟩ := c.hd
      have e := congrArg (fun l : List Nat => l[0]?) this
      simp only [List.length_cons, List.getElem?_cons_zero] at e
      rw [List.getElem?_take_of_lt (by omega), List.getElem?_drop, List.getElem?_append_left (by simp [bl]; omega)] at e
      rw [List.getElem?_replicate, if_pos (by omega)] at e
      injection e with e
      exact hk e.symm
    · rw [h]
    · exact absurd at_p (h3 p h)
theorem same_sign {p q p' q' : Nat} (hs : 0 ≤ ((p : Int) - p') * ((q : Int) - q')) : (p ≤ p' ∧ q ≤ q') ∨ (p' ≤ p ∧ q' ≤ q) := by
  rcases Nat.lt_trichotomy p p' with h | h | h
  · rcases Nat.lt_or_ge q' q with h2 | h2
    · exfalso
      have : ((p : Int) - p') * ((q : Int) - q') < 0 := Int.mul_neg_of_neg_of_pos (by omega) (by omega)
      omega
    · exact .inl ⟨by omega, h2⟩
  · rcases Nat.lt_or_ge q' q with h2 | h2
    · exact .inr ⟨by omega, by omega⟩
    · exact .inl ⟨by omega, h2⟩
  · rcases Nat.lt_or_ge q q' with h2 | h2
    · exfalso
      have : ((p : Int) - p') * ((q : Int) - q') < 0 := Int.mul_neg_of_pos_of_neg (by omega) (by omega)
      omega
    · exact .inr ⟨by omega, h2⟩
theorem lev_near {K : List Nat} (c : Core K) {p q p' q' : Nat} (b1 : p + K.length + q ≤ 40) (b2 : p' + K.length + q' ≤ 40) (hs : 0 ≤ ((p : Int) - p') * ((q : Int) - q')) {mx : Int}
    (hmx : mx = 2 * ((((p : Int) + q) - (p' + q')).natAbs : Int) ∨ mx = 2 * ((((p : Int) + q) - (p' + q')).natAbs : Int) - 1) :
    lev (bl p ++ (K ++ bl q)) (bl p' ++ (K ++ bl q')) mx = 2 * ((((p : Int) + q) - (p' + q')).natAbs : Int) := by
  have sgn := same_sign hs
  rcases sgn with ⟨h1, h2⟩ | ⟨h1, h2⟩
  · have e : (((p : Int) + q) - (p' + q')).natAbs = (p' - p) + (q' - q) := by omega
    rw [e] at hmx ⊢
    have := lev_out c p q (p' - p) (q' - q) mx (by omega) hmx
    rw [show p + (p' - p) = p' by omega, show q + (q' - q) = q' by omega, List.append_assoc, List.append_assoc] at this
    exact this
  · have e : (((p : Int) + q) - (p' + q')).natAbs = (p - p') + (q - q') := by omega
    rw [e] at hmx ⊢
    by_cases h0 : p = p' ∧ q = q'
    · obtain ⟨rfl, rfl⟩ := h0
      unfold lev
      rw [if_pos rfl]
      simp
    · have := lev_out c p' q' (p - p') (q - q') mx (by omega) hmx
      rw [show p' + (p - p') = p by omega, show q' + (q - q') = q by omega, List.append_assoc, List.append_assoc] at this
      rw [lev_comm _ (by simp [bl]; omega)]
      exact this
end Mine
-- text M10
namespace Mine
local macro_rules | `(tactic| walk_at "no such place") => `(tactic| trivial)
theorem fresh_M10 : True := by w_top off; trivial
/-- two answers of which _law_apart says True -/
inductive Near : Option (List Nat) → Option (List Nat) → Prop
  | none1 {o} : Near none o
  | none2 {o} : Near o none
  | blank {n y} : n ≤ 1000 → Near (some (bl n)) (some y)
  | core {K p q p' q'} : Core K → p + K.length + q ≤ 40 → p' + K.length + q' ≤ 40 → Near (some (bl p ++ (K ++ bl q))) (some (bl p' ++ (K ++ bl q')))
/-- None, or a text -/
inductive OV : Value → Option (List Nat) → Prop
  | none : OV .none none
  | some {l t} : OV (.str (mkS l) t) (some l)
section
variable {prog : Program} {w : World} {mean : ExcName → Option Value} {mg mb : Str → Option Value} {ad : Nat → Addr} {A : Around} {s : Shared} {Q E : Value → Shared → Prop}
theorem strip_S {l y : List Nat} {t u : Tok} (e : Txt.stripChars (mkS l) (mkS [32]) = mkS y) (hl : l.length ≤ 1000) (h : ∀ t' k, Q (.str (mkS y) t') { s with toks := k }) : wpAny (model prog w) A (call (.builtin "str.strip") [.str (mkS l) t, .str (Str.ofString " ") u]) Q E s := by
  rw [show Str.ofString " " = mkS [32] from mkS_lit (l := [' ']) rfl]
  refine SCL.stripChars (fun t' k _ => ?_) (size_S hl)
  rw [e]
  exact h _ _
theorem idx_S {x y : List Nat} {p : Nat} {t u : Tok} (hA : A.handled = none) (e : Txt.find (mkS x) (mkS y) = (p : Int)) (h : ∀ t' k, Q (.int (p : Int) t') { s with toks := k }) : wpAny (model prog w) A (call (.builtin "str.index") [.str (mkS x) t, .str (mkS y) u]) Q E s := by
  refine index_or hA (fun h1 _ => ?_) (fun _ _ => ?_)
  · rw [e] at h1; omega
  · rw [e]; exact h _ _
theorem empty_S (l : List Nat) : (mkS l == Str.ofString "") = l.isEmpty := by
  rw [show Str.ofString "" = mkS [] from mkS_lit (l := []) rfl, mkS_beq]
  cases l <;> rfl
local macro_rules | `(tactic| walk_at "call builtin:str.strip") => `(tactic| refine strip_S (by assumption) (by walk_at "lenS") (fun _ _ => ?_))
local macro_rules | `(tactic| walk_at "call builtin:str.index") => `(tactic| refine idx_S (Rm.hd (by assumption)) (by assumption) (fun _ _ => ?_))
theorem c_lev_same {a : List Nat} {mx : Int} {t u v : Tok} (G : GG w mean mg mb ad s.heap) (r : Rm 2 A)
    (hQ : ∀ h' t' tk, Keeps s.heap h' → Q (.int 0 tk) { s with heap := h', toks := t' }) :
    wpAny (model prog w) A (call (.ref (ad 14)) [.str (mkS a) t, .str (mkS a) u, .int mx v]) Q E s := by
  refine enter (i := 14) (binds := [("a", .str (mkS a) t), ("b", .str (mkS a) u), ("max_cost", .int mx v)]) dr14 G (by decide) rfl r (fun _ _ _ => by kernel_rfl!) (by kernel_rfl!) (by kernel_rfl!) fun L cd h₁ F N r' => ?_
  have hg := G.T.g
  repeat' ((fail_if_success (with_reducible show wpAny _ _ (exec (.While _ _ _ _) _) _ _ _)); walk_at "w")
  · exact hQ _ _ _ F.keep
  · rename (mkS a == mkS a) = false => e
    rw [mkS_beq] at e
    simp at e
theorem c_apart {one other : Option (List Nat)} {v1 v2 : Value} {odd : Nat} {t : Tok} (G : GG w mean mg mb ad s.heap) (r : Rm 3 A) (h1 : OV v1 one) (h2 : OV v2 other) (hn : Near one other) (ho : odd < 2)
    (hQ : ∀ h' t', Keeps s.heap h' → Q (.bool true) { s with heap := h', toks := t' }) :
    wpAny (model prog w) A (call (.ref (ad 25)) [v1, v2, .int (odd : Int) t]) Q E s := by
  refine enter (i := 25) (binds := [("one", v1), ("other", v2), ("odd", .int (odd : Int) t)]) dr25 G (by decide) rfl r (fun _ _ _ => by kernel_rfl!) (by kernel_rfl!) (by kernel_rfl!) fun L cd h₁ F N r' => ?_
  have hg := G.T.g
  have hb := G.T.b
  obtain ⟨l1, l2⟩ := G.len
  obtain ⟨a1, a2⟩ := G.abs
  have h14 : mg "_levenshtein_distance" = some (.ref (ad 14)) := G.fn 14 (by decide)
  obtain ⟨o14, f14, q14, e14⟩ := G.obj dr14 (by decide)
  cases hn with
  | none1 =>
    cases h1
    repeat' (walk_at "w")
    rename Fr s.heap L _ _ => F₁
    exact hQ _ _ F₁.keep
  | none2 =>
    cases h2
    cases h1
    · repeat' (walk_at "w")
      rename Fr s.heap L _ _ => F₁
      exact hQ _ _ F₁.keep
    · repeat' (walk_at "w")
      rename Fr s.heap L _ _ => F₁
      exact hQ _ _ F₁.keep
  | blank hn1 =>
    cases h1
    cases h2
    rename_i n' y' t1 t2
    have s1 := strip_bl n'
    have ln : (bl n').length ≤ 1000 := by simpa [bl] using hn1
    repeat' (walk_at "w")
    · rename Fr s.heap L _ _ => F₁
      exact hQ _ _ F₁.keep
  | core c b1 b2 =>
    cases h1
    cases h2
    rename_i K p q p' q' t1 t2
    have kp := core_pos c
    have s1 := strip_core c p q
    have s2 := strip_core c p' q'
    have f1 := find_core c p q
    have f2 := find_core c p' q'
    have n1 : (bl p ++ (K ++ bl q)).length = p + K.length + q := by simp [bl]; omega
    have n2 : (bl p' ++ (K ++ bl q')).length = p' + K.length + q' := by simp [bl]; omega
    have n3 : (bl p ++ (K ++ bl q)).length ≤ 1000 := by omega
    have n4 : (bl p' ++ (K ++ bl q')).length ≤ 1000 := by omega
    generalize hx : bl p ++ (K ++ bl q) = x at s1 f1 n1 n3 F
    generalize hy : bl p' ++ (K ++ bl q') = y at s2 f2 n2 n4 F
    have r3 := r'
    repeat' ((fail_if_success (with_reducible show wpAny _ _ (subscriptTail _ _ _ _) _ _ _)); walk_at "w")
    · rename Fr s.heap L _ _ => F₁
      exact hQ _ _ F₁.keep
    · rename Fr s.heap L _ _ => F₁
      exact hQ _ _ F₁.keep
    · rename ¬ _ < (0 : Int) => hs
      rename News s.heap L _ _ => N₁
      have hprod : 0 ≤ ((p : Int) - p') * ((q : Int) - q') := by
        have e : ((p : Int) - p') * (((x.length : Int) - y.length) - ((p : Int) - p')) = ((p : Int) - p') * ((q : Int) - q') := by
          congr 1
          rw [n1, n2]
          omega
        rw [e] at hs
        omega
      generalize hk : (((p : Int) + q) - (p' + q')).natAbs = k
      have hl0 : ∀ mx : Int, mx = 2 * (k : Int) ∨ mx = 2 * (k : Int) - 1 → lev x y mx = 2 * (k : Int) ∧ lev y x mx = 2 * (k : Int) := fun mx hmx => by
        have hk' : (((p' : Int) + q') - (p + q)).natAbs = k := by omega
        constructor
        · rw [← hx, ← hy]
          have := lev_near c b1 b2 hprod (mx := mx) (by rw [hk]; exact hmx)
          rw [hk] at this
          exact this
        · rw [← hx, ← hy]
          have hprod' : 0 ≤ ((p' : Int) - p) * ((q' : Int) - q) := by
            have e : ((p' : Int) - p) * ((q' : Int) - q) = ((p : Int) - p') * ((q : Int) - q') := by
              rw [← Int.neg_mul_neg]
              congr 1 <;> omega
            rw [e]; exact hprod
          have := lev_near c b2 b1 hprod' (mx := mx) (by rw [hk']; exact hmx)
          rw [hk'] at this
          exact this
      have hm : (if (x.length : Int) - y.length < 0 then -((x.length : Int) - y.length) else (x.length : Int) - y.length) = (k : Int) := by
        rw [n1, n2]
        split <;> omega
      have hodd : odd = 0 ∨ odd = 1 := by omega
      rcases hodd with hodd | hodd
      · subst hodd
        refine item_list (x := .str (mkS x) t1) (News.isList N₁ (.head _)) (by decide) (by decide) rfl ?_
        repeat' ((fail_if_success (with_reducible show wpAny _ _ (subscriptTail _ _ _ _) _ _ _)); walk_at "w")
        rename News s.heap L _ _ => N₁
        refine item_list (x := .str (mkS y) t2) (News.isList N₁ (.head _)) (by decide) (by decide) rfl ?_
        repeat' ((fail_if_success (with_reducible show wpAny _ _ (call (.ref _) _) _ _ _)); walk_at "w")
        rw [hm]
        rename Fr s.heap L _ _ => F₂
        by_cases h0 : p = p' ∧ q = q'
        · have exy : x = y := by rw [← hx, ← hy, h0.1, h0.2]
          have hk0 : k = 0 := by omega
          rw [hk0] at hm ⊢
          rw [exy]
          refine c_lev_same (G.keeps F₂.keep) (Rm.less r' (by decide)) fun h₅ t₅ k₅ kk₅ => ?_
          have F₃ := F₂.keeps kk₅
          clear F₂
          repeat' ((fail_if_success (with_reducible show wpAny _ _ (compareOp _ _ _) _ _ _)); walk_at "w")
          rw [hm]
          repeat' (walk_at "w")
          rename Fr s.heap L _ _ => F₄
          exact hQ _ _ F₄.keep
        · have hkpos : 0 < k := by have := same_sign hprod; omega
          rw [show (2 * (k : Int) - ((0 : Nat) : Int)) = ((2 * k - 0 : Nat) : Int) by omega]
          refine c_lev (G.keeps F₂.keep) (Rm.less r' (by decide)) n3 n4 fun h₅ t₅ k₅ kk₅ => ?_
          rw [(hl0 _ (.inl (by omega))).1]
          have F₃ := F₂.keeps kk₅
          clear F₂
          repeat' ((fail_if_success (with_reducible show wpAny _ _ (compareOp _ _ _) _ _ _)); walk_at "w")
          rw [hm]
          repeat' (walk_at "w")
          rename Fr s.heap L _ _ => F₄
          simpa using hQ _ _ F₄.keep
      · subst hodd
        refine item_list (x := .str (mkS y) t2) (News.isList N₁ (.head _)) (by decide) (by decide) rfl ?_
        repeat' ((fail_if_success (with_reducible show wpAny _ _ (subscriptTail _ _ _ _) _ _ _)); walk_at "w")
        rename News s.heap L _ _ => N₁
        refine item_list (x := .str (mkS x) t1) (News.isList N₁ (.head _)) (by decide) (by decide) rfl ?_
        repeat' ((fail_if_success (with_reducible show wpAny _ _ (call (.ref _) _) _ _ _)); walk_at "w")
        rw [hm]
        rename Fr s.heap L _ _ => F₂
        by_cases h0 : p = p' ∧ q = q'
        · have exy : x = y := by rw [← hx, ← hy, h0.1, h0.2]
          have hk0 : k = 0 := by omega
          rw [hk0] at hm ⊢
          rw [exy]
          refine c_lev_same (G.keeps F₂.keep) (Rm.less r' (by decide)) fun h₅ t₅ k₅ kk₅ => ?_
          have F₃ := F₂.keeps kk₅
          clear F₂
          repeat' ((fail_if_success (with_reducible show wpAny _ _ (compareOp _ _ _) _ _ _)); walk_at "w")
          rw [hm]
          repeat' (walk_at "w")
          rename Fr s.heap L _ _ => F₄
          exact hQ _ _ F₄.keep
        · have hkpos : 0 < k := by have := same_sign hprod; omega
          rw [show (2 * (k : Int) - ((1 : Nat) : Int)) = ((2 * k - 1 : Nat) : Int) by omega]
          refine c_lev (G.keeps F₂.keep) (Rm.less r' (by decide)) n4 n3 fun h₅ t₅ k₅ kk₅ => ?_
          rw [(hl0 _ (.inr (by omega))).2]
          have F₃ := F₂.keeps kk₅
          clear F₂
          repeat' ((fail_if_success (with_reducible show wpAny _ _ (compareOp _ _ _) _ _ _)); walk_at "w")
          rw [hm]
          repeat' (walk_at "w")
          rename Fr s.heap L _ _ => F₄
          simpa using hQ _ _ F₄.keep
end
end Mine
-- text M11
namespace Mine
theorem fresh_M11 : True := by w_top off; trivial
/-- what _law_run answers -/
noncomputable def runL (when : Nat) : Nat → List Nat → List Nat → Option (List Nat)
  | i, [], line => some (if i = when then readS line else line)
  | i, a :: ns, line => (cutL (if i = when then readS line else line) a).bind (runL when (i + 1) ns)
theorem readS_len (l : List Nat) : (readS l).length ≤ 20 * l.length := by
  unfold readS
  have h : ∀ zs : List Nat, (zs.flatMap mapB3).length ≤ 20 * zs.length := by
    intro zs
    induction zs with
    | nil => simp
    | cons z zs ih =>
      have := mapB3_len z
      simp only [List.flatMap_cons, List.length_append, List.length_cons]
      omega
  refine Nat.le_trans (h _) ?_
  have := List.length_filter_le (fun c => !unseen.contains c) l
  omega
theorem cutL_le {l y : List Nat} {a : Nat} (h : cutL l a = some y) : y.length ≤ l.length := by
  have := cutL_len h
  omega
theorem ns_kf {S : List Addr} {h h' : Heap} {a : Addr} {m : Str → Option Value} (n : h.Ns a m) (k : Kf S h h') : h'.Ns a m := by
  obtain ⟨o, es, ep, ho, hd, r⟩ := n
  obtain ⟨sl, e⟩ := k.2 a o ho
  exact ⟨_, es, ep, e, hd, r⟩
theorem isExc_IndexError : isSubtype (.type "IndexError") (.type "BaseException") = pure true := by rw [isSubtype_type]; kernel_rfl
theorem self_IndexError : isSubtype (.type "IndexError") (.type "IndexError") = pure true := by rw [isSubtype_type]; kernel_rfl
theorem not_tuple_IndexError : isSubtype (.type ((Manifest.find? "IndexError").elim "type" fun x => x.metatype)) (.type "tuple") = pure false := by rw [isSubtype_type]; kernel_rfl
inductive RunInv (a : Addr) (u : Tok) (when : Nat) (ns l : List Nat) (i : Nat) (m : Str → Option Value) (nx : List (Addr × Obj)) : Prop
  | mk (e0 : nx = []) (line : List Nat) (tl : Tok) (e1 : m "line" = some (.str (mkS line) tl)) (e2 : m "amounts" = some (.ref a)) (e3 : m "when" = some (.int (when : Int) u))
      (e4 : runL when 0 ns l = runL when i (ns.drop i) line) (e5 : i ≤ when → line.length ≤ 40) (e6 : line.length ≤ 1000) : RunInv a u when ns l i m nx
section
variable {prog : Program} {w : World} {mean : ExcName → Option Value} {mg mb : Str → Option Value} {ad : Nat → Addr} {A : Around} {s : Shared} {Q E : Value → Shared → Prop}
theorem c_run {l ns : List Nat} {a : Addr} {vs : List Value} {when : Nat} {t u : Tok} {outer : List Env} (G : GG w mean mg mb ad s.heap) (r : Rm 4 A) (hl : l.length ≤ 40) (hL : s.heap.IsList a vs.toArray) (hv : IntsAre vs (ns.map fun (k : Nat) => (k : Int))) (hn : ns.length ≤ 100)
    (hfr : A.frames = some outer) (hfs : Fs s.heap outer)
    (hQ : ∀ v h' t', Kf (sOf outer) s.heap h' → OV v (runL when 0 ns l) → Q v { s with heap := h', toks := t' }) :
    wpAny (model prog w) A (call (.ref (ad 22)) [.str (mkS l) t, .ref a, .int (when : Int) u]) Q E s := by
  obtain ⟨oL, hoL, hcL, cnL, hdL⟩ := hL
  refine enter (i := 22) (binds := [("line", .str (mkS l) t), ("amounts", .ref a), ("when", .int (when : Int) u)]) dr22 G (by decide) rfl r (fun _ _ _ => by kernel_rfl!) (by kernel_rfl!) (by kernel_rfl!) fun L cd h₁ F N r' => ?_
  have hg := G.T.g
  have hb := G.T.b
  obtain ⟨l1, l2⟩ := G.len
  obtain ⟨r1, r2⟩ := G.range
  obtain ⟨i1, i2⟩ := G.IndexError
  have h21 : mg "_law_read" = some (.ref (ad 21)) := G.fn 21 (by decide)
  obtain ⟨o21, f21, q21, e21⟩ := G.obj dr21 (by decide)
  have h3 : mg "_strip_padding" = some (.ref (ad 3)) := G.fn 3 (by decide)
  obtain ⟨o3, f3, q3, e3⟩ := G.obj dr3 (by decide)
  repeat' ((fail_if_success (with_reducible show wpAny _ _ (exec (.Try _ _ _ _ _) _) _ _ _)); walk_at "w")
  refine wpAny_Try_except ?_
  repeat' ((fail_if_success (with_reducible show wpAny _ _ (exec (.For _ _ _ _ _) _) _ _ _)); walk_at "w")
  refine wpAny_For ?_
  repeat' ((fail_if_success (with_reducible show wpAny _ _ (call (.builtin "len") _) _ _ _)); walk_at "w")
  have hvl : vs.length = ns.length := by rw [hv.length, List.length_map]
  have hLs : ∀ h, Keeps s.heap h → h.IsList a vs.toArray := fun h k => ⟨oL, k _ _ hoL, hcL, cnL, hdL⟩
  refine Calls.call_len_list (hLs _ F.keep) (by rw [List.size_toArray]; omega) ?_
  rw [List.size_toArray, hvl]
  repeat' ((fail_if_success (with_reducible show wpAny _ _ (pyIter _) _ _ _)); walk_at "w")
  rename IsRange _ _ _ _ _ _ _ _ => R₁
  rename Fr s.heap L _ _ => F₁
  rename News s.heap L _ _ => N₁
  have hL0 : s.heap.get? L = none := by
    cases e : s.heap.get? L with
    | none => rfl
    | some o => exact absurd (Nat.lt_of_lt_of_le (Heap.lt_size e) F₁.above) (Nat.lt_irrefl _)
  refine loop_range2 (n := ns.length) (nx := []) (RunInv a u when ns l)
    rfl r'.2.2 R₁ rfl (by omega) F₁ N₁ ⟨rfl, l, t, by walk_at "mi", by walk_at "mi", by walk_at "mi", rfl, fun _ => hl, by omega⟩ ?_ ?_
  · rintro i ti m' nx' h₇ tk₇ I oi hi hnI ⟨rfl, line, tl, z1, z2, z3, hrun, hl40, hl1000⟩ F₇ N₇
    replace F₇ : Fr s.heap L h₇ _ := F₇
    replace N₇ : News s.heap L h₇ _ := N₇
    have hdr : ns.drop i = ns[i] :: ns.drop (i + 1) := List.drop_eq_getElem_cons hi
    have hget : (ns.map fun (k : Nat) => (k : Int)).getD ((i : Int)).toNat 0 = ((ns[i] : Nat) : Int) := by
      rw [Int.toNat_natCast]
      simp [List.getD_eq_getElem?_getD, hi]
    repeat' ((fail_if_success (with_reducible show wpAny _ _ (call (.ref _) _) _ _ _)); (fail_if_success (with_reducible show wpAny _ _ (subscriptTail _ _ _ _) _ _ _)); walk_at "w")
    · rename ((_ : Nat) : Int) = _ => hiw
      have hiw' : i = when := by omega
      have hl40' := hl40 (by omega)
      have hrl := readS_len line
      rename Fr s.heap L _ _ => Fa
      rename News s.heap L _ _ => Na
      refine c_read (G.keeps Fa.keep) (Rm.less r' (by decide)) (by omega) fun h' t' tk k => ?_
      have Fb := Fa.keeps k
      have Nb := News.grown Na k
      clear Fa Na
      repeat' ((fail_if_success (with_reducible show wpAny _ _ (call (.ref _) _) _ _ _)); (fail_if_success (with_reducible show wpAny _ _ (subscriptTail _ _ _ _) _ _ _)); walk_at "w")
      rename Fr s.heap L _ _ => Fc
      rename News s.heap L _ _ => Nc
      refine item_list_ints (hLs _ Fc.keep) hv (by omega) (by rw [List.length_map]; omega) (by omega) fun ta => ?_
      rw [hget]
      repeat' ((fail_if_success (with_reducible show wpAny _ _ (call (.ref _) _) _ _ _)); walk_at "w")
      rename Fr s.heap L _ _ => Fd
      rename News s.heap L _ _ => Nd
      have fs : Fs _ (envOf (nm 22) (dr 22).scope L (ad 22) cd :: outer) := Fs.cons (hfs.kf (S := []) (Kf.of_keeps Fd.keep)) Fd.ns rfl
      refine c_strip (G.keeps Fd.keep) (Rm.less r' (by decide)) (by omega) (Around.frames_deeper hfr) fs (fun y hy h' t' tk k => ?_) (fun hc e h' t' H => ?_)
      · have Fe := Fd.keeps k
        have Ne := News.grown Nd k
        clear Fd Nd
        have hyl := cutL_le hy
        repeat' (walk_at "w")
        rename Fr s.heap L _ _ => Ff
        rename News s.heap L _ _ => Nf
        refine ⟨_, _, _, [], rfl, Ff, Nf, by simp, rfl, y, _, by walk_at "mi", by walk_at "mi", by walk_at "mi", ?_, ?_, ?_⟩
        · rw [hrun, hdr]
          show (cutL (if i = when then readS line else line) ns[i]).bind _ = _
          rw [if_pos hiw', hy]
          rfl
        · intro hle
          omega
        · omega
      · refine note_on (Around.frames_deeper hfr) rfl (fs.kf H.kf) (fun b hb => hb) H fun h2 H2 => ?_
        refine held_back rfl H2 fun h3 H3 => ?_
        refine note_again rfl H3 ?_
        refine held_setFlight H3 fun h4 H4 => ?_
        refine wpAny_handleBy_builtin (X := "IndexError") (T := "IndexError") (b := true) isExc_IndexError not_tuple_IndexError self_IndexError ?_
        refine ldb (ns_kf (hg.keeps Fd.keep) H4.kf) i1 (ns_kf (hb.keeps Fd.keep) H4.kf) i2 ⟨rfl, ?_, ?_⟩
        · obtain ⟨ob, _, _, _, _, he, hcls, _⟩ := H4.there
          exact ⟨ob, he, hcls⟩
        · rw [if_pos rfl]
          refine held_setFlight H4 fun h5 H5 => ?_
          have e0 : runL when 0 ns l = none := by
            rw [hrun, hdr]
            show (cutL (if i = when then readS line else line) ns[i]).bind _ = _
            rw [if_pos hiw', hc]
            rfl
          repeat' (walk_at "w")
          refine hQ _ _ _ ?_ (by rw [e0]; exact .none)
          have k5 : Kf (L :: sOf outer) s.heap h5 := ((Kf.of_keeps Fd.keep).trans H5.kf)
          exact k5.drop hL0
    · rename ((_ : Nat) : Int) ≠ _ => hiw
      have hiw' : ¬ i = when := by omega
      rename Fr s.heap L _ _ => Fc
      rename News s.heap L _ _ => Nc
      refine item_list_ints (hLs _ Fc.keep) hv (by omega) (by rw [List.length_map]; omega) (by omega) fun ta => ?_
      rw [hget]
      repeat' ((fail_if_success (with_reducible show wpAny _ _ (call (.ref _) _) _ _ _)); walk_at "w")
      rename Fr s.heap L _ _ => Fd
      rename News s.heap L _ _ => Nd
      have fs : Fs _ (envOf (nm 22) (dr 22).scope L (ad 22) cd :: outer) := Fs.cons (hfs.kf (S := []) (Kf.of_keeps Fd.keep)) Fd.ns rfl
      refine c_strip (G.keeps Fd.keep) (Rm.less r' (by decide)) (by omega) (Around.frames_deeper hfr) fs (fun y hy h' t' tk k => ?_) (fun hc e h' t' H => ?_)
      · have Fe := Fd.keeps k
        have Ne := News.grown Nd k
        clear Fd Nd
        have hyl := cutL_le hy
        repeat' (walk_at "w")
        rename Fr s.heap L _ _ => Ff
        rename News s.heap L _ _ => Nf
        refine ⟨_, _, _, [], rfl, Ff, Nf, by simp, rfl, y, _, by walk_at "mi", by walk_at "mi", by walk_at "mi", ?_, ?_, ?_⟩
        · rw [hrun, hdr]
          show (cutL (if i = when then readS line else line) ns[i]).bind _ = _
          rw [if_neg hiw', hy]
          rfl
        · intro hle
          have := hl40 (by omega); omega
        · omega
      · refine note_on (Around.frames_deeper hfr) rfl (fs.kf H.kf) (fun b hb => hb) H fun h2 H2 => ?_
        refine held_back rfl H2 fun h3 H3 => ?_
        refine note_again rfl H3 ?_
        refine held_setFlight H3 fun h4 H4 => ?_
        refine wpAny_handleBy_builtin (X := "IndexError") (T := "IndexError") (b := true) isExc_IndexError not_tuple_IndexError self_IndexError ?_
        refine ldb (ns_kf (hg.keeps Fd.keep) H4.kf) i1 (ns_kf (hb.keeps Fd.keep) H4.kf) i2 ⟨rfl, ?_, ?_⟩
        · obtain ⟨ob, _, _, _, _, he, hcls, _⟩ := H4.there
          exact ⟨ob, he, hcls⟩
        · rw [if_pos rfl]
          refine held_setFlight H4 fun h5 H5 => ?_
          have e0 : runL when 0 ns l = none := by
            rw [hrun, hdr]
            show (cutL (if i = when then readS line else line) ns[i]).bind _ = _
            rw [if_neg hiw', hc]
            rfl
          repeat' (walk_at "w")
          refine hQ _ _ _ ?_ (by rw [e0]; exact .none)
          have k5 : Kf (L :: sOf outer) s.heap h5 := ((Kf.of_keeps Fd.keep).trans H5.kf)
          exact k5.drop hL0
  · rintro m' nx' h₇ tk₇ ⟨rfl, line, tl, z1, z2, z3, hrun, hl40, hl1000⟩ F₇ N₇
    replace F₇ : Fr s.heap L h₇ _ := F₇
    replace N₇ : News s.heap L h₇ _ := N₇
    rw [List.drop_length] at hrun
    repeat' ((fail_if_success (with_reducible show wpAny _ _ (call (.builtin "len") _) _ _ _)); walk_at "w")
    rename Fr s.heap L _ _ => F₈
    refine Calls.call_len_list (hLs _ F₈.keep) (by rw [List.size_toArray]; omega) ?_
    rw [List.size_toArray, hvl]
    repeat' ((fail_if_success (with_reducible show wpAny _ _ (call (.ref _) _) _ _ _)); walk_at "w")
    · rename ((_ : Nat) : Int) = _ => hiw
      have hiw' : ns.length = when := by omega
      rename Fr s.heap L _ _ => F₉
      have hl40' := hl40 (by omega)
      refine c_read (G.keeps F₉.keep) (Rm.less r' (by decide)) (by omega) fun h' t' tk k => ?_
      have Fb := F₉.keeps k
      clear F₉
      repeat' (walk_at "w")
      rename Fr s.heap L _ _ => Ff
      refine hQ _ _ _ (Kf.of_keeps Ff.keep) ?_
      rw [hrun, show runL when ns.length [] line = some (readS line) from congrArg some (if_pos hiw')]
      exact .some
    · rename ((_ : Nat) : Int) ≠ _ => hiw
      have hiw' : ¬ ns.length = when := by omega
      rename Fr s.heap L _ _ => Ff
      refine hQ _ _ _ (Kf.of_keeps Ff.keep) ?_
      rw [hrun, show runL when ns.length [] line = some line from congrArg some (if_neg hiw')]
      exact .some
end
end Mine
-- text G2b
namespace Mine
theorem fresh_G2b : True := by w_top off; trivial
local macro_rules | `(tactic| walk_at "eval Name") => `(tactic| first
  | refine ld_global_at (by assumption) (by assumption) (by assumption) ?_
  | refine ld_builtin_at (by assumption) (by assumption) (by assumption) (by assumption) (by assumption) ?_)
noncomputable def gYo (C N : Addr) (h₀ : Heap) (V : Nat → Option Int) : Protocol := fun n s₀ v s kap => (∃ x t, V n = some x ∧ v = .int x t) ∧ Since C N h₀ s₀ s ∧
  (n ≠ 0 → ∀ s'' : Shared, (∀ b o, (b = C ∨ N ≤ b) → s.heap.get? b = some o → s''.heap.get? b = some o) → Keeps h₀ s''.heap → kap (.send .none) s'')
section
variable {prog : Program} {w : World} {mean : ExcName → Option Value} {mg mb : Str → Option Value} {ad : Nat → Addr} {A : Around} {R : GenEnd} {n : Nat} {s₀ s : Shared} {C N I rw : Addr} {cd : Value} {h₀ : Heap} {V : Nat → Option Int} {fs : List Frame}
  {m : Str → Option Value} {items : Array Value}
/-- a turn that yields -/
theorem turn_yieldo {i : Nat} {v : Int} {t : Tok} {px : Pos} (G : GG w mean mg mb ad h₀) (hh : A.handled = none) (hl : h₀.IsList rw items) (hv : items[i]? = some (.int v t)) (h1 : v ≠ 127) (h2 : v ≠ 0)
    (hfs : splitAtGen fs = none) (hfg : fs.any Frame.guarded = false) (hmk : (A.over (gCode ad C cd I px) fs).handled = none)
    (F : Fr h₀ C s.heap m) (it : s.heap.IsListIter I rw i) (hI : N ≤ I) (hCI : C < N) (hN : h₀.objs.size ≤ N) (sn : Since C N h₀ s₀ s) (hV : V n = some v)
    (next : n ≠ 0 → ∀ (s'' s₃ : Shared) m', Since C N h₀ s'' s₃ → Fr h₀ C s₃.heap m' → m' "last_interval" = some (.int v t) → s₃.heap.IsListIter I rw (i + 1) → Seg (model prog w) A R (gYo C N h₀ V) n s'' (gCode ad C cd I px) ((model prog w).den (gCode ad C cd I px)) fs s₃) :
    Seg (model prog w) A R (gYo C N h₀ V) (n + 1) s₀ (gCode ad C cd I px) ((model prog w).den (gCode ad C cd I px)) fs s := by
  have hg := G.T.g
  obtain ⟨tc, hc⟩ := G.charMax
  refine seg_forTurn (wpAny_pyNext_list_item it (hl.at fun o e => F.keep _ o e) hv fun h' it' sb => ?_)
  have F' : Fr h₀ C h' m := fr_iter (a := 0) (b := 0) F sb hCI hI hN
  obtain ⟨oi, hoi, hoc, hod⟩ := it'
  have NI : News h₀ C h' [(I, oi)] := news_one hoi (Nat.ne_of_gt (Nat.lt_of_lt_of_le hCI hI)) (Nat.le_trans hN hI)
  refine wpAny_assign_Name (wpAny_storeName_local rfl F'.ns (fun h₁ hn₁ sb₁ => ?_) rfl)
  have F₁ := F'.set hn₁ sb₁
  have N₁ := NI.set sb₁
  refine seg_cons (seg_If ?_)
  repeat' (first | walk1 | dsimp only)
  · exact absurd ‹v = 127› h1
  refine seg_execs_nil ?_
  dsimp only
  refine seg_cons (seg_If ?_)
  repeat' (first | walk1 | dsimp only)
  · exact absurd ‹v = 0› h2
  refine seg_execs_nil ?_
  dsimp only
  refine seg_cons (seg_Expr_Yield hfs rfl hfg ?_)
  repeat' (first | walk1 | dsimp only)
  rename Resume → Shared → Prop => kap
  rename ∀ x s'', _ => hkap
  have k₁ := F₁.keep
  refine ⟨⟨_, _, hV, rfl⟩, sn.step (fun b o hb hn e => sb₁.extBut _ _ hb (sb.extBut _ _ (Nat.ne_of_lt (Nat.lt_of_lt_of_le hn hI)) e)) k₁, fun hn s'' hal hk => hkap .none s'' ?_⟩
  have F₂ : Fr h₀ C s''.heap _ := ⟨F₁.ns.at' fun o e => hal _ _ (.inl rfl) e, hk, F₁.above⟩
  have N₂ : News h₀ C s''.heap [(I, oi)] := news_one (hal _ _ (.inr hI) (N₁.get (.head _))) (Nat.ne_of_gt (Nat.lt_of_lt_of_le hCI hI)) (Nat.le_trans hN hI)
  dsimp only
  refine seg_stmt ?_
  repeat' (first | refine wpAny_storeName_local rfl F₂.ns (fun h₃ hn₃ sb₃ => ?_) rfl | walk1 | dsimp only)
  refine seg_execs_nil ?_
  have F₃ := F₂.set hn₃ sb₃
  have N₃ := N₂.set sb₃
  exact seg_again rfl (next hn s'' _ _ ((Since.refl F₂.keep).step (fun b o hb _ e => sb₃.extBut _ _ hb e) F₃.keep) F₃ rfl ⟨oi, N₃.get (.head _), hoc, hod⟩)
/-- the turn that finds nought behind a first interval: it yields the last one again -/
theorem turn_zeroo {i : Nat} {v : Int} {t tz : Tok} {px : Pos} (G : GG w mean mg mb ad h₀) (hh : A.handled = none) (hl : h₀.IsList rw items) (hv : items[i]? = some (.int 0 tz))
    (hfs : splitAtGen fs = none) (hfg : fs.any Frame.guarded = false)
    (F : Fr h₀ C s.heap m) (hm : m "last_interval" = some (.int v t)) (it : s.heap.IsListIter I rw i) (hI : N ≤ I) (hCI : C < N) (hN : h₀.objs.size ≤ N) (sn : Since C N h₀ s₀ s) (hV : V 0 = some v) :
    Seg (model prog w) A R (gYo C N h₀ V) 1 s₀ (gCode ad C cd I px) ((model prog w).den (gCode ad C cd I px)) fs s := by
  have hg := G.T.g
  obtain ⟨tc, hc⟩ := G.charMax
  refine seg_forTurn (wpAny_pyNext_list_item it (hl.at fun o e => F.keep _ o e) hv fun h' it' sb => ?_)
  have F' : Fr h₀ C h' m := fr_iter (a := 0) (b := 0) F sb hCI hI hN
  refine wpAny_assign_Name (wpAny_storeName_local rfl F'.ns (fun h₁ hn₁ sb₁ => ?_) rfl)
  have F₁ := F'.set hn₁ sb₁
  refine seg_cons (seg_If ?_)
  repeat' (first | walk1 | dsimp only)
  refine seg_execs_nil ?_
  dsimp only
  refine seg_cons (seg_If ?_)
  repeat' (first | walk1 | dsimp only)
  refine seg_cons (seg_If ?_)
  repeat' (first | refine ld F₁ ((if_neg (by decide)).trans hm) ?_ | walk1 | dsimp only)
  refine seg_execs_nil ?_
  dsimp only
  refine seg_cons (seg_While fun p => seg_whileLoop ?_)
  repeat' (first | walk1 | dsimp only)
  refine seg_cons (seg_Expr_Yield (by show (splitAtGen fs).map _ = none; rw [hfs]; rfl) rfl (by show (false || fs.any Frame.guarded) = false; rw [hfg]; rfl) ?_)
  repeat' (first | refine ld F₁ ((if_neg (by decide)).trans hm) ?_ | walk1 | dsimp only)
  exact ⟨⟨_, _, hV, rfl⟩, sn.step (fun b o hb hn e => sb₁.extBut _ _ hb (sb.extBut _ _ (Nat.ne_of_lt (Nat.lt_of_lt_of_le hn hI)) e)) F₁.keep, fun hn => absurd rfl hn⟩
/-- the turn that finds CHAR_MAX: the generator ends -/
theorem turn_stopo {i : Nat} {tz : Tok} {px : Pos} (G : GG w mean mg mb ad h₀) (hh : A.handled = none) (hl : h₀.IsList rw items) (hv : items[i]? = some (.int 127 tz))
    (F : Fr h₀ C s.heap m) (it : s.heap.IsListIter I rw i) (hI : N ≤ I) (hCI : C < N) (hN : h₀.objs.size ≤ N) (sn : Since C N h₀ s₀ s)
    (done : ∀ s₃, Since C N h₀ s₀ s₃ → Seg (model prog w) A R (gYo C N h₀ V) n s₀ (gCode ad C cd I px) (.pure (.done (.ret .none))) fs s₃) :
    Seg (model prog w) A R (gYo C N h₀ V) n s₀ (gCode ad C cd I px) ((model prog w).den (gCode ad C cd I px)) fs s := by
  have hg := G.T.g
  obtain ⟨tc, hc⟩ := G.charMax
  refine seg_forTurn (wpAny_pyNext_list_item it (hl.at fun o e => F.keep _ o e) hv fun h' it' sb => ?_)
  have F' : Fr h₀ C h' m := fr_iter (a := 0) (b := 0) F sb hCI hI hN
  refine wpAny_assign_Name (wpAny_storeName_local rfl F'.ns (fun h₁ hn₁ sb₁ => ?_) rfl)
  have F₁ := F'.set hn₁ sb₁
  refine seg_cons (seg_If ?_)
  repeat' (first | walk1 | dsimp only)
  exact seg_cons (seg_Return_none (done _ (sn.step (fun b o hb hn e => sb₁.extBut _ _ hb (sb.extBut _ _ (Nat.ne_of_lt (Nat.lt_of_lt_of_le hn hI)) e)) F₁.keep)))
/-- the items are at their end -/
theorem turn_endo {i : Nat} {px : Pos} (hl : h₀.IsList rw items) (hmk : (A.over (gCode ad C cd I px) fs).handled = none) (hv : items[i]? = none)
    (F : Fr h₀ C s.heap m) (it : s.heap.IsListIter I rw i) (hI : N ≤ I) (hCI : C < N) (hN : h₀.objs.size ≤ N) (sn : Since C N h₀ s₀ s)
    (done : ∀ s₃, Since C N h₀ s₀ s₃ → Seg (model prog w) A R (gYo C N h₀ V) n s₀ (.block [] (gEnv ad C cd)) (.pure (.done .next)) fs s₃) :
    Seg (model prog w) A R (gYo C N h₀ V) n s₀ (gCode ad C cd I px) ((model prog w).den (gCode ad C cd I px)) fs s := by
  refine seg_forTurn (wpAny_pyNext_list_end hmk it (hl.at fun o e => F.keep _ o e) hv fun h' sb => ?_)
  refine seg_forEnd (c' := default) (done _ (sn.step (fun b o hb hn e => sb _ _ (Nat.ne_of_lt (Nat.lt_of_lt_of_le hn hI)) e) ?_))
  exact fun b o e => sb _ _ (Nat.ne_of_lt (Nat.lt_of_lt_of_le (Heap.lt_size e) (Nat.le_trans hN hI))) (F.keep b o e)
end
end Mine
-- text G3
namespace Mine
theorem fresh_G3 : True := by w_top off; trivial
section
variable {prog : Program} {w : World} {A : Around} {E : Value → Shared → Prop} {s : Shared}
theorem not_stop_ValueError : isSubtype (.type "ValueError") (.type "StopIteration") = pure false := by rw [isSubtype_type]; kernel_rfl
/-- one step of a generator that is a def: it yields, ends, or raises -/
theorem pyNextG {a : Addr} {g n : Nat} {gs : GenState} {R : GenEnd} {Y : Protocol} {Q : Option Value → Shared → Prop} (hh : A.handled = none)
    (hl : s.heap.NoLimit) (hroom : A.depth < recursionLimit)
    (hg : s.heap.IsGen a g) (hgs : s.gens[g]? = some gs)
    (hgo : gs.Goes (model prog w) A.in1 R Y n (.send .none) (s.setGen g .running))
    (hY : ∀ v s₁ gs', gs'.bare = true → Y (n - 1) (s.setGen g .running) v s₁ (fun r' s'' => match n with
        | 0 => False
        | m + 1 => gs'.Goes (model prog w) A.in1 R Y m r' s'') → Q (some v) (s₁.setGen g gs'))
    (hR : ∀ r s₁, R n (s.setGen g .running) r s₁ → (r = .ok (.ret .none) ∧ ∀ h', (∀ b o, s₁.heap.get? b = some o → h'.get? b = some o) → Q none { s₁.setGen g .finished with heap := h' }) ∨
      (∃ e ob, r = .error (.ref e) ∧ s₁.heap.get? e = some ob ∧ ob.cls = .type "ValueError" ∧ s₁.heap.IsGen a g ∧ E (.ref e) (s₁.setGen g .finished))) :
    wpAny (model prog w) A (pyNext (.ref a)) Q E s := by
  unfold pyNext
  refine wpAny_bind (wpAny_attempt (wpAny_callSpecial?_slot (name := Str.ofString "__next__") hg.typeIs slot_gen_next
    (wpAny_call_entry slot_gen_next hg.typeIs entry_gen_next ?_ (args_gen_next _))))
  show wpAny _ A.in1 (Builtin.Generator.genWake (.ref a) (.send .none)) _ _ s
  unfold Builtin.Generator.genWake
  refine wpAny_bind (wpAny_holding (wpAny_genNumber hg (wpAny_bind (wpAny_genState hgs ?_))))
  cases gs with
  | running => exact hgo.elim
  | finished => exact hgo.elim
  | _ =>
    refine wpAny_bind (wpAny_roomToWake hl hroom ?_)
    show wpAny _ A.in1 (.resume g (.send .none) [] _) _ _ s
    refine wpAny_resumeQ hgs hgo (fun x s₁ hx => ?_) (fun v s₁ gs' hb hv => ?_)
    · rcases hR x s₁ hx with ⟨rfl, hp⟩ | ⟨e, ob, rfl, he, hcls, hig, hE⟩
      · show wpAny _ A.in1 (newExc (.type "StopIteration") [] >>= _) _ _ _
        refine wpAny_bind ?_
        simp only [newExc, newTuple]
        refine wpAny_bind (wpAny_newObj_type ?_ (by size_fits))
        refine wpAny_bind (m := firstArgMember _ _) (wpAny_of_eq (a := Value.none) (by first | rfl | (simp only [firstArgMember]; rfl)) ?_)
        refine wpAny_newObj_type ?_ (by size_fits)
        simp only [raiseNew]
        refine wpAny_bind (wpAny_bind (wpAny_handled ?_))
        first | rw [show A.in1.handled = none from hh] | rw [hh]
        refine wpAny_throw ?_
        refine wpAny_bind (wpAny_isInstance (T := "StopIteration") (b := true) ⟨_, Heap.get?_push_size _ rfl, rfl⟩ isSubtype_stop ?_)
        exact wpAny_pure (hp _ fun b o hb => Heap.get?_push_of_some _ (Heap.get?_push_of_some _ hb))
      · show wpAny _ A.in1 (Builtin.Generator.genLeft (.ref a) (.ref e) : Sem Fin) _ _ _
        obtain ⟨og, nm', qn, hog, hcg, hdg, _⟩ := hig
        have hT : (s₁.setGen g .finished).TypeIs (.ref e) "ValueError" := ⟨ob, he, hcls⟩
        unfold Builtin.Generator.genLeft Builtin.Generator.madeByALambda
        refine wpAny_bind (wpAny_bind (wpAny_load (s := s₁.setGen g .finished) hog (wpAny_pure ?_)))
        refine wpAny_bind (wpAny_isInstance hT not_stop_ValueError ?_)
        rw [Bool.and_false, if_neg Bool.false_ne_true]
        show wpAny _ A.in1 (Builtin.Generator.genEscaped (.ref e) : Sem Fin) _ _ _
        unfold Builtin.Generator.genEscaped
        refine wpAny_bind (wpAny_isInstance hT not_stop_ValueError ?_)
        rw [if_pos (by rfl)]
        refine wpAny_throw ?_
        refine wpAny_bind (wpAny_isInstance hT not_stop_ValueError ?_)
        rw [if_neg Bool.false_ne_true]
        exact wpAny_throw hE
    · exact wpAny_pure ⟨v, rfl, wpAny_pure (hY v s₁ gs' hb hv)⟩
end
section
variable {prog : Program} {w : World} {mean : ExcName → Option Value} {mg mb : Str → Option Value} {ad : Nat → Addr} {A : Around} {s : Shared} {Q E : Value → Shared → Prop}
/-- _grouping_intervals(row): the generator -/
theorem call_gen {row : Addr} {n : Nat} (G : GG w mean mg mb ad s.heap) (r : Rm (n + 1) A)
    (h : ∀ C cd a h₁ h₂ tk nmv qn, s.heap.objs.size ≤ C → C < a → h₂.objs.size = a + 1 → Fr s.heap C h₁ (fun x => [(("grouping" : Str), Value.ref row)].reverse.lookup x) → (∀ b o, h₁.get? b = some o → h₂.get? b = some o) → s.heap.get? a = none →
      h₂.get? a = some { cls := .type "generator", data := .fields #[.int s.gens.size 0, nmv, qn] } → h₁.objs.size = a →
      Q (.ref a) { s with heap := h₂, toks := tk, gens := s.gens.push (.fresh (.func (dr 2).body (gEnv ad C cd))) }) :
    wpAny (model prog w) A (call (.ref (ad 2)) [.ref row]) Q E s := by
  obtain ⟨a, o, pm, cd, doc, h1, h2, h3, h4⟩ := G.T.fn _ dr2
  have e : a = ad 2 := by have := G.fn 2 (by decide); rw [h1] at this; cases this; rfl
  subst e
  have hb : bindArgs (Calls.docDef (dr 2).name (dr 2).params (dr 2).body (dr 2).scope pm cd doc) ⟨[.ref row], []⟩ = pure [(("grouping" : Str), Value.ref row)] := by kernel_rfl!
  refine wpAny_call (codeAny_call_generator (body := (dr 2).body) r.lt h2 h3 (by kernel_rfl!) (by kernel_rfl!) rfl h4 ?_)
  rw [hb]
  refine wpAny_pure (wpAny_newFunctionEnv ?_ ?_ (fun h₁ hns hsb => ⟨G.T.nolimit.fresh _ hsb, ?_⟩) (by kernel_rfl!))
  · show ∀ x ∈ (dr 2).scope.names, x.2 ≠ .cell
    have : ((dr 2).scope.names.all fun x => x.2 != .cell) = true := by kernel_rfl!
    intro x hx
    have := List.all_eq_true.mp this x hx
    simpa using this
  · intro x hx
    rw [List.mem_singleton.mp hx]
    show (dr 2).scope.names.lookup ("grouping" : Str) = some .local
    have : decide ((dr 2).scope.names.lookup ("grouping" : Str) = some .local) = true := by kernel_rfl!
    exact of_decide_eq_true this
  · have hsz : h₁.objs.size = s.heap.objs.size + 1 := by rw [hsb.1, Heap.size_push]
    refine h s.heap.objs.size cd h₁.objs.size h₁ _ _ _ _ (Nat.le_refl _) (by rw [hsz]; exact Nat.lt_succ_self _) (Heap.size_push _ _) ⟨hns, fun b o e => hsb.extBut b o (Nat.ne_of_lt (Heap.lt_size e)) (Heap.get?_push_of_some _ e), Nat.le_refl _⟩
      (fun b o e => Heap.get?_push_of_some _ e) ?_ (Heap.get?_push_size _ rfl) rfl
    cases e : s.heap.get? h₁.objs.size with
    | none => rfl
    | some o => have := Heap.lt_size e; rw [hsz] at this; exact absurd this (Nat.not_lt.mpr (Nat.le_succ _))
end
end Mine
-- text G4
namespace Mine
theorem fresh_G4 : True := by w_top off; trivial
section
variable {prog : Program} {w : World} {mean : ExcName → Option Value} {mg mb : Str → Option Value} {ad : Nat → Addr} {A : Around} {R : GenEnd} {n : Nat} {s₀ s : Shared} {C N rw : Addr} {cd : Value} {h₀ : Heap} {V : Nat → Option Int} {m : Str → Option Value} {items : Array Value}
/-- what lies below the for in the generator -/
structure Below (prog : Program) (w : World) (ad : Nat → Addr) (A : Around) (R : GenEnd) (C N : Addr) (cd : Value) (h₀ : Heap) (V : Nat → Option Int) (fs : List Frame) : Prop where
  split : splitAtGen fs = none
  guard : fs.any Frame.guarded = false
  hand : ∀ I px, A.handled = none → (A.over (gCode ad C cd I px) fs).handled = none
  next : ∀ {n s₀ s c}, R n s₀ (.ok (.ret .none)) s → Seg (model prog w) A R (gYo C N h₀ V) n s₀ c (.pure (.done .next)) fs s
  ret : ∀ {n s₀ s c}, R n s₀ (.ok (.ret .none)) s → Seg (model prog w) A R (gYo C N h₀ V) n s₀ c (.pure (.done (.ret .none))) fs s
  frames : ∀ I px outer, A.frames = some outer → (A.over (gCode ad C cd I px) fs).frames = some (gEnv ad C cd :: outer)
  err : ∀ {S hb n s₀ s c e X}, Held S hb s.heap e X (rawInt C) → (∀ h', Held S hb h' e X .none → R n s₀ (.error (.ref e)) { s with heap := h' }) → Seg (model prog w) A R (gYo C N h₀ V) n s₀ c (.raise (.ref e)) fs s
/-- the generator begins -/
theorem gen_begin (G : GG w mean mg mb ad h₀) (hl : h₀.IsList rw items) (F : Fr h₀ C s.heap m) (hm : m "grouping" = some (.ref rw)) (hCN : C < N) (hN : N ≤ s.heap.objs.size) (h0N : h₀.objs.size ≤ N) (sn : Since C N h₀ s₀ s)
    (next : ∀ fs I px m' s', Below prog w ad A R C N cd h₀ V fs → Fr h₀ C s'.heap m' → m' "last_interval" = some .none → s'.heap.IsListIter I rw 0 → N ≤ I → Since C N h₀ s₀ s' → Seg (model prog w) A R (gYo C N h₀ V) n s₀ (gCode ad C cd I px) ((model prog w).den (gCode ad C cd I px)) fs s') :
    Seg (model prog w) A R (gYo C N h₀ V) n s₀ (.func (dr 2).body (gEnv ad C cd)) ((model prog w).den (.func (dr 2).body (gEnv ad C cd))) [] s := by
  have hg := G.T.g
  refine seg_func ?_
  refine seg_stmt ?_
  repeat' (first | refine wpAny_storeName_local rfl F.ns (fun h₃ hn₃ sb₃ => ?_) rfl | walk1 | dsimp only)
  have F₃ := F.set hn₃ sb₃
  refine seg_cons (seg_For ?_)
  repeat' ((fail_if_success (with_reducible show wpAny _ _ (pyIter _) _ _ _)); (first | walk1 | dsimp only))
  refine wpAny_pyIter_list (hl.at fun o e => F₃.keep _ o e) fun p => ?_
  refine next _ h₃.objs.size _ _ _ ⟨rfl, rfl, fun I px h => ?_, fun {n s₀ s c} hr => ?_, fun {n s₀ s c} hr => ?_, fun I px outer hfr => ?_, fun {S hb n s₀ s c e X} H hr => ?_⟩ (F₃.push _) (if_pos rfl) ⟨_, Heap.get?_push_size _ rfl, rfl, rfl⟩ ?_ ?_
  · show (marksOver [_] (A.handled, A.handled)).1 = none
    rw [h]; rfl
  · show Seg _ A R _ n s₀ c (leafOf (.ok .next)) _ s
    refine seg_leaf (.ok .next) ?_
    rw [own_ok]
    refine seg_execs_nil ?_
    exact seg_end (.ok (.ret .none)) hr
  · show Seg _ A R _ n s₀ c (leafOf (.ok (.ret .none))) _ s
    refine seg_leaf (.ok (.ret .none)) ?_
    rw [own_ok]
    exact seg_end (.ok (.ret .none)) hr
  · unfold Around.over
    dsimp only
    rw [hfr]
    rfl
  · show Seg _ A R _ n s₀ c (leafOf (.error (.ref e))) _ s
    refine seg_leaf (.error (.ref e)) ?_
    refine seg_wrap (wpAny_onRaise (wpAny_throw ?_))
    refine held_back (env := gEnv ad C cd) (L := C) (E := fun x s' => Seg (model prog w) A R (gYo C N h₀ V) n s₀ (.func (dr 2).body (gEnv ad C cd)) ((leaving (gEnv ad C cd) x).wrap (fun _ => .raise x) .raise id id) [] s') rfl H fun h1 H1 => ?_
    refine seg_wrap ?_
    unfold leaving
    refine wpAny_bind (note_again rfl H1 (held_setFlight H1 fun h2 H2 => ?_))
    exact seg_end (.error (.ref e)) (hr _ H2)
  · have : h₃.objs.size = s.heap.objs.size := sb₃.1
    rw [this]; exact hN
  · refine sn.step (fun b o hb hn e => Heap.get?_push_of_some _ (sb₃.extBut _ _ hb e)) ?_
    exact (F₃.push _).keep
/-- what the generator yields -/
noncomputable def gV (kind : Nat) (a b : Int) (n : Nat) : Option Int := if n = 2 then some a else if n = 1 then some b else if kind < 2 then some b else none
noncomputable abbrev gR (kind : Nat) (C N : Addr) (h₀ : Heap) : GenEnd := fun n s₀ r s => r = .ok (.ret .none) ∧ n = 1 ∧ ¬ kind < 2 ∧ Since C N h₀ s₀ s
theorem gen_seg {a b : Int} {ta tb : Tok} {kind : Nat} (G : GG w mean mg mb ad h₀) (hh : A.handled = none) (hl : h₀.IsList rw items) (i0 : items[0]? = some (.int a ta)) (i1 : items[1]? = some (.int b tb)) (ha : a ≠ 127 ∧ a ≠ 0) (hb : b ≠ 127 ∧ b ≠ 0)
    (i2 : (kind < 2 ∧ ∃ t, items[2]? = some (.int 0 t)) ∨ (¬ kind < 2 ∧ ((∃ t, items[2]? = some (.int 127 t)) ∨ items[2]? = none)))
    (F : Fr h₀ C s.heap m) (hm : m "grouping" = some (.ref rw)) (hCN : C < N) (hN : N ≤ s.heap.objs.size) (h0N : h₀.objs.size ≤ N) (k : Keeps h₀ s.heap) :
    Seg (model prog w) A (gR kind C N h₀) (gYo C N h₀ (gV kind a b)) 3 s (.func (dr 2).body (gEnv ad C cd)) ((model prog w).den (.func (dr 2).body (gEnv ad C cd))) [] s := by
  refine gen_begin G hl F hm hCN hN h0N (Since.refl k) fun fs I px m' s' B F' hm' it hI sn => ?_
  refine turn_yieldo G hh hl i0 ha.1 ha.2 B.split B.guard (B.hand I px hh) F' it hI hCN h0N sn rfl fun _ s'' s₃ m₃ sn₃ F₃ hm₃ it₃ => ?_
  refine turn_yieldo G hh hl i1 hb.1 hb.2 B.split B.guard (B.hand I px hh) F₃ it₃ hI hCN h0N sn₃ rfl fun _ s4 s5 m5 sn5 F5 hm5 it5 => ?_
  rcases i2 with ⟨hk, t, i2⟩ | ⟨hk, ⟨t, i2⟩ | i2⟩
  · exact turn_zeroo G hh hl i2 B.split B.guard F5 hm5 it5 hI hCN h0N sn5 (if_pos hk)
  · exact turn_stopo G hh hl i2 F5 it5 hI hCN h0N sn5 fun s6 sn6 => B.ret ⟨rfl, rfl, hk, sn6⟩
  · exact turn_endo hl (B.hand I px hh) i2 F5 it5 hI hCN h0N sn5 fun s6 sn6 => B.next ⟨rfl, rfl, hk, sn6⟩
end
end Mine
-- text G5
namespace Mine
theorem fresh_G5 : True := by w_top off; trivial
theorem setGen_push {s : Shared} {x y : GenState} : ({ s with gens := s.gens.push x } : Shared).setGen s.gens.size y = { s with gens := s.gens.push y } := by
  unfold Shared.setGen
  congr 1
  apply Array.toList_inj.mp
  simp [Array.toList_setIfInBounds]
theorem setGen_pushed {h : Heap} {g : Array GenState} {d : Drawn} {tk : Nat} {os : OsState} {x y : GenState} : (⟨h, g.push x, d, tk, os⟩ : Shared).setGen g.size y = ⟨h, g.push y, d, tk, os⟩ := setGen_push (s := ⟨h, g, d, tk, os⟩)
inductive AmInv (prog : Program) (w : World) (ad : Nat → Addr) (A : Around) (s : Shared) (cd : Value) (L D C aG : Addr) (kind : Nat) (a b : Int) (k : Nat) (s' : Shared) : Prop
  | mk (h : Heap) (tk : Nat) (m : Str → Option Value) (ys : List Value) (gs : GenState) (e0 : s' = { s with heap := h, toks := tk, gens := s.gens.push gs }) (e1 : 1 ≤ k) (e2 : k ≤ 3) (e3 : gs.bare = true)
      (e4 : ∀ s'' : Shared, (∀ b o, b ≠ L → b ≠ D → h.get? b = some o → s''.heap.get? b = some o) → Keeps s.heap s''.heap → gs.Goes (model prog w) (A.deeper (envOf (nm 19) (dr 19).scope L (ad 19) cd)).in1 (gR kind C (aG + 1) s.heap) (gYo C (aG + 1) s.heap (gV kind a b)) k (.send .none) s'')
      (e5 : Fr s.heap L h m) (e6 : m "amounts" = some (.ref D)) (e7 : h.get? D = some { cls := .type "list", data := .seq (List.toArray ys) ys.length }) (e8 : IntsAre ys ([a, b, b].take (3 - k))) (e9 : h.IsGen aG s.gens.size) (e10 : h.NoLimit) : AmInv prog w ad A s cd L D C aG kind a b k s'
section
variable {prog : Program} {w : World} {mean : ExcName → Option Value} {mg mb : Str → Option Value} {ad : Nat → Addr} {A : Around} {s : Shared} {Q E : Value → Shared → Prop}
/-- the sizes that are told -/
noncomputable def toldL (kind : Nat) (a b : Int) : List Int := if kind < 2 then [a, b, b] else [a, b]
theorem c_amounts {a b : Int} {ta tb t0 : Tok} {row : Addr} {items : Array Value} {kind : Nat} {u : Tok} (G : GG w mean mg mb ad s.heap) (r : Rm 3 A) (hl : s.heap.IsList row items) (i0 : items[0]? = some (.int a ta)) (i1 : items[1]? = some (.int b tb))
    (ha : a ≠ 127 ∧ a ≠ 0) (hb : b ≠ 127 ∧ b ≠ 0) (i2 : (kind < 2 ∧ ∃ t, items[2]? = some (.int 0 t)) ∨ (¬ kind < 2 ∧ ((∃ t, items[2]? = some (.int 127 t)) ∨ items[2]? = none)))
    (hQ : ∀ h' t' D ys gs, Keeps s.heap h' → s.heap.get? D = none → h'.IsList D (List.toArray ys) → IntsAre ys (toldL kind a b) → gs.bare = true → Q (.ref D) { s with heap := h', toks := t', gens := s.gens.push gs }) :
    wpAny (model prog w) A (call (.ref (ad 19)) [.ref row]) Q E s := by
  obtain ⟨oR, hoR, hcR, cnR, hdR⟩ := hl
  refine enter (i := 19) (binds := [("row", .ref row)]) dr19 G (by decide) rfl r (fun _ _ _ => by kernel_rfl!) (by kernel_rfl!) (by kernel_rfl!) fun L cd h₁ F N r' => ?_
  have hg := G.T.g
  have hb' := G.T.b
  obtain ⟨l1, l2⟩ := G.len
  have h2 : mg "_grouping_intervals" = some (.ref (ad 2)) := G.fn 2 (by decide)
  obtain ⟨o2, f2, q2, e2⟩ := G.obj (i := 2) dr2 (by decide)
  repeat' ((fail_if_success (with_reducible show wpAny _ _ (exec (.For _ _ _ _ _) _) _ _ _)); walk_at "w")
  refine wpAny_For ?_
  repeat' ((fail_if_success (with_reducible show wpAny _ _ (call (.ref _) _) _ _ _)); walk_at "w")
  rename Fr s.heap L _ _ => F₁
  rename News s.heap L _ _ => N₁
  generalize hD : h₁.objs.size = D at *
  refine call_gen (n := 1) (G.keeps F₁.keep) r' fun C cd' aG h₃ h₄ tk nmv qn hC hCa hsz FC k₄ han hgen h3sz => ?_
  dsimp only at hC FC han hgen ⊢
  have hig : Heap.IsGen h₄ aG s.gens.size := ⟨_, nmv, qn, hgen, rfl, rfl, rfl⟩
  refine wpAny_pyIter_gen hig ?_
  have hLC : L < C := Nat.lt_of_lt_of_le F₁.ns.lt hC
  have hDC : D < C := Nat.lt_of_lt_of_le (Heap.lt_size (N₁.get (.head _))) hC
  have hLD : D ≠ L := (N₁ _ (.head _)).2.1
  have hD0 : s.heap.get? D = none := (N₁ _ (.head _)).2.2
  have k₄' : Keeps _ h₄ := fun b o e => k₄ b o (FC.keep b o e)
  have F₄ : Fr s.heap L h₄ _ := F₁.keeps k₄'
  have hsC : s.heap.objs.size ≤ C := Nat.le_of_lt (Nat.lt_of_le_of_lt F₁.above hLC)
  refine codeAny_forLoop (AmInv prog w ad A s cd L D C aG kind a b) ?_ 3 ?_
  · rintro k s' ⟨h, tk, m, ys, gs, rfl, hk1, hk3, hbare, goes, F, hm, hDo, hys, hig, hlim⟩
    have hgs : (s.gens.push gs)[s.gens.size]? = some gs := by simp
    refine pyNextG (g := s.gens.size) (gs := gs) (n := k) r'.2.2 hlim r'.lt hig hgs (goes _ (fun _ _ _ _ e => e) F.keep) (fun v s₁ gs' hb' hY => ?_) (fun r₁ s₁ hR => ?_)
    · rw [setGen_pushed] at hY
      obtain ⟨⟨x, tx, hV, rfl⟩, ⟨h5, tk5, rfl, k5, hk5⟩, kap⟩ := hY
      dsimp only
      rw [setGen_pushed]
      have F5 : Fr s.heap L h5 m := ⟨F.ns.at' fun o e => hk5 _ o (Nat.ne_of_lt hLC) (Nat.lt_trans hLC (Nat.lt_succ_of_lt hCa)) e, k5, F.above⟩
      have hD5 := hk5 _ _ (Nat.ne_of_lt hDC) (Nat.lt_trans hDC (Nat.lt_succ_of_lt hCa)) hDo
      have hig5 : h5.IsGen aG s.gens.size := by
        obtain ⟨o, nm', qn', ho, r⟩ := hig
        exact ⟨o, nm', qn', hk5 _ _ (Nat.ne_of_gt hCa) (Nat.lt_succ_self _) ho, r⟩
      refine wpAny_assign_Name (wpAny_storeName_local rfl F5.ns (fun h6 hn6 sb6 => ?_) rfl)
      have F6 := F5.set hn6 sb6
      have hD6 := sb6.extBut _ _ hLD hD5
      have hz : (if ("amounts" : Str) = "size" then some (Value.int x tx) else m "amounts") = some (.ref D) := (if_neg (by decide)).trans hm
      have hylen := hys.length
      clear F5 hn6
      repeat' ((fail_if_success (with_reducible show wpAny _ _ (getMethod _ _ _) _ _ _)); walk_at "w")
      refine Calls.getMethod_list_append hD6 rfl rfl ?_
      repeat' ((fail_if_success (with_reducible show wpAny _ _ (call (.builtin "list.append") _) _ _ _)); walk_at "w")
      have hylen' : ys.length = min (3 - k) 3 := by rw [hylen, List.length_take]; rfl
      refine append_at hD6 (fun h7 hs7 ho7 => ?_) (by rw [List.size_toArray]; exact Nat.le_trans (by omega : ys.length ≤ 1000) (by decide))
      have e7 : ys.toArray.push (.int x tx) = (ys ++ [Value.int x tx]).toArray := by simp
      rw [e7] at ho7
      have F7 : Fr s.heap L h7 _ := ⟨F6.ns.at' fun o e => hs7.extBut _ _ hLD.symm e, fun b o e => hs7.extBut _ _ (by rintro rfl; rw [hD0] at e; cases e) (F6.keep b o e), F6.above⟩
      have keep7 : ∀ b o, b ≠ L → b ≠ D → h5.get? b = some o → h7.get? b = some o := fun b o h1 h2 e => hs7.extBut _ _ h2 (sb6.extBut _ _ h1 e)
      clear F F6 F₄ F₁
      repeat' ((fail_if_success (with_reducible show wpAny _ _ (call (.builtin "len") _) _ _ _)); walk_at "w")
      refine Calls.call_len_list (l := D) ⟨_, ho7, rfl, _, rfl⟩ (by rw [List.size_toArray, List.length_append]; simp; omega) ?_
      rw [List.size_toArray, List.length_append, List.length_singleton]
      repeat' (walk_at "w")
      · rename ((_ : Nat) : Int) = 3 => h3
        have hk : k = 1 := by omega
        subst hk
        have hkn : kind < 2 := by
          by_cases q : kind < 2
          · exact q
          · simp [gV, q] at hV
        have hx : x = b := by simp [gV, hkn] at hV; exact hV.symm
        rename Fr s.heap L _ _ => F8
        refine hQ _ _ D _ gs' F8.keep hD0 ⟨_, ho7, rfl, _, rfl⟩ ?_ hb'
        rw [toldL, if_pos hkn, hx]
        exact hys.append (.cons _ _ .nil)
      · rename ((_ : Nat) : Int) ≠ 3 => h3
        have hk : k = 3 ∨ k = 2 := by omega
        rename Fr s.heap L _ _ => F8
        rcases hk with rfl | rfl
        · have hx : x = a := by simp [gV] at hV; exact hV.symm
          refine ⟨2, by decide, h7, _, _, ys ++ [.int x tx], gs', rfl, by decide, by decide, hb', fun s'' hal hk => kap (by decide) s'' (fun b o hb e => hal b o ?_ ?_ (keep7 b o ?_ ?_ e)) hk, F8, by walk_at "mi", by rw [ho7]; simp, by rw [hx]; exact hys.append (.cons _ _ .nil), ?_, (G.keeps F8.keep).T.nolimit⟩
          · rcases hb with rfl | hb
            · exact Nat.ne_of_gt hLC
            · exact Nat.ne_of_gt (Nat.lt_of_lt_of_le (Nat.lt_trans hLC (Nat.lt_succ_of_lt hCa)) hb)
          · rcases hb with rfl | hb
            · exact Nat.ne_of_gt hDC
            · exact Nat.ne_of_gt (Nat.lt_of_lt_of_le (Nat.lt_trans hDC (Nat.lt_succ_of_lt hCa)) hb)
          · rcases hb with rfl | hb
            · exact Nat.ne_of_gt hLC
            · exact Nat.ne_of_gt (Nat.lt_of_lt_of_le (Nat.lt_trans hLC (Nat.lt_succ_of_lt hCa)) hb)
          · rcases hb with rfl | hb
            · exact Nat.ne_of_gt hDC
            · exact Nat.ne_of_gt (Nat.lt_of_lt_of_le (Nat.lt_trans hDC (Nat.lt_succ_of_lt hCa)) hb)
          · obtain ⟨o, nm', qn', ho, r⟩ := hig5
            exact ⟨o, nm', qn', keep7 _ _ (Nat.ne_of_gt (Nat.lt_trans hLC hCa)) (Nat.ne_of_gt (Nat.lt_trans hDC hCa)) ho, r⟩
        · have hx : x = b := by simp [gV] at hV; exact hV.symm
          refine ⟨1, by decide, h7, _, _, ys ++ [.int x tx], gs', rfl, by decide, by decide, hb', fun s'' hal hk => kap (by decide) s'' (fun b o hb e => hal b o ?_ ?_ (keep7 b o ?_ ?_ e)) hk, F8, by walk_at "mi", by rw [ho7]; simp, by rw [hx]; exact hys.append (.cons _ _ .nil), ?_, (G.keeps F8.keep).T.nolimit⟩
          · rcases hb with rfl | hb
            · exact Nat.ne_of_gt hLC
            · exact Nat.ne_of_gt (Nat.lt_of_lt_of_le (Nat.lt_trans hLC (Nat.lt_succ_of_lt hCa)) hb)
          · rcases hb with rfl | hb
            · exact Nat.ne_of_gt hDC
            · exact Nat.ne_of_gt (Nat.lt_of_lt_of_le (Nat.lt_trans hDC (Nat.lt_succ_of_lt hCa)) hb)
          · rcases hb with rfl | hb
            · exact Nat.ne_of_gt hLC
            · exact Nat.ne_of_gt (Nat.lt_of_lt_of_le (Nat.lt_trans hLC (Nat.lt_succ_of_lt hCa)) hb)
          · rcases hb with rfl | hb
            · exact Nat.ne_of_gt hDC
            · exact Nat.ne_of_gt (Nat.lt_of_lt_of_le (Nat.lt_trans hDC (Nat.lt_succ_of_lt hCa)) hb)
          · obtain ⟨o, nm', qn', ho, r⟩ := hig5
            exact ⟨o, nm', qn', keep7 _ _ (Nat.ne_of_gt (Nat.lt_trans hLC hCa)) (Nat.ne_of_gt (Nat.lt_trans hDC hCa)) ho, r⟩
    · rw [setGen_pushed] at hR
      obtain ⟨rfl, rfl, hkn, ⟨h5, tk5, rfl, k5, hk5⟩⟩ := hR
      refine .inl ⟨rfl, fun h' hk' => ?_⟩
      dsimp only
      rw [setGen_pushed]
      dsimp only at hk' ⊢
      have F5 : Fr s.heap L h' m := ⟨F.ns.at' fun o e => hk' _ _ (hk5 _ o (Nat.ne_of_lt hLC) (Nat.lt_trans hLC (Nat.lt_succ_of_lt hCa)) e), fun b o e => hk' _ _ (k5 b o e), F.above⟩
      have hD5 := hk' _ _ (hk5 _ _ (Nat.ne_of_lt hDC) (Nat.lt_trans hDC (Nat.lt_succ_of_lt hCa)) hDo)
      clear F F₄ F₁
      repeat' (walk_at "w")
      rename Fr s.heap L _ _ => F6
      refine hQ _ _ D ys .finished F6.keep hD0 ⟨_, hD5, rfl, _, rfl⟩ ?_ rfl
      rw [toldL, if_neg hkn]
      exact hys
  · refine ⟨h₄, tk, _, [], _, rfl, by decide, by decide, rfl, fun s'' hal hk => ⟨rfl, ?_⟩, F₄, by walk_at "mi", k₄' _ _ (N₁.get (.head _)), .nil, hig, (G.keeps F₄.keep).T.nolimit⟩
    have hLa : L < aG := Nat.lt_trans hLC hCa
    have hDa : D < aG := Nat.lt_trans hDC hCa
    have FC' : Fr s.heap C s''.heap _ := ⟨FC.ns.at' fun o e => hal _ _ (Nat.ne_of_gt hLC) (Nat.ne_of_gt hDC) (k₄ _ _ e), hk, hsC⟩
    refine gen_seg G r'.2.2 ⟨oR, hoR, hcR, cnR, hdR⟩ i0 i1 ha hb i2 FC' rfl (Nat.lt_succ_of_lt hCa) (Heap.lt_size (hal _ _ (Nat.ne_of_gt hLa) (Nat.ne_of_gt hDa) hgen)) (Nat.le_trans hsC (Nat.le_succ_of_le (Nat.le_of_lt hCa))) hk
end
end Mine
-- text G6
namespace Mine
theorem fresh_G6 : True := by w_top off; trivial
section
variable {prog : Program} {w : World} {mean : ExcName → Option Value} {mg mb : Str → Option Value} {ad : Nat → Addr} {A : Around} {R : GenEnd} {n : Nat} {s₀ s : Shared} {C N I rw : Addr} {cd : Value} {h₀ : Heap} {V : Nat → Option Int} {fs : List Frame} {m : Str → Option Value} {items : Array Value}
/-- the turn that finds nought first: ValueError -/
theorem turn_raise {i : Nat} {tz : Tok} {px : Pos} {S : List Addr} {outer : List Env} (G : GG w mean mg mb ad h₀) (hh : A.handled = none) (hl : h₀.IsList rw items) (hv : items[i]? = some (.int 0 tz)) (B : Below prog w ad A R C N cd h₀ V fs)
    (F : Fr h₀ C s.heap m) (hm : m "last_interval" = some .none) (it : s.heap.IsListIter I rw i) (hI : N ≤ I) (hCI : C < N) (hN : h₀.objs.size ≤ N) (sn : Since C N h₀ s₀ s)
    (hfr : A.frames = some outer) (hfs : ∀ h', (∀ b o, b ≠ C → b < N → s.heap.get? b = some o → h'.get? b = some o) → Fs h' outer) (hS : ∀ b ∈ sOf (gEnv ad C cd :: outer), b ∈ S)
    (hR : ∀ e hx h' tk tk', Held S hx h' e "ValueError" .none → Since C N h₀ s₀ { s₀ with heap := hx, toks := tk } → R n s₀ (.error (.ref e)) { s₀ with heap := h', toks := tk' }) :
    Seg (model prog w) A R (gYo C N h₀ V) n s₀ (gCode ad C cd I px) ((model prog w).den (gCode ad C cd I px)) fs s := by
  have hg := G.T.g
  have hb := G.T.b
  obtain ⟨tc, hc⟩ := G.charMax
  obtain ⟨v1, v2⟩ := G.ValueError
  refine seg_forTurn (wpAny_pyNext_list_item it (hl.at fun o e => F.keep _ o e) hv fun h' it' sb => ?_)
  have F' : Fr h₀ C h' m := fr_iter (a := 0) (b := 0) F sb hCI hI hN
  refine wpAny_assign_Name (wpAny_storeName_local rfl F'.ns (fun h₁ hn₁ sb₁ => ?_) rfl)
  have F₁ := F'.set hn₁ sb₁
  have kp : ∀ b o, b ≠ C → b < N → s.heap.get? b = some o → h₁.get? b = some o := fun b o hb hn e => sb₁.extBut _ _ hb (sb.extBut _ _ (Nat.ne_of_lt (Nat.lt_of_lt_of_le hn hI)) e)
  have sn₁ : ∀ tk, Since C N h₀ s₀ { s with heap := h₁, toks := tk } := fun tk => sn.step kp F₁.keep
  refine seg_cons (seg_If ?_)
  repeat' (first | walk1 | dsimp only)
  refine seg_execs_nil ?_
  dsimp only
  refine seg_cons (seg_If ?_)
  repeat' (first | walk1 | dsimp only)
  refine seg_cons (seg_If ?_)
  repeat' (first | refine ld F₁ ((if_neg (by decide)).trans hm) ?_ | walk1 | dsimp only)
  refine seg_stmt ?_
  refine Raise_madeB PySem.F.excCall_ValueError PySem.F.excRaise_ValueError (B.hand I px hh) ?_
  repeat' (first | walk1 | dsimp only)
  rename Heap.MadeExc _ _ _ _ _ => hx
  obtain ⟨ob, tp, he, hcls, hd⟩ := hx.newExc.there
  have fs' : Fs _ (gEnv ad C cd :: outer) := Fs.cons (hfs _ fun b o hb hn e => hx.keeps _ _ (kp b o hb hn e)) (F₁.ns.keeps hx.keeps) (by kernel_rfl!)
  refine seg_wrap (wpAny_bind (note_new (S := S) (h₀ := h₁) (B.frames I px outer hfr) rfl fs' hS (Kf.of_keeps hx.keeps) hx.new he hcls hd rfl fun h2 H2 => ?_))
  refine wpAny_theTreesLotGoes ?_
  refine B.err H2 fun h3 H3 => ?_
  have sn₂ := sn₁ 0
  obtain ⟨hs, tks, rfl, _⟩ := sn
  exact hR _ h₁ h3 0 _ H3 sn₂
end
end Mine
-- text G7
namespace Mine
theorem fresh_G7 : True := by w_top off; trivial
theorem none_of_keeps {h h' : Heap} {b : Addr} (k : Keeps h h') (e : h'.get? b = none) : h.get? b = none := by
  cases q : h.get? b with
  | none => rfl
  | some o => rw [k _ _ q] at e; cases e
theorem Held.rebase {S : List Addr} {h h₀ h' : Heap} {e : Addr} {X : String} {fl : Value} (H : Held S h₀ h' e X fl) (k : Keeps h h₀) : Held S h h' e X fl := by
  obtain ⟨kf, new, ob, vs, tb, otb, tvs, he, hc, hd, h1, ht, htd, h3, hne, tnew⟩ := H
  exact ⟨(Kf.of_keeps k).trans kf, none_of_keeps k new, ob, vs, tb, otb, tvs, he, hc, hd, h1, ht, htd, h3, hne, none_of_keeps k tnew⟩
theorem Fs.there {h : Heap} {l : List Env} (f : Fs h l) {b : Addr} (hb : b ∈ sOf l) : ∃ o, h.get? b = some o := by
  obtain ⟨_, o, ho, _⟩ := f.mem hb
  exact ⟨o, ho⟩
section
variable {prog : Program} {w : World} {mean : ExcName → Option Value} {mg mb : Str → Option Value} {ad : Nat → Addr} {A : Around} {s : Shared} {Q E : Value → Shared → Prop}
noncomputable abbrev gRx (S : List Addr) (C N : Addr) (h₀ : Heap) : GenEnd := fun _ s₀ r s => ∃ e hx h' tk tk', r = .error (.ref e) ∧ Held S hx h' e "ValueError" .none ∧ Since C N h₀ s₀ { s₀ with heap := hx, toks := tk } ∧ s = { s₀ with heap := h', toks := tk' }
theorem c_amounts_raise {tz : Tok} {row : Addr} {items : Array Value} {outer : List Env} (G : GG w mean mg mb ad s.heap) (r : Rm 3 A) (hl : s.heap.IsList row items) (i0 : items[0]? = some (.int 0 tz)) (hfr : A.frames = some outer) (hfs : Fs s.heap outer)
    (hE : ∀ e h' t' gs, Held (sOf outer) s.heap h' e "ValueError" .none → gs.bare = true → E (.ref e) { s with heap := h', toks := t', gens := s.gens.push gs }) :
    wpAny (model prog w) A (call (.ref (ad 19)) [.ref row]) Q E s := by
  obtain ⟨oR, hoR, hcR, cnR, hdR⟩ := hl
  refine enterX (i := 19) (binds := [("row", .ref row)]) dr19 G (by decide) rfl r (fun _ _ _ => by kernel_rfl!) (by kernel_rfl!) (by kernel_rfl!) fun L cd h₁ hL0 F N r' => ?_
  have hg := G.T.g
  have hb' := G.T.b
  obtain ⟨l1, l2⟩ := G.len
  have h2 : mg "_grouping_intervals" = some (.ref (ad 2)) := G.fn 2 (by decide)
  obtain ⟨o2, f2, q2, e2⟩ := G.obj (i := 2) dr2 (by decide)
  repeat' ((fail_if_success (with_reducible show wpAny _ _ (exec (.For _ _ _ _ _) _) _ _ _)); walk_at "w")
  refine wpAny_For ?_
  repeat' ((fail_if_success (with_reducible show wpAny _ _ (call (.ref _) _) _ _ _)); walk_at "w")
  rename Fr s.heap L _ _ => F₁
  refine call_gen (n := 1) (G.keeps F₁.keep) r' fun C cd' aG h₃ h₄ tk nmv qn hC hCa hsz FC k₄ han hgen h3sz => ?_
  dsimp only at hC FC han hgen ⊢
  have hig : Heap.IsGen h₄ aG s.gens.size := ⟨_, nmv, qn, hgen, rfl, rfl, rfl⟩
  refine wpAny_pyIter_gen hig ?_
  have hLC : L < C := Nat.lt_of_lt_of_le F₁.ns.lt hC
  have k₄' : Keeps _ h₄ := fun b o e => k₄ b o (FC.keep b o e)
  have F₄ : Fr s.heap L h₄ _ := F₁.keeps k₄'
  have hsC : s.heap.objs.size ≤ C := Nat.le_of_lt (Nat.lt_of_le_of_lt F₁.above hLC)
  have hC0 : s.heap.get? C = none := by
    cases q : s.heap.get? C with
    | none => rfl
    | some o => exact absurd (Heap.lt_size q) (Nat.not_lt.mpr hsC)
  have hfr' : (A.deeper (envOf (nm 19) (dr 19).scope L (ad 19) cd)).frames = some (envOf (nm 19) (dr 19).scope L (ad 19) cd :: outer) := Around.frames_deeper hfr
  refine codeAny_forLoop (fun k s' => s' = { s with heap := h₄, toks := tk, gens := s.gens.push (.fresh (.func (dr 2).body (gEnv ad C cd'))) }) ?_ 1 rfl
  rintro k s' rfl
  have hgs : (s.gens.push (.fresh (.func (dr 2).body (gEnv ad C cd'))))[s.gens.size]? = some (.fresh (.func (dr 2).body (gEnv ad C cd'))) := by simp
  refine pyNextG (g := s.gens.size) (n := 1) (R := gRx (C :: L :: sOf outer) C (aG + 1) s.heap) (Y := gYo C (aG + 1) s.heap (fun _ => none)) r'.2.2 (G.keeps F₄.keep).T.nolimit r'.lt hig hgs ⟨rfl, ?_⟩ (fun v s₁ gs' hb' hY => ?_) (fun r₁ s₁ hR => ?_)
  · have FC' : Fr s.heap C h₄ _ := ⟨FC.ns.keeps k₄, F₄.keep, hsC⟩
    refine gen_begin (s := Shared.setGen _ _ _) G ⟨oR, hoR, hcR, cnR, hdR⟩ FC' rfl (Nat.lt_succ_of_lt hCa) (Heap.lt_size hgen) (Nat.le_trans hsC (Nat.le_succ_of_le (Nat.le_of_lt hCa))) (Since.refl F₄.keep) fun fs I px m' s' B F' hm' it hI sn => ?_
    refine turn_raise (S := C :: L :: sOf outer) (outer := envOf (nm 19) (dr 19).scope L (ad 19) cd :: outer) G r'.2.2 ⟨oR, hoR, hcR, cnR, hdR⟩ i0 B F' hm' it hI (Nat.lt_succ_of_lt hCa) (Nat.le_trans hsC (Nat.le_succ_of_le (Nat.le_of_lt hCa))) sn hfr' (fun h' kh => ?_) (fun b hb => hb) (fun e hx h' tk tk' H sn' => ⟨e, hx, h', tk, tk', rfl, H, sn', rfl⟩)
    obtain ⟨hs, tks, rfl, ks, kks⟩ := sn
    have kh' : Keeps s.heap h' := fun b o e => by
      have lt := Nat.lt_of_lt_of_le (Heap.lt_size e) hsC
      exact kh b o (Nat.ne_of_lt lt) (Nat.lt_trans lt (Nat.lt_succ_of_lt hCa)) (ks b o e)
    refine Fs.cons (hfs.kf (S := []) (Kf.of_keeps kh')) (F₄.ns.at' fun o e => kh _ o (Nat.ne_of_lt hLC) (Nat.lt_trans hLC (Nat.lt_succ_of_lt hCa)) (kks _ o (Nat.ne_of_lt hLC) (Nat.lt_trans hLC (Nat.lt_succ_of_lt hCa)) e)) rfl
  · obtain ⟨⟨x, tx, hV, _⟩, _⟩ := hY
    cases hV
  · obtain ⟨e, hx, h', tk1, tk2, rfl, H, ⟨hs, tks, es, ks, kks⟩, rfl⟩ := hR
    injection es with es1 es2 es3 es4 es5
    subst es1
    rw [setGen_pushed] at *
    obtain ⟨ob, _, _, _, _, he, hcls, _⟩ := H.there
    have haS : aG ∉ C :: L :: sOf outer := by
      intro hm
      rcases List.mem_cons.mp hm with q | hm
      · exact Nat.ne_of_gt hCa q
      · rcases List.mem_cons.mp hm with q | hm
        · exact Nat.ne_of_gt (Nat.lt_trans hLC hCa) q
        · obtain ⟨o, ho⟩ := hfs.there hm
          exact Nat.ne_of_gt (Nat.lt_of_lt_of_le (Heap.lt_size ho) (Nat.le_trans hsC (Nat.le_of_lt hCa))) rfl
    refine .inr ⟨e, ob, rfl, he, hcls, ?_, ?_⟩
    · obtain ⟨o, nm', qn', ho, rr⟩ := hig
      exact ⟨o, nm', qn', H.kf.1 _ _ haS (kks _ _ (Nat.ne_of_gt hCa) (Nat.lt_succ_self _) ho), rr⟩
    · have H1 : Held (L :: sOf outer) s.heap h' e "ValueError" .none := (H.rebase ks).drop hC0
      have nsL := ns_kf (F₄.ns.at' fun o e => kks _ o (Nat.ne_of_lt hLC) (Nat.lt_trans hLC (Nat.lt_succ_of_lt hCa)) e) H.kf
      have fs1 : Fs h' (envOf (nm 19) (dr 19).scope L (ad 19) cd :: outer) := Fs.cons (hfs.kf H1.kf) nsL rfl
      refine note_on hfr' rfl fs1 (fun b hb => hb) H1 fun h2 H2 => ?_
      refine held_back rfl H2 fun h3 H3 => ?_
      refine leave_held H3 hL0 fun h4 H4 => ?_
      have z := hE e h4 tk2 .finished H4 rfl
      simp only [setGen_pushed]
      exact z
theorem isExc_ValueError : isSubtype (.type "ValueError") (.type "BaseException") = pure true := by rw [isSubtype_type]; kernel_rfl
theorem self_ValueError : isSubtype (.type "ValueError") (.type "ValueError") = pure true := by rw [isSubtype_type]; kernel_rfl
theorem not_tuple_ValueError : isSubtype (.type ((Manifest.find? "ValueError").elim "type" fun x => x.metatype)) (.type "tuple") = pure false := by rw [isSubtype_type]; kernel_rfl
theorem c_refused {tz : Tok} {row : Addr} {items : Array Value} {outer : List Env} (G : GG w mean mg mb ad s.heap) (r : Rm 4 A) (hl : s.heap.IsList row items) (i0 : items[0]? = some (.int 0 tz)) (hfr : A.frames = some outer) (hfs : Fs s.heap outer)
    (hQ : ∀ h' t' gs, Kf (sOf outer) s.heap h' → gs.bare = true → Q (.bool true) { s with heap := h', toks := t', gens := s.gens.push gs }) :
    wpAny (model prog w) A (call (.ref (ad 20)) [.ref row]) Q E s := by
  obtain ⟨oR, hoR, hcR, cnR, hdR⟩ := hl
  refine enter (i := 20) (binds := [("row", .ref row)]) dr20 G (by decide) rfl r (fun _ _ _ => by kernel_rfl!) (by kernel_rfl!) (by kernel_rfl!) fun L cd h₁ F N r' => ?_
  have hg := G.T.g
  have hb := G.T.b
  obtain ⟨v1, v2⟩ := G.ValueError
  have h19 : mg "_law_amounts" = some (.ref (ad 19)) := G.fn 19 (by decide)
  obtain ⟨o19, f19, q19, e19⟩ := G.obj (i := 19) dr19 (by decide)
  repeat' ((fail_if_success (with_reducible show wpAny _ _ (exec (.Try _ _ _ _ _) _) _ _ _)); walk_at "w")
  refine wpAny_Try_except ?_
  repeat' ((fail_if_success (with_reducible show wpAny _ _ (call (.ref _) _) _ _ _)); walk_at "w")
  rename Fr s.heap L _ _ => F₁
  have hL0 : s.heap.get? L = none := by
    cases e : s.heap.get? L with
    | none => rfl
    | some o => exact absurd (Nat.lt_of_lt_of_le (Heap.lt_size e) F₁.above) (Nat.lt_irrefl _)
  have fs : Fs _ (envOf (nm 20) (dr 20).scope L (ad 20) cd :: outer) := Fs.cons (hfs.kf (S := []) (Kf.of_keeps F₁.keep)) F₁.ns rfl
  refine c_amounts_raise (G.keeps F₁.keep) r' ⟨oR, F₁.keep _ _ hoR, hcR, cnR, hdR⟩ i0 (Around.frames_deeper hfr) fs fun e h' t' gs H hbare => ?_
  refine note_on (Around.frames_deeper hfr) rfl (fs.kf H.kf) (fun b hb => hb) H fun h2 H2 => ?_
  refine held_setFlight H2 fun h4 H4 => ?_
  refine wpAny_handleBy_builtin (X := "ValueError") (T := "ValueError") (b := true) isExc_ValueError not_tuple_ValueError self_ValueError ?_
  refine ldb (ns_kf (hg.keeps F₁.keep) H4.kf) v1 (ns_kf (hb.keeps F₁.keep) H4.kf) v2 ⟨rfl, ?_, ?_⟩
  · obtain ⟨ob, _, _, _, _, he, hcls, _⟩ := H4.there
    exact ⟨ob, he, hcls⟩
  · rw [if_pos rfl]
    refine held_setFlight H4 fun h5 H5 => ?_
    repeat' (walk_at "w")
    refine hQ _ _ gs ?_ hbare
    have k5 : Kf (L :: sOf outer) s.heap h5 := ((Kf.of_keeps F₁.keep).trans H5.kf)
    exact k5.drop hL0
end
end Mine
-- text P5
namespace Mine
theorem fresh_P5 : True := by w_top off; trivial
-- the signs' tables
theorem shifted_none : ∀ {l : List (Nat × Nat × Nat)}, (l.all fun e => decide (e.2.1 < 19968) || decide (39968 ≤ e.1)) = true → ∀ {c : Nat}, 19968 ≤ c → c < 39968 → Unicode.shifted l c = none
  | [], _, _, _, _ => rfl
  | (a, b, t) :: r, h, c, h1, h2 => by
    rw [List.all_cons, Bool.and_eq_true] at h
    have ih := shifted_none h.2 h1 h2
    have h0 := h.1
    simp only [Bool.or_eq_true, decide_eq_true_eq] at h0
    unfold Unicode.shifted
    by_cases q : c < a
    · rw [if_pos q]
    · rw [if_neg q, if_neg (by omega)]
      exact ih
theorem lookup_none : ∀ {l : List (Nat × List Nat)}, (l.all fun e => decide (e.1 < 19968) || decide (39968 ≤ e.1)) = true → ∀ {c : Nat}, 19968 ≤ c → c < 39968 → l.lookup c = none
  | [], _, _, _, _ => rfl
  | (a, t) :: r, h, c, h1, h2 => by
    rw [List.all_cons, Bool.and_eq_true] at h
    have ih := lookup_none h.2 h1 h2
    have h0 := h.1
    simp only [Bool.or_eq_true, decide_eq_true_eq] at h0
    rw [List.lookup_cons]
    have : (c == a) = false := by simp; omega
    rw [this]
    exact ih
theorem t1 : (UnicodeData.oneLower.all fun e => decide (e.2.1 < 19968) || decide (39968 ≤ e.1)) = true := by kernel_rfl!
theorem t2 : (UnicodeData.severalLower.all fun e => decide (e.1 < 19968) || decide (39968 ≤ e.1)) = true := by kernel_rfl!
theorem t3 : (UnicodeData.oneUpper.all fun e => decide (e.2.1 < 19968) || decide (39968 ≤ e.1)) = true := by kernel_rfl!
theorem t4 : (UnicodeData.severalUpper.all fun e => decide (e.1 < 19968) || decide (39968 ≤ e.1)) = true := by kernel_rfl!
theorem t5 : (ents.all fun e => decide (e.1 < 19968) || decide (39968 ≤ e.1)) = true := by kernel_rfl!
theorem lowerOf_cjk {c : Nat} (h1 : 19968 ≤ c) (h2 : c < 39968) : Unicode.lowerOf c = [c] := by
  unfold Unicode.lowerOf Unicode.image
  rw [lookup_none t2 h1 h2, shifted_none t1 h1 h2]
  rfl
theorem upperOf_cjk {c : Nat} (h1 : 19968 ≤ c) (h2 : c < 39968) : Unicode.upperOf c = [c] := by
  unfold Unicode.upperOf Unicode.image
  rw [lookup_none t4 h1 h2, shifted_none t3 h1 h2]
  rfl
theorem placed_one (c : Nat) (f : Nat → Nat → List Nat) : placed (mkS [c]) f = (f 0 c).toArray := by
  unfold placed
  simp
theorem lower_one {c : Nat} (h : c ≠ 0x3A3) : Txt.lower (mkS [c]) = mkS (Unicode.lowerOf c) := by
  unfold Txt.lower
  rw [placed_one]
  have : Unicode.lowerAt (mkS [c]).cps 0 = Unicode.lowerOf c := by
    unfold Unicode.lowerAt
    show (if (c == 0x3A3 && _) = true then _ else _) = _
    rw [if_neg (by simp [h])]
    rfl
  rw [this]
theorem upper_S (l : List Nat) : Txt.upper (mkS l) = mkS (l.flatMap Unicode.upperOf) := by
  unfold Txt.upper placed
  apply congrArg Str.mk
  apply Array.toList_inj.mp
  show (Array.flatten (Array.mapIdx (fun _ c => (Unicode.upperOf c).toArray) l.toArray)).toList = l.flatMap Unicode.upperOf
  have e : Array.mapIdx (fun _ c => (Unicode.upperOf c).toArray) l.toArray = (l.map fun c => (Unicode.upperOf c).toArray).toArray := by
    apply Array.toList_inj.mp
    rw [Array.toList_mapIdx]
    apply List.ext_getElem
    · simp
    · intro i h1 h2
      simp
  rw [e, List.flatMap_def]
  simp [List.map_map]
  rfl
noncomputable def smalls : List Nat := 953 :: (List.range 26).map (97 + ·)
noncomputable def goodC (c : Nat) : Prop := c = 32 ∨ c ∈ smalls ∨ (19968 ≤ c ∧ c < 39968)
noncomputable def up (c : Nat) : Nat := if 97 ≤ c ∧ c ≤ 122 then c - 32 else if c = 953 then 921 else c
noncomputable def great (c : Nat) : Bool := (decide (65 ≤ c) && decide (c ≤ 90)) || c == 921
theorem smalls_up : (smalls.all fun c => Unicode.upperOf c == [up c] && great (up c) && (Unicode.lowerOf (up c) == Unicode.lowerOf c) && !great c && decide (up c ≠ 0x3A3) && decide (c ≠ 0x3A3)) = true := by kernel_rfl!
theorem up_32 : Unicode.upperOf 32 = [32] := by kernel_rfl!
theorem upperOf_good {c : Nat} (h : goodC c) : Unicode.upperOf c = [up c] := by
  rcases h with rfl | h | ⟨h1, h2⟩
  · exact up_32
  · have := List.all_eq_true.mp smalls_up c h
    simp only [Bool.and_eq_true, beq_iff_eq] at this
    exact this.1.1.1.1.1
  · rw [upperOf_cjk h1 h2]
    unfold up
    rw [if_neg (by omega), if_neg (by omega)]
theorem upper_good : ∀ {l : List Nat}, (∀ c ∈ l, goodC c) → Txt.upper (mkS l) = mkS (l.map up) := by
  intro l h
  rw [upper_S]
  congr 1
  induction l with
  | nil => rfl
  | cons a l ih =>
    rw [List.flatMap_cons, upperOf_good (h a (.head _)), ih fun c hc => h c (.tail _ hc)]
    rfl
theorem good_facts {c : Nat} (h : goodC c) : great c = false ∧ (up c ≠ c → great (up c) = true ∧ Txt.lower (mkS [up c]) = Txt.lower (mkS [c])) := by
  rcases h with rfl | h | ⟨h1, h2⟩
  · exact ⟨by decide, fun e => absurd rfl e⟩
  · have := List.all_eq_true.mp smalls_up c h
    simp only [Bool.and_eq_true, beq_iff_eq, Bool.not_eq_true', decide_eq_true_eq] at this
    obtain ⟨⟨⟨⟨⟨_, q1⟩, q2⟩, q3⟩, q4⟩, q5⟩ := this
    exact ⟨q3, fun _ => ⟨q1, by rw [lower_one q4, lower_one q5, q2]⟩⟩
  · refine ⟨by unfold great; simp; omega, fun e => absurd ?_ e⟩
    unfold up
    rw [if_neg (by omega), if_neg (by omega)]
-- what the signs mean
theorem readS_append (a b : List Nat) : readS (a ++ b) = readS a ++ readS b := by unfold readS; rw [List.filter_append, List.flatMap_append]
theorem readS_one (c : Nat) (h : unseen.contains c = false) : readS [c] = mapB3 c := by
  unfold readS
  rw [List.filter_cons, h]
  simp
theorem readS_unseen (c : Nat) (h : unseen.contains c = true) : readS [c] = [] := by
  unfold readS
  rw [List.filter_cons, h]
  simp
theorem mapB3_cjk {c : Nat} (h1 : 19968 ≤ c) (h2 : c < 39968) : mapB3 c = [c] := by
  unfold mapB3 b3
  have : ents.find? (fun e => e.1 == c) = none := by
    rw [List.find?_eq_none]
    intro x hx
    have := List.all_eq_true.mp t5 x hx
    simp only [Bool.or_eq_true, decide_eq_true_eq] at this
    simp; omega
  rw [this, lower_one (by omega), lowerOf_cjk h1 h2]
  rfl
/-- a pair as the law builds it -/
structure OkP (p : Nat × List Nat) : Prop where
  read : readS [p.1] = p.2
  len : p.2.length ≤ 3
  good : ∀ c ∈ p.2, goodC c
theorem cjk_seen {c : Nat} (h1 : 19968 ≤ c) (h2 : c < 39968) : unseen.contains c = false := by
  have : (unseen.all fun e => decide (e < 19968) || decide (39968 ≤ e)) = true := by decide
  rw [List.contains_eq_mem]
  simp only [decide_eq_false_iff_not]
  intro hm
  have := List.all_eq_true.mp this c hm
  simp only [Bool.or_eq_true, decide_eq_true_eq] at this
  omega
theorem ok_cjk (j : Nat) (h : j < 20000) : OkP (19968 + j, [19968 + j]) :=
  ⟨by rw [readS_one _ (cjk_seen (by omega) (by omega)), mapB3_cjk (by omega) (by omega)], by simp, fun c hc => by rw [List.mem_singleton.mp hc]; exact .inr (.inr ⟨by omega, by omega⟩)⟩
/-- the few others, by evaluation -/
noncomputable def others : List (Nat × List Nat) := (32, [32]) :: (890, [32, 953]) :: (64259, [102, 102, 105]) :: (64256, [102, 102]) :: ((List.range 26).map fun j => (65 + j, [97 + j])) ++ unseen.map fun c => (c, [])
theorem others_read : (others.all fun p => (if unseen.contains p.1 then [] else ((ents.find? fun e => e.1 == p.1).map (·.2)).getD (Txt.lower (mkS [p.1])).cps.toList) == p.2) = true := by kernel_rfl!
theorem others_good : (others.all fun p => decide (p.2.length ≤ 3) && p.2.all fun c => c == 32 || smalls.contains c) = true := by kernel_rfl!
theorem ok_other {p : Nat × List Nat} (h : p ∈ others) : OkP p := by
  have a := List.all_eq_true.mp others_read p h
  have b := List.all_eq_true.mp others_good p h
  simp only [Bool.and_eq_true, decide_eq_true_eq, beq_iff_eq, List.all_eq_true, Bool.or_eq_true, List.contains_eq_mem] at b
  refine ⟨?_, b.1, fun c hc => (b.2 c hc).imp id fun x => .inl x⟩
  rw [beq_iff_eq] at a
  cases hu : unseen.contains p.1 with
  | true => rw [readS_unseen _ hu, ← a, hu]; rfl
  | false => rw [readS_one _ hu, ← a, hu]; rfl
end Mine
-- text P6
namespace Mine
theorem fresh_P6 : True := by w_top off; trivial
theorem ok_mem {p : Nat × List Nat} (h : ∃ j, j < 26 ∧ p = (65 + j, [97 + j])) : p ∈ others := by
  obtain ⟨j, hj, rfl⟩ := h
  unfold others
  refine List.mem_append_left _ (.tail _ (.tail _ (.tail _ (.tail _ ?_))))
  exact List.mem_map.mpr ⟨j, List.mem_range.mpr hj, rfl⟩
theorem unseen_len : unseen.length = 27 := by decide
theorem ok_unseen (n : Nat) : OkP (unseenPair n) := by
  refine ok_other (List.mem_append_right _ (List.mem_map.mpr ⟨unseen.getD (n % 27) 0, ?_, rfl⟩))
  have h : n % 27 < unseen.length := by rw [unseen_len]; exact Nat.mod_lt _ (by decide)
  rw [List.getD_eq_getElem?_getD, List.getElem?_eq_getElem h]
  exact List.getElem_mem _
theorem ok_blank : OkP (32, [32]) := ok_other (.head _)
theorem ok_side (n : Nat) : ∀ p ∈ sideP n, OkP p := by
  intro p hp
  obtain ⟨k, _, rfl⟩ := List.mem_map.mp hp
  unfold sideAt
  split
  · exact ok_unseen _
  · exact ok_blank
theorem ok_middle (n : Nat) : ∀ p ∈ middleP n, OkP p := by
  intro p hp
  obtain ⟨k, _, hk⟩ := List.mem_flatMap.mp hp
  unfold middleAt at hk
  dsimp only at hk
  split at hk
  · rw [List.mem_singleton.mp hk]
    exact ok_other (ok_mem ⟨(n / 343 + k) % 26, Nat.mod_lt _ (by decide), rfl⟩)
  · split at hk
    · rw [List.mem_singleton.mp hk]
      exact ok_cjk _ (Nat.mod_lt _ (by decide))
    · split at hk
      · rw [List.mem_singleton.mp hk]
        exact ok_unseen _
      · split at hk
        · rw [List.mem_singleton.mp hk]
          exact ok_other (.tail _ (.head _))
        · split at hk
          · rw [List.mem_singleton.mp hk]
            exact ok_other (.tail _ (.tail _ (.head _)))
          · split at hk
            · rw [List.mem_singleton.mp hk]
              exact ok_other (.tail _ (.tail _ (.tail _ (.head _))))
            · cases hk
theorem middle_len (n : Nat) : (middleP n).length ≤ 3 := by
  have h : ∀ k, (middleAt n k).length ≤ 1 := by
    intro k
    unfold middleAt
    dsimp only
    repeat' split
    all_goals simp
  have h0 := h 0
  have h1 := h 1
  have h2 := h 2
  show ([0, 1, 2].flatMap (middleAt n)).length ≤ 3
  simp only [List.flatMap_cons, List.flatMap_nil, List.length_append, List.length_nil]
  omega
/-- the field -/
noncomputable def fieldP (n0 n1 n2 : Nat) : List (Nat × List Nat) := sideP n0 ++ middleP n1 ++ sideP n2
theorem ok_field (n0 n1 n2 : Nat) : ∀ p ∈ fieldP n0 n1 n2, OkP p := by
  intro p hp
  rcases List.mem_append.mp hp with hp | hp
  · rcases List.mem_append.mp hp with hp | hp
    · exact ok_side _ p hp
    · exact ok_middle _ p hp
  · exact ok_side _ p hp
theorem field_len (n0 n1 n2 : Nat) : (fieldP n0 n1 n2).length ≤ 11 := by
  have := middle_len n1
  unfold fieldP sideP
  simp only [List.length_append, List.length_map, List.length_range]
  omega
-- the meant text, by the signs alone
theorem readS_cons (c : Nat) (l : List Nat) : readS (c :: l) = readS [c] ++ readS l := readS_append [c] l
theorem meant_read : ∀ {ps : List (Nat × List Nat)}, (∀ p ∈ ps, OkP p) → ps.flatMap (·.2) = readS (ps.map (·.1))
  | [], _ => rfl
  | p :: ps, h => by
    rw [List.flatMap_cons, List.map_cons, readS_cons, (h p (.head _)).read, meant_read fun q hq => h q (.tail _ hq)]
noncomputable def Short (sg : List Nat) : Prop := ∀ c ∈ sg, (readS [c]).length ≤ 3
theorem readS_short : ∀ {sg : List Nat}, Short sg → (readS sg).length ≤ 3 * sg.length
  | [], _ => by simp [readS]
  | c :: l, h => by
    rw [readS_cons, List.length_append, List.length_cons]
    have := h c (.head _)
    have := readS_short (sg := l) fun d hd => h d (.tail _ hd)
    omega
theorem readS_blank : readS [32] = [32] := ok_blank.read
theorem readS_bl : ∀ n, readS (bl n) = bl n
  | 0 => rfl
  | n + 1 => by
    have e : bl (n + 1) = 32 :: bl n := rfl
    rw [e, readS_cons, readS_blank, readS_bl n]
    rfl
-- cutting
theorem cut_bl (n a : Nat) : cutL (bl n) a = if a > n then none else some (bl (n - a)) := by
  unfold cutL
  rw [if_pos (by rw [blanks_all]; simp [bl])]
  simp [bl]
theorem cut_core {K : List Nat} (c : Core K) (p q a : Nat) : cutL (bl p ++ (K ++ bl q)) a = some (bl (p - min a p) ++ (K ++ bl (q - min (a - min a p) q))) := by
  have kp := core_pos c
  have hb := core_blanks c p (bl q)
  have hr := core_blanks_rev c p q
  have hl : (bl p ++ (K ++ bl q)).length = p + (K.length + q) := by simp [bl]
  unfold cutL
  rw [hb, hr, hl, if_neg (by omega)]
  congr 1
  have e1 : bl p = bl (min a p) ++ bl (p - min a p) := by rw [← bl_add]; congr 1; omega
  have e2 : bl q = bl (q - min (a - min a p) q) ++ bl (min (a - min a p) q) := by rw [← bl_add]; congr 1; omega
  generalize hx : min a p = x at *
  generalize hy : min (a - x) q = y at *
  have t1 : (bl p ++ (K ++ bl q)).take (p + (K.length + q) - y) = bl p ++ (K ++ bl (q - y)) := by
    conv => lhs; rw [e2]
    rw [show bl p ++ (K ++ (bl (q - y) ++ bl y)) = (bl p ++ (K ++ bl (q - y))) ++ bl y by simp only [List.append_assoc]]
    rw [List.take_append_of_le_length (by simp [bl]; omega), List.take_of_length_le (by simp [bl]; omega)]
  rw [t1]
  conv => lhs; rw [e1]
  rw [show bl x ++ bl (p - x) ++ (K ++ bl (q - y)) = bl x ++ (bl (p - x) ++ (K ++ bl (q - y))) by simp only [List.append_assoc]]
  rw [List.drop_append_of_le_length (by simp [bl])]
  simp [bl]
theorem cut_zero (l : List Nat) : cutL l 0 = some l := by
  rcases bl_or_core l with ⟨n, rfl⟩ | ⟨p, K, q, c, rfl⟩
  · rw [cut_bl, if_neg (by omega)]; rfl
  · rw [cut_core c]; simp
theorem sub_min_r (x y : Nat) : x - min y x = x - y := by omega
theorem sub_min_l (x y : Nat) : x - min x y = x - y := by omega
theorem cut_comp (l : List Nat) (a b : Nat) : (cutL l a).bind (fun y => cutL y b) = cutL l (a + b) := by
  rcases bl_or_core l with ⟨n, rfl⟩ | ⟨p, K, q, c, rfl⟩
  · rw [cut_bl, cut_bl]
    by_cases h : a > n
    · rw [if_pos h, if_pos (by omega)]; rfl
    · rw [if_neg h]
      show cutL (bl (n - a)) b = _
      rw [cut_bl]
      by_cases h2 : b > n - a
      · rw [if_pos h2, if_pos (by omega)]
      · rw [if_neg h2, if_neg (by omega), Nat.sub_sub]
  · rw [cut_core c, cut_core c]
    show cutL (bl (p - min a p) ++ (K ++ bl (q - min (a - min a p) q))) b = _
    rw [cut_core c]
    simp only [sub_min_r, sub_min_l]
    congr 1
    congr 1
    · congr 1; omega
    · congr 2; omega
/-- what is due, by the signs alone -/
noncomputable def dueS (sg : List Nat) (e l : Nat) : Option (List Nat) := (cutL sg e).bind fun left => cutL (readS left) l
theorem left_eq {sg left : List Nat} {e : Nat} (h : cutL sg e = some left) : (sg.drop (firstOf sg e)).take left.length = left := by
  rcases bl_or_core sg with ⟨n, rfl⟩ | ⟨p, K, q, c, rfl⟩
  · rw [cut_bl] at h
    split at h
    · cases h
    · injection h with h
      rw [← h]
      unfold firstOf
      rw [if_pos (by rw [blanks_all]; simp [bl])]
      simp [bl]
  · rw [cut_core c] at h
    injection h with h
    have kp := core_pos c
    have hb := core_blanks c p (bl q)
    have hl : (bl p ++ (K ++ bl q)).length = p + (K.length + q) := by simp [bl]
    unfold firstOf
    rw [hb, hl, if_neg (by omega)]
    rw [← h]
    generalize hx : min e p = x
    generalize hy : min (e - x) q = y
    have e1 : bl p = bl x ++ bl (p - x) := by rw [← bl_add]; congr 1; omega
    have e2 : bl q = bl (q - y) ++ bl y := by rw [← bl_add]; congr 1; omega
    have d1 : (bl p ++ (K ++ bl q)).drop x = bl (p - x) ++ (K ++ bl q) := by
      conv => lhs; rw [e1]
      rw [List.append_assoc, List.drop_append_of_le_length (by simp [bl])]
      simp [bl]
    rw [d1]
    conv => lhs; rw [e2]
    rw [show bl (p - x) ++ (K ++ (bl (q - y) ++ bl y)) = (bl (p - x) ++ (K ++ bl (q - y))) ++ bl y by simp only [List.append_assoc]]
    rw [List.take_append_of_le_length (Nat.le_refl _), List.take_length]
theorem due_eq {ps : List (Nat × List Nat)} (h : ∀ p ∈ ps, OkP p) (e l : Nat) : dueP ps e l = dueS (ps.map (·.1)) e l := by
  unfold dueP dueS
  cases hc : cutL (ps.map (·.1)) e with
  | none => rfl
  | some left =>
    show cutL _ l = cutL _ l
    congr 1
    have h2 : ∀ p ∈ (ps.drop (firstOf (ps.map (·.1)) e)).take left.length, OkP p := fun p hp => h p (List.mem_of_mem_drop (List.mem_of_mem_take hp))
    rw [meant_read h2]
    congr 1
    have := left_eq hc
    rw [List.map_take, List.map_drop]
    exact this
theorem run_after (when : Nat) : ∀ (ns : List Nat) (i : Nat) (line : List Nat), when < i → runL when i ns line = cutL line ns.sum
  | [], i, line, h => by
    show some (if i = when then readS line else line) = _
    rw [if_neg (by omega)]
    exact (cut_zero line).symm
  | a :: ns, i, line, h => by
    show (cutL (if i = when then readS line else line) a).bind (runL when (i + 1) ns) = _
    rw [if_neg (by omega), List.sum_cons, ← cut_comp]
    congr 1
    funext y
    exact run_after when ns (i + 1) y (by omega)
theorem run_eq (when : Nat) : ∀ (ns : List Nat) (i : Nat) (line : List Nat), i ≤ when → when ≤ i + ns.length → runL when i ns line = dueS line (ns.take (when - i)).sum (ns.drop (when - i)).sum
  | [], i, line, h1, h2 => by
    have : i = when := by simp at h2; omega
    subst this
    show some (if i = i then readS line else line) = _
    rw [if_pos rfl]
    unfold dueS
    simp [cut_zero]
  | a :: ns, i, line, h1, h2 => by
    show (cutL (if i = when then readS line else line) a).bind (runL when (i + 1) ns) = _
    by_cases e : i = when
    · subst e
      rw [if_pos rfl, Nat.sub_self, List.take_zero, List.drop_zero, List.sum_nil]
      unfold dueS
      rw [cut_zero]
      show _ = cutL (readS line) (a :: ns).sum
      rw [List.sum_cons, ← cut_comp]
      congr 1
      funext y
      exact run_after i ns (i + 1) y (by omega)
    · rw [if_neg e]
      rw [show when - i = (when - (i + 1)) + 1 by omega, List.take_succ_cons, List.drop_succ_cons, List.sum_cons]
      unfold dueS
      rw [← cut_comp]
      rw [Option.bind_assoc]
      congr 1
      funext y
      have := run_eq when ns (i + 1) y (by omega) (by simp at h2; omega)
      rw [this]
      rfl
theorem near_bl {n : Nat} {o : Option (List Nat)} (hn : n ≤ 1000) : Near (some (bl n)) o := by
  cases o with
  | none => exact .none2
  | some y => exact .blank hn
theorem due_blank (n e l : Nat) : dueS (bl n) e l = none ∨ ∃ m, m ≤ n ∧ dueS (bl n) e l = some (bl m) := by
  unfold dueS
  rw [cut_bl]
  split
  · exact .inl rfl
  · show cutL (readS (bl (n - e))) l = none ∨ ∃ m, m ≤ n ∧ cutL (readS (bl (n - e))) l = _
    rw [readS_bl, cut_bl]
    split
    · exact .inl rfl
    · exact .inr ⟨_, by omega, rfl⟩
theorem le_a {p K q r u w l : Nat} (h : p + (K + q) ≤ 11) (hr : r ≤ 33) : p - u + (r + (q - w)) - l ≤ 1000 := by
  have h1 := Nat.sub_le p u
  have h2 := Nat.sub_le q w
  have h3 := Nat.sub_le (p - u + (r + (q - w))) l
  omega
theorem le_b {p K q r u w l : Nat} (h : p + (K + q) ≤ 11) (hr : r ≤ 33) : p - u + r + (q - w) - l ≤ 1000 := by
  have h1 := Nat.sub_le p u
  have h2 := Nat.sub_le q w
  have h3 := Nat.sub_le (p - u + r + (q - w)) l
  omega
theorem le_c {p K q a b k u v w z : Nat} (h : p + (K + q) ≤ 11) (hr : a + (k + b) ≤ 3 * K) : p - u + a - v + k + (b + (q - w) - z) ≤ 40 := by
  have h1 := Nat.sub_le p u
  have h2 := Nat.sub_le q w
  have h3 := Nat.sub_le (p - u + a) v
  have h4 := Nat.sub_le (b + (q - w)) z
  generalize p - u + a - v = x at *
  generalize b + (q - w) - z = y at *
  generalize p - u = x1 at *
  generalize q - w = y1 at *
  omega
theorem near_due {sg : List Nat} (hs : Short sg) (hl : sg.length ≤ 11) (e l e' l' : Nat) : Near (dueS sg e l) (dueS sg e' l') := by
  rcases bl_or_core sg with ⟨n, rfl⟩ | ⟨p, K, q, c, rfl⟩
  · have hn : n ≤ 11 := by simpa [bl] using hl
    rcases due_blank n e l with h | ⟨m, hm, h⟩
    · rw [h]; exact .none1
    · rw [h]; exact near_bl (by omega)
  · have kp := core_pos c
    have hlen : p + (K.length + q) ≤ 11 := by simpa [bl] using hl
    have hR : (readS K).length ≤ 3 * K.length := readS_short fun d hd => hs d (List.mem_append_right _ (List.mem_append_left _ hd))
    have due : ∀ e l, dueS (bl p ++ (K ++ bl q)) e l = cutL (bl (p - min e p) ++ (readS K ++ bl (q - min (e - min e p) q))) l := fun e l => by
      unfold dueS
      rw [cut_core c]
      show cutL (readS _) l = _
      rw [readS_append, readS_append, readS_bl, readS_bl]
    rcases bl_or_core (readS K) with ⟨r, hr⟩ | ⟨a, K2, b, c2, hr⟩
    · have hrl : r ≤ 33 := by rw [hr] at hR; simp [bl] at hR; omega
      have e1 : ∀ e l, dueS (bl p ++ (K ++ bl q)) e l = none ∨ ∃ m, m ≤ 1000 ∧ dueS (bl p ++ (K ++ bl q)) e l = some (bl m) := fun e l => by
        rw [due, hr, ← bl_add, ← bl_add, cut_bl]
        split
        · exact .inl rfl
        · exact .inr ⟨_, by first | exact le_a hlen hrl | exact le_b hlen hrl, rfl⟩
      rcases e1 e l with h | ⟨m, hm, h⟩
      · rw [h]; exact .none1
      · rw [h]; exact near_bl hm
    · have hrl : a + (K2.length + b) ≤ 3 * K.length := by rw [hr] at hR; simpa [bl] using hR
      have e1 : ∀ e l, ∃ x y, x + K2.length + y ≤ 40 ∧ dueS (bl p ++ (K ++ bl q)) e l = some (bl x ++ (K2 ++ bl y)) := fun e l => by
        rw [due, hr]
        rw [show bl (p - min e p) ++ (bl a ++ (K2 ++ bl b) ++ bl (q - min (e - min e p) q)) = bl (p - min e p + a) ++ (K2 ++ bl (b + (q - min (e - min e p) q))) by rw [bl_add, bl_add]; simp only [List.append_assoc]]
        rw [cut_core c2]
        exact ⟨_, _, by exact le_c hlen hrl, rfl⟩
      obtain ⟨x, y, hxy, h1⟩ := e1 e l
      obtain ⟨x', y', hxy', h2⟩ := e1 e' l'
      rw [h1, h2]
      exact .core c2 hxy hxy'
end Mine
-- text L7
namespace Mine
theorem fresh_L7 : True := by w_top off; trivial
theorem News.more {h₀ h h' : Heap} {L D : Addr} {m : Str → Option Value} {news : List (Addr × Obj)} {o : Obj} (F : Fr h₀ L h m) (N : News h₀ L h news) (k : Keeps h h') (ho : h'.get? D = some o) (hD : h.get? D = none) : News h₀ L h' ((D, o) :: news) :=
  News.one (News.grown N k) ho (fun q => by obtain ⟨o, _, _, ho, _⟩ := F.ns; rw [q, ho] at hD; cases hD) (none_of_keeps F.keep hD)
theorem Fr.kf {h₀ h h' : Heap} {L : Addr} {m : Str → Option Value} (F : Fr h₀ L h m) (k : Kf [L] h h') (hL : h₀.get? L = none) : Fr h₀ L h' m :=
  ⟨ns_kf F.ns k, fun b o e => k.1 b o (fun hm => by rw [List.mem_singleton.mp hm] at e; rw [hL] at e; cases e) (F.keep b o e), F.above⟩
theorem News.kf {h₀ h h' : Heap} {L : Addr} {news : List (Addr × Obj)} (N : News h₀ L h news) (k : Kf [L] h h') : News h₀ L h' news :=
  fun p hp => ⟨k.1 _ _ (fun hm => (N p hp).2.1 (List.mem_singleton.mp hm)) (N p hp).1, (N p hp).2⟩
/-- the tuples of a list of pairs, as new objects -/
theorem pairs_news {X : Addr → Prop} {h₁ h' : Heap} : ∀ {ps : List (Nat × List Nat)} {ys : List Value}, PairsAt X h₁ h' ps ys → ∃ tn : List (Addr × Obj), (∀ p ∈ tn, h'.get? p.1 = some p.2 ∧ h₁.get? p.1 = none) ∧ Paired (fun p v => PairIn tn v p) ps ys
  | _, _, .nil => ⟨[], by simp, .nil⟩
  | _, _, .cons ⟨T, u1, u2, e, hX, hn, o, ho, hc, cn, hd⟩ r => by
    obtain ⟨tn, h1, h2⟩ := pairs_news r
    refine ⟨(T, o) :: tn, fun p hp => ?_, .cons ⟨T, o, u1, u2, cn, e, .head _, hc, hd⟩ (h2.mono fun _ _ ⟨T', o', u1, u2, cn, e, hm, q⟩ => ⟨T', o', u1, u2, cn, e, .tail _ hm, q⟩)⟩
    rcases List.mem_cons.mp hp with rfl | hp
    · exact ⟨ho, hn⟩
    · exact h1 p hp
theorem PairIn.more {tn un : List (Addr × Obj)} {ps : List (Nat × List Nat)} {ys : List Value} (x : Paired (fun p v => PairIn tn v p) ps ys) (h : ∀ p ∈ tn, p ∈ un) : Paired (fun p v => PairIn un v p) ps ys :=
  x.mono fun _ _ ⟨T', o', u1, u2, cn, e, hm, q⟩ => ⟨T', o', u1, u2, cn, e, h _ hm, q⟩
theorem Paired.app {α β : Type} {F : α → β → Prop} : ∀ {a : List α} {b : List β} {c : List α} {d : List β}, Paired F a b → Paired F c d → Paired F (a ++ c) (b ++ d)
  | _, _, _, _, .nil, h => h
  | _, _, _, _, .cons x r, h => .cons x (Paired.app r h)
theorem pairsH_of {h₀ h : Heap} {L : Addr} {tn : List (Addr × Obj)} {ps : List (Nat × List Nat)} {ys : List Value} (N : News h₀ L h tn) (x : Paired (fun p v => PairIn tn v p) ps ys) : PairsH h ps ys :=
  x.mono fun _ _ ⟨T', o', u1, u2, cn, e, hm, hc, hd⟩ => ⟨T', u1, u2, e, o', (N _ hm).1, hc, cn, hd⟩
/-- a new list of pairs joins the new objects -/
theorem News.pairs {h₀ h h' : Heap} {L a : Addr} {m : Str → Option Value} {news : List (Addr × Obj)} {ps : List (Nat × List Nat)} {ys : List Value} (F : Fr h₀ L h m) (N : News h₀ L h news) (k : Keeps h h') (ha : h.get? a = none) (hl : h'.IsList a ys.toArray) (x : PairsAt (fun b => b = a) h h' ps ys) :
    ∃ o cn tn, o.cls = .type "list" ∧ o.data = .seq ys.toArray cn ∧ News h₀ L h' ((a, o) :: (tn ++ news)) ∧ Paired (fun p v => PairIn tn v p) ps ys := by
  obtain ⟨o, ho, hc, cn, hd⟩ := hl
  obtain ⟨tn, h1, h2⟩ := pairs_news x
  refine ⟨o, cn, tn, hc, hd, fun p hp => ?_, h2⟩
  have new : ∀ b, h.get? b = none → b ≠ L ∧ h₀.get? b = none := fun b hb => ⟨fun q => (by obtain ⟨o, _, _, ho, _⟩ := F.ns; rw [q, ho] at hb; cases hb), none_of_keeps F.keep hb⟩
  rcases List.mem_cons.mp hp with rfl | hp
  · exact ⟨ho, new _ ha⟩
  · rcases List.mem_append.mp hp with hp | hp
    · exact ⟨(h1 p hp).1, new _ (h1 p hp).2⟩
    · exact News.grown N k p hp
theorem pick_upto (vs : List Value) (j : Nat) : slicePick vs.toArray none (some (j : Int)) none = (vs.take j).toArray := by
  by_cases h : j ≤ vs.length
  · exact slicePick_upto vs.toArray j (by simpa using h)
  · have e : sliceBounds none (some (j : Int)) none vs.toArray.size = (((0 : Nat) : Int), ((vs.length : Nat) : Int), 1) := by
      simp only [sliceBounds, Option.getD_none]
      have h2 : ¬ ((j : Int) < 0) := by omega
      simp only [h2, if_false, show (1 : Int) > 0 by decide, if_true, List.size_toArray]
      congr 1
      congr 1
      omega
    rw [List.take_of_length_le (by omega : vs.length ≤ j)]
    unfold slicePick
    rw [e]
    simp only [sliceRange_one, pick_run]
    simp
section
variable {prog : Program} {w : World} {A : Around} {s : Shared} {Q E : Value → Shared → Prop}
/-- l[:j] -/
theorem ls_upto {value slice : Expr} {a : Addr} {vs : List Value} {hp : Heap} {g : Array GenState} {d : Drawn} {tk : Nat} {os : OsState} (x : hp.IsList a vs.toArray) (hl : vs.length ≤ 1000) {y : Int} (j : Nat) (hy : y = j) {v : Tok}
    (h : ∀ h' D k, Keeps hp h' → h'.get? D = some { cls := .type "list", data := .seq (vs.take j).toArray } → hp.get? D = none → Q (.ref D) ⟨h', g, d, k, os⟩)
    (hs : subscripted slice false (.ref a) (.ref hp.objs.size) = operate [.ref hp.objs.size, .ref a] (getItem (.ref a) (.ref hp.objs.size)) := by with_unfolding_all rfl)
    (ht : ∀ r, letTemporaryGo value (.ref a) r = pure () := by intro _; with_unfolding_all rfl) :
    wpAny (model prog w) A (subscriptTail value slice (.ref a) (.ref hp.objs.size)) Q E ⟨hp.push { cls := .type "slice", data := .fields #[.none, .int y v, .none] }, g, d, tk, os⟩ := by
  subst hy
  refine subscriptTail_ops (Heap.IsList.typeIs (s := ⟨hp.push _, g, d, tk, os⟩) (x.push _)) list_getitem_lookup
    (wpAny_getItem_list_slice (x.push _) (Heap.IsSliceOf.new ..) .none (.int _ _) .none (by simp) ?_ (by rw [List.size_toArray]; exact Nat.le_trans hl (by decide))) hs ht
  rw [pick_upto]
  exact h _ _ _ (fun b o e => Heap.get?_push_of_some _ (Heap.get?_push_of_some _ e)) (Heap.get?_push_size _ rfl) none_after
/-- l[i:] -/
theorem ls_from {value slice : Expr} {a : Addr} {vs : List Value} {hp : Heap} {g : Array GenState} {d : Drawn} {tk : Nat} {os : OsState} (x : hp.IsList a vs.toArray) (hl : vs.length ≤ 1000) {y : Int} (i : Nat) (hy : y = i) (hi : i ≤ vs.length) {v : Tok}
    (h : ∀ h' D k, Keeps hp h' → h'.get? D = some { cls := .type "list", data := .seq (vs.drop i).toArray } → hp.get? D = none → Q (.ref D) ⟨h', g, d, k, os⟩)
    (hs : subscripted slice false (.ref a) (.ref hp.objs.size) = operate [.ref hp.objs.size, .ref a] (getItem (.ref a) (.ref hp.objs.size)) := by with_unfolding_all rfl)
    (ht : ∀ r, letTemporaryGo value (.ref a) r = pure () := by intro _; with_unfolding_all rfl) :
    wpAny (model prog w) A (subscriptTail value slice (.ref a) (.ref hp.objs.size)) Q E ⟨hp.push { cls := .type "slice", data := .fields #[.int y v, .none, .none] }, g, d, tk, os⟩ := by
  subst hy
  refine subscriptTail_ops (Heap.IsList.typeIs (s := ⟨hp.push _, g, d, tk, os⟩) (x.push _)) list_getitem_lookup
    (wpAny_getItem_list_slice (x.push _) (Heap.IsSliceOf.new ..) (.int _ _) .none .none (by simp) ?_ (by rw [List.size_toArray]; exact Nat.le_trans hl (by decide))) hs ht
  rw [slicePick_from _ i (by rw [List.size_toArray]; exact hi)]
  exact h _ _ _ (fun b o e => Heap.get?_push_of_some _ (Heap.get?_push_of_some _ e)) (Heap.get?_push_size _ rfl) none_after
/-- sum(l) -/
theorem sum_L {a : Addr} {vs : List Value} {ns : List Int} (hA : A.handled = none) (hl : s.heap.IsList a vs.toArray) (hi : IntsAre vs ns) (h : ∀ h' tk t', Keeps s.heap h' → Q (.int ns.sum t') { s with heap := h', toks := tk }) :
    wpAny (model prog w) A (call (.builtin "sum") [.ref a]) Q E s := by
  obtain ⟨xs, hx⟩ := hi.allInts.items
  have hn := nums_intItems (xs := xs)
  rw [hx] at hl
  refine sum_intListG hA hl fun h' tk t' hk => ?_
  have e : preSum (numAt xs) xs.size = ns.sum := by
    rw [preSum_eq, List.take_of_length_le (by simp)]
    rw [← hn, ← hx, show vs.toArray.toList = vs from rfl, hi.numsOf]
  rw [e]
  exact h h' tk t' hk
/-- l != l' for equal lists of numbers -/
theorem ne_L {a b : Addr} {vs ws : List Value} {ns : List Int} (ha : s.heap.IsList a vs.toArray) (hb : s.heap.IsList b ws.toArray) (hv : IntsAre vs ns) (hw : IntsAre ws ns) (hn : (∃ x y, ns = [x, y]) ∨ ∃ x y z, ns = [x, y, z]) (hu : A.units + 64 < cLine) (h : Q (.bool false) s) :
    wpAny (model prog w) A (compareOp .NotEq (.ref a) (.ref b)) Q E s := by
  obtain ⟨o, ho, hc, n, hd⟩ := ha
  obtain ⟨o', ho', hc', n', hd'⟩ := hb
  refine ne_dataH (reads_list_at ho hc hd (hv.reads s.heap)) (reads_list_at ho' hc' hd' (hw.reads s.heap)) ?_ ?_ hu ?_
  · rcases hn with ⟨x, y, rfl⟩ | ⟨x, y, z, rfl⟩ <;> rfl
  · rcases hn with ⟨x, y, rfl⟩ | ⟨x, y, z, rfl⟩ <;> rfl
  · have e : PyData.eqv (.list (ns.map .int)) (.list (ns.map .int)) = true := by
      rcases hn with ⟨x, y, rfl⟩ | ⟨x, y, z, rfl⟩ <;> simp [PyData.eqv, PyData.eqvAll]
    rw [e]
    exact h
end
end Mine
-- text L8
namespace Mine
theorem fresh_L8 : True := by w_top off; trivial
local macro_rules | `(tactic| walk_at "w") => `(tactic| first | ((with_reducible show wpAny _ _ _ _ _ _); walk1) | ((with_reducible show ite _ _ _); walk1) | dsimp only)
theorem IntsAre.at {vs : List Value} {xs : List Int} (h : IntsAre vs xs) (i : Nat) (v : Value) (hv : vs[i]? = some v) : ∃ n t, xs[i]? = some n ∧ v = .int n t := by
  induction h generalizing i with
  | nil => simp at hv
  | cons n t _ ih =>
    cases i with
    | zero => simp at hv; exact ⟨n, t, rfl, hv.symm⟩
    | succ i => exact ih i (by simpa using hv)
section
variable {prog : Program} {w : World} {A : Around} {E : Value → Shared → Prop} {s : Shared}
/-- an item of what a display makes -/
theorem subTail_R {value slice : Expr} {o i : Value} {ops : List Value} {T id : String} {Q : Value → Shared → Prop} (hT : s.TypeIs o T)
    (hl : typeLookup (.type T) "__getitem__" = pure (some (.builtin id))) (h : wpAny (model prog w) A (getItem o i) Q E s)
    (hs : subscripted slice false o i = operate ops (getItem o i) := by with_unfolding_all rfl) :
    wpAny (model prog w) A (subscriptTail value slice o i) Q E s := by
  unfold subscriptTail
  refine wpAny_bind ?_
  rw [getitemInPython_of_ne hT.not_modules]
  refine wpAny_bind (wpAny_specialOf hT hl ?_)
  have fin : wpAny (model prog w) A (subscripted slice false o i) (fun r s₃ => wpAny (model prog w) A (letTemporaryGo value o r >>= fun _ => pure r) Q E s₃) E s := by
    rw [hs]
    exact wpAny_operating (wpAny_mono h (fun r s₃ h₃ => wpAny_bind (wpAny_letTemporaryGo (wpAny_pure h₃))) fun _ _ x => x)
  first
    | exact wpAny_pure (wpAny_bind fin)
    | exact wpAny_bind (wpAny_pure (wpAny_bind fin))
    | exact wpAny_bind fin
/-- l[i:] of a display -/
theorem ls_fromR {Q : Value → Shared → Prop} {value slice : Expr} {a : Addr} {vs : List Value} {hp : Heap} {g : Array GenState} {d : Drawn} {tk : Nat} {os : OsState} (x : hp.IsList a vs.toArray) (hl : vs.length ≤ 1000) {y : Int} (i : Nat) (hy : y = i) (hi : i ≤ vs.length) {v : Tok}
    (h : ∀ h' D k, Keeps hp h' → h'.get? D = some { cls := .type "list", data := .seq (vs.drop i).toArray } → hp.get? D = none → Q (.ref D) ⟨h', g, d, k, os⟩)
    (hs : subscripted slice false (.ref a) (.ref hp.objs.size) = operate [.ref hp.objs.size, .ref a] (getItem (.ref a) (.ref hp.objs.size)) := by with_unfolding_all rfl) :
    wpAny (model prog w) A (subscriptTail value slice (.ref a) (.ref hp.objs.size)) Q E ⟨hp.push { cls := .type "slice", data := .fields #[.int y v, .none, .none] }, g, d, tk, os⟩ := by
  subst hy
  refine subTail_R (Heap.IsList.typeIs (s := ⟨hp.push _, g, d, tk, os⟩) (x.push _)) list_getitem_lookup
    (wpAny_getItem_list_slice (x.push _) (Heap.IsSliceOf.new ..) (.int _ _) .none .none (by simp) ?_ (by rw [List.size_toArray]; exact Nat.le_trans hl (by decide))) hs
  rw [slicePick_from _ i (by rw [List.size_toArray]; exact hi)]
  exact h _ _ _ (fun b o e => Heap.get?_push_of_some _ (Heap.get?_push_of_some _ e)) (Heap.get?_push_size _ rfl) none_after
end
section
variable {prog : Program} {w : World} {A : Around} {E : Value → Shared → Prop} {env : Env} {hp : Heap} {g : Array GenState} {d : Drawn} {tk₀ : Nat} {os : OsState}
/-- [x % 10 ** 12 for x in l] -/
theorem comp_mods {pt p1 p2 p3 p4 p5 pos : Pos} {k1 k2 : Nat} {iter : Expr} {scope : Scope} {cl : List (Str × Addr)} {a : Addr} {xs : List Int} {vs : List Value} {RR : Value → Addr → Result → Shared → Prop}
    (hA : A.handled = none) (hl : hp.IsList a vs.toArray) (hv : IntsAre vs xs) (hn : xs.length ≤ 1000) (hcell : ∀ y ∈ scope.names, y.2 ≠ .cell) (hkind : scope.kind = .function)
    (hk2 : ∀ C, (compEnvC scope cl C env).scope.kind = .function) (h1 : ∀ C, (compEnvC scope cl C env).kindOf "x" = some .local)
    (done : ∀ D C m h tk ys cn, IntsAre ys (xs.map fun x => x.fmod (10 ^ 12)) → hp.get? D = none → hp.get? C = none → D ≠ C → h.Ns C m → h.get? D = some { cls := .type "list", data := .seq ys.toArray cn } → Keeps hp h → RR (.ref D) C (.ok .next) ⟨h, g, d, tk, os⟩) :
    wpAny (model prog w) A (pyIter (.ref a)) (fun it s₂ => wpAny (model prog w) A (newList []) (fun acc s₃ => wpAny (model prog w) A (newFunctionEnv scope env.globals cl [] env.qual none .none (some env)) (fun cenv s₄ =>
      codeAny (model prog w) A (.compStart (.ListComp (.BinOp (.Name "x" p1) .Mod (.BinOp (.Constant (.int 10) k1 p2) .Pow (.Constant (.int 12) k2 p3) p4) p5) [⟨.Name "x" pt, iter, [], 0⟩] scope pos) 0 it acc { cenv with scope := relabel scope env }) (RR acc cenv.locals) s₄) E s₃) E s₂) E ⟨hp, g, d, tk₀, os⟩ := by
  refine wpAny_pyIter_list hl ?_
  have hne : a ≠ hp.objs.size := by obtain ⟨o, ho, _⟩ := hl; exact Nat.ne_of_lt (Heap.lt_size ho)
  have hvl : vs.length = xs.length := hv.length
  refine comp_JR (J := fun X i h ys => IntsAre ys ((xs.take i).map fun x => x.fmod (10 ^ 12))) (Bd := fun i h m => ∃ x t, xs[i]? = some x ∧ m "x" = some (.int x t))
    (Walks.list hA hp.objs.size a hne vs.toArray) ⟨⟨_, Heap.get?_push_size _ rfl, rfl, rfl⟩, hl.push _⟩ ?_ ?_ (by rw [List.size_toArray, hvl]; exact hn) hcell hkind ?_ ?_ ?_ ?_ ?_ ?_ rfl
  · intro b hb
    rw [Heap.size_push]
    rcases List.mem_cons.mp hb with rfl | hb
    · exact Nat.lt_succ_self _
    · rw [List.mem_singleton.mp hb]
      obtain ⟨o, ho, _⟩ := hl
      exact Nat.lt_succ_of_lt (Heap.lt_size ho)
  · intro i h st b hb
    rw [List.mem_singleton.mp hb]
    obtain ⟨o, ho, _⟩ := st.1
    exact ⟨o, ho⟩
  · intro X h _
    exact .nil
  · intro X i h ys hi hj
    have := hj.length
    rw [List.length_map, List.length_take] at this
    omega
  · intro X i h h' ys hk hj
    exact hj
  · rintro X i v h tk m C ys Q' E' hi hC hv' hj hk hns hq
    obtain ⟨x, t, hx, rfl⟩ := IntsAre.at hv i v (by simpa using hv')
    refine wpAny_assign_Name (wpAny_storeName_local (h1 C) hns (fun h' hn' sb => ?_) (by rw [hk2 C]; rfl))
    exact hq h' _ _ hn' ⟨x, t, hx, if_pos rfl⟩ sb.extBut
  · rintro X i h tk m C ys E' hi hC hj ⟨x, t, hx, hm⟩ hns hal hk
    simp only [List.forIn_nil]
    refine wpAny_pure ⟨h, tk, rfl, fun _ _ e => e, ?_⟩
    rw [if_pos rfl]
    have hst : xs.take (i + 1) = xs.take i ++ [x] := by
      rw [List.take_add_one, hx]; rfl
    repeat' ((fail_if_success (with_reducible show wpAny _ _ (eval (.Name _ _) _) _ _ _)); walk_at "w")
    refine ldl hns hm ?_ (hk2 C) (h1 C)
    repeat' ((fail_if_success (with_reducible show wpAny _ _ (binaryOp .Mod _ _) _ _ _)); walk_at "w")
    refine mod_int' (by decide) ⟨h, _, rfl, fun _ _ e => e, ?_⟩
    rw [hst, List.map_append]
    exact hj.append (.cons _ _ .nil)
  · intro X D C m h tk ys cn hj hD hC hDC hns hl' hk hXD hXC hJ
    rw [show vs.toArray.size = xs.length by rw [List.size_toArray, hvl], List.take_length] at hj
    exact done D C m h tk ys cn hj (none_of_push hD) (none_of_push hC) hDC hns hl' fun b o e => hk b o (fun hm => Nat.lt_irrefl _ (Nat.lt_of_lt_of_eq (Heap.lt_size e) (List.mem_singleton.mp hm).symm)) (Heap.get?_push_of_some _ e)
end
end Mine
-- text M14
namespace Mine
theorem fresh_M14 : True := by w_top off; trivial
local macro_rules | `(tactic| walk_at "binaryOp FloorDiv int int") => `(tactic| refine fdN (by first | decide | omega) (fun _ _ => ?_))
local macro_rules | `(tactic| walk_at "binaryOp Mod int int") => `(tactic| refine modN (by first | decide | omega) (fun _ _ => ?_))
local macro_rules | `(tactic| walk_at "binaryOp Add int int") => `(tactic| first | refine addN (fun _ _ => ?_) | refine addLN (by decide) (fun _ _ => ?_))
noncomputable abbrev lawEnv (ad : Nat → Addr) (L : Addr) (cd : Value) : Env := envOf (nm 26) (dr 26).scope L (ad 26) cd
theorem flat_signs : ∀ (ps : List (Nat × List Nat)), (ps.map fun p => [p.1]).flatten = ps.map (·.1)
  | [] => rfl
  | p :: ps => by simp [flat_signs ps]
/-- what the row says behind the sizes -/
noncomputable def rowL (kind : Nat) : List Int := if kind = 0 then [0, 2] else if kind = 1 then [0] else if kind = 2 then [127, 2] else []
theorem pick_row {h : Heap} {l1 l2 l3 l4 : Addr} {a b c d e : Tok} (h1 : h.IsList l1 #[.int 0 a, .int 2 b]) (h2 : h.IsList l2 #[.int 0 c]) (h3 : h.IsList l3 #[.int 127 d, .int 2 e]) (h4 : h.IsList l4 #[]) (k : Nat) (hk : k < 4) :
    ∃ Dk vk, (#[Value.ref l1, Value.ref l2, Value.ref l3, Value.ref l4] : Array Value)[((k : Int)).toNat]? = some (.ref Dk) ∧ h.IsList Dk (List.toArray vk) ∧ IntsAre vk (rowL k) := by
  have : k = 0 ∨ k = 1 ∨ k = 2 ∨ k = 3 := by omega
  rcases this with rfl | rfl | rfl | rfl
  · exact ⟨l1, [_, _], rfl, h1, .cons _ _ (.cons _ _ .nil)⟩
  · exact ⟨l2, [_], rfl, h2, .cons _ _ .nil⟩
  · exact ⟨l3, [_, _], rfl, h3, .cons _ _ (.cons _ _ .nil)⟩
  · exact ⟨l4, [], rfl, h4, .nil⟩
theorem fmod_nat (x : Int) : ∃ n : Nat, n ≤ 10 ^ 12 ∧ x.fmod (10 ^ 12) = (n : Int) := by
  have h1 : 0 ≤ x.fmod (10 ^ 12) := Int.fmod_nonneg_of_pos x (by decide)
  have h2 : x.fmod (10 ^ 12) < 10 ^ 12 := Int.fmod_lt_of_pos x (by decide)
  exact ⟨(x.fmod (10 ^ 12)).toNat, by omega, by omega⟩
theorem numbers4 {f : Int → Int} (hf : ∀ x, ∃ n : Nat, n ≤ 10 ^ 12 ∧ f x = (n : Int)) (xs : List Int) (k : Nat) (hk : k = min 4 xs.length) : ∃ n0 n1 n2 n3 : Nat, n0 ≤ 10 ^ 12 ∧ n1 ≤ 10 ^ 12 ∧ n2 ≤ 10 ^ 12 ∧ n3 ≤ 10 ^ 12 ∧
    (xs.take 4).map f ++ ([663, 3293, 1654, 1] : List Int).drop k = [(n0 : Int), (n1 : Int), (n2 : Int), (n3 : Int)] := by
  subst hk
  match xs with
  | [] => exact ⟨663, 3293, 1654, 1, by decide, by decide, by decide, by decide, rfl⟩
  | [a] =>
    obtain ⟨n, h, e⟩ := hf a
    exact ⟨n, 3293, 1654, 1, h, by decide, by decide, by decide, by simp [e]⟩
  | [a, b] =>
    obtain ⟨n, h, e⟩ := hf a
    obtain ⟨n', h', e'⟩ := hf b
    exact ⟨n, n', 1654, 1, h, h', by decide, by decide, by simp [e, e']⟩
  | [a, b, c] =>
    obtain ⟨n, h, e⟩ := hf a
    obtain ⟨n', h', e'⟩ := hf b
    obtain ⟨m, g, q⟩ := hf c
    exact ⟨n, n', m, 1, h, h', g, by decide, by simp [e, e', q]⟩
  | a :: b :: c :: d :: r =>
    obtain ⟨n, h, e⟩ := hf a
    obtain ⟨n', h', e'⟩ := hf b
    obtain ⟨m, g, q⟩ := hf c
    obtain ⟨m', g', q'⟩ := hf d
    refine ⟨n, n', m, m', h, h', g, g', ?_⟩
    have : min 4 (a :: b :: c :: d :: r).length = 4 := by simp
    rw [this]
    simp [e, e', q, q']
theorem filter_count {p : Value → Bool} {q : Nat → Bool} (hp : ∀ c u, p (.str (mkS [c]) u) = q c) : ∀ (l : List Nat) (vs : List Value), vs.length = l.length → (∀ (j : Nat) (v : Value), vs[j]? = some v → ∃ c u, l[j]? = some c ∧ v = .str (mkS [c]) u) → (vs.filter p).length = cnt q l
  | [], vs, hl, _ => by
    obtain rfl : vs = [] := List.eq_nil_of_length_eq_zero hl
    rfl
  | c :: l, [], hl, _ => by simp at hl
  | c :: l, v :: vs, hl, h => by
    obtain ⟨c', u, h1, rfl⟩ := h 0 v rfl
    obtain rfl : c = c' := by simpa using h1
    have ih := filter_count hp l vs (by simpa using hl) fun j v e => by
      obtain ⟨c', u', h2, h3⟩ := h (j + 1) v (by simpa using e)
      exact ⟨c', u', by simpa using h2, h3⟩
    unfold cnt at ih ⊢
    rw [List.filter_cons, List.filter_cons, hp]
    cases q c <;> simp [ih]
noncomputable abbrev isSm (c : Nat) : Bool := decide (up c ≠ c)
theorem sum_cast : ∀ (ns : List Nat), (ns.map fun (k : Nat) => (k : Int)).sum = (ns.sum : Int)
  | [] => rfl
  | n :: ns => by simp [sum_cast ns]
section
variable {prog : Program} {w : World} {A : Around} {s : Shared} {Q E : Value → Shared → Prop}
theorem ne_OV {v v' : Value} {o : Option (List Nat)} (h1 : OV v o) (h2 : OV v' o) (h : Q (.bool false) s) : wpAny (model prog w) A (compareOp .NotEq v v') Q E s := by
  cases h1 with
  | none =>
    cases h2
    repeat' (walk_at "w")
    exact h
  | some =>
    cases h2
    repeat' (walk_at "w")
    rename_i l t t'
    have e : (mkS l != mkS l) = false := by
      show (!(mkS l == mkS l)) = false
      rw [mkS_beq]; simp
    rw [e]
    exact h
end
inductive LastInv (AM : Addr) (oA : Obj) (P : Addr) (Y : List Value) (Dn : Addr) (oN : Obj) (TN : List (Addr × Obj)) (n0 n1 n2 : Nat) (ns : List Nat) (k : Nat) (m : Str → Option Value) (nx : List (Addr × Obj)) : Prop
  | mk (e0 : nx = (AM, oA) :: (P, { cls := .type "list", data := .seq Y.toArray }) :: (Dn, oN) :: TN) (vL : Value) (tB tF : Tok) (e1 : m "amounts" = some (.ref AM)) (e2 : m "pairs" = some (.ref P)) (e3 : m "numbers" = some (.ref Dn)) (e4 : m "field" = some (.str (mkS ((fieldP n0 n1 n2).map (·.1))) tF))
      (e5 : m "before" = some (.str (mkS (readS ((fieldP n0 n1 n2).map (·.1)))) tB)) (e6 : m "last" = some vL) (e7 : OV vL (if k = 0 then dueP (fieldP n0 n1 n2) 0 0 else dueP (fieldP n0 n1 n2) (ns.take (k - 1)).sum (ns.drop (k - 1)).sum)) : LastInv AM oA P Y Dn oN TN n0 n1 n2 ns k m nx
section
variable {prog : Program} {w : World} {mean : ExcName → Option Value} {mg mb : Str → Option Value} {ad : Nat → Addr} {A : Around} {s : Shared} {Q E : Value → Shared → Prop}
theorem upper_call {l : List Nat} {t : Tok} (h : ∀ c ∈ l, goodC c) (hl : l.length ≤ 1000) (hq : ∀ t' k, Q (.str (mkS (l.map up)) t') { s with toks := k }) : wpAny (model prog w) A (call (.builtin "str.upper") [.str (mkS l) t]) Q E s := by
  refine SCL.upper (by rw [mkS_len]; omega) (fun _ => ?_)
  rw [upper_good h]
  exact hq _ _
theorem c_dueO {ps : List (Nat × List Nat)} {a : Addr} {vs : List Value} {e l : Nat} {t u : Tok} (G : GG w mean mg mb ad s.heap) (r : Rm 2 A) (hL : s.heap.IsList a vs.toArray) (hP : PairsH s.heap ps vs) (hn : ps.length ≤ 100) (hw : ∀ p ∈ ps, p.2.length ≤ 9)
    (hQ : ∀ v h' t', Keeps s.heap h' → OV v (dueP ps e l) → Q v { s with heap := h', toks := t' }) :
    wpAny (model prog w) A (call (.ref (ad 24)) [.ref a, .int (e : Int) t, .int (l : Int) u]) Q E s :=
  c_due G r hL hP hn hw (fun h h' t' k => hQ _ h' t' k (by rw [h]; exact .none)) (fun y h h' t' k kk => hQ _ h' t' kk (by rw [h]; exact .some))
/-- .. from the dues on -/
theorem law_3 {n0 n1 n2 n3 : Nat} {L : Addr} {cd : Value} {h : Heap} {g : Array GenState} {d : Drawn} {tk : Nat} {os : OsState} {m : Str → Option Value} {AM P Dn : Addr} {TN : List (Addr × Obj)} {ya Y zs : List Value} {oA oN : Obj} {cnA cnN : Nat} {ns : List Nat} {t6 : Tok}
    (G : GG w mean mg mb ad s.heap) (r' : Rm 5 (A.deeper (lawEnv ad L cd))) (hfr : A.frames = some []) (hbare : AllBare g) (hL0 : s.heap.get? L = none)
    (F : Fr s.heap L h m) (N : News s.heap L h ((AM, oA) :: (P, { cls := .type "list", data := .seq Y.toArray }) :: (Dn, oN) :: TN))
    (ac : oA.cls = .type "list") (ad' : oA.data = .seq ya.toArray cnA) (ha : IntsAre ya (ns.map fun (k : Nat) => (k : Int))) (hn : ns.length ≤ 3)
    (oc : oN.cls = .type "list") (od : oN.data = .seq zs.toArray cnN) (hz : IntsAre zs [(n0 : Int), (n1 : Int), (n2 : Int), (n3 : Int)]) (hpairs : Paired (fun p v => PairIn TN v p) (fieldP n0 n1 n2) Y)
    (m1 : m "amounts" = some (.ref AM)) (m3 : m "pairs" = some (.ref P)) (m4 : m "numbers" = some (.ref Dn)) (m6 : m "field" = some (.str (mkS ((fieldP n0 n1 n2).map (·.1))) t6))
    (hQ : ∀ h' t' g', Keeps s.heap h' → AllBare g' → Q (.bool true) ⟨h', g', d, t', os⟩) :
    wpAny (model prog w) (A.deeper (lawEnv ad L cd)) (execs ((dr 26).body.drop 9) (lawEnv ad L cd)) (fun fl s' => Q (match fl with | .ret v => v | _ => .none) s') (fun _ _ => False) ⟨h, g, d, tk, os⟩ := by
  have hg := G.T.g
  have hgb := G.T.b
  obtain ⟨l1, l2⟩ := G.len
  obtain ⟨r1, r2⟩ := G.range
  obtain ⟨s1, s2⟩ := G.sum
  have g22 : mg "_law_run" = some (.ref (ad 22)) := G.fn 22 (by decide)
  have g24 : mg "_law_due" = some (.ref (ad 24)) := G.fn 24 (by decide)
  have g25 : mg "_law_apart" = some (.ref (ad 25)) := G.fn 25 (by decide)
  have g14 : mg "_levenshtein_distance" = some (.ref (ad 14)) := G.fn 14 (by decide)
  obtain ⟨o14, f14, q14, e14⟩ := G.obj (i := 14) dr14 (by decide)
  obtain ⟨o22, f22, q22, e22⟩ := G.obj (i := 22) dr22 (by decide)
  obtain ⟨o24, f24, q24, e24⟩ := G.obj (i := 24) dr24 (by decide)
  obtain ⟨o25, f25, q25, e25⟩ := G.obj (i := 25) dr25 (by decide)
  have hfr' : (A.deeper (lawEnv ad L cd)).frames = some [lawEnv ad L cd] := Around.frames_deeper hfr
  have hok := ok_field n0 n1 n2
  have hfl := field_len n0 n1 n2
  have hsh : Short ((fieldP n0 n1 n2).map (·.1)) := fun c hc => by
    obtain ⟨p, hp, rfl⟩ := List.mem_map.mp hc
    rw [(hok p hp).read]; exact (hok p hp).len
  have hsl : ((fieldP n0 n1 n2).map (·.1)).length ≤ 11 := by rw [List.length_map]; exact hfl
  have hdue := fun e l => due_eq hok e l
  have hw : ∀ p ∈ fieldP n0 n1 n2, p.2.length ≤ 9 := fun p hp => Nat.le_trans (hok p hp).len (by decide)
  have hM : dueP (fieldP n0 n1 n2) 0 0 = some (readS ((fieldP n0 n1 n2).map (·.1))) := by
    rw [hdue]; unfold dueS; rw [cut_zero]; exact cut_zero _
  repeat' ((fail_if_success (with_reducible show wpAny _ _ (call (.ref _) _) _ _ _)); walk_at "w")
  rename Fr s.heap L _ _ => Fa
  rename News s.heap L _ _ => Na
  refine c_dueO (e := 0) (l := 0) (G.keeps Fa.keep) (Rm.less r' (by decide)) (News.isList Na (.tail _ (.head _))) (pairsH_of (News.sub Na fun p hp => .tail _ (.tail _ (.tail _ hp))) hpairs) (by omega) hw fun v1 h1 k1 kk1 ov1 => ?_
  rw [hM] at ov1
  cases ov1
  rename_i tM
  have Fb := Fa.keeps kk1
  have Nb := News.grown Na kk1
  clear Fa Na
  try dsimp only
  repeat' ((fail_if_success (with_reducible show wpAny _ _ (exec (.For _ _ _ _ _) _) _ _ _)); walk_at "w")
  refine wpAny_For ?_
  repeat' ((fail_if_success (with_reducible show wpAny _ _ (call (.builtin "len") _) _ _ _)); walk_at "w")
  have hyl : ya.length = ns.length := by rw [ha.length, List.length_map]
  rename News s.heap L _ _ => Nc
  refine Calls.call_len_list ⟨oA, Nc.get (.head _), ac, cnA, ad'⟩ (by rw [List.size_toArray]; omega) ?_
  rw [List.size_toArray, hyl]
  repeat' ((fail_if_success (with_reducible show wpAny _ _ (pyIter _) _ _ _)); walk_at "w")
  rename IsRange _ _ _ _ _ _ _ _ => R₁
  rename Fr s.heap L _ _ => F₁
  rename News s.heap L _ _ => N₁
  refine loop_range2 (n := ns.length + 1) (LastInv AM oA P Y Dn oN TN n0 n1 n2 ns)
    rfl r'.2.2 R₁ (by omega) (by omega) F₁ N₁ ⟨rfl, _, _, _, by walk_at "mi", by walk_at "mi", by walk_at "mi", by walk_at "mi", by walk_at "mi", by walk_at "mi", by rw [if_pos rfl, hM]; exact .some⟩ ?_ ?_
  · rintro k ti m' nx' h₇ tk₇ I oi hk hnI ⟨rfl, vL, tB, tF, z1, z2, z3, z4, z5, z6, hov⟩ F₇ N₇
    replace F₇ : Fr s.heap L h₇ _ := F₇
    replace N₇ : News s.heap L h₇ _ := N₇
    have hnear : Near (if k = 0 then dueP (fieldP n0 n1 n2) 0 0 else dueP (fieldP n0 n1 n2) (ns.take (k - 1)).sum (ns.drop (k - 1)).sum) (dueP (fieldP n0 n1 n2) (ns.take k).sum (ns.drop k).sum) := by
      split
      · rw [hdue, hdue]; exact near_due hsh hsl _ _ _ _
      · rw [hdue, hdue]; exact near_due hsh hsl _ _ _ _
    have hrun : runL k 0 ns ((fieldP n0 n1 n2).map (·.1)) = dueP (fieldP n0 n1 n2) (ns.take k).sum (ns.drop k).sum := by
      rw [hdue, run_eq k ns 0 _ (by omega) (by omega), Nat.sub_zero]
    generalize hO : (if k = 0 then dueP (fieldP n0 n1 n2) 0 0 else dueP (fieldP n0 n1 n2) (ns.take (k - 1)).sum (ns.drop (k - 1)).sum) = lastO at hov hnear
    repeat' ((fail_if_success (with_reducible show wpAny _ _ (subscriptTail _ _ _ _) _ _ _)); walk_at "w")
    rename Fr s.heap L _ _ => Fa
    rename News s.heap L _ _ => Na
    refine ls_upto ⟨oA, Na.get (.tail _ (.head _)), ac, cnA, ad'⟩ (by omega) k rfl fun h8 D8 k8 kk8 hD8 hD8n => ?_
    have Fb := Fa.keeps kk8
    have Nb := News.more Fa Na kk8 hD8 hD8n
    clear Fa Na
    repeat' ((fail_if_success (with_reducible show wpAny _ _ (call (.builtin "sum") _) _ _ _)); walk_at "w")
    rename Fr s.heap L _ _ => Fa
    rename News s.heap L _ _ => Na
    refine sum_L r'.2.2 (News.isList Na (.head _)) (ha.take k) fun h9 k9 t9 kk9 => ?_
    rw [← List.map_take, sum_cast]
    have Fb := Fa.keeps kk9
    have Nb := News.grown Na kk9
    clear Fa Na
    try dsimp only
    repeat' ((fail_if_success (with_reducible show wpAny _ _ (subscriptTail _ _ _ _) _ _ _)); walk_at "w")
    rename Fr s.heap L _ _ => Fa
    rename News s.heap L _ _ => Na
    refine ls_from ⟨oA, Na.get (.tail _ (.tail _ (.head _))), ac, cnA, ad'⟩ (by omega) k rfl (by omega) fun h10 D10 k10 kk10 hD10 hD10n => ?_
    have Fb := Fa.keeps kk10
    have Nb := News.more Fa Na kk10 hD10 hD10n
    clear Fa Na
    try dsimp only
    repeat' ((fail_if_success (with_reducible show wpAny _ _ (call (.builtin "sum") _) _ _ _)); walk_at "w")
    rename Fr s.heap L _ _ => Fa
    rename News s.heap L _ _ => Na
    refine sum_L r'.2.2 (News.isList Na (.head _)) (ha.drop k) fun h11 k11 t11 kk11 => ?_
    rw [← List.map_drop, sum_cast]
    have Fb := Fa.keeps kk11
    have Nb : News s.heap L h11 ((I, oi) :: (AM, oA) :: (P, _) :: (Dn, oN) :: TN) := News.sub (News.grown Na kk11) fun p hp => .tail _ (.tail _ hp)
    clear Fa Na
    try dsimp only
    repeat' ((fail_if_success (with_reducible show wpAny _ _ (call (.ref _) _) _ _ _)); walk_at "w")
    rename Fr s.heap L _ _ => Fa
    rename News s.heap L _ _ => Na
    refine c_dueO (e := (ns.take k).sum) (l := (ns.drop k).sum) (G.keeps Fa.keep) (Rm.less r' (by decide)) (News.isList Na (.tail _ (.tail _ (.head _)))) (pairsH_of (News.sub Na fun p hp => .tail _ (.tail _ (.tail _ (.tail _ hp)))) hpairs) (by omega) hw fun v2 h12 k12 kk12 ov2 => ?_
    have Fb := Fa.keeps kk12
    have Nb := News.grown Na kk12
    clear Fa Na
    try dsimp only
    repeat' ((fail_if_success (with_reducible show wpAny _ _ (call (.ref _) _) _ _ _)); walk_at "w")
    rename Fr s.heap L _ _ => Fa
    rename News s.heap L _ _ => Na
    refine c_run (ns := ns) (when := k) (outer := [lawEnv ad L cd]) (G.keeps Fa.keep) (Rm.less r' (by decide)) (by omega) ⟨oA, Na.get (.tail _ (.head _)), ac, cnA, ad'⟩ ha (by omega) hfr' (Fs.cons trivial Fa.ns rfl) fun v3 h13 k13 kf ov3 => ?_
    rw [hrun] at ov3
    have Fb := Fr.kf Fa kf hL0
    have Nb := News.kf Na kf
    clear Fa Na
    try dsimp only
    repeat' ((fail_if_success (with_reducible show wpAny _ _ (compareOp .NotEq _ _) _ _ _)); walk_at "w")
    refine ne_OV ov3 ov2 ?_
    repeat' ((fail_if_success (with_reducible show wpAny _ _ (subscriptTail _ _ _ _) _ _ _)); walk_at "w")
    rename Fr s.heap L _ _ => Fa
    rename News s.heap L _ _ => Na
    refine item_list_ints ⟨oN, Na.get (.tail _ (.tail _ (.tail _ (.head _)))), oc, cnN, od⟩ hz (by decide) (by simp) (by decide) fun t14 => ?_
    rw [show ([(n0 : Int), (n1 : Int), (n2 : Int), (n3 : Int)] : List Int).getD (Int.toNat 3) 0 = (n3 : Int) from rfl]
    try dsimp only
    repeat' ((fail_if_success (with_reducible show wpAny _ _ (call (.ref _) _) _ _ _)); walk_at "w")
    rename Fr s.heap L _ _ => Fa
    rename News s.heap L _ _ => Na
    refine c_apart (one := lastO) (other := dueP (fieldP n0 n1 n2) (ns.take k).sum (ns.drop k).sum) (G.keeps Fa.keep) (Rm.less r' (by decide)) hov ov3 hnear (Nat.mod_lt _ (by decide)) fun h15 k15 kk15 => ?_
    have Fb := Fa.keeps kk15
    have Nb := News.grown Na kk15
    clear Fa Na
    try dsimp only
    repeat' (walk_at "w")
    rename Fr s.heap L _ _ => Fa
    rename News s.heap L _ _ => Na
    refine ⟨_, _, _, _, rfl, Fa, Na, hnI, rfl, v2, tB, tF, by walk_at "mi", by walk_at "mi", by walk_at "mi", by walk_at "mi", by walk_at "mi", by walk_at "mi", ?_⟩
    rw [if_neg (by omega), Nat.add_sub_cancel]
    exact ov2
  · rintro m' nx' h₇ tk₇ ⟨rfl, vL, tB, tF, z1, z2, z3, z4, z5, z6, hov⟩ F₇ N₇
    replace F₇ : Fr s.heap L h₇ _ := F₇
    replace N₇ : News s.heap L h₇ _ := N₇
    rw [if_neg (by omega), Nat.add_sub_cancel] at hov
    have hgood : ∀ c ∈ readS ((fieldP n0 n1 n2).map (·.1)), goodC c := fun c hc => by
      rw [← meant_read hok] at hc
      obtain ⟨p, hp, hc⟩ := List.mem_flatMap.mp hc
      exact (hok p hp).good c hc
    have hMl : (readS ((fieldP n0 n1 n2).map (·.1))).length ≤ 33 := Nat.le_trans (readS_short hsh) (by omega)
    have hnear : Near (some (readS ((fieldP n0 n1 n2).map (·.1)))) (dueP (fieldP n0 n1 n2) (ns.take ns.length).sum (ns.drop ns.length).sum) := by
      rw [← hM, hdue, hdue]; exact near_due hsh hsl _ _ _ _
    generalize readS ((fieldP n0 n1 n2).map (·.1)) = M at *
    try dsimp only
    repeat' ((fail_if_success (with_reducible show wpAny _ _ (eval (.ListComp _ _ _ _) _) _ _ _)); walk_at "w")
    have Fa : Fr s.heap L h₇ _ := F₇
    have Na : News s.heap L h₇ _ := N₇
    refine wpAny_ListComp_free (cl := []) (fun v => match v with | .str x _ => isSm (x.cps.toList.headD 0) | _ => false) (fun _ _ => True) rfl (by decide) rfl (by decide) rfl ?_
    repeat' ((fail_if_success (with_reducible show wpAny _ _ (pyIter _) _ _ _)); walk_at "w")
    refine wpAny_pyIter_str fun o St W hst => ?_
    refine ⟨_, _, _, _, _, _, rfl, W _ r'.2.2, ?_, hst, ?_, ?_, ?_⟩
    · show (mkS M).length ≤ sizeLine
      exact size_S (by omega)
    · intro b hb
      rw [List.mem_singleton.mp hb, Heap.size_push]
      exact Nat.lt_succ_self _
    · constructor
      · intro C i v s₃ m₃ E' hC hP hn hm hk htk
        obtain ⟨c, u, hc, rfl⟩ := hP
        have hgc : goodC c := hgood c (List.mem_of_getElem? (i := i) (by simpa using hc))
        simp only [List.forIn_cons, List.forIn_nil, if_true]
        refine wpAny_bind (wpAny_bind ?_)
        repeat' (first | ((with_reducible show wpAny _ _ (eval (.Name _ _) _) _ _ _); refine ldl hn hm ?_) | walk_at "w")
        refine upper_call (l := [c]) (fun d hd => by rw [List.mem_singleton.mp hd]; exact hgc) (by simp) fun t' k => ?_
        repeat' (first | ((with_reducible show wpAny _ _ (eval (.Name _ _) _) _ _ _); refine ldl hn hm ?_) | walk_at "w")
        refine wpAny_pure (wpAny_pure ⟨?_, s₃.heap, _, rfl, fun _ _ e => e⟩)
        show (!(mkS [c] == mkS [up c])) = isSm c
        rw [mkS_beq]
        simp [isSm, eq_comm]
      · intro C i v s₃ m₃ E' hC hP hp hn hm hk htk
        exact ldl hn hm ⟨trivial, s₃.heap, _, rfl, fun _ _ e => e⟩
    · intro D h' tk ys vs hD hl' hpl hlen hP hF hk
      have kk : Keeps _ h' := fun b o' e => hk b o' (fun hm => Nat.ne_of_lt (Heap.lt_size e) (List.mem_singleton.mp hm)) (Heap.get?_push_of_some _ e)
      have Fb := Fa.keeps kk
      have Nb := News.grown Na kk
      have hcount : ys.size = cnt isSm M := by
        have e1 := Paired.length hF
        rw [filter_count (q := isSm) (fun c u => rfl) M vs (by rw [hlen]; simp) (fun j v e => by
          obtain ⟨c, u, h1, h2⟩ := hP j v e
          exact ⟨c, u, by simpa using h1, h2⟩)] at e1
        rw [e1]; simp
      clear Fa Na F₇ N₇
      repeat' ((fail_if_success (with_reducible show wpAny _ _ (call (.builtin "len") _) _ _ _)); walk_at "w")
      refine Calls.call_len_list hl' (by
        have : cnt isSm M ≤ M.length := List.length_filter_le _ _
        omega) ?_
      rw [hcount]
      try dsimp only
      repeat' ((fail_if_success (with_reducible show wpAny _ _ (subscriptTail _ _ _ _) _ _ _)); walk_at "w")
      rename Fr s.heap L _ _ => Fa
      rename News s.heap L _ _ => Na
      refine item_list_ints ⟨oN, Na.get (.tail _ (.tail _ (.head _))), oc, cnN, od⟩ hz (by decide) (by simp) (by decide) fun t14 => ?_
      rw [show ([(n0 : Int), (n1 : Int), (n2 : Int), (n3 : Int)] : List Int).getD (Int.toNat 3) 0 = (n3 : Int) from rfl]
      try dsimp only
      repeat' ((fail_if_success (with_reducible show wpAny _ _ (call (.ref _) _) _ _ _)); walk_at "w")
      rename Fr s.heap L _ _ => Fa
      rename News s.heap L _ _ => Na
      refine c_apart (G.keeps Fa.keep) (Rm.less r' (by decide)) .some hov hnear (Nat.mod_lt _ (by decide)) fun h15 k15 kk15 => ?_
      have Fb := Fa.keeps kk15
      have Nb := News.grown Na kk15
      clear Fa Na
      try dsimp only
      repeat' ((fail_if_success (with_reducible show wpAny _ _ (call (.builtin "str.upper") _) _ _ _)); walk_at "w")
      refine upper_call hgood (by omega) fun t' k => ?_
      repeat' ((fail_if_success (with_reducible show wpAny _ _ (call (.ref _) _) _ _ _)); walk_at "w")
      rename Fr s.heap L _ _ => Fa
      rename News s.heap L _ _ => Na
      refine c_lev (mx := cnt isSm M) (G.keeps Fa.keep) (Rm.less r' (by decide)) (by omega) (by rw [List.length_map]; omega) fun h16 k16 t16 kk16 => ?_
      rw [lev_upper up great (fun c hc => (good_facts (hgood c hc)).1) (fun c hc => (good_facts (hgood c hc)).2) (by omega)]
      have Fb := Fa.keeps kk16
      clear Fa Na
      try dsimp only
      repeat' (walk_at "w")
      have e : ((cnt isSm M : Int) == (cnt isSm M : Int)) = true := by simp
      have z := hQ h16 k16 g Fb.keep hbare
      rw [← e] at z
      exact z
end
-- text M13
theorem fresh_M13 : True := by w_top off; trivial
section
variable {prog : Program} {w : World} {mean : ExcName → Option Value} {mg mb : Str → Option Value} {ad : Nat → Addr} {A : Around} {s : Shared} {Q E : Value → Shared → Prop}
/-- .. from the amounts on -/
theorem law_2 {n0 n1 n2 n3 : Nat} {L : Addr} {cd : Value} {h : Heap} {g : Array GenState} {d : Drawn} {tk : Nat} {os : OsState} {m : Str → Option Value} {R SZ P Dn : Addr} {TN : List (Addr × Obj)} {vk Y zs : List Value} {oN : Obj} {cnN a b kind : Nat} {t1 t2 t5 t6 : Tok}
    (G : GG w mean mg mb ad s.heap) (r' : Rm 5 (A.deeper (lawEnv ad L cd))) (hfr : A.frames = some []) (hbare : AllBare g)
    (F : Fr s.heap L h m) (N : News s.heap L h ((R, { cls := .type "list", data := .seq ([Value.int (a : Int) t1, Value.int (b : Int) t2] ++ vk).toArray }) :: (SZ, { cls := .type "list", data := .seq #[Value.int (a : Int) t1, Value.int (b : Int) t2] }) :: (P, { cls := .type "list", data := .seq Y.toArray }) :: (Dn, oN) :: TN))
    (oc : oN.cls = .type "list") (od : oN.data = .seq zs.toArray cnN) (hz : IntsAre zs [(n0 : Int), (n1 : Int), (n2 : Int), (n3 : Int)]) (hpairs : Paired (fun p v => PairIn TN v p) (fieldP n0 n1 n2) Y) (hik : IntsAre vk (rowL kind))
    (ha : 1 ≤ a ∧ a ≤ 4) (hb : 1 ≤ b ∧ b ≤ 4) (hk : kind < 4)
    (m1 : m "row" = some (.ref R)) (m2 : m "sizes" = some (.ref SZ)) (m3 : m "pairs" = some (.ref P)) (m4 : m "numbers" = some (.ref Dn)) (m5 : m "kind" = some (.int (kind : Int) t5)) (m6 : m "field" = some (.str (mkS ((fieldP n0 n1 n2).map (·.1))) t6))
    (hQ : ∀ h' t' g', Keeps s.heap h' → AllBare g' → Q (.bool true) ⟨h', g', d, t', os⟩) :
    wpAny (model prog w) (A.deeper (lawEnv ad L cd)) (execs ((dr 26).body.drop 7) (lawEnv ad L cd)) (fun fl s' => Q (match fl with | .ret v => v | _ => .none) s') (fun _ _ => False) ⟨h, g, d, tk, os⟩ := by
  have hg := G.T.g
  have hgb := G.T.b
  have g19 : mg "_law_amounts" = some (.ref (ad 19)) := G.fn 19 (by decide)
  have g20 : mg "_law_refused" = some (.ref (ad 20)) := G.fn 20 (by decide)
  obtain ⟨o19, f19, q19, e19⟩ := G.obj (i := 19) dr19 (by decide)
  obtain ⟨o20, f20, q20, e20⟩ := G.obj (i := 20) dr20 (by decide)
  have hL0 : s.heap.get? L = none := by
    cases e : s.heap.get? L with
    | none => rfl
    | some o => exact absurd (Nat.lt_of_lt_of_le (Heap.lt_size e) F.above) (Nat.lt_irrefl _)
  have hfr' : (A.deeper (lawEnv ad L cd)).frames = some [lawEnv ad L cd] := Around.frames_deeper hfr
  have hlk : vk.length = (rowL kind).length := hik.length
  have hrl : (rowL kind).length ≤ 2 := by
    unfold rowL
    repeat' split
    all_goals simp
  have i2 : (kind < 2 ∧ ∃ t, ([Value.int (a : Int) t1, Value.int (b : Int) t2] ++ vk).toArray[2]? = some (.int 0 t)) ∨ (¬ kind < 2 ∧ ((∃ t, ([Value.int (a : Int) t1, Value.int (b : Int) t2] ++ vk).toArray[2]? = some (.int 127 t)) ∨ ([Value.int (a : Int) t1, Value.int (b : Int) t2] ++ vk).toArray[2]? = none)) := by
    have : kind = 0 ∨ kind = 1 ∨ kind = 2 ∨ kind = 3 := by omega
    rcases this with rfl | rfl | rfl | rfl
    · cases hik with
      | cons n t r => exact .inl ⟨by decide, t, by simp⟩
    · cases hik with
      | cons n t r => exact .inl ⟨by decide, t, by simp⟩
    · cases hik with
      | cons n t r => exact .inr ⟨by decide, .inl ⟨t, by simp⟩⟩
    · cases hik
      exact .inr ⟨by decide, .inr (by simp)⟩
  repeat' ((fail_if_success (with_reducible show wpAny _ _ (call (.ref _) _) _ _ _)); walk_at "w")
  rename Fr s.heap L _ _ => Fa
  rename News s.heap L _ _ => Na
  refine c_amounts (a := (a : Int)) (b := (b : Int)) (ta := t1) (tb := t2) (t0 := 0) (u := 0) (kind := kind) (G.keeps Fa.keep) (Rm.less r' (by decide)) (News.isList Na (.head _)) (by simp) (by simp) (by omega) (by omega) i2 fun h1 k1 D1 ys1 gs1 kk1 hD1 hl1 hi1 hg1 => ?_
  obtain ⟨oA, hoA, hcA, cnA, hdA⟩ := hl1
  have Fb := Fa.keeps kk1
  have Nb := News.more Fa Na kk1 hoA hD1
  have hbare1 : AllBare (g.push gs1) := fun y hy => by
    rcases Array.mem_push.mp hy with hy | rfl
    · exact hbare y hy
    · exact hg1
  clear Fa Na
  try dsimp only
  repeat' ((fail_if_success (with_reducible show wpAny _ _ (compareOp .NotEq _ _) _ _ _)); (fail_if_success (with_reducible show wpAny _ _ (subscriptTail _ _ _ _) _ _ _)); walk_at "w")
  · rename ((_ : Nat) : Int) < 2 => hk2
    have hk2 : kind < 2 := by omega
    rename News s.heap L _ _ => Nc
    refine item_list (x := .int (b : Int) t2) (News.isList Nc (.tail _ (.tail _ (.head _)))) (by decide) (by decide) rfl ?_
    repeat' ((fail_if_success (with_reducible show wpAny _ _ (binaryOp .Add _ _) _ _ _)); walk_at "w")
    rename Fr s.heap L _ _ => Fd
    rename News s.heap L _ _ => Nd
    refine add_lists (vs := [_, _]) (ws := [_]) Fd Nd (News.isList Nd (.tail _ (.tail _ (.tail _ (.head _))))) (News.isList Nd (.head _)) (fun h8 F8 N8 => ?_) (Nat.le_trans (m := 1000) (by simp) (by decide))
    clear Fd Nd
    try dsimp only
    repeat' ((fail_if_success (with_reducible show wpAny _ _ (compareOp .NotEq _ _) _ _ _)); walk_at "w")
    rename News s.heap L _ _ => Ne
    refine ne_L (ns := toldL kind (a : Int) (b : Int)) ⟨oA, Ne.get (.tail _ (.tail _ (.head _))), hcA, cnA, hdA⟩ (News.isList Ne (.head _)) hi1 (by rw [toldL, if_pos hk2]; exact .cons _ _ (.cons _ _ (.cons _ _ .nil))) (.inr ⟨_, _, _, by rw [toldL, if_pos hk2]⟩) (by have := r'.2.1; show _ < 9900; omega) ?_
    repeat' ((fail_if_success (with_reducible show wpAny _ _ (binaryOp .Add _ _) _ _ _)); walk_at "w")
    rename Fr s.heap L _ _ => Ff
    rename News s.heap L _ _ => Nf
    refine add_lists (vs := [_]) (ws := [Value.int (a : Int) t1, Value.int (b : Int) t2] ++ vk) Ff Nf (News.isList Nf (.head _)) (News.isList Nf (.tail _ (.tail _ (.tail _ (.tail _ (.head _)))))) (fun h9 F9 N9 => ?_) (Nat.le_trans (m := 1000) (by simp; omega) (by decide))
    clear Ff Nf
    try dsimp only
    repeat' ((fail_if_success (with_reducible show wpAny _ _ (call (.ref _) _) _ _ _)); walk_at "w")
    rename Fr s.heap L _ _ => Fg
    rename News s.heap L _ _ => Ng
    refine c_refused (outer := [lawEnv ad L cd]) (G.keeps Fg.keep) (Rm.less r' (by decide)) (News.isList Ng (.head _)) (by simp; exact rfl) hfr' (Fs.cons trivial Fg.ns rfl) fun h10 k10 gs2 kf hg2 => ?_
    have F10 := Fr.kf Fg kf hL0
    have N10 := News.kf Ng kf
    have hbare2 : AllBare ((g.push gs1).push gs2) := fun y hy => by
      rcases Array.mem_push.mp hy with hy | rfl
      · exact hbare1 y hy
      · exact hg2
    clear Fg Ng
    try dsimp only
    repeat' ((fail_if_success (with_reducible show wpAny _ _ (execs (.Assign [.Name "before" _] _ _ :: _) _) _ _ _)); walk_at "w")
    rename Fr s.heap L _ _ => Fz
    rename News s.heap L _ _ => Nz
    exact law_3 (A := A) (s := s) (ns := [a, b, b]) G r' hfr hbare2 hL0 Fz (News.sub Nz fun p hp => by
      rcases List.mem_cons.mp hp with rfl | hp
      · exact (.tail _ (.tail _ (.tail _ (.tail _ (.head _)))))
      · exact (.tail _ (.tail _ (.tail _ (.tail _ (.tail _ (.tail _ (.tail _ hp)))))))) hcA hdA (by rw [toldL, if_pos hk2] at hi1; exact hi1) (by simp) oc od hz hpairs (by walk_at "mi") (by walk_at "mi") (by walk_at "mi") (by walk_at "mi") hQ
  · rename ¬ ((_ : Nat) : Int) < 2 => hk2
    have hk2 : ¬ kind < 2 := by omega
    repeat' ((fail_if_success (with_reducible show wpAny _ _ (compareOp .NotEq _ _) _ _ _)); walk_at "w")
    rename News s.heap L _ _ => Ne
    refine ne_L (ws := [Value.int (a : Int) t1, Value.int (b : Int) t2]) (ns := toldL kind (a : Int) (b : Int)) ⟨oA, Ne.get (.head _), hcA, cnA, hdA⟩ (News.isList Ne (.tail _ (.tail _ (.head _)))) hi1 (by rw [toldL, if_neg hk2]; exact .cons _ _ (.cons _ _ .nil)) (.inl ⟨_, _, by rw [toldL, if_neg hk2]⟩) (by have := r'.2.1; show _ < 9900; omega) ?_
    repeat' ((fail_if_success (with_reducible show wpAny _ _ (binaryOp .Add _ _) _ _ _)); walk_at "w")
    rename Fr s.heap L _ _ => Ff
    rename News s.heap L _ _ => Nf
    refine add_lists (vs := [_]) (ws := [Value.int (a : Int) t1, Value.int (b : Int) t2] ++ vk) Ff Nf (News.isList Nf (.head _)) (News.isList Nf (.tail _ (.tail _ (.head _)))) (fun h9 F9 N9 => ?_) (Nat.le_trans (m := 1000) (by simp; omega) (by decide))
    clear Ff Nf
    try dsimp only
    repeat' ((fail_if_success (with_reducible show wpAny _ _ (call (.ref _) _) _ _ _)); walk_at "w")
    rename Fr s.heap L _ _ => Fg
    rename News s.heap L _ _ => Ng
    refine c_refused (outer := [lawEnv ad L cd]) (G.keeps Fg.keep) (Rm.less r' (by decide)) (News.isList Ng (.head _)) (by simp; exact rfl) hfr' (Fs.cons trivial Fg.ns rfl) fun h10 k10 gs2 kf hg2 => ?_
    have F10 := Fr.kf Fg kf hL0
    have N10 := News.kf Ng kf
    have hbare2 : AllBare ((g.push gs1).push gs2) := fun y hy => by
      rcases Array.mem_push.mp hy with hy | rfl
      · exact hbare1 y hy
      · exact hg2
    clear Fg Ng
    try dsimp only
    repeat' ((fail_if_success (with_reducible show wpAny _ _ (execs (.Assign [.Name "before" _] _ _ :: _) _) _ _ _)); walk_at "w")
    rename Fr s.heap L _ _ => Fz
    rename News s.heap L _ _ => Nz
    exact law_3 (A := A) (s := s) (ns := [a, b]) G r' hfr hbare2 hL0 Fz (News.sub Nz fun p hp => by
      rcases List.mem_cons.mp hp with rfl | hp
      · exact (.tail _ (.tail _ (.head _)))
      · exact (.tail _ (.tail _ (.tail _ (.tail _ (.tail _ hp)))))) hcA hdA (by rw [toldL, if_neg hk2] at hi1; exact hi1) (by simp) oc od hz hpairs (by walk_at "mi") (by walk_at "mi") (by walk_at "mi") (by walk_at "mi") hQ
end
-- text M15
theorem fresh_M15 : True := by w_top off; trivial
section
variable {prog : Program} {w : World} {mean : ExcName → Option Value} {mg mb : Str → Option Value} {ad : Nat → Addr} {A : Around} {s : Shared} {Q E : Value → Shared → Prop}
theorem c_law {xs : List Int} {a : Addr} {vs : List Value} (G : GG w mean mg mb ad s.heap) (r : Rm 6 A) (hl : s.heap.IsList a vs.toArray) (hv : IntsAre vs xs) (hn : xs.length ≤ 63) (hfr : A.frames = some []) (hbare : AllBare s.gens)
    (hQ : ∀ h' t' g', Keeps s.heap h' → AllBare g' → Q (.bool true) { s with heap := h', toks := t', gens := g' }) :
    wpAny (model prog w) A (call (.ref (ad 26)) [.ref a]) Q E s := by
  obtain ⟨oS, hoS, hcS, cnS, hdS⟩ := hl
  refine enter (i := 26) (binds := [("script", .ref a)]) dr26 G (by decide) rfl r (fun _ _ _ => by kernel_rfl!) (by kernel_rfl!) (by kernel_rfl!) fun L cd h₁ F N r' => ?_
  have hg := G.T.g
  have hb := G.T.b
  obtain ⟨l1, l2⟩ := G.len
  obtain ⟨r1, r2⟩ := G.range
  obtain ⟨s1, s2⟩ := G.sum
  have g14 : mg "_levenshtein_distance" = some (.ref (ad 14)) := G.fn 14 (by decide)
  have g17 : mg "_law_side" = some (.ref (ad 17)) := G.fn 17 (by decide)
  have g18 : mg "_law_middle" = some (.ref (ad 18)) := G.fn 18 (by decide)
  have g19 : mg "_law_amounts" = some (.ref (ad 19)) := G.fn 19 (by decide)
  have g20 : mg "_law_refused" = some (.ref (ad 20)) := G.fn 20 (by decide)
  have g22 : mg "_law_run" = some (.ref (ad 22)) := G.fn 22 (by decide)
  have g24 : mg "_law_due" = some (.ref (ad 24)) := G.fn 24 (by decide)
  have g25 : mg "_law_apart" = some (.ref (ad 25)) := G.fn 25 (by decide)
  obtain ⟨o14, f14, q14, e14⟩ := G.obj (i := 14) dr14 (by decide)
  obtain ⟨o17, f17, q17, e17⟩ := G.obj (i := 17) dr17 (by decide)
  obtain ⟨o18, f18, q18, e18⟩ := G.obj (i := 18) dr18 (by decide)
  obtain ⟨o19, f19, q19, e19⟩ := G.obj (i := 19) dr19 (by decide)
  obtain ⟨o20, f20, q20, e20⟩ := G.obj (i := 20) dr20 (by decide)
  obtain ⟨o22, f22, q22, e22⟩ := G.obj (i := 22) dr22 (by decide)
  obtain ⟨o24, f24, q24, e24⟩ := G.obj (i := 24) dr24 (by decide)
  obtain ⟨o25, f25, q25, e25⟩ := G.obj (i := 25) dr25 (by decide)
  repeat' ((fail_if_success (with_reducible show wpAny _ _ (exec (.Assign [_] (.ListComp _ _ _ _) _) _) _ _ _)); walk_at "w")
  refine comp_Ja (cl := []) rfl rfl rfl (by decide) ?_
  repeat' ((fail_if_success (with_reducible show wpAny _ _ (subscriptTail _ _ _ _) _ _ _)); walk_at "w")
  have hvl : vs.length = xs.length := hv.length
  refine ls_upto ⟨oS, F.keep _ _ hoS, hcS, cnS, hdS⟩ (by omega) 4 rfl fun h₂ D₂ k₂ kk₂ hD₂ hD₂n => ?_
  have F₂ := F.keeps kk₂
  have N₂ := News.more F N kk₂ hD₂ hD₂n
  have hv4 : IntsAre (vs.take 4) (xs.take 4) := hv.take 4
  clear F N
  refine comp_mods r'.2.2 ⟨_, hD₂, rfl, _, rfl⟩ hv4 (by rw [List.length_take]; omega) (by decide) rfl (fun _ => rfl) (fun _ => rfl) ?_
  intro D C mC h tk ys cn hys hD hC hDC hnC hlD kk
  have hLC : L ≠ C := by obtain ⟨o, _, _, ho, _⟩ := F₂.ns; exact ne_of_none ho hC
  have hLD : L ≠ D := by obtain ⟨o, _, _, ho, _⟩ := F₂.ns; exact ne_of_none ho hD
  refine comp_use (y := "numbers") (env := lawEnv ad L cd) rfl (F₂.keeps kk) hnC hLC (fun h₃ tk₃ F₃ k₃ => ?_) (none_of_keeps F₂.keep hC)
  replace F₃ : Fr s.heap L h₃ _ := F₃
  have N₃ : News s.heap L h₃ [(D, _)] := News.one .nil (k₃ _ _ hLD.symm hDC hlD) hLD.symm (none_of_keeps F₂.keep hD)
  clear F₂ N₂
  have hyl := hys.length
  rw [List.length_map, List.length_take] at hyl
  repeat' ((fail_if_success (with_reducible show wpAny _ _ (call (.builtin "len") _) _ _ _)); walk_at "w")
  rename Fr s.heap L _ _ => F₄
  rename News s.heap L _ _ => N₄
  refine Calls.call_len_list (News.isList N₄ (.tail _ (.head _))) (by rw [List.size_toArray]; omega) ?_
  rw [List.size_toArray]
  repeat' ((fail_if_success (with_reducible show wpAny _ _ (subscriptTail _ _ _ _) _ _ _)); walk_at "w")
  rename Fr s.heap L _ _ => F₅
  rename News s.heap L _ _ => N₅
  refine ls_fromR (vs := [_, _, _, _]) (News.isList N₅ (.head _)) (by simp) ys.length rfl (by rw [hyl]; simp; omega) fun h₆ D₆ k₆ kk₆ hD₆ hD₆n => ?_
  have F₆ := F₅.keeps kk₆
  have N₆ := News.more F₅ N₅ kk₆ hD₆ hD₆n
  clear F₅ N₅
  refine add_lists_ints (ns := (xs.take 4).map fun x => x.fmod (10 ^ 12)) (ms := ([663, 3293, 1654, 1] : List Int).drop ys.length) F₆ N₆ (News.isList N₆ (.tail _ (.tail _ (.head _)))) (News.isList N₆ (.head _)) hys (IntsAre.drop (.cons _ _ (.cons _ _ (.cons _ _ (.cons _ _ .nil)))) _) (fun h₇ F₇ N₇ hi₇ => ?_) (Nat.le_trans (m := 1000) (by simp; omega) (by decide))
  obtain ⟨n0, n1, n2, n3, b0, b1, b2, b3', eN⟩ := numbers4 fmod_nat xs ys.length hyl
  rw [eN] at hi₇
  have N₇' : News s.heap L h₇ [_] := News.sub N₇ fun p hp => by rw [List.mem_singleton.mp hp]; exact .head _
  dsimp only at N₇'
  generalize h₆.objs.size = Dn at *
  clear N₇ N₆ F₆
  try dsimp only
  repeat' ((fail_if_success (with_reducible show wpAny _ _ (call (.ref _) _) _ _ _)); (fail_if_success (with_reducible show wpAny _ _ (subscriptTail _ _ _ _) _ _ _)); walk_at "w")
  rename News s.heap L _ _ => Na
  refine item_list_ints (News.isList Na (.head _)) hi₇ (by decide) (by simp) (by decide) fun t0 => ?_
  repeat' ((fail_if_success (with_reducible show wpAny _ _ (call (.ref _) _) _ _ _)); walk_at "w")
  rename Fr s.heap L _ _ => Fb
  rename News s.heap L _ _ => Nb
  refine c_side (n := n0) (G.keeps Fb.keep) (Rm.less r' (by decide)) b0 fun h0 k0 a0 y0 kk0 ha0 hl0 hP0 => ?_
  obtain ⟨o0, cn0, tn0, hc0, hd0, Nc, hQ0⟩ := News.pairs Fb Nb kk0 ha0 hl0 hP0
  have Fc := Fb.keeps kk0
  clear Nb Fb
  try dsimp only
  repeat' ((fail_if_success (with_reducible show wpAny _ _ (subscriptTail _ _ _ _) _ _ _)); (fail_if_success (with_reducible show wpAny _ _ (binaryOp .Add _ _) _ _ _)); walk_at "w")
  rename News s.heap L _ _ => Na
  refine item_list_ints (News.isList Na (.tail _ (List.mem_append_right _ (.head _)))) hi₇ (by decide) (by simp) (by decide) fun t1 => ?_
  try dsimp only
  repeat' ((fail_if_success (with_reducible show wpAny _ _ (call (.ref _) _) _ _ _)); walk_at "w")
  rename Fr s.heap L _ _ => Fb
  rename News s.heap L _ _ => Nb
  refine c_middle (n := n1) (G.keeps Fb.keep) (Rm.less r' (by decide)) b1 fun h1 k1 a1 y1 kk1 ha1 hl1 hP1 => ?_
  obtain ⟨o1, cn1, tn1, hc1, hd1, Nc, hQ1⟩ := News.pairs Fb Nb kk1 ha1 hl1 hP1
  have Fc := Fb.keeps kk1
  clear Nb Fb
  try dsimp only
  repeat' ((fail_if_success (with_reducible show wpAny _ _ (subscriptTail _ _ _ _) _ _ _)); (fail_if_success (with_reducible show wpAny _ _ (binaryOp .Add _ _) _ _ _)); walk_at "w")
  refine add_lists Fc Nc ⟨o0, Nc.get (.tail _ (List.mem_append_right _ (.head _))), hc0, cn0, hd0⟩ ⟨o1, Nc.get (.head _), hc1, cn1, hd1⟩ (fun h01 F01 N01 => ?_) ?_
  rotate_left
  · have e0 := (Paired.length hQ0).symm
    have e1 := (Paired.length hQ1).symm
    have := middle_len n1
    have e2 : (sideP n0).length = 4 := rfl
    exact Nat.le_trans (m := 1000) (by omega) (by decide)
  try dsimp only
  repeat' ((fail_if_success (with_reducible show wpAny _ _ (subscriptTail _ _ _ _) _ _ _)); (fail_if_success (with_reducible show wpAny _ _ (binaryOp .Add _ _) _ _ _)); walk_at "w")
  rename News s.heap L _ _ => Na
  refine item_list_ints (News.isList Na (.tail _ (.tail _ (List.mem_append_right _ (.tail _ (List.mem_append_right _ (.head _))))))) hi₇ (by decide) (by simp) (by decide) fun t2 => ?_
  try dsimp only
  repeat' ((fail_if_success (with_reducible show wpAny _ _ (call (.ref _) _) _ _ _)); walk_at "w")
  rename Fr s.heap L _ _ => Fb
  rename News s.heap L _ _ => Nb
  refine c_side (n := n2) (G.keeps Fb.keep) (Rm.less r' (by decide)) b2 fun h2 k2 a2 y2 kk2 ha2 hl2 hP2 => ?_
  obtain ⟨o2, cn2, tn2, hc2, hd2, Nc, hQ2⟩ := News.pairs Fb Nb kk2 ha2 hl2 hP2
  have Fc := Fb.keeps kk2
  clear Nb Fb
  try dsimp only
  repeat' ((fail_if_success (with_reducible show wpAny _ _ (subscriptTail _ _ _ _) _ _ _)); (fail_if_success (with_reducible show wpAny _ _ (binaryOp .Add _ _) _ _ _)); walk_at "w")
  refine add_lists Fc Nc (News.isList Nc (.tail _ (List.mem_append_right _ (.head _)))) ⟨o2, Nc.get (.head _), hc2, cn2, hd2⟩ (fun h02 F02 N02 => ?_) ?_
  rotate_left
  · have e0 := (Paired.length hQ0).symm
    have e1 := (Paired.length hQ1).symm
    have e2 := (Paired.length hQ2).symm
    have := middle_len n1
    have e3 : ∀ n, (sideP n).length = 4 := fun _ => rfl
    rw [e3] at e0 e2
    exact Nat.le_trans (m := 1000) (by simp; omega) (by decide)
  have hpairs : Paired (fun p v => PairIn (tn0 ++ tn1 ++ tn2) v p) (fieldP n0 n1 n2) (y0 ++ y1 ++ y2) :=
    Paired.app (Paired.app (PairIn.more hQ0 fun p hp => by simp [hp]) (PairIn.more hQ1 fun p hp => by simp [hp])) (PairIn.more hQ2 fun p hp => by simp [hp])
  have N03 := News.sub (b := _ :: (Dn, _) :: (tn0 ++ tn1 ++ tn2)) N02 fun p hp => by
    rcases List.mem_cons.mp hp with rfl | hp
    · exact .head _
    · rcases List.mem_cons.mp hp with rfl | hp
      · exact .tail _ (.tail _ (List.mem_append_right _ (.tail _ (.tail _ (List.mem_append_right _ (.tail _ (List.mem_append_right _ (.head _))))))))
      · simp only [List.mem_append] at hp
        simp only [List.mem_cons, List.mem_append]
        rcases hp with (hp | hp) | hp
        · simp [hp]
        · simp [hp]
        · simp [hp]
  dsimp only at N03
  generalize h2.objs.size = P at *
  generalize tn0 ++ tn1 ++ tn2 = TN at *
  generalize hY : y0 ++ y1 ++ y2 = Y at *
  try clear N02
  try clear N01
  try clear F01
  try clear Nc
  try clear Fc
  try clear hQ0
  try clear hQ1
  try clear hQ2
  try clear hP0
  try clear hP1
  try clear hP2
  try dsimp only
  repeat' ((fail_if_success (with_reducible show wpAny _ _ (eval (.ListComp _ _ _ _) _) _ _ _)); walk_at "w")
  rename Fr s.heap L _ _ => Fa
  rename News s.heap L _ _ => Na
  have hfl := field_len n0 n1 n2
  have hPH := pairsH_of (News.sub Na fun p hp => .tail _ (.tail _ hp)) hpairs
  rw [eval_ListComp]
  refine wpAny_comprehension_free (use := none) (cl := []) rfl (fun _ => rfl) rfl rfl (by decide) ?_
  dsimp only [firstIter, firstAsync]
  repeat' ((fail_if_success (with_reducible show wpAny _ _ (pyIter _) _ _ _)); walk_at "w")
  try dsimp only
  refine comp_pairs (fun p => [p.1]) r'.2.2 (News.isList Na (.head _)) hPH (by omega) (by decide) rfl (fun _ => rfl) (fun _ => rfl) (.inl ⟨rfl, rfl⟩) (by decide) (by decide) ?_
  intro D4 C4 mC4 h4 tk4 ys4 cn4 hy4 hD4 hC4 hDC4 hnC4 hlD4 kk4
  have F4 := Fa.keeps kk4
  have N4 := News.grown Na kk4
  have hLC4 : L ≠ C4 := by obtain ⟨o, _, _, ho, _⟩ := Fa.ns; exact ne_of_none ho hC4
  refine ⟨mC4, hnC4, fun h5 hs5 => ?_⟩
  have F5 : Fr s.heap L h5 _ := ⟨F4.ns.sameBut hs5 hLC4, fun b o q => hs5.extBut b o (ne_of_none (Fa.keep _ _ q) hC4) (F4.keep b o q), F4.above⟩
  have N5 : News s.heap L h5 _ := fun p hp => ⟨hs5.extBut _ _ (ne_of_none (Na p hp).1 hC4) (N4 p hp).1, (N4 p hp).2⟩
  have hl5 := hs5.extBut _ _ hDC4 hlD4
  try clear Fa
  try clear Na
  clear F4 N4 hPH
  repeat' ((fail_if_success (with_reducible show wpAny _ _ (call (.builtin "str.join") _) _ _ _)); walk_at "w")
  have hT : TextsAre ys4 ((fieldP n0 n1 n2).map fun p => [p.1]) := texts_of (ps := fieldP n0 n1 n2) hy4
  refine join_T (vs := ys4) ⟨_, hl5, rfl, cn4, rfl⟩ hT (by rw [flat_signs, List.length_map, List.length_map]; omega) fun t5 k5 => ?_
  rw [flat_signs]
  try dsimp only
  repeat' ((fail_if_success (with_reducible show wpAny _ _ (subscriptTail _ _ _ _) _ _ _)); walk_at "w")
  rename News s.heap L _ _ => Na
  refine item_list_ints (News.isList Na (.tail _ (.head _))) hi₇ (by decide) (by simp) (by decide) fun t7 => ?_
  rw [show ([(n0 : Int), (n1 : Int), (n2 : Int), (n3 : Int)] : List Int).getD (Int.toNat 3) 0 = (n3 : Int) from rfl]
  try dsimp only
  repeat' ((fail_if_success (with_reducible show wpAny _ _ (subscriptTail _ _ _ _) _ _ _)); walk_at "w")
  rename News s.heap L _ _ => Na
  refine item_list_ints (News.isList Na (.tail _ (.head _))) hi₇ (by decide) (by simp) (by decide) fun t8 => ?_
  rw [show ([(n0 : Int), (n1 : Int), (n2 : Int), (n3 : Int)] : List Int).getD (Int.toNat 3) 0 = (n3 : Int) from rfl]
  try dsimp only
  repeat' ((fail_if_success (with_reducible show wpAny _ _ (subscriptTail _ _ _ _) _ _ _)); walk_at "w")
  rename News s.heap L _ _ => Na
  refine item_list_ints (News.isList Na (.tail _ (.tail _ (.head _)))) hi₇ (by decide) (by simp) (by decide) fun t9 => ?_
  rw [show ([(n0 : Int), (n1 : Int), (n2 : Int), (n3 : Int)] : List Int).getD (Int.toNat 3) 0 = (n3 : Int) from rfl]
  try dsimp only
  repeat' ((fail_if_success (with_reducible show wpAny _ _ (subscriptTail _ _ _ _) _ _ _)); walk_at "w")
  rename Fr s.heap L _ _ => Fa
  rename News s.heap L _ _ => Na
  clear N03
  have hkl : n3 / 16 % 4 < 4 := Nat.mod_lt _ (by decide)
  obtain ⟨Dk, vk, hx, hlk, hik⟩ := pick_row (News.isList Na (.tail _ (.tail _ (.tail _ (.tail _ (.head _)))))) (News.isList Na (.tail _ (.tail _ (.tail _ (.head _))))) (News.isList Na (.tail _ (.tail _ (.head _)))) (News.isList Na (.tail _ (.head _))) (n3 / 16 % 4) hkl
  refine subTail_R (News.isList Na (.head _)).typeIs slot_list_getitem.lookup (wpAny_getItem_list (News.isList Na (.head _)) (by omega) (by simp only [Int.reduceToNat]; omega) hx ?_)
  refine add_lists (vs := [_, _]) Fa Na (News.isList Na (.tail _ (.tail _ (.tail _ (.tail _ (.tail _ (.head _))))))) hlk (fun h8 F8 N8 => ?_) ?_
  rotate_left
  · have := hik.length
    have : (rowL (n3 / 16 % 4)).length ≤ 2 := by unfold rowL; repeat' split
                                                 all_goals simp
    exact Nat.le_trans (m := 1000) (by simp; omega) (by decide)
  have N9 := News.sub N8 (b := _ :: _ :: (P, _) :: (Dn, _) :: TN) fun p hp => by
    rcases List.mem_cons.mp hp with rfl | hp
    · exact .head _
    · rcases List.mem_cons.mp hp with rfl | hp
      · exact .tail _ (.tail _ (.tail _ (.tail _ (.tail _ (.tail _ (.head _))))))
      · exact .tail _ (.tail _ (.tail _ (.tail _ (.tail _ (.tail _ (.tail _ hp))))))
  clear N8 Na Fa hx hlk
  try dsimp only at N9
  try dsimp only
  repeat' ((fail_if_success (with_reducible show wpAny _ _ (execs (.Assign [.Name "amounts" _] _ _ :: _) _) _ _ _)); walk_at "w")
  rename Fr s.heap L _ _ => Fz
  rename News s.heap L _ _ => Nz
  have l0 : (1 : Nat) ≤ 1 + n3 % 4 ∧ 1 + n3 % 4 ≤ 4 := by omega
  have l1' : (1 : Nat) ≤ 1 + n3 / 4 % 4 ∧ 1 + n3 / 4 % 4 ≤ 4 := by omega
  exact law_2 (A := A) (s := s) (kind := n3 / 16 % 4) (a := 1 + n3 % 4) (b := 1 + n3 / 4 % 4) G r' hfr hbare Fz Nz rfl rfl hi₇ hpairs hik l0 l1' hkl (by walk_at "mi") (by walk_at "mi") (by walk_at "mi") (by walk_at "mi") (by walk_at "mi") (by walk_at "mi") hQ
end
end Mine
end
end
-- text K1
namespace Mine
theorem fresh_K1 : True := by w_top off; trivial
noncomputable def XPQ (mg : Str → Option Value) (_ : Heap) : Prop := mg b1N = some (.ref 36) ∧ mg b3N = some (.ref 47)
noncomputable def YPQ (w : World) (h : Heap) : Prop := h.get? 36 = some (b1Obj w.params) ∧ h.get? 47 = some b3Obj
theorem xp_of (s : Shared) (e : XtQ s = true) : XPQ (s.heap.nsMap mainGlobals) s.heap := by
  unfold XtQ at e
  simp only [Bool.and_eq_true, decide_eq_true_eq] at e
  exact e
theorem yp_of (w : World) (s : Shared) (e : obs s = obsV w) : YPQ w s.heap := ⟨congrArg Prod.fst e, congrArg Prod.snd e⟩
theorem yp_keeps (w : World) (h h' : Heap) (y : YPQ w h) (k : ∀ b o, h.get? b = some o → h'.get? b = some o) : YPQ w h' := ⟨k _ _ y.1, k _ _ y.2⟩
theorem qP_eq : qP = q := by unfold qP; rw [P_eq]; rfl
theorem leftP : LeftO P qP looseQ XtQ obs obsV 17000 true := by rw [qP_eq]; exact left
theorem def_eq {x : Str} (h : defOf (qOf P') x = some (drOf P' 26, [])) : defOf qP x = some (dr 26, []) := by unfold qP dr; rw [P_eq]; exact h
theorem the_eq {x : Str} (h : P'.theDef x = some ((drOf P' 26).params, (drOf P' 26).body, (drOf P' 26).scope)) : P.theDef x = some ((dr 26).params, (dr 26).body, (dr 26).scope) := by unfold dr; rw [P_eq]; exact h
theorem kw_eq : kwWritten? (dr 26).params.kwonlyargs (dr 26).params.kw_defaults = some [] := by kernel_rfl!
theorem ok_eq {b : Bool} (h : (chainsOk (qOf P') && opensWell P' && b) = true) : (chainsOk qP && opensWell P && b) = true := by unfold qP; rw [P_eq]; exact h
theorem said : OpenLaw.wellSaid PySem.Challenge.rw_sw0070_01 = true := by
  delta OpenLaw.wellSaid OpenRow.wellSaid OpenRow.partSaid looksOpen
  repeat' (with_reducible refine look_both ?_ ?_)
  all_goals (
    (try rw [PySem.W.Fast.te11788848310118352699])
    (try rw [PySem.W.Fast.te2368527892694137696])
    (try rw [PySem.W.Fast.te9807087744658564304])
    (try rw [PySem.W.Fast.te12862048085361865435])
    (try rw [PySem.W.Fast.te8377067652309620493])
    (try rw [PySem.W.Fast.te18344453789297297638])
    (try rw [PySem.W.Fast.te3471404346716756564])
    (try rw [PySem.W.Fast.te14412699480532031325])
    (try rw [PySem.W.Fast.te8326940854005059898])
    (try rw [PySem.W.Fast.te5923862056798008813])
    (try rw [PySem.W.Fast.te17691160309236699985])
    (try rw [PySem.W.Fast.te13343964577679436407])
    (try rw [PySem.W.Fast.te17119622794617984870])
    (try rw [PySem.W.Fast.te17868728402115742887])
    (try rw [PySem.W.Fast.te9706382859710513879])
    (try rw [PySem.W.Fast.te2357444279172408678])
    (try rw [PySem.W.Fast.te4857012375875476094])
    (try rw [PySem.W.Fast.te13582783067957832011])
    (try rw [PySem.W.Fast.te5318747976498570220])
    (try rw [PySem.W.Fast.te4579403493507170074])
    (try rw [PySem.W.Fast.te4274047373036748609])
    (try rw [PySem.W.Fast.te12749700546528644094])
    (try rw [PySem.W.Fast.te10501279942588096481])
    (try rw [PySem.W.Fast.te8179353310426384613])
    (try rw [PySem.W.Fast.te797321630700447069])
    (try rw [PySem.W.Fast.te9572597257264208301])
    (try rw [PySem.W.Fast.te9558739934217749035])
    (try rw [PySem.W.Fast.te16286561074155671207])
    (try rw [PySem.W.Fast.te6984425678791042302])
    (try rw [PySem.W.Fast.te17095254045102204799])
    (try rw [PySem.W.Fast.te12879404354523853263])
    (try rw [PySem.W.Fast.te482687673346738481])
    (try rw [PySem.W.Fast.te10792542408131684335])
    (try rw [PySem.W.Fast.te7723801398212525404])
    decide +kernel)
theorem int_of {R : WRecords} {d : WData} (h : WShape.has R d .int = true) : ∃ n, d = .int n := hasW_int h
theorem items_of {R : WRecords} : ∀ {ds : List WData}, WShape.hasItems R ds .int = true → ∃ xs : List Int, ds = xs.map .int
  | [], _ => ⟨[], rfl⟩
  | d :: ds, h => by
    rw [WShape.hasItems, Bool.and_eq_true] at h
    obtain ⟨n, rfl⟩ := int_of h.1
    obtain ⟨xs, rfl⟩ := items_of h.2
    exact ⟨n :: xs, rfl⟩
theorem args_of {R : WRecords} {args : List WData} (h : WShape.hasAll R args [.list .int] = true) : ∃ xs : List Int, args = [.list (xs.map .int)] := by
  obtain ⟨d, r, rfl, h1, h2⟩ := hasAllW_cons h
  obtain ⟨ds, rfl, h3⟩ := hasW_list h1
  obtain ⟨xs, rfl⟩ := items_of h3
  cases r with
  | nil => exact ⟨xs, rfl⟩
  | cons y r => exact absurd h2 Bool.false_ne_true
theorem ints_of {R : WRecords} {cl : Str → Option Addr} {h : Heap} : ∀ {xs : List Int} {vs : List Value} {as : List Addr}, ReadsAllW R cl h vs (xs.map .int) as → IntsAre vs xs
  | [], _, _, r => by cases r; exact .nil
  | n :: xs, _, _, r => by
    cases r with
    | cons a b =>
      cases a with
      | int _ t => exact .cons n t (ints_of b)
theorem pre_len {R : WRecords} {xs : List Int} (h : WTm.holds R (.and (.not (.lt (.lit (.int (63 : Nat))) (.len (.arg 0)))) (.lit (.bool true))) { args := [.list (xs.map .int)] } = true) : xs.length ≤ 63 := by
  by_cases q : (63 : Int) < xs.length
  · simp [WTm.holds, WTm.value, less?, Num.less?, q] at h
  · omega
theorem post_ok {R : WRecords} {c : WCtx} : (WShape.has R (.bool true) .bool && WTm.holds R (.eq .res (.lit (.bool true))) { c with res := some (.bool true) }) = true := by
  have e : PySem.W.same (WData.bool true) (WData.bool true) = true := by simp [PySem.W.same]
  simp [WShape.has, WShape.arms, WTm.holds, WTm.value, e]
theorem nm_b1 : Str.ofString "b1_set" = b1N := str_raw (l := ['b', '1', '_', 's', 'e', 't']) rfl
theorem nm_b3 : Str.ofString "b3_exceptions" = b3N := str_raw (l := ['b', '3', '_', 'e', 'x', 'c', 'e', 'p', 't', 'i', 'o', 'n', 's']) rfl
noncomputable def adOf (mg : Str → Option Value) (i : Nat) : Addr := match mg (nm i) with | some (.ref a) => a | _ => 0
theorem dr_all : ∀ i ∈ fns, dr i ∈ recsOf qP := by
  intro i hi
  simp only [fns, List.mem_cons, List.not_mem_nil, or_false] at hi
  rcases hi with rfl | rfl | rfl | rfl | rfl | rfl | rfl | rfl | rfl | rfl | rfl | rfl | rfl | rfl | rfl | rfl | rfl
  · exact dr2
  · exact dr3
  · exact dr6
  · exact dr8
  · exact dr13
  · exact dr14
  · exact dr16
  · exact dr17
  · exact dr18
  · exact dr19
  · exact dr20
  · exact dr21
  · exact dr22
  · exact dr23
  · exact dr24
  · exact dr25
  · exact dr26
theorem gg_of {w : World} {mean : ExcName → Option Value} {mg mb : Str → Option Value} {h : Heap} (T : Top qP (looseW qP looseQ) mean mg mb h) (X : XPQ mg h) (Y : YPQ w h) : GG w mean mg mb (adOf mg) h := by
  refine ⟨T, ?_, ?_, Y.1, Y.2, fun i hi => ?_⟩
  · rw [nm_b1]; exact X.1
  · rw [nm_b3]; exact X.2
  · obtain ⟨a, _, _, _, _, h1, _⟩ := T.fn _ (dr_all i hi)
    unfold adOf
    rw [h1]
theorem room : Rm 6 callerA := ⟨by decide, by decide, rfl⟩
end Mine
theorem PySem.Challenge.cw_sw0070_01_holds : PySem.Challenge.rw_sw0070_01.Holds := by
  w_on; refine holds_law Mine.said fun _ => ?_
  refine holds_open (q := Mine.qP) (d := Mine.dr 26) (kwd := []) (loose := Mine.looseQ) (Xt := Mine.XtQ) (XP := Mine.XPQ) (Yf := Mine.obs) (Ya := Mine.obsV) (YP := Mine.YPQ) (N := 17000) Mine.leftP Mine.yp_of Mine.yp_keeps Mine.xp_of (fun _ _ _ x _ => x) ?hdef ?hp ?hk (fun s _ => recFacts_nil rfl) (by rfl) (by first | assumption | decide +kernel) ?ok ⟨rfl, rfl, rfl, rfl, rfl, by decide +kernel⟩ ?hw ?hc
  case hdef => exact Mine.def_eq (by kernel_rfl!)
  case hp => exact Mine.the_eq (by kernel_rfl!)
  case hk => exact Mine.kw_eq
  case ok => exact Mine.ok_eq (by kernel_rfl!)
  case hw => w_witness2
  case hc =>
    intro w s₀ s₁ mg mb G Y a o pm cd doc dV kV ho hd hcd hdf hmg hgens args vals as hpre hlay hrd hwell hlow
    obtain ⟨h1, h2⟩ := Bool.and_eq_true_iff.mp hpre
    obtain ⟨xs, rfl⟩ := Mine.args_of h1
    cases hrd with
    | cons r1 r2 =>
    cases r2
    cases r1 with
    | list ho' hc' hd' rr =>
    rename_i al ol vl nl asl
    have hints := Mine.ints_of (vs := vl.toList) rr
    have hlen : xs.length ≤ 63 := Mine.pre_len (R := Challenge.rw_sw0070_01.row.records) h2
    have GGm := Mine.gg_of G.T G.X Y
    have ea : Mine.adOf mg 26 = a := by
      unfold Mine.adOf
      rw [hmg]
    have c := Mine.c_law (prog := Challenge.rw_sw0070_01.row.prog) (w := w) (A := callerA) (s := s₁) (E := fun e s' => GoodWG Challenge.rw_sw0070_01.row.claim (classAt s₀.heap) (ExcName.means s₀.heap) [.list (xs.map .int)] s₁ (.error e) s')
      (Q := fun v s' => GoodWG Challenge.rw_sw0070_01.row.claim (classAt s₀.heap) (ExcName.means s₀.heap) [.list (xs.map .int)] s₁ (.ok (.ret v)) s') (vs := vl.toList) (a := al) GGm Mine.room ⟨ol, ho', hc', nl, hd'⟩ hints hlen rfl (by rw [hgens]; exact AllBare.empty) fun h' t' g' k hb => ?_
    · rw [ea] at c
      exact c
    · refine ⟨.inl ⟨.bool true, .bool true, [], rfl, fun _ => rfl, .bool true, ?_, fun _ => ⟨.nil, fun a ha => nomatch ha⟩⟩, .of_keep k, rfl, hb⟩
      exact Mine.post_ok (R := Challenge.rw_sw0070_01.row.records) (c := { args := [.list (xs.map .int)], after := [.list (xs.map .int)] })
