import PyProof.Rows.All
import Wide.All
import OpenK.AllK
import Wide.FinOn
import OpenK.XGo
import PyProof.IsiH_tuple
import PyProof.AttrMissHeap
import PyProof.Rows.BootFacts.P5
import PySem.Challenge.RW_kw0010_01
set_option Elab.async false
set_option maxRecDepth 100000
set_option linter.unusedVariables false
set_option linter.unusedSimpArgs false
open PySem PySem.W PySem.Calls PySem.Spec PyProof.Rows
namespace Mine
noncomputable abbrev pw : Program := PySem.Challenge.pw_kw0010_01
noncomputable def nth : List Stmt → Nat → Stmt
  | [], _ => .Pass ⟨0, 0, 0, 0⟩
  | s :: _, 0 => s
  | _ :: r, n + 1 => nth r n
noncomputable def stAt (i : Nat) : Stmt := nth pw.main.body i
noncomputable def clsBody : Stmt → List Stmt
  | .ClassDef _ _ _ body .. => body
  | _ => []
noncomputable def memAt (i j : Nat) : Stmt := nth (clsBody (stAt i)) j
noncomputable def fArgs : Stmt → Arguments
  | .FunctionDef _ a .. => a
  | _ => default
noncomputable def fBody : Stmt → List Stmt
  | .FunctionDef _ _ b .. => b
  | _ => []
noncomputable def fScope : Stmt → Scope
  | .FunctionDef _ _ _ _ _ _ s .. => s
  | _ => default
noncomputable def lifeN : Life := ⟨[], [], [], 0, [], [], false, #[], [], 0, false, false, false, 0, [2000, 10, 10], false, 0, true, [], [], 0, false⟩
noncomputable def o_11_a : Params → Obj := fun P => ⟨(.type "tuple"), none, (.seq #[] 0), #[]⟩
noncomputable def o_12_a : Params → Obj := fun P => ⟨.none, none, (.fields #[]), #[]⟩
noncomputable def o_13_a : Params → Obj := fun P => ⟨(.type "code"), none, (.fields #[(.str (.ofString "<module>") 182), (.str (.ofString "<module>") 183), (.str (.ofString "/claim/cut.py") 184), (.int 1 0), (.int 0 0), (.int 0 0), (.int 0 0), (.int 0 0), (.ref 11), (.bool false), (.int 181 0), (.ref 12), .none, .none, .none, .none, (.int 185 0), (.int 1 0), (.str (.ofString "/claim/cut.py") 186)]), #[]⟩
noncomputable def o_14_a : Params → Obj := fun P => ⟨(.type "frame"), none, .plain, #[(some (.ref 13)), (some (.ref 3)), (some (.ref 3)), none, (some (.str (.ofString "__main__") 164)), none, (some (.ref 0))]⟩
noncomputable def heap_a : Params → Heap := fun P => ⟨⟨(PySem.W.boot_o_0 P :: PySem.W.boot_o_1 P :: PySem.W.boot_o_2 P :: PySem.W.boot_o_3 P :: PySem.W.boot_o_4 P :: PySem.W.boot_o_5 P :: PySem.W.boot_o_6 P :: PySem.W.boot_o_7 P :: PySem.W.boot_o_8 P :: PySem.W.boot_o_9 P :: PySem.W.boot_o_10 P :: o_11_a P :: o_12_a P :: o_13_a P :: o_14_a P :: [])⟩, lifeN⟩
-- state a: objs 15 toks 187
noncomputable def tree_b : Params → BT := fun P => (.node (PySem.W.boot_o_0 P) (.node (PySem.W.boot_o_1 P) (.node (PySem.W.boot_o_3 P) (.node (PySem.W.boot_o_7 P) .nil .nil) (.node (o_11_a P) .nil .nil)) (.node (PySem.W.boot_o_5 P) (.node (PySem.W.boot_o_9 P) .nil .nil) (.node (o_13_a P) .nil .nil))) (.node (PySem.W.boot_o_2 P) (.node (PySem.W.boot_o_4 P) (.node (PySem.W.boot_o_8 P) .nil .nil) (.node (o_12_a P) .nil .nil)) (.node (PySem.W.boot_o_6 P) (.node (PySem.W.boot_o_10 P) .nil .nil) (.node (o_14_a P) .nil .nil))))
-- state b: objs 15 toks 187
noncomputable def o_2_10 : Params → Obj := fun P => ⟨.none, none, (.dict #[⟨PyData.keyHash P (.ofString "type.__subclasses__.Exception.0"), (.str (.ofString "type.__subclasses__.Exception.0") 309), (.int 89 0)⟩, ⟨PyData.keyHash P (.ofString "type.__subclasses__.Exception.n"), (.str (.ofString "type.__subclasses__.Exception.n") 310), (.int 1 0)⟩] 2), #[]⟩
noncomputable def o_3_10 : Params → Obj := fun P => ⟨(.type "dict"), none, (.dict #[⟨PyData.keyHash P (.ofString "__name__"), (.str (.ofString "__name__") 165), (.str (.ofString "eth._utils.empty") 232)⟩, ⟨PyData.keyHash P (.ofString "__doc__"), (.str (.ofString "__doc__") 166), .none⟩, ⟨PyData.keyHash P (.ofString "__package__"), (.str (.ofString "__package__") 167), .none⟩, ⟨PyData.keyHash P (.ofString "__loader__"), (.str (.ofString "__loader__") 168), (.builtin "__main__.__loader__#opaque")⟩, ⟨PyData.keyHash P (.ofString "__spec__"), (.str (.ofString "__spec__") 169), .none⟩, ⟨PyData.keyHash P (.ofString "__annotations__"), (.str (.ofString "__annotations__") 170), (.ref 6)⟩, ⟨PyData.keyHash P (.ofString "__builtins__"), (.str (.ofString "__builtins__") 171), (.ref 4)⟩, ⟨PyData.keyHash P (.ofString "__file__"), (.str (.ofString "__file__") 173), (.str (.ofString "/claim/cut.py") 172)⟩, ⟨PyData.keyHash P (.ofString "__cached__"), (.str (.ofString "__cached__") 174), .none⟩, ⟨PyData.keyHash P (.ofString "_wall"), (.str (.ofString "_wall") 193), (.ref 21)⟩, ⟨PyData.keyHash P (.ofString "BASE_FEE_MAX_CHANGE_DENOMINATOR"), (.str (.ofString "BASE_FEE_MAX_CHANGE_DENOMINATOR") 195), (.int 8 194)⟩, ⟨PyData.keyHash P (.ofString "INITIAL_BASE_FEE"), (.str (.ofString "INITIAL_BASE_FEE") 197), (.int 1000000000 196)⟩, ⟨PyData.keyHash P (.ofString "ELASTICITY_MULTIPLIER"), (.str (.ofString "ELASTICITY_MULTIPLIER") 199), (.int 2 198)⟩, ⟨PyData.keyHash P (.ofString "calculate_expected_base_fee_per_gas"), (.str (.ofString "calculate_expected_base_fee_per_gas") 215), (.ref 28)⟩, ⟨PyData.keyHash P (.ofString "fake_exponential"), (.str (.ofString "fake_exponential") 231), (.ref 36)⟩, ⟨PyData.keyHash P (.ofString "_tuplegetter"), (.str (.ofString "_tuplegetter") 290), (.ref 75)⟩, ⟨PyData.keyHash P (.ofString "ValidationError"), (.str (.ofString "ValidationError") 312), (.ref 89)⟩] 17), #[]⟩
noncomputable def o_12_10 : Params → Obj := fun P => ⟨.none, none, (.fields #[(.int 1 0), (.int 0 0), (.ref 20), (.int 8 0), (.int 0 0), (.ref 27), (.int 31 0), (.int 0 0), (.ref 35), (.int 41 0), (.int 0 0), (.ref 42), (.int 59 0), (.int 0 0), (.ref 85)]), #[]⟩
noncomputable def o_15_10 : Params → Obj := fun P => ⟨(.type "tuple"), none, (.seq #[] 0), #[]⟩
noncomputable def o_16_10 : Params → Obj := fun P => ⟨.none, none, (.fields #[]), #[]⟩
noncomputable def o_17_10 : Params → Obj := fun P => ⟨(.type "tuple"), none, (.seq #[(.str (.ofString "k") 190)] 0), #[]⟩
noncomputable def o_18_10 : Params → Obj := fun P => ⟨(.type "tuple"), none, (.seq #[] 0), #[]⟩
noncomputable def o_19_10 : Params → Obj := fun P => ⟨.none, none, (.func ⟨(.ofString "_wall"), (.ofString "_wall"), fArgs (stAt 0), .stmts (fBody (stAt 0)), fScope (stAt 0), 0, [], .none, .none, .none, .none, none, .none, .none, 0⟩), #[]⟩
noncomputable def o_20_10 : Params → Obj := fun P => ⟨(.type "code"), none, (.fields #[(.str (.ofString "_wall") 187), (.str (.ofString "_wall") 188), (.str (.ofString "/claim/cut.py") 189), (.int 1 0), (.int 1 0), (.int 0 0), (.int 0 0), (.int 3 0), (.ref 15), (.bool true), (.int 181 0), (.ref 16), .none, (.ref 17), (.ref 18), (.ref 19), (.int 191 0), (.int 1 0), (.str (.ofString "/claim/cut.py") 192)]), #[]⟩
noncomputable def o_21_10 : Params → Obj := fun P => ⟨(.type "function"), none, (.func ⟨(.ofString "_wall"), (.ofString "_wall"), fArgs (stAt 0), .stmts (fBody (stAt 0)), fScope (stAt 0), 3, [], .none, .none, .none, (.str (.ofString "__main__") 164), none, (.ref 20), .none, 0⟩), #[]⟩
noncomputable def o_22_10 : Params → Obj := fun P => ⟨(.type "tuple"), none, (.seq #[] 0), #[]⟩
noncomputable def o_23_10 : Params → Obj := fun P => ⟨.none, none, (.fields #[]), #[]⟩
noncomputable def o_24_10 : Params → Obj := fun P => ⟨(.type "tuple"), none, (.seq #[(.str (.ofString "parent_header") 205), (.str (.ofString "parent_base_fee_per_gas") 206), (.str (.ofString "parent_gas_target") 207), (.str (.ofString "parent_gas_used") 208), (.str (.ofString "gas_used_delta") 209), (.str (.ofString "overburnt_wei") 210), (.str (.ofString "base_fee_per_gas_delta") 211), (.str (.ofString "underburnt_wei") 212)] 0), #[]⟩
noncomputable def o_25_10 : Params → Obj := fun P => ⟨(.type "tuple"), none, (.seq #[] 0), #[]⟩
noncomputable def o_26_10 : Params → Obj := fun P => ⟨.none, none, (.func ⟨(.ofString "calculate_expected_base_fee_per_gas"), (.ofString "calculate_expected_base_fee_per_gas"), fArgs (stAt 5), .stmts (fBody (stAt 5)), fScope (stAt 5), 0, [], .none, .none, .none, .none, none, .none, .none, 0⟩), #[]⟩
noncomputable def o_27_10 : Params → Obj := fun P => ⟨(.type "code"), none, (.fields #[(.str (.ofString "calculate_expected_base_fee_per_gas") 202), (.str (.ofString "calculate_expected_base_fee_per_gas") 203), (.str (.ofString "/claim/cut.py") 204), (.int 8 0), (.int 1 0), (.int 0 0), (.int 0 0), (.int 3 0), (.ref 22), (.bool true), (.int 181 0), (.ref 23), .none, (.ref 24), (.ref 25), (.ref 26), (.int 213 0), (.int 8 0), (.str (.ofString "/claim/cut.py") 214)]), #[]⟩
noncomputable def o_28_10 : Params → Obj := fun P => ⟨(.type "function"), none, (.func ⟨(.ofString "calculate_expected_base_fee_per_gas"), (.ofString "calculate_expected_base_fee_per_gas"), fArgs (stAt 5), .stmts (fBody (stAt 5)), fScope (stAt 5), 3, [], .none, .none, .none, (.str (.ofString "eth.vm.forks.london.headers") 200), none, (.ref 27), .none, 0⟩), #[]⟩
noncomputable def o_29_10 : Params → Obj := fun P => ⟨(.type "tuple"), none, (.seq #[(.int 10000 218)] 0), #[]⟩
noncomputable def o_30_10 : Params → Obj := fun P => ⟨(.type "tuple"), none, (.seq #[] 0), #[]⟩
noncomputable def o_31_10 : Params → Obj := fun P => ⟨.none, none, (.fields #[]), #[]⟩
noncomputable def o_32_10 : Params → Obj := fun P => ⟨(.type "tuple"), none, (.seq #[(.str (.ofString "factor") 222), (.str (.ofString "numerator") 223), (.str (.ofString "denominator") 224), (.str (.ofString "max_iterations") 225), (.str (.ofString "i") 226), (.str (.ofString "output") 227), (.str (.ofString "numerator_accum") 228)] 0), #[]⟩
noncomputable def o_33_10 : Params → Obj := fun P => ⟨(.type "tuple"), none, (.seq #[] 0), #[]⟩
noncomputable def o_34_10 : Params → Obj := fun P => ⟨.none, none, (.func ⟨(.ofString "fake_exponential"), (.ofString "fake_exponential"), fArgs (stAt 7), .stmts (fBody (stAt 7)), fScope (stAt 7), 0, [], .none, .none, .none, .none, none, .none, .none, 0⟩), #[]⟩
noncomputable def o_35_10 : Params → Obj := fun P => ⟨(.type "code"), none, (.fields #[(.str (.ofString "fake_exponential") 219), (.str (.ofString "fake_exponential") 220), (.str (.ofString "/claim/cut.py") 221), (.int 31 0), (.int 4 0), (.int 0 0), (.int 0 0), (.int 3 0), (.ref 30), (.bool true), (.int 181 0), (.ref 31), .none, (.ref 32), (.ref 33), (.ref 34), (.int 229 0), (.int 31 0), (.str (.ofString "/claim/cut.py") 230)]), #[]⟩
noncomputable def o_36_10 : Params → Obj := fun P => ⟨(.type "function"), none, (.func ⟨(.ofString "fake_exponential"), (.ofString "fake_exponential"), fArgs (stAt 7), .stmts (fBody (stAt 7)), fScope (stAt 7), 3, [], (.ref 29), .none, .none, (.str (.ofString "eth._utils.calculations") 216), none, (.ref 35), .none, 0⟩), #[]⟩
noncomputable def o_37_10 : Params → Obj := fun P => ⟨(.type "tuple"), none, (.seq #[] 0), #[]⟩
noncomputable def o_38_10 : Params → Obj := fun P => ⟨(.type "builtin_function_or_method"), none, (.fields #[(.builtin "type.__prepare__"), (.type "type")]), #[]⟩
noncomputable def o_39_10 : Params → Obj := fun P => ⟨(.type "dict"), none, (.dict #[⟨PyData.keyHash P (.ofString "__module__"), (.str (.ofString "__module__") 241), (.str (.ofString "eth._utils.empty") 232)⟩, ⟨PyData.keyHash P (.ofString "__qualname__"), (.str (.ofString "__qualname__") 243), (.str (.ofString "_tuplegetter") 242)⟩, ⟨PyData.keyHash P (.ofString "__firstlineno__"), (.str (.ofString "__firstlineno__") 245), (.int 41 244)⟩, ⟨PyData.keyHash P (.ofString "__init__"), (.str (.ofString "__init__") 254), (.ref 50)⟩, ⟨PyData.keyHash P (.ofString "__get__"), (.str (.ofString "__get__") 263), (.ref 58)⟩, ⟨PyData.keyHash P (.ofString "__set__"), (.str (.ofString "__set__") 272), (.ref 65)⟩, ⟨PyData.keyHash P (.ofString "__delete__"), (.str (.ofString "__delete__") 280), (.ref 72)⟩, ⟨PyData.keyHash P (.ofString "__static_attributes__"), (.str (.ofString "__static_attributes__") 283), (.ref 73)⟩] 8), #[]⟩
noncomputable def o_40_10 : Params → Obj := fun P => ⟨(.type "tuple"), none, (.seq #[] 0), #[]⟩
noncomputable def o_41_10 : Params → Obj := fun P => ⟨.none, none, (.fields #[(.int 43 0), (.int 4 0), (.ref 49), (.int 47 0), (.int 4 0), (.ref 57), (.int 54 0), (.int 4 0), (.ref 64), (.int 57 0), (.int 4 0), (.ref 71)]), #[]⟩
noncomputable def o_42_10 : Params → Obj := fun P => ⟨(.type "code"), none, (.fields #[(.str (.ofString "_tuplegetter") 236), (.str (.ofString "_tuplegetter") 237), (.str (.ofString "/claim/cut.py") 238), (.int 41 0), (.int 0 0), (.int 0 0), (.int 0 0), (.int 0 0), (.ref 40), (.bool false), (.int 181 0), (.ref 41), .none, .none, .none, .none, (.int 239 0), (.int 41 0), (.str (.ofString "/claim/cut.py") 240)]), #[]⟩
noncomputable def o_43_10 : Params → Obj := fun P => ⟨(.type "frame"), none, .plain, #[(some (.ref 42)), (some (.ref 3)), (some (.ref 39)), none, (some (.str (.ofString "eth._utils.empty") 232)), none, (some (.ref 0))]⟩
noncomputable def o_44_10 : Params → Obj := fun P => ⟨(.type "tuple"), none, (.seq #[] 0), #[]⟩
noncomputable def o_45_10 : Params → Obj := fun P => ⟨.none, none, (.fields #[]), #[]⟩
noncomputable def o_46_10 : Params → Obj := fun P => ⟨(.type "tuple"), none, (.seq #[(.str (.ofString "self") 249), (.str (.ofString "index") 250), (.str (.ofString "doc") 251)] 0), #[]⟩
noncomputable def o_47_10 : Params → Obj := fun P => ⟨(.type "tuple"), none, (.seq #[] 0), #[]⟩
noncomputable def o_48_10 : Params → Obj := fun P => ⟨.none, none, (.func ⟨(.ofString "__init__"), (.ofString "_tuplegetter.__init__"), fArgs (memAt 9 0), .stmts (fBody (memAt 9 0)), fScope (memAt 9 0), 0, [], .none, .none, .none, .none, none, .none, .none, 0⟩), #[]⟩
noncomputable def o_49_10 : Params → Obj := fun P => ⟨(.type "code"), none, (.fields #[(.str (.ofString "__init__") 246), (.str (.ofString "_tuplegetter.__init__") 247), (.str (.ofString "/claim/cut.py") 248), (.int 43 0), (.int 3 0), (.int 0 0), (.int 0 0), (.int 3 0), (.ref 44), (.bool true), (.int 181 0), (.ref 45), .none, (.ref 46), (.ref 47), (.ref 48), (.int 252 0), (.int 43 0), (.str (.ofString "/claim/cut.py") 253)]), #[]⟩
noncomputable def o_50_10 : Params → Obj := fun P => ⟨(.type "function"), none, (.func ⟨(.ofString "__init__"), (.ofString "_tuplegetter.__init__"), fArgs (memAt 9 0), .stmts (fBody (memAt 9 0)), fScope (memAt 9 0), 3, [], .none, .none, .none, (.str (.ofString "eth._utils.empty") 232), none, (.ref 49), .none, 0⟩), #[]⟩
noncomputable def o_51_10 : Params → Obj := fun P => ⟨(.type "tuple"), none, (.seq #[.none] 0), #[]⟩
noncomputable def o_52_10 : Params → Obj := fun P => ⟨(.type "tuple"), none, (.seq #[] 0), #[]⟩
noncomputable def o_53_10 : Params → Obj := fun P => ⟨.none, none, (.fields #[]), #[]⟩
noncomputable def o_54_10 : Params → Obj := fun P => ⟨(.type "tuple"), none, (.seq #[(.str (.ofString "self") 258), (.str (.ofString "obj") 259), (.str (.ofString "objtype") 260)] 0), #[]⟩
noncomputable def o_55_10 : Params → Obj := fun P => ⟨(.type "tuple"), none, (.seq #[] 0), #[]⟩
noncomputable def o_56_10 : Params → Obj := fun P => ⟨.none, none, (.func ⟨(.ofString "__get__"), (.ofString "_tuplegetter.__get__"), fArgs (memAt 9 1), .stmts (fBody (memAt 9 1)), fScope (memAt 9 1), 0, [], .none, .none, .none, .none, none, .none, .none, 0⟩), #[]⟩
noncomputable def o_57_10 : Params → Obj := fun P => ⟨(.type "code"), none, (.fields #[(.str (.ofString "__get__") 255), (.str (.ofString "_tuplegetter.__get__") 256), (.str (.ofString "/claim/cut.py") 257), (.int 47 0), (.int 3 0), (.int 0 0), (.int 0 0), (.int 3 0), (.ref 52), (.bool true), (.int 181 0), (.ref 53), .none, (.ref 54), (.ref 55), (.ref 56), (.int 261 0), (.int 47 0), (.str (.ofString "/claim/cut.py") 262)]), #[]⟩
noncomputable def o_58_10 : Params → Obj := fun P => ⟨(.type "function"), none, (.func ⟨(.ofString "__get__"), (.ofString "_tuplegetter.__get__"), fArgs (memAt 9 1), .stmts (fBody (memAt 9 1)), fScope (memAt 9 1), 3, [], (.ref 51), .none, .none, (.str (.ofString "eth._utils.empty") 232), none, (.ref 57), .none, 0⟩), #[]⟩
noncomputable def o_59_10 : Params → Obj := fun P => ⟨(.type "tuple"), none, (.seq #[] 0), #[]⟩
noncomputable def o_60_10 : Params → Obj := fun P => ⟨.none, none, (.fields #[]), #[]⟩
noncomputable def o_61_10 : Params → Obj := fun P => ⟨(.type "tuple"), none, (.seq #[(.str (.ofString "self") 267), (.str (.ofString "obj") 268), (.str (.ofString "value") 269)] 0), #[]⟩
noncomputable def o_62_10 : Params → Obj := fun P => ⟨(.type "tuple"), none, (.seq #[] 0), #[]⟩
noncomputable def o_63_10 : Params → Obj := fun P => ⟨.none, none, (.func ⟨(.ofString "__set__"), (.ofString "_tuplegetter.__set__"), fArgs (memAt 9 2), .stmts (fBody (memAt 9 2)), fScope (memAt 9 2), 0, [], .none, .none, .none, .none, none, .none, .none, 0⟩), #[]⟩
noncomputable def o_64_10 : Params → Obj := fun P => ⟨(.type "code"), none, (.fields #[(.str (.ofString "__set__") 264), (.str (.ofString "_tuplegetter.__set__") 265), (.str (.ofString "/claim/cut.py") 266), (.int 54 0), (.int 3 0), (.int 0 0), (.int 0 0), (.int 3 0), (.ref 59), (.bool true), (.int 181 0), (.ref 60), .none, (.ref 61), (.ref 62), (.ref 63), (.int 270 0), (.int 54 0), (.str (.ofString "/claim/cut.py") 271)]), #[]⟩
noncomputable def o_65_10 : Params → Obj := fun P => ⟨(.type "function"), none, (.func ⟨(.ofString "__set__"), (.ofString "_tuplegetter.__set__"), fArgs (memAt 9 2), .stmts (fBody (memAt 9 2)), fScope (memAt 9 2), 3, [], .none, .none, .none, (.str (.ofString "eth._utils.empty") 232), none, (.ref 64), .none, 0⟩), #[]⟩
noncomputable def o_66_10 : Params → Obj := fun P => ⟨(.type "tuple"), none, (.seq #[] 0), #[]⟩
noncomputable def o_67_10 : Params → Obj := fun P => ⟨.none, none, (.fields #[]), #[]⟩
noncomputable def o_68_10 : Params → Obj := fun P => ⟨(.type "tuple"), none, (.seq #[(.str (.ofString "self") 276), (.str (.ofString "obj") 277)] 0), #[]⟩
noncomputable def o_69_10 : Params → Obj := fun P => ⟨(.type "tuple"), none, (.seq #[] 0), #[]⟩
noncomputable def o_70_10 : Params → Obj := fun P => ⟨.none, none, (.func ⟨(.ofString "__delete__"), (.ofString "_tuplegetter.__delete__"), fArgs (memAt 9 3), .stmts (fBody (memAt 9 3)), fScope (memAt 9 3), 0, [], .none, .none, .none, .none, none, .none, .none, 0⟩), #[]⟩
noncomputable def o_71_10 : Params → Obj := fun P => ⟨(.type "code"), none, (.fields #[(.str (.ofString "__delete__") 273), (.str (.ofString "_tuplegetter.__delete__") 274), (.str (.ofString "/claim/cut.py") 275), (.int 57 0), (.int 2 0), (.int 0 0), (.int 0 0), (.int 3 0), (.ref 66), (.bool true), (.int 181 0), (.ref 67), .none, (.ref 68), (.ref 69), (.ref 70), (.int 278 0), (.int 57 0), (.str (.ofString "/claim/cut.py") 279)]), #[]⟩
noncomputable def o_72_10 : Params → Obj := fun P => ⟨(.type "function"), none, (.func ⟨(.ofString "__delete__"), (.ofString "_tuplegetter.__delete__"), fArgs (memAt 9 3), .stmts (fBody (memAt 9 3)), fScope (memAt 9 3), 3, [], .none, .none, .none, (.str (.ofString "eth._utils.empty") 232), none, (.ref 71), .none, 0⟩), #[]⟩
noncomputable def o_73_10 : Params → Obj := fun P => ⟨(.type "tuple"), none, (.seq #[(.str (.ofString "__doc__") 281), (.str (.ofString "index") 282)] 0), #[]⟩
noncomputable def o_74_10 : Params → Obj := fun P => ⟨(.type "dict"), none, (.dict #[⟨PyData.keyHash P (.ofString "__module__"), (.str (.ofString "__module__") 241), (.str (.ofString "eth._utils.empty") 232)⟩, ⟨PyData.keyHash P (.ofString "__firstlineno__"), (.str (.ofString "__firstlineno__") 245), (.int 41 244)⟩, ⟨PyData.keyHash P (.ofString "__init__"), (.str (.ofString "__init__") 254), (.ref 50)⟩, ⟨PyData.keyHash P (.ofString "__get__"), (.str (.ofString "__get__") 263), (.ref 58)⟩, ⟨PyData.keyHash P (.ofString "__set__"), (.str (.ofString "__set__") 272), (.ref 65)⟩, ⟨PyData.keyHash P (.ofString "__delete__"), (.str (.ofString "__delete__") 280), (.ref 72)⟩, ⟨PyData.keyHash P (.ofString "__static_attributes__"), (.str (.ofString "__static_attributes__") 283), (.ref 73)⟩, ⟨PyData.keyHash P (.ofString "__dict__"), (.str (.ofString "__dict__") 285), (.ref 76)⟩, ⟨PyData.keyHash P (.ofString "__weakref__"), (.str (.ofString "__weakref__") 287), (.ref 77)⟩, ⟨PyData.keyHash P (.ofString "__doc__"), (.str (.ofString "__doc__") 288), .none⟩] 4), #[]⟩
noncomputable def o_75_10 : Params → Obj := fun P => ⟨(.type "type"), none, (.cls ⟨(.ofString "_tuplegetter"), [(.type "object")], [(.ref 75), (.type "object")], 74, (.ofString "_tuplegetter"), true, [], [], false, none, false⟩), #[none, none, (some (.str (.ofString "_tuplegetter") 234)), (some (.str (.ofString "_tuplegetter") 242)), (some (.builtin "object.__new__")), (some (.bool true))]⟩
noncomputable def o_76_10 : Params → Obj := fun P => ⟨(.type "getset_descriptor"), none, (.fields #[(.str (.ofString "__dict__") 284), (.ref 75), (.builtin "function.__dict__"), (.builtin "function.__dict__#set")]), #[]⟩
noncomputable def o_77_10 : Params → Obj := fun P => ⟨(.type "getset_descriptor"), none, (.fields #[(.str (.ofString "__weakref__") 286), (.ref 75), (.builtin "ExceptionGroup.__weakref__"), .none]), #[]⟩
noncomputable def o_78_10 : Params → Obj := fun P => ⟨(.type "super"), none, (.fields #[(.ref 75), (.ref 75), (.ref 75)]), #[]⟩
noncomputable def o_79_10 : Params → Obj := fun P => ⟨(.type "builtin_function_or_method"), none, (.fields #[(.builtin "object.__init_subclass__"), (.ref 75)]), #[]⟩
noncomputable def o_80_10 : Params → Obj := fun P => ⟨(.type "tuple"), none, (.seq #[(.type "Exception")] 0), #[]⟩
noncomputable def o_81_10 : Params → Obj := fun P => ⟨(.type "builtin_function_or_method"), none, (.fields #[(.builtin "type.__prepare__"), (.type "type")]), #[]⟩
noncomputable def o_82_10 : Params → Obj := fun P => ⟨(.type "dict"), none, (.dict #[⟨PyData.keyHash P (.ofString "__module__"), (.str (.ofString "__module__") 298), (.str (.ofString "eth._utils.empty") 232)⟩, ⟨PyData.keyHash P (.ofString "__qualname__"), (.str (.ofString "__qualname__") 300), (.str (.ofString "ValidationError") 299)⟩, ⟨PyData.keyHash P (.ofString "__firstlineno__"), (.str (.ofString "__firstlineno__") 302), (.int 59 301)⟩, ⟨PyData.keyHash P (.ofString "__doc__"), (.str (.ofString "__doc__") 304), (.str (.ofString "A value is not what it must be (eth_utils).") 303)⟩, ⟨PyData.keyHash P (.ofString "__static_attributes__"), (.str (.ofString "__static_attributes__") 306), (.ref 87)⟩] 5), #[]⟩
noncomputable def o_83_10 : Params → Obj := fun P => ⟨(.type "tuple"), none, (.seq #[] 0), #[]⟩
noncomputable def o_84_10 : Params → Obj := fun P => ⟨.none, none, (.fields #[]), #[]⟩
noncomputable def o_85_10 : Params → Obj := fun P => ⟨(.type "code"), none, (.fields #[(.str (.ofString "ValidationError") 293), (.str (.ofString "ValidationError") 294), (.str (.ofString "/claim/cut.py") 295), (.int 59 0), (.int 0 0), (.int 0 0), (.int 0 0), (.int 0 0), (.ref 83), (.bool false), (.int 181 0), (.ref 84), .none, .none, .none, .none, (.int 296 0), (.int 59 0), (.str (.ofString "/claim/cut.py") 297)]), #[]⟩
noncomputable def o_86_10 : Params → Obj := fun P => ⟨(.type "frame"), none, .plain, #[(some (.ref 85)), (some (.ref 3)), (some (.ref 82)), none, (some (.str (.ofString "eth._utils.empty") 232)), none, (some (.ref 0))]⟩
noncomputable def o_87_10 : Params → Obj := fun P => ⟨(.type "tuple"), none, (.seq #[] 0), #[]⟩
noncomputable def o_88_10 : Params → Obj := fun P => ⟨(.type "dict"), none, (.dict #[⟨PyData.keyHash P (.ofString "__module__"), (.str (.ofString "__module__") 298), (.str (.ofString "eth._utils.empty") 232)⟩, ⟨PyData.keyHash P (.ofString "__firstlineno__"), (.str (.ofString "__firstlineno__") 302), (.int 59 301)⟩, ⟨PyData.keyHash P (.ofString "__doc__"), (.str (.ofString "__doc__") 304), (.str (.ofString "A value is not what it must be (eth_utils).") 303)⟩, ⟨PyData.keyHash P (.ofString "__static_attributes__"), (.str (.ofString "__static_attributes__") 306), (.ref 87)⟩, ⟨PyData.keyHash P (.ofString "__weakref__"), (.str (.ofString "__weakref__") 308), (.ref 90)⟩] 2), #[]⟩
noncomputable def o_89_10 : Params → Obj := fun P => ⟨(.type "type"), none, (.cls ⟨(.ofString "ValidationError"), [(.type "Exception")], [(.ref 89), (.type "Exception"), (.type "BaseException"), (.type "object")], 88, (.ofString "ValidationError"), true, [], [], false, none, false⟩), #[(some (.ref 80)), none, (some (.str (.ofString "ValidationError") 291)), (some (.str (.ofString "ValidationError") 299)), (some (.builtin "Exception.__new__")), (some (.bool true))]⟩
noncomputable def o_90_10 : Params → Obj := fun P => ⟨(.type "getset_descriptor"), none, (.fields #[(.str (.ofString "__weakref__") 307), (.ref 89), (.builtin "ExceptionGroup.__weakref__"), .none]), #[]⟩
noncomputable def o_91_10 : Params → Obj := fun P => ⟨(.type "super"), none, (.fields #[(.ref 89), (.ref 89), (.ref 89)]), #[]⟩
noncomputable def o_92_10 : Params → Obj := fun P => ⟨(.type "builtin_function_or_method"), none, (.fields #[(.builtin "object.__init_subclass__"), (.ref 89)]), #[]⟩
noncomputable def tree_10 : Params → BT := fun P => (.node (PySem.W.boot_o_0 P) (.node (PySem.W.boot_o_1 P) (.node (o_3_10 P) (.node (PySem.W.boot_o_7 P) (.node (o_15_10 P) (.node (o_31_10 P) (.node (o_63_10 P) .nil .nil) .nil) (.node (o_47_10 P) (.node (o_79_10 P) .nil .nil) .nil)) (.node (o_23_10 P) (.node (o_39_10 P) (.node (o_71_10 P) .nil .nil) .nil) (.node (o_55_10 P) (.node (o_87_10 P) .nil .nil) .nil))) (.node (o_11_a P) (.node (o_19_10 P) (.node (o_35_10 P) (.node (o_67_10 P) .nil .nil) .nil) (.node (o_51_10 P) (.node (o_83_10 P) .nil .nil) .nil)) (.node (o_27_10 P) (.node (o_43_10 P) (.node (o_75_10 P) .nil .nil) .nil) (.node (o_59_10 P) (.node (o_91_10 P) .nil .nil) .nil)))) (.node (PySem.W.boot_o_5 P) (.node (PySem.W.boot_o_9 P) (.node (o_17_10 P) (.node (o_33_10 P) (.node (o_65_10 P) .nil .nil) .nil) (.node (o_49_10 P) (.node (o_81_10 P) .nil .nil) .nil)) (.node (o_25_10 P) (.node (o_41_10 P) (.node (o_73_10 P) .nil .nil) .nil) (.node (o_57_10 P) (.node (o_89_10 P) .nil .nil) .nil))) (.node (o_13_a P) (.node (o_21_10 P) (.node (o_37_10 P) (.node (o_69_10 P) .nil .nil) .nil) (.node (o_53_10 P) (.node (o_85_10 P) .nil .nil) .nil)) (.node (o_29_10 P) (.node (o_45_10 P) (.node (o_77_10 P) .nil .nil) .nil) (.node (o_61_10 P) .nil .nil))))) (.node (o_2_10 P) (.node (PySem.W.boot_o_4 P) (.node (PySem.W.boot_o_8 P) (.node (o_16_10 P) (.node (o_32_10 P) (.node (o_64_10 P) .nil .nil) .nil) (.node (o_48_10 P) (.node (o_80_10 P) .nil .nil) .nil)) (.node (o_24_10 P) (.node (o_40_10 P) (.node (o_72_10 P) .nil .nil) .nil) (.node (o_56_10 P) (.node (o_88_10 P) .nil .nil) .nil))) (.node (o_12_10 P) (.node (o_20_10 P) (.node (o_36_10 P) (.node (o_68_10 P) .nil .nil) .nil) (.node (o_52_10 P) (.node (o_84_10 P) .nil .nil) .nil)) (.node (o_28_10 P) (.node (o_44_10 P) (.node (o_76_10 P) .nil .nil) .nil) (.node (o_60_10 P) (.node (o_92_10 P) .nil .nil) .nil)))) (.node (PySem.W.boot_o_6 P) (.node (PySem.W.boot_o_10 P) (.node (o_18_10 P) (.node (o_34_10 P) (.node (o_66_10 P) .nil .nil) .nil) (.node (o_50_10 P) (.node (o_82_10 P) .nil .nil) .nil)) (.node (o_26_10 P) (.node (o_42_10 P) (.node (o_74_10 P) .nil .nil) .nil) (.node (o_58_10 P) (.node (o_90_10 P) .nil .nil) .nil))) (.node (o_14_a P) (.node (o_22_10 P) (.node (o_38_10 P) (.node (o_70_10 P) .nil .nil) .nil) (.node (o_54_10 P) (.node (o_86_10 P) .nil .nil) .nil)) (.node (o_30_10 P) (.node (o_46_10 P) (.node (o_78_10 P) .nil .nil) .nil) (.node (o_62_10 P) .nil .nil))))))
-- state 10: objs 93 toks 313
noncomputable def o_3_11 : Params → Obj := fun P => ⟨(.type "dict"), none, (.dict #[⟨PyData.keyHash P (.ofString "__name__"), (.str (.ofString "__name__") 165), (.str (.ofString "eth._utils.empty") 232)⟩, ⟨PyData.keyHash P (.ofString "__doc__"), (.str (.ofString "__doc__") 166), .none⟩, ⟨PyData.keyHash P (.ofString "__package__"), (.str (.ofString "__package__") 167), .none⟩, ⟨PyData.keyHash P (.ofString "__loader__"), (.str (.ofString "__loader__") 168), (.builtin "__main__.__loader__#opaque")⟩, ⟨PyData.keyHash P (.ofString "__spec__"), (.str (.ofString "__spec__") 169), .none⟩, ⟨PyData.keyHash P (.ofString "__annotations__"), (.str (.ofString "__annotations__") 170), (.ref 6)⟩, ⟨PyData.keyHash P (.ofString "__builtins__"), (.str (.ofString "__builtins__") 171), (.ref 4)⟩, ⟨PyData.keyHash P (.ofString "__file__"), (.str (.ofString "__file__") 173), (.str (.ofString "/claim/cut.py") 172)⟩, ⟨PyData.keyHash P (.ofString "__cached__"), (.str (.ofString "__cached__") 174), .none⟩, ⟨PyData.keyHash P (.ofString "_wall"), (.str (.ofString "_wall") 193), (.ref 21)⟩, ⟨PyData.keyHash P (.ofString "BASE_FEE_MAX_CHANGE_DENOMINATOR"), (.str (.ofString "BASE_FEE_MAX_CHANGE_DENOMINATOR") 195), (.int 8 194)⟩, ⟨PyData.keyHash P (.ofString "INITIAL_BASE_FEE"), (.str (.ofString "INITIAL_BASE_FEE") 197), (.int 1000000000 196)⟩, ⟨PyData.keyHash P (.ofString "ELASTICITY_MULTIPLIER"), (.str (.ofString "ELASTICITY_MULTIPLIER") 199), (.int 2 198)⟩, ⟨PyData.keyHash P (.ofString "calculate_expected_base_fee_per_gas"), (.str (.ofString "calculate_expected_base_fee_per_gas") 215), (.ref 28)⟩, ⟨PyData.keyHash P (.ofString "fake_exponential"), (.str (.ofString "fake_exponential") 231), (.ref 36)⟩, ⟨PyData.keyHash P (.ofString "_tuplegetter"), (.str (.ofString "_tuplegetter") 290), (.ref 75)⟩, ⟨PyData.keyHash P (.ofString "ValidationError"), (.str (.ofString "ValidationError") 312), (.ref 89)⟩, ⟨PyData.keyHash P (.ofString "Header"), (.str (.ofString "Header") 479), (.ref 172)⟩] 18), #[]⟩
noncomputable def o_12_11 : Params → Obj := fun P => ⟨.none, none, (.fields #[(.int 1 0), (.int 0 0), (.ref 20), (.int 8 0), (.int 0 0), (.ref 27), (.int 31 0), (.int 0 0), (.ref 35), (.int 41 0), (.int 0 0), (.ref 42), (.int 59 0), (.int 0 0), (.ref 85), (.int 61 0), (.int 0 0), (.ref 99)]), #[]⟩
noncomputable def o_93_11 : Params → Obj := fun P => ⟨(.type "tuple"), none, (.seq #[(.type "tuple")] 0), #[]⟩
noncomputable def o_94_11 : Params → Obj := fun P => ⟨(.type "builtin_function_or_method"), none, (.fields #[(.builtin "type.__prepare__"), (.type "type")]), #[]⟩
noncomputable def o_95_11 : Params → Obj := fun P => ⟨(.type "dict"), none, (.dict #[⟨PyData.keyHash P (.ofString "__module__"), (.str (.ofString "__module__") 320), (.str (.ofString "eth._utils.empty") 232)⟩, ⟨PyData.keyHash P (.ofString "__qualname__"), (.str (.ofString "__qualname__") 322), (.str (.ofString "Header") 321)⟩, ⟨PyData.keyHash P (.ofString "__firstlineno__"), (.str (.ofString "__firstlineno__") 324), (.int 61 323)⟩, ⟨PyData.keyHash P (.ofString "__doc__"), (.str (.ofString "__doc__") 326), (.str (.ofString "Header(timestamp, difficulty, block_number, uncles_hash, gas_limit, gas_used)") 325)⟩, ⟨PyData.keyHash P (.ofString "__slots__"), (.str (.ofString "__slots__") 328), (.ref 101)⟩, ⟨PyData.keyHash P (.ofString "_fields"), (.str (.ofString "_fields") 335), (.ref 102)⟩, ⟨PyData.keyHash P (.ofString "_field_defaults"), (.str (.ofString "_field_defaults") 336), (.ref 103)⟩, ⟨PyData.keyHash P (.ofString "__new__"), (.str (.ofString "__new__") 350), (.ref 110)⟩, ⟨PyData.keyHash P (.ofString "_make"), (.str (.ofString "_make") 372), (.ref 119)⟩, ⟨PyData.keyHash P (.ofString "_replace"), (.str (.ofString "_replace") 383), (.ref 128)⟩, ⟨PyData.keyHash P (.ofString "__replace__"), (.str (.ofString "__replace__") 384), (.ref 128)⟩, ⟨PyData.keyHash P (.ofString "__repr__"), (.str (.ofString "__repr__") 392), (.ref 135)⟩, ⟨PyData.keyHash P (.ofString "_asdict"), (.str (.ofString "_asdict") 399), (.ref 142)⟩, ⟨PyData.keyHash P (.ofString "__getnewargs__"), (.str (.ofString "__getnewargs__") 407), (.ref 149)⟩, ⟨PyData.keyHash P (.ofString "__match_args__"), (.str (.ofString "__match_args__") 414), (.ref 150)⟩, ⟨PyData.keyHash P (.ofString "timestamp"), (.str (.ofString "timestamp") 424), (.ref 152)⟩, ⟨PyData.keyHash P (.ofString "difficulty"), (.str (.ofString "difficulty") 434), (.ref 155)⟩, ⟨PyData.keyHash P (.ofString "block_number"), (.str (.ofString "block_number") 444), (.ref 158)⟩, ⟨PyData.keyHash P (.ofString "uncles_hash"), (.str (.ofString "uncles_hash") 454), (.ref 161)⟩, ⟨PyData.keyHash P (.ofString "gas_limit"), (.str (.ofString "gas_limit") 464), (.ref 164)⟩, ⟨PyData.keyHash P (.ofString "gas_used"), (.str (.ofString "gas_used") 474), (.ref 167)⟩, ⟨PyData.keyHash P (.ofString "__static_attributes__"), (.str (.ofString "__static_attributes__") 475), (.ref 169)⟩, ⟨PyData.keyHash P (.ofString "__classcell__"), (.str (.ofString "__classcell__") 476), (.ref 96)⟩] 23), #[]⟩
noncomputable def o_96_11 : Params → Obj := fun P => ⟨(.type "cell"), none, (.cell (some (.ref 172))), #[]⟩
noncomputable def o_97_11 : Params → Obj := fun P => ⟨(.type "tuple"), none, (.seq #[] 0), #[]⟩
noncomputable def o_98_11 : Params → Obj := fun P => ⟨.none, none, (.fields #[(.int 67 0), (.int 4 0), (.ref 109), (.int 72 0), (.int 4 0), (.ref 116), (.int 79 0), (.int 4 0), (.ref 127), (.int 90 0), (.int 4 0), (.ref 134), (.int 94 0), (.int 4 0), (.ref 141), (.int 97 0), (.int 4 0), (.ref 148)]), #[]⟩
noncomputable def o_99_11 : Params → Obj := fun P => ⟨(.type "code"), none, (.fields #[(.str (.ofString "Header") 315), (.str (.ofString "Header") 316), (.str (.ofString "/claim/cut.py") 317), (.int 61 0), (.int 0 0), (.int 0 0), (.int 0 0), (.int 0 0), (.ref 97), (.bool false), (.int 181 0), (.ref 98), .none, .none, .none, .none, (.int 318 0), (.int 61 0), (.str (.ofString "/claim/cut.py") 319)]), #[]⟩
noncomputable def o_100_11 : Params → Obj := fun P => ⟨(.type "frame"), none, .plain, #[(some (.ref 99)), (some (.ref 3)), (some (.ref 95)), none, (some (.str (.ofString "eth._utils.empty") 232)), none, (some (.ref 0))]⟩
noncomputable def o_101_11 : Params → Obj := fun P => ⟨(.type "tuple"), none, (.seq #[] 0), #[]⟩
noncomputable def o_102_11 : Params → Obj := fun P => ⟨(.type "tuple"), none, (.seq #[(.str (.ofString "timestamp") 329), (.str (.ofString "difficulty") 330), (.str (.ofString "block_number") 331), (.str (.ofString "uncles_hash") 332), (.str (.ofString "gas_limit") 333), (.str (.ofString "gas_used") 334)] 0), #[]⟩
noncomputable def o_103_11 : Params → Obj := fun P => ⟨(.type "dict"), none, (.dict #[] 0), #[]⟩
noncomputable def o_104_11 : Params → Obj := fun P => ⟨(.type "tuple"), none, (.seq #[] 0), #[]⟩
noncomputable def o_105_11 : Params → Obj := fun P => ⟨.none, none, (.fields #[]), #[]⟩
noncomputable def o_106_11 : Params → Obj := fun P => ⟨(.type "tuple"), none, (.seq #[(.str (.ofString "_cls") 340), (.str (.ofString "timestamp") 341), (.str (.ofString "difficulty") 342), (.str (.ofString "block_number") 343), (.str (.ofString "uncles_hash") 344), (.str (.ofString "gas_limit") 345), (.str (.ofString "gas_used") 346)] 0), #[]⟩
noncomputable def o_107_11 : Params → Obj := fun P => ⟨(.type "tuple"), none, (.seq #[] 0), #[]⟩
noncomputable def o_108_11 : Params → Obj := fun P => ⟨.none, none, (.func ⟨(.ofString "__new__"), (.ofString "Header.__new__"), fArgs (memAt 11 4), .stmts (fBody (memAt 11 4)), fScope (memAt 11 4), 0, [], .none, .none, .none, .none, none, .none, .none, 0⟩), #[]⟩
noncomputable def o_109_11 : Params → Obj := fun P => ⟨(.type "code"), none, (.fields #[(.str (.ofString "__new__") 337), (.str (.ofString "Header.__new__") 338), (.str (.ofString "/claim/cut.py") 339), (.int 67 0), (.int 7 0), (.int 0 0), (.int 0 0), (.int 3 0), (.ref 104), (.bool true), (.int 181 0), (.ref 105), .none, (.ref 106), (.ref 107), (.ref 108), (.int 347 0), (.int 67 0), (.str (.ofString "/claim/cut.py") 348)]), #[]⟩
noncomputable def o_110_11 : Params → Obj := fun P => ⟨(.type "function"), none, (.func ⟨(.ofString "__new__"), (.ofString "Header.__new__"), fArgs (memAt 11 4), .stmts (fBody (memAt 11 4)), fScope (memAt 11 4), 3, [], .none, .none, (.str (.ofString "Create new instance of Header(timestamp, difficulty, block_number, uncles_hash, gas_limit, gas_used)") 349), (.str (.ofString "eth._utils.empty") 232), none, (.ref 109), .none, 0⟩), #[]⟩
noncomputable def o_111_11 : Params → Obj := fun P => ⟨(.type "tuple"), none, (.seq #[] 0), #[]⟩
noncomputable def o_112_11 : Params → Obj := fun P => ⟨.none, none, (.fields #[]), #[]⟩
noncomputable def o_113_11 : Params → Obj := fun P => ⟨(.type "tuple"), none, (.seq #[(.str (.ofString "cls") 354), (.str (.ofString "iterable") 355), (.str (.ofString "result") 356)] 0), #[]⟩
noncomputable def o_114_11 : Params → Obj := fun P => ⟨(.type "tuple"), none, (.seq #[] 0), #[]⟩
noncomputable def o_115_11 : Params → Obj := fun P => ⟨.none, none, (.func ⟨(.ofString "_make"), (.ofString "Header._make"), fArgs (memAt 11 5), .stmts (fBody (memAt 11 5)), fScope (memAt 11 5), 0, [], .none, .none, .none, .none, none, .none, .none, 0⟩), #[]⟩
noncomputable def o_116_11 : Params → Obj := fun P => ⟨(.type "code"), none, (.fields #[(.str (.ofString "_make") 351), (.str (.ofString "Header._make") 352), (.str (.ofString "/claim/cut.py") 353), (.int 71 0), (.int 2 0), (.int 0 0), (.int 0 0), (.int 3 0), (.ref 111), (.bool true), (.int 181 0), (.ref 112), .none, (.ref 113), (.ref 114), (.ref 115), (.int 357 0), (.int 71 0), (.str (.ofString "/claim/cut.py") 358)]), #[]⟩
noncomputable def o_117_11 : Params → Obj := fun P => ⟨(.type "function"), none, (.func ⟨(.ofString "_make"), (.ofString "Header._make"), fArgs (memAt 11 5), .stmts (fBody (memAt 11 5)), fScope (memAt 11 5), 3, [], .none, .none, (.str (.ofString "Make a new Header object from a sequence or iterable") 359), (.str (.ofString "eth._utils.empty") 232), (some 120), (.ref 116), .none, 0⟩), #[]⟩
noncomputable def o_118_11 : Params → Obj := fun P => ⟨(.type "dict"), none, (.dict #[⟨PyData.keyHash P (.ofString "__module__"), (.str (.ofString "__module__") 361), (.str (.ofString "eth._utils.empty") 232)⟩, ⟨PyData.keyHash P (.ofString "__name__"), (.str (.ofString "__name__") 364), (.str (.ofString "_make") 363)⟩, ⟨PyData.keyHash P (.ofString "__qualname__"), (.str (.ofString "__qualname__") 367), (.str (.ofString "Header._make") 366)⟩, ⟨PyData.keyHash P (.ofString "__doc__"), (.str (.ofString "__doc__") 369), (.str (.ofString "Make a new Header object from a sequence or iterable") 359)⟩, ⟨PyData.keyHash P (.ofString "__annotations__"), (.str (.ofString "__annotations__") 371), (.ref 120)⟩] 5), #[]⟩
noncomputable def o_119_11 : Params → Obj := fun P => ⟨(.type "classmethod"), (some 118), (.fields #[(.ref 117), (.bool false)]), #[]⟩
noncomputable def o_120_11 : Params → Obj := fun P => ⟨(.type "dict"), none, (.dict #[] 0), #[]⟩
noncomputable def o_121_11 : Params → Obj := fun P => ⟨(.type "tuple"), none, (.seq #[(.ref 96)] 0), #[]⟩
noncomputable def o_122_11 : Params → Obj := fun P => ⟨(.type "tuple"), none, (.seq #[(.str (.ofString "__class__") 376)] 0), #[]⟩
noncomputable def o_123_11 : Params → Obj := fun P => ⟨.none, none, (.fields #[]), #[]⟩
noncomputable def o_124_11 : Params → Obj := fun P => ⟨(.type "tuple"), none, (.seq #[(.str (.ofString "self") 377), (.str (.ofString "kwds") 378), (.str (.ofString "result") 379)] 0), #[]⟩
noncomputable def o_125_11 : Params → Obj := fun P => ⟨(.type "tuple"), none, (.seq #[] 0), #[]⟩
noncomputable def o_126_11 : Params → Obj := fun P => ⟨.none, none, (.func ⟨(.ofString "_replace"), (.ofString "Header._replace"), fArgs (memAt 11 6), .stmts (fBody (memAt 11 6)), fScope (memAt 11 6), 0, [], .none, .none, .none, .none, none, .none, .none, 0⟩), #[]⟩
noncomputable def o_127_11 : Params → Obj := fun P => ⟨(.type "code"), none, (.fields #[(.str (.ofString "_replace") 373), (.str (.ofString "Header._replace") 374), (.str (.ofString "/claim/cut.py") 375), (.int 79 0), (.int 1 0), (.int 1 0), (.int 0 0), (.int 11 0), (.ref 122), (.bool true), (.int 181 0), (.ref 123), .none, (.ref 124), (.ref 125), (.ref 126), (.int 380 0), (.int 79 0), (.str (.ofString "/claim/cut.py") 381)]), #[]⟩
noncomputable def o_128_11 : Params → Obj := fun P => ⟨(.type "function"), none, (.func ⟨(.ofString "_replace"), (.ofString "Header._replace"), fArgs (memAt 11 6), .stmts (fBody (memAt 11 6)), fScope (memAt 11 6), 3, [((.ofString "__class__"), 96)], .none, .none, (.str (.ofString "Return a new Header object replacing specified fields with new values") 382), (.str (.ofString "eth._utils.empty") 232), none, (.ref 127), (.ref 121), 0⟩), #[]⟩
noncomputable def o_129_11 : Params → Obj := fun P => ⟨(.type "tuple"), none, (.seq #[] 0), #[]⟩
noncomputable def o_130_11 : Params → Obj := fun P => ⟨.none, none, (.fields #[]), #[]⟩
noncomputable def o_131_11 : Params → Obj := fun P => ⟨(.type "tuple"), none, (.seq #[(.str (.ofString "self") 388)] 0), #[]⟩
noncomputable def o_132_11 : Params → Obj := fun P => ⟨(.type "tuple"), none, (.seq #[] 0), #[]⟩
noncomputable def o_133_11 : Params → Obj := fun P => ⟨.none, none, (.func ⟨(.ofString "__repr__"), (.ofString "Header.__repr__"), fArgs (memAt 11 8), .stmts (fBody (memAt 11 8)), fScope (memAt 11 8), 0, [], .none, .none, .none, .none, none, .none, .none, 0⟩), #[]⟩
noncomputable def o_134_11 : Params → Obj := fun P => ⟨(.type "code"), none, (.fields #[(.str (.ofString "__repr__") 385), (.str (.ofString "Header.__repr__") 386), (.str (.ofString "/claim/cut.py") 387), (.int 90 0), (.int 1 0), (.int 0 0), (.int 0 0), (.int 3 0), (.ref 129), (.bool true), (.int 181 0), (.ref 130), .none, (.ref 131), (.ref 132), (.ref 133), (.int 389 0), (.int 90 0), (.str (.ofString "/claim/cut.py") 390)]), #[]⟩
noncomputable def o_135_11 : Params → Obj := fun P => ⟨(.type "function"), none, (.func ⟨(.ofString "__repr__"), (.ofString "Header.__repr__"), fArgs (memAt 11 8), .stmts (fBody (memAt 11 8)), fScope (memAt 11 8), 3, [], .none, .none, (.str (.ofString "Return a nicely formatted representation string") 391), (.str (.ofString "eth._utils.empty") 232), none, (.ref 134), .none, 0⟩), #[]⟩
noncomputable def o_136_11 : Params → Obj := fun P => ⟨(.type "tuple"), none, (.seq #[] 0), #[]⟩
noncomputable def o_137_11 : Params → Obj := fun P => ⟨.none, none, (.fields #[]), #[]⟩
noncomputable def o_138_11 : Params → Obj := fun P => ⟨(.type "tuple"), none, (.seq #[(.str (.ofString "self") 396)] 0), #[]⟩
noncomputable def o_139_11 : Params → Obj := fun P => ⟨(.type "tuple"), none, (.seq #[] 0), #[]⟩
noncomputable def o_140_11 : Params → Obj := fun P => ⟨.none, none, (.func ⟨(.ofString "_asdict"), (.ofString "Header._asdict"), fArgs (memAt 11 9), .stmts (fBody (memAt 11 9)), fScope (memAt 11 9), 0, [], .none, .none, .none, .none, none, .none, .none, 0⟩), #[]⟩
noncomputable def o_141_11 : Params → Obj := fun P => ⟨(.type "code"), none, (.fields #[(.str (.ofString "_asdict") 393), (.str (.ofString "Header._asdict") 394), (.str (.ofString "/claim/cut.py") 395), (.int 94 0), (.int 1 0), (.int 0 0), (.int 0 0), (.int 3 0), (.ref 136), (.bool true), (.int 181 0), (.ref 137), .none, (.ref 138), (.ref 139), (.ref 140), (.int 397 0), (.int 94 0), (.str (.ofString "/claim/cut.py") 398)]), #[]⟩
noncomputable def o_142_11 : Params → Obj := fun P => ⟨(.type "function"), none, (.func ⟨(.ofString "_asdict"), (.ofString "Header._asdict"), fArgs (memAt 11 9), .stmts (fBody (memAt 11 9)), fScope (memAt 11 9), 3, [], .none, .none, .none, (.str (.ofString "eth._utils.empty") 232), none, (.ref 141), .none, 0⟩), #[]⟩
noncomputable def o_143_11 : Params → Obj := fun P => ⟨(.type "tuple"), none, (.seq #[] 0), #[]⟩
noncomputable def o_144_11 : Params → Obj := fun P => ⟨.none, none, (.fields #[]), #[]⟩
noncomputable def o_145_11 : Params → Obj := fun P => ⟨(.type "tuple"), none, (.seq #[(.str (.ofString "self") 403)] 0), #[]⟩
noncomputable def o_146_11 : Params → Obj := fun P => ⟨(.type "tuple"), none, (.seq #[] 0), #[]⟩
noncomputable def o_147_11 : Params → Obj := fun P => ⟨.none, none, (.func ⟨(.ofString "__getnewargs__"), (.ofString "Header.__getnewargs__"), fArgs (memAt 11 10), .stmts (fBody (memAt 11 10)), fScope (memAt 11 10), 0, [], .none, .none, .none, .none, none, .none, .none, 0⟩), #[]⟩
noncomputable def o_148_11 : Params → Obj := fun P => ⟨(.type "code"), none, (.fields #[(.str (.ofString "__getnewargs__") 400), (.str (.ofString "Header.__getnewargs__") 401), (.str (.ofString "/claim/cut.py") 402), (.int 97 0), (.int 1 0), (.int 0 0), (.int 0 0), (.int 3 0), (.ref 143), (.bool true), (.int 181 0), (.ref 144), .none, (.ref 145), (.ref 146), (.ref 147), (.int 404 0), (.int 97 0), (.str (.ofString "/claim/cut.py") 405)]), #[]⟩
noncomputable def o_149_11 : Params → Obj := fun P => ⟨(.type "function"), none, (.func ⟨(.ofString "__getnewargs__"), (.ofString "Header.__getnewargs__"), fArgs (memAt 11 10), .stmts (fBody (memAt 11 10)), fScope (memAt 11 10), 3, [], .none, .none, (.str (.ofString "Return self as a plain tuple.  Used by copy and pickle.") 406), (.str (.ofString "eth._utils.empty") 232), none, (.ref 148), .none, 0⟩), #[]⟩
noncomputable def o_150_11 : Params → Obj := fun P => ⟨(.type "tuple"), none, (.seq #[(.str (.ofString "timestamp") 408), (.str (.ofString "difficulty") 409), (.str (.ofString "block_number") 410), (.str (.ofString "uncles_hash") 411), (.str (.ofString "gas_limit") 412), (.str (.ofString "gas_used") 413)] 0), #[]⟩
noncomputable def o_151_11 : Params → Obj := fun P => ⟨(.type "dict"), none, (.dict #[⟨PyData.keyHash P (.ofString "index"), (.str (.ofString "index") 421), (.int 0 415)⟩, ⟨PyData.keyHash P (.ofString "__doc__"), (.str (.ofString "__doc__") 423), (.str (.ofString "Alias for field number 0") 416)⟩] 2), #[]⟩
noncomputable def o_152_11 : Params → Obj := fun P => ⟨(.ref 75), (some 151), .plain, #[]⟩
noncomputable def o_153_11 : Params → Obj := fun P => ⟨(.type "frame"), none, (.dict #[⟨PyData.keyHash P (.ofString "self"), (.str (.ofString "self") 417), (.ref 152)⟩, ⟨PyData.keyHash P (.ofString "index"), (.str (.ofString "index") 418), (.int 0 415)⟩, ⟨PyData.keyHash P (.ofString "doc"), (.str (.ofString "doc") 419), (.str (.ofString "Alias for field number 0") 416)⟩] 3), #[]⟩
noncomputable def o_154_11 : Params → Obj := fun P => ⟨(.type "dict"), none, (.dict #[⟨PyData.keyHash P (.ofString "index"), (.str (.ofString "index") 431), (.int 1 425)⟩, ⟨PyData.keyHash P (.ofString "__doc__"), (.str (.ofString "__doc__") 433), (.str (.ofString "Alias for field number 1") 426)⟩] 2), #[]⟩
noncomputable def o_155_11 : Params → Obj := fun P => ⟨(.ref 75), (some 154), .plain, #[]⟩
noncomputable def o_156_11 : Params → Obj := fun P => ⟨(.type "frame"), none, (.dict #[⟨PyData.keyHash P (.ofString "self"), (.str (.ofString "self") 427), (.ref 155)⟩, ⟨PyData.keyHash P (.ofString "index"), (.str (.ofString "index") 428), (.int 1 425)⟩, ⟨PyData.keyHash P (.ofString "doc"), (.str (.ofString "doc") 429), (.str (.ofString "Alias for field number 1") 426)⟩] 3), #[]⟩
noncomputable def o_157_11 : Params → Obj := fun P => ⟨(.type "dict"), none, (.dict #[⟨PyData.keyHash P (.ofString "index"), (.str (.ofString "index") 441), (.int 2 435)⟩, ⟨PyData.keyHash P (.ofString "__doc__"), (.str (.ofString "__doc__") 443), (.str (.ofString "Alias for field number 2") 436)⟩] 2), #[]⟩
noncomputable def o_158_11 : Params → Obj := fun P => ⟨(.ref 75), (some 157), .plain, #[]⟩
noncomputable def o_159_11 : Params → Obj := fun P => ⟨(.type "frame"), none, (.dict #[⟨PyData.keyHash P (.ofString "self"), (.str (.ofString "self") 437), (.ref 158)⟩, ⟨PyData.keyHash P (.ofString "index"), (.str (.ofString "index") 438), (.int 2 435)⟩, ⟨PyData.keyHash P (.ofString "doc"), (.str (.ofString "doc") 439), (.str (.ofString "Alias for field number 2") 436)⟩] 3), #[]⟩
noncomputable def o_160_11 : Params → Obj := fun P => ⟨(.type "dict"), none, (.dict #[⟨PyData.keyHash P (.ofString "index"), (.str (.ofString "index") 451), (.int 3 445)⟩, ⟨PyData.keyHash P (.ofString "__doc__"), (.str (.ofString "__doc__") 453), (.str (.ofString "Alias for field number 3") 446)⟩] 2), #[]⟩
noncomputable def o_161_11 : Params → Obj := fun P => ⟨(.ref 75), (some 160), .plain, #[]⟩
noncomputable def o_162_11 : Params → Obj := fun P => ⟨(.type "frame"), none, (.dict #[⟨PyData.keyHash P (.ofString "self"), (.str (.ofString "self") 447), (.ref 161)⟩, ⟨PyData.keyHash P (.ofString "index"), (.str (.ofString "index") 448), (.int 3 445)⟩, ⟨PyData.keyHash P (.ofString "doc"), (.str (.ofString "doc") 449), (.str (.ofString "Alias for field number 3") 446)⟩] 3), #[]⟩
noncomputable def o_163_11 : Params → Obj := fun P => ⟨(.type "dict"), none, (.dict #[⟨PyData.keyHash P (.ofString "index"), (.str (.ofString "index") 461), (.int 4 455)⟩, ⟨PyData.keyHash P (.ofString "__doc__"), (.str (.ofString "__doc__") 463), (.str (.ofString "Alias for field number 4") 456)⟩] 2), #[]⟩
noncomputable def o_164_11 : Params → Obj := fun P => ⟨(.ref 75), (some 163), .plain, #[]⟩
noncomputable def o_165_11 : Params → Obj := fun P => ⟨(.type "frame"), none, (.dict #[⟨PyData.keyHash P (.ofString "self"), (.str (.ofString "self") 457), (.ref 164)⟩, ⟨PyData.keyHash P (.ofString "index"), (.str (.ofString "index") 458), (.int 4 455)⟩, ⟨PyData.keyHash P (.ofString "doc"), (.str (.ofString "doc") 459), (.str (.ofString "Alias for field number 4") 456)⟩] 3), #[]⟩
noncomputable def o_166_11 : Params → Obj := fun P => ⟨(.type "dict"), none, (.dict #[⟨PyData.keyHash P (.ofString "index"), (.str (.ofString "index") 471), (.int 5 465)⟩, ⟨PyData.keyHash P (.ofString "__doc__"), (.str (.ofString "__doc__") 473), (.str (.ofString "Alias for field number 5") 466)⟩] 2), #[]⟩
noncomputable def o_167_11 : Params → Obj := fun P => ⟨(.ref 75), (some 166), .plain, #[]⟩
noncomputable def o_168_11 : Params → Obj := fun P => ⟨(.type "frame"), none, (.dict #[⟨PyData.keyHash P (.ofString "self"), (.str (.ofString "self") 467), (.ref 167)⟩, ⟨PyData.keyHash P (.ofString "index"), (.str (.ofString "index") 468), (.int 5 465)⟩, ⟨PyData.keyHash P (.ofString "doc"), (.str (.ofString "doc") 469), (.str (.ofString "Alias for field number 5") 466)⟩] 3), #[]⟩
noncomputable def o_169_11 : Params → Obj := fun P => ⟨(.type "tuple"), none, (.seq #[] 0), #[]⟩
noncomputable def o_170_11 : Params → Obj := fun P => ⟨(.type "list"), none, (.seq #[] 0), #[]⟩
noncomputable def o_171_11 : Params → Obj := fun P => ⟨(.type "dict"), none, (.dict #[⟨PyData.keyHash P (.ofString "__module__"), (.str (.ofString "__module__") 320), (.str (.ofString "eth._utils.empty") 232)⟩, ⟨PyData.keyHash P (.ofString "__firstlineno__"), (.str (.ofString "__firstlineno__") 324), (.int 61 323)⟩, ⟨PyData.keyHash P (.ofString "__doc__"), (.str (.ofString "__doc__") 326), (.str (.ofString "Header(timestamp, difficulty, block_number, uncles_hash, gas_limit, gas_used)") 325)⟩, ⟨PyData.keyHash P (.ofString "__slots__"), (.str (.ofString "__slots__") 328), (.ref 101)⟩, ⟨PyData.keyHash P (.ofString "_fields"), (.str (.ofString "_fields") 335), (.ref 102)⟩, ⟨PyData.keyHash P (.ofString "_field_defaults"), (.str (.ofString "_field_defaults") 336), (.ref 103)⟩, ⟨PyData.keyHash P (.ofString "__new__"), (.str (.ofString "__new__") 350), (.ref 173)⟩, ⟨PyData.keyHash P (.ofString "_make"), (.str (.ofString "_make") 372), (.ref 119)⟩, ⟨PyData.keyHash P (.ofString "_replace"), (.str (.ofString "_replace") 383), (.ref 128)⟩, ⟨PyData.keyHash P (.ofString "__replace__"), (.str (.ofString "__replace__") 384), (.ref 128)⟩, ⟨PyData.keyHash P (.ofString "__repr__"), (.str (.ofString "__repr__") 392), (.ref 135)⟩, ⟨PyData.keyHash P (.ofString "_asdict"), (.str (.ofString "_asdict") 399), (.ref 142)⟩, ⟨PyData.keyHash P (.ofString "__getnewargs__"), (.str (.ofString "__getnewargs__") 407), (.ref 149)⟩, ⟨PyData.keyHash P (.ofString "__match_args__"), (.str (.ofString "__match_args__") 414), (.ref 150)⟩, ⟨PyData.keyHash P (.ofString "timestamp"), (.str (.ofString "timestamp") 424), (.ref 152)⟩, ⟨PyData.keyHash P (.ofString "difficulty"), (.str (.ofString "difficulty") 434), (.ref 155)⟩, ⟨PyData.keyHash P (.ofString "block_number"), (.str (.ofString "block_number") 444), (.ref 158)⟩, ⟨PyData.keyHash P (.ofString "uncles_hash"), (.str (.ofString "uncles_hash") 454), (.ref 161)⟩, ⟨PyData.keyHash P (.ofString "gas_limit"), (.str (.ofString "gas_limit") 464), (.ref 164)⟩, ⟨PyData.keyHash P (.ofString "gas_used"), (.str (.ofString "gas_used") 474), (.ref 167)⟩, ⟨PyData.keyHash P (.ofString "__static_attributes__"), (.str (.ofString "__static_attributes__") 475), (.ref 169)⟩] 2), #[]⟩
noncomputable def o_172_11 : Params → Obj := fun P => ⟨(.type "type"), none, (.cls ⟨(.ofString "Header"), [(.type "tuple")], [(.ref 172), (.type "tuple"), (.type "object")], 171, (.ofString "Header"), false, [], [], false, none, false⟩), #[(some (.ref 93)), none, (some (.str (.ofString "Header") 313)), (some (.str (.ofString "Header") 321)), (some .none), (some (.bool false))]⟩
noncomputable def o_173_11 : Params → Obj := fun P => ⟨(.type "staticmethod"), none, (.fields #[(.ref 110)]), #[]⟩
noncomputable def o_174_11 : Params → Obj := fun P => ⟨(.type "super"), none, (.fields #[(.ref 172), (.ref 172), (.ref 172)]), #[]⟩
noncomputable def o_175_11 : Params → Obj := fun P => ⟨(.type "builtin_function_or_method"), none, (.fields #[(.builtin "object.__init_subclass__"), (.ref 172)]), #[]⟩
noncomputable def tree_11 : Params → BT := fun P => (.node (PySem.W.boot_o_0 P) (.node (PySem.W.boot_o_1 P) (.node (o_3_11 P) (.node (PySem.W.boot_o_7 P) (.node (o_15_10 P) (.node (o_31_10 P) (.node (o_63_10 P) (.node (o_127_11 P) .nil .nil) .nil) (.node (o_95_11 P) (.node (o_159_11 P) .nil .nil) .nil)) (.node (o_47_10 P) (.node (o_79_10 P) (.node (o_143_11 P) .nil .nil) .nil) (.node (o_111_11 P) (.node (o_175_11 P) .nil .nil) .nil))) (.node (o_23_10 P) (.node (o_39_10 P) (.node (o_71_10 P) (.node (o_135_11 P) .nil .nil) .nil) (.node (o_103_11 P) (.node (o_167_11 P) .nil .nil) .nil)) (.node (o_55_10 P) (.node (o_87_10 P) (.node (o_151_11 P) .nil .nil) .nil) (.node (o_119_11 P) .nil .nil)))) (.node (o_11_a P) (.node (o_19_10 P) (.node (o_35_10 P) (.node (o_67_10 P) (.node (o_131_11 P) .nil .nil) .nil) (.node (o_99_11 P) (.node (o_163_11 P) .nil .nil) .nil)) (.node (o_51_10 P) (.node (o_83_10 P) (.node (o_147_11 P) .nil .nil) .nil) (.node (o_115_11 P) .nil .nil))) (.node (o_27_10 P) (.node (o_43_10 P) (.node (o_75_10 P) (.node (o_139_11 P) .nil .nil) .nil) (.node (o_107_11 P) (.node (o_171_11 P) .nil .nil) .nil)) (.node (o_59_10 P) (.node (o_91_10 P) (.node (o_155_11 P) .nil .nil) .nil) (.node (o_123_11 P) .nil .nil))))) (.node (PySem.W.boot_o_5 P) (.node (PySem.W.boot_o_9 P) (.node (o_17_10 P) (.node (o_33_10 P) (.node (o_65_10 P) (.node (o_129_11 P) .nil .nil) .nil) (.node (o_97_11 P) (.node (o_161_11 P) .nil .nil) .nil)) (.node (o_49_10 P) (.node (o_81_10 P) (.node (o_145_11 P) .nil .nil) .nil) (.node (o_113_11 P) .nil .nil))) (.node (o_25_10 P) (.node (o_41_10 P) (.node (o_73_10 P) (.node (o_137_11 P) .nil .nil) .nil) (.node (o_105_11 P) (.node (o_169_11 P) .nil .nil) .nil)) (.node (o_57_10 P) (.node (o_89_10 P) (.node (o_153_11 P) .nil .nil) .nil) (.node (o_121_11 P) .nil .nil)))) (.node (o_13_a P) (.node (o_21_10 P) (.node (o_37_10 P) (.node (o_69_10 P) (.node (o_133_11 P) .nil .nil) .nil) (.node (o_101_11 P) (.node (o_165_11 P) .nil .nil) .nil)) (.node (o_53_10 P) (.node (o_85_10 P) (.node (o_149_11 P) .nil .nil) .nil) (.node (o_117_11 P) .nil .nil))) (.node (o_29_10 P) (.node (o_45_10 P) (.node (o_77_10 P) (.node (o_141_11 P) .nil .nil) .nil) (.node (o_109_11 P) (.node (o_173_11 P) .nil .nil) .nil)) (.node (o_61_10 P) (.node (o_93_11 P) (.node (o_157_11 P) .nil .nil) .nil) (.node (o_125_11 P) .nil .nil)))))) (.node (o_2_10 P) (.node (PySem.W.boot_o_4 P) (.node (PySem.W.boot_o_8 P) (.node (o_16_10 P) (.node (o_32_10 P) (.node (o_64_10 P) (.node (o_128_11 P) .nil .nil) .nil) (.node (o_96_11 P) (.node (o_160_11 P) .nil .nil) .nil)) (.node (o_48_10 P) (.node (o_80_10 P) (.node (o_144_11 P) .nil .nil) .nil) (.node (o_112_11 P) .nil .nil))) (.node (o_24_10 P) (.node (o_40_10 P) (.node (o_72_10 P) (.node (o_136_11 P) .nil .nil) .nil) (.node (o_104_11 P) (.node (o_168_11 P) .nil .nil) .nil)) (.node (o_56_10 P) (.node (o_88_10 P) (.node (o_152_11 P) .nil .nil) .nil) (.node (o_120_11 P) .nil .nil)))) (.node (o_12_11 P) (.node (o_20_10 P) (.node (o_36_10 P) (.node (o_68_10 P) (.node (o_132_11 P) .nil .nil) .nil) (.node (o_100_11 P) (.node (o_164_11 P) .nil .nil) .nil)) (.node (o_52_10 P) (.node (o_84_10 P) (.node (o_148_11 P) .nil .nil) .nil) (.node (o_116_11 P) .nil .nil))) (.node (o_28_10 P) (.node (o_44_10 P) (.node (o_76_10 P) (.node (o_140_11 P) .nil .nil) .nil) (.node (o_108_11 P) (.node (o_172_11 P) .nil .nil) .nil)) (.node (o_60_10 P) (.node (o_92_10 P) (.node (o_156_11 P) .nil .nil) .nil) (.node (o_124_11 P) .nil .nil))))) (.node (PySem.W.boot_o_6 P) (.node (PySem.W.boot_o_10 P) (.node (o_18_10 P) (.node (o_34_10 P) (.node (o_66_10 P) (.node (o_130_11 P) .nil .nil) .nil) (.node (o_98_11 P) (.node (o_162_11 P) .nil .nil) .nil)) (.node (o_50_10 P) (.node (o_82_10 P) (.node (o_146_11 P) .nil .nil) .nil) (.node (o_114_11 P) .nil .nil))) (.node (o_26_10 P) (.node (o_42_10 P) (.node (o_74_10 P) (.node (o_138_11 P) .nil .nil) .nil) (.node (o_106_11 P) (.node (o_170_11 P) .nil .nil) .nil)) (.node (o_58_10 P) (.node (o_90_10 P) (.node (o_154_11 P) .nil .nil) .nil) (.node (o_122_11 P) .nil .nil)))) (.node (o_14_a P) (.node (o_22_10 P) (.node (o_38_10 P) (.node (o_70_10 P) (.node (o_134_11 P) .nil .nil) .nil) (.node (o_102_11 P) (.node (o_166_11 P) .nil .nil) .nil)) (.node (o_54_10 P) (.node (o_86_10 P) (.node (o_150_11 P) .nil .nil) .nil) (.node (o_118_11 P) .nil .nil))) (.node (o_30_10 P) (.node (o_46_10 P) (.node (o_78_10 P) (.node (o_142_11 P) .nil .nil) .nil) (.node (o_110_11 P) (.node (o_174_11 P) .nil .nil) .nil)) (.node (o_62_10 P) (.node (o_94_11 P) (.node (o_158_11 P) .nil .nil) .nil) (.node (o_126_11 P) .nil .nil)))))))
-- state 11: objs 176 toks 480
noncomputable def o_3_12 : Params → Obj := fun P => ⟨(.type "dict"), none, (.dict #[⟨PyData.keyHash P (.ofString "__name__"), (.str (.ofString "__name__") 165), (.str (.ofString "eth._utils.empty") 232)⟩, ⟨PyData.keyHash P (.ofString "__doc__"), (.str (.ofString "__doc__") 166), .none⟩, ⟨PyData.keyHash P (.ofString "__package__"), (.str (.ofString "__package__") 167), .none⟩, ⟨PyData.keyHash P (.ofString "__loader__"), (.str (.ofString "__loader__") 168), (.builtin "__main__.__loader__#opaque")⟩, ⟨PyData.keyHash P (.ofString "__spec__"), (.str (.ofString "__spec__") 169), .none⟩, ⟨PyData.keyHash P (.ofString "__annotations__"), (.str (.ofString "__annotations__") 170), (.ref 6)⟩, ⟨PyData.keyHash P (.ofString "__builtins__"), (.str (.ofString "__builtins__") 171), (.ref 4)⟩, ⟨PyData.keyHash P (.ofString "__file__"), (.str (.ofString "__file__") 173), (.str (.ofString "/claim/cut.py") 172)⟩, ⟨PyData.keyHash P (.ofString "__cached__"), (.str (.ofString "__cached__") 174), .none⟩, ⟨PyData.keyHash P (.ofString "_wall"), (.str (.ofString "_wall") 193), (.ref 21)⟩, ⟨PyData.keyHash P (.ofString "BASE_FEE_MAX_CHANGE_DENOMINATOR"), (.str (.ofString "BASE_FEE_MAX_CHANGE_DENOMINATOR") 195), (.int 8 194)⟩, ⟨PyData.keyHash P (.ofString "INITIAL_BASE_FEE"), (.str (.ofString "INITIAL_BASE_FEE") 197), (.int 1000000000 196)⟩, ⟨PyData.keyHash P (.ofString "ELASTICITY_MULTIPLIER"), (.str (.ofString "ELASTICITY_MULTIPLIER") 199), (.int 2 198)⟩, ⟨PyData.keyHash P (.ofString "calculate_expected_base_fee_per_gas"), (.str (.ofString "calculate_expected_base_fee_per_gas") 215), (.ref 28)⟩, ⟨PyData.keyHash P (.ofString "fake_exponential"), (.str (.ofString "fake_exponential") 231), (.ref 36)⟩, ⟨PyData.keyHash P (.ofString "_tuplegetter"), (.str (.ofString "_tuplegetter") 290), (.ref 75)⟩, ⟨PyData.keyHash P (.ofString "ValidationError"), (.str (.ofString "ValidationError") 312), (.ref 89)⟩, ⟨PyData.keyHash P (.ofString "Header"), (.str (.ofString "Header") 479), (.ref 172)⟩, ⟨PyData.keyHash P (.ofString "LondonHeader"), (.str (.ofString "LondonHeader") 607), (.ref 246)⟩] 19), #[]⟩
noncomputable def o_12_12 : Params → Obj := fun P => ⟨.none, none, (.fields #[(.int 1 0), (.int 0 0), (.ref 20), (.int 8 0), (.int 0 0), (.ref 27), (.int 31 0), (.int 0 0), (.ref 35), (.int 41 0), (.int 0 0), (.ref 42), (.int 59 0), (.int 0 0), (.ref 85), (.int 61 0), (.int 0 0), (.ref 99), (.int 107 0), (.int 0 0), (.ref 182)]), #[]⟩
noncomputable def o_176_12 : Params → Obj := fun P => ⟨(.type "tuple"), none, (.seq #[(.type "tuple")] 0), #[]⟩
noncomputable def o_177_12 : Params → Obj := fun P => ⟨(.type "builtin_function_or_method"), none, (.fields #[(.builtin "type.__prepare__"), (.type "type")]), #[]⟩
noncomputable def o_178_12 : Params → Obj := fun P => ⟨(.type "dict"), none, (.dict #[⟨PyData.keyHash P (.ofString "__module__"), (.str (.ofString "__module__") 487), (.str (.ofString "eth._utils.empty") 232)⟩, ⟨PyData.keyHash P (.ofString "__qualname__"), (.str (.ofString "__qualname__") 489), (.str (.ofString "LondonHeader") 488)⟩, ⟨PyData.keyHash P (.ofString "__firstlineno__"), (.str (.ofString "__firstlineno__") 491), (.int 107 490)⟩, ⟨PyData.keyHash P (.ofString "__doc__"), (.str (.ofString "__doc__") 493), (.str (.ofString "LondonHeader(gas_limit, gas_used, base_fee_per_gas)") 492)⟩, ⟨PyData.keyHash P (.ofString "__slots__"), (.str (.ofString "__slots__") 495), (.ref 184)⟩, ⟨PyData.keyHash P (.ofString "_fields"), (.str (.ofString "_fields") 499), (.ref 185)⟩, ⟨PyData.keyHash P (.ofString "_field_defaults"), (.str (.ofString "_field_defaults") 500), (.ref 186)⟩, ⟨PyData.keyHash P (.ofString "__new__"), (.str (.ofString "__new__") 511), (.ref 193)⟩, ⟨PyData.keyHash P (.ofString "_make"), (.str (.ofString "_make") 533), (.ref 202)⟩, ⟨PyData.keyHash P (.ofString "_replace"), (.str (.ofString "_replace") 544), (.ref 211)⟩, ⟨PyData.keyHash P (.ofString "__replace__"), (.str (.ofString "__replace__") 545), (.ref 211)⟩, ⟨PyData.keyHash P (.ofString "__repr__"), (.str (.ofString "__repr__") 553), (.ref 218)⟩, ⟨PyData.keyHash P (.ofString "_asdict"), (.str (.ofString "_asdict") 560), (.ref 225)⟩, ⟨PyData.keyHash P (.ofString "__getnewargs__"), (.str (.ofString "__getnewargs__") 568), (.ref 232)⟩, ⟨PyData.keyHash P (.ofString "__match_args__"), (.str (.ofString "__match_args__") 572), (.ref 233)⟩, ⟨PyData.keyHash P (.ofString "gas_limit"), (.str (.ofString "gas_limit") 582), (.ref 235)⟩, ⟨PyData.keyHash P (.ofString "gas_used"), (.str (.ofString "gas_used") 592), (.ref 238)⟩, ⟨PyData.keyHash P (.ofString "base_fee_per_gas"), (.str (.ofString "base_fee_per_gas") 602), (.ref 241)⟩, ⟨PyData.keyHash P (.ofString "__static_attributes__"), (.str (.ofString "__static_attributes__") 603), (.ref 243)⟩, ⟨PyData.keyHash P (.ofString "__classcell__"), (.str (.ofString "__classcell__") 604), (.ref 179)⟩] 20), #[]⟩
noncomputable def o_179_12 : Params → Obj := fun P => ⟨(.type "cell"), none, (.cell (some (.ref 246))), #[]⟩
noncomputable def o_180_12 : Params → Obj := fun P => ⟨(.type "tuple"), none, (.seq #[] 0), #[]⟩
noncomputable def o_181_12 : Params → Obj := fun P => ⟨.none, none, (.fields #[(.int 113 0), (.int 4 0), (.ref 192), (.int 118 0), (.int 4 0), (.ref 199), (.int 125 0), (.int 4 0), (.ref 210), (.int 136 0), (.int 4 0), (.ref 217), (.int 140 0), (.int 4 0), (.ref 224), (.int 143 0), (.int 4 0), (.ref 231)]), #[]⟩
noncomputable def o_182_12 : Params → Obj := fun P => ⟨(.type "code"), none, (.fields #[(.str (.ofString "LondonHeader") 482), (.str (.ofString "LondonHeader") 483), (.str (.ofString "/claim/cut.py") 484), (.int 107 0), (.int 0 0), (.int 0 0), (.int 0 0), (.int 0 0), (.ref 180), (.bool false), (.int 181 0), (.ref 181), .none, .none, .none, .none, (.int 485 0), (.int 107 0), (.str (.ofString "/claim/cut.py") 486)]), #[]⟩
noncomputable def o_183_12 : Params → Obj := fun P => ⟨(.type "frame"), none, .plain, #[(some (.ref 182)), (some (.ref 3)), (some (.ref 178)), none, (some (.str (.ofString "eth._utils.empty") 232)), none, (some (.ref 0))]⟩
noncomputable def o_184_12 : Params → Obj := fun P => ⟨(.type "tuple"), none, (.seq #[] 0), #[]⟩
noncomputable def o_185_12 : Params → Obj := fun P => ⟨(.type "tuple"), none, (.seq #[(.str (.ofString "gas_limit") 496), (.str (.ofString "gas_used") 497), (.str (.ofString "base_fee_per_gas") 498)] 0), #[]⟩
noncomputable def o_186_12 : Params → Obj := fun P => ⟨(.type "dict"), none, (.dict #[] 0), #[]⟩
noncomputable def o_187_12 : Params → Obj := fun P => ⟨(.type "tuple"), none, (.seq #[] 0), #[]⟩
noncomputable def o_188_12 : Params → Obj := fun P => ⟨.none, none, (.fields #[]), #[]⟩
noncomputable def o_189_12 : Params → Obj := fun P => ⟨(.type "tuple"), none, (.seq #[(.str (.ofString "_cls") 504), (.str (.ofString "gas_limit") 505), (.str (.ofString "gas_used") 506), (.str (.ofString "base_fee_per_gas") 507)] 0), #[]⟩
noncomputable def o_190_12 : Params → Obj := fun P => ⟨(.type "tuple"), none, (.seq #[] 0), #[]⟩
noncomputable def o_191_12 : Params → Obj := fun P => ⟨.none, none, (.func ⟨(.ofString "__new__"), (.ofString "LondonHeader.__new__"), fArgs (memAt 12 4), .stmts (fBody (memAt 12 4)), fScope (memAt 12 4), 0, [], .none, .none, .none, .none, none, .none, .none, 0⟩), #[]⟩
noncomputable def o_192_12 : Params → Obj := fun P => ⟨(.type "code"), none, (.fields #[(.str (.ofString "__new__") 501), (.str (.ofString "LondonHeader.__new__") 502), (.str (.ofString "/claim/cut.py") 503), (.int 113 0), (.int 4 0), (.int 0 0), (.int 0 0), (.int 3 0), (.ref 187), (.bool true), (.int 181 0), (.ref 188), .none, (.ref 189), (.ref 190), (.ref 191), (.int 508 0), (.int 113 0), (.str (.ofString "/claim/cut.py") 509)]), #[]⟩
noncomputable def o_193_12 : Params → Obj := fun P => ⟨(.type "function"), none, (.func ⟨(.ofString "__new__"), (.ofString "LondonHeader.__new__"), fArgs (memAt 12 4), .stmts (fBody (memAt 12 4)), fScope (memAt 12 4), 3, [], .none, .none, (.str (.ofString "Create new instance of LondonHeader(gas_limit, gas_used, base_fee_per_gas)") 510), (.str (.ofString "eth._utils.empty") 232), none, (.ref 192), .none, 0⟩), #[]⟩
noncomputable def o_194_12 : Params → Obj := fun P => ⟨(.type "tuple"), none, (.seq #[] 0), #[]⟩
noncomputable def o_195_12 : Params → Obj := fun P => ⟨.none, none, (.fields #[]), #[]⟩
noncomputable def o_196_12 : Params → Obj := fun P => ⟨(.type "tuple"), none, (.seq #[(.str (.ofString "cls") 515), (.str (.ofString "iterable") 516), (.str (.ofString "result") 517)] 0), #[]⟩
noncomputable def o_197_12 : Params → Obj := fun P => ⟨(.type "tuple"), none, (.seq #[] 0), #[]⟩
noncomputable def o_198_12 : Params → Obj := fun P => ⟨.none, none, (.func ⟨(.ofString "_make"), (.ofString "LondonHeader._make"), fArgs (memAt 12 5), .stmts (fBody (memAt 12 5)), fScope (memAt 12 5), 0, [], .none, .none, .none, .none, none, .none, .none, 0⟩), #[]⟩
noncomputable def o_199_12 : Params → Obj := fun P => ⟨(.type "code"), none, (.fields #[(.str (.ofString "_make") 512), (.str (.ofString "LondonHeader._make") 513), (.str (.ofString "/claim/cut.py") 514), (.int 117 0), (.int 2 0), (.int 0 0), (.int 0 0), (.int 3 0), (.ref 194), (.bool true), (.int 181 0), (.ref 195), .none, (.ref 196), (.ref 197), (.ref 198), (.int 518 0), (.int 117 0), (.str (.ofString "/claim/cut.py") 519)]), #[]⟩
noncomputable def o_200_12 : Params → Obj := fun P => ⟨(.type "function"), none, (.func ⟨(.ofString "_make"), (.ofString "LondonHeader._make"), fArgs (memAt 12 5), .stmts (fBody (memAt 12 5)), fScope (memAt 12 5), 3, [], .none, .none, (.str (.ofString "Make a new LondonHeader object from a sequence or iterable") 520), (.str (.ofString "eth._utils.empty") 232), (some 203), (.ref 199), .none, 0⟩), #[]⟩
noncomputable def o_201_12 : Params → Obj := fun P => ⟨(.type "dict"), none, (.dict #[⟨PyData.keyHash P (.ofString "__module__"), (.str (.ofString "__module__") 522), (.str (.ofString "eth._utils.empty") 232)⟩, ⟨PyData.keyHash P (.ofString "__name__"), (.str (.ofString "__name__") 525), (.str (.ofString "_make") 524)⟩, ⟨PyData.keyHash P (.ofString "__qualname__"), (.str (.ofString "__qualname__") 528), (.str (.ofString "LondonHeader._make") 527)⟩, ⟨PyData.keyHash P (.ofString "__doc__"), (.str (.ofString "__doc__") 530), (.str (.ofString "Make a new LondonHeader object from a sequence or iterable") 520)⟩, ⟨PyData.keyHash P (.ofString "__annotations__"), (.str (.ofString "__annotations__") 532), (.ref 203)⟩] 5), #[]⟩
noncomputable def o_202_12 : Params → Obj := fun P => ⟨(.type "classmethod"), (some 201), (.fields #[(.ref 200), (.bool false)]), #[]⟩
noncomputable def o_203_12 : Params → Obj := fun P => ⟨(.type "dict"), none, (.dict #[] 0), #[]⟩
noncomputable def o_204_12 : Params → Obj := fun P => ⟨(.type "tuple"), none, (.seq #[(.ref 179)] 0), #[]⟩
noncomputable def o_205_12 : Params → Obj := fun P => ⟨(.type "tuple"), none, (.seq #[(.str (.ofString "__class__") 537)] 0), #[]⟩
noncomputable def o_206_12 : Params → Obj := fun P => ⟨.none, none, (.fields #[]), #[]⟩
noncomputable def o_207_12 : Params → Obj := fun P => ⟨(.type "tuple"), none, (.seq #[(.str (.ofString "self") 538), (.str (.ofString "kwds") 539), (.str (.ofString "result") 540)] 0), #[]⟩
noncomputable def o_208_12 : Params → Obj := fun P => ⟨(.type "tuple"), none, (.seq #[] 0), #[]⟩
noncomputable def o_209_12 : Params → Obj := fun P => ⟨.none, none, (.func ⟨(.ofString "_replace"), (.ofString "LondonHeader._replace"), fArgs (memAt 12 6), .stmts (fBody (memAt 12 6)), fScope (memAt 12 6), 0, [], .none, .none, .none, .none, none, .none, .none, 0⟩), #[]⟩
noncomputable def o_210_12 : Params → Obj := fun P => ⟨(.type "code"), none, (.fields #[(.str (.ofString "_replace") 534), (.str (.ofString "LondonHeader._replace") 535), (.str (.ofString "/claim/cut.py") 536), (.int 125 0), (.int 1 0), (.int 1 0), (.int 0 0), (.int 11 0), (.ref 205), (.bool true), (.int 181 0), (.ref 206), .none, (.ref 207), (.ref 208), (.ref 209), (.int 541 0), (.int 125 0), (.str (.ofString "/claim/cut.py") 542)]), #[]⟩
noncomputable def o_211_12 : Params → Obj := fun P => ⟨(.type "function"), none, (.func ⟨(.ofString "_replace"), (.ofString "LondonHeader._replace"), fArgs (memAt 12 6), .stmts (fBody (memAt 12 6)), fScope (memAt 12 6), 3, [((.ofString "__class__"), 179)], .none, .none, (.str (.ofString "Return a new LondonHeader object replacing specified fields with new values") 543), (.str (.ofString "eth._utils.empty") 232), none, (.ref 210), (.ref 204), 0⟩), #[]⟩
noncomputable def o_212_12 : Params → Obj := fun P => ⟨(.type "tuple"), none, (.seq #[] 0), #[]⟩
noncomputable def o_213_12 : Params → Obj := fun P => ⟨.none, none, (.fields #[]), #[]⟩
noncomputable def o_214_12 : Params → Obj := fun P => ⟨(.type "tuple"), none, (.seq #[(.str (.ofString "self") 549)] 0), #[]⟩
noncomputable def o_215_12 : Params → Obj := fun P => ⟨(.type "tuple"), none, (.seq #[] 0), #[]⟩
noncomputable def o_216_12 : Params → Obj := fun P => ⟨.none, none, (.func ⟨(.ofString "__repr__"), (.ofString "LondonHeader.__repr__"), fArgs (memAt 12 8), .stmts (fBody (memAt 12 8)), fScope (memAt 12 8), 0, [], .none, .none, .none, .none, none, .none, .none, 0⟩), #[]⟩
noncomputable def o_217_12 : Params → Obj := fun P => ⟨(.type "code"), none, (.fields #[(.str (.ofString "__repr__") 546), (.str (.ofString "LondonHeader.__repr__") 547), (.str (.ofString "/claim/cut.py") 548), (.int 136 0), (.int 1 0), (.int 0 0), (.int 0 0), (.int 3 0), (.ref 212), (.bool true), (.int 181 0), (.ref 213), .none, (.ref 214), (.ref 215), (.ref 216), (.int 550 0), (.int 136 0), (.str (.ofString "/claim/cut.py") 551)]), #[]⟩
noncomputable def o_218_12 : Params → Obj := fun P => ⟨(.type "function"), none, (.func ⟨(.ofString "__repr__"), (.ofString "LondonHeader.__repr__"), fArgs (memAt 12 8), .stmts (fBody (memAt 12 8)), fScope (memAt 12 8), 3, [], .none, .none, (.str (.ofString "Return a nicely formatted representation string") 552), (.str (.ofString "eth._utils.empty") 232), none, (.ref 217), .none, 0⟩), #[]⟩
noncomputable def o_219_12 : Params → Obj := fun P => ⟨(.type "tuple"), none, (.seq #[] 0), #[]⟩
noncomputable def o_220_12 : Params → Obj := fun P => ⟨.none, none, (.fields #[]), #[]⟩
noncomputable def o_221_12 : Params → Obj := fun P => ⟨(.type "tuple"), none, (.seq #[(.str (.ofString "self") 557)] 0), #[]⟩
noncomputable def o_222_12 : Params → Obj := fun P => ⟨(.type "tuple"), none, (.seq #[] 0), #[]⟩
noncomputable def o_223_12 : Params → Obj := fun P => ⟨.none, none, (.func ⟨(.ofString "_asdict"), (.ofString "LondonHeader._asdict"), fArgs (memAt 12 9), .stmts (fBody (memAt 12 9)), fScope (memAt 12 9), 0, [], .none, .none, .none, .none, none, .none, .none, 0⟩), #[]⟩
noncomputable def o_224_12 : Params → Obj := fun P => ⟨(.type "code"), none, (.fields #[(.str (.ofString "_asdict") 554), (.str (.ofString "LondonHeader._asdict") 555), (.str (.ofString "/claim/cut.py") 556), (.int 140 0), (.int 1 0), (.int 0 0), (.int 0 0), (.int 3 0), (.ref 219), (.bool true), (.int 181 0), (.ref 220), .none, (.ref 221), (.ref 222), (.ref 223), (.int 558 0), (.int 140 0), (.str (.ofString "/claim/cut.py") 559)]), #[]⟩
noncomputable def o_225_12 : Params → Obj := fun P => ⟨(.type "function"), none, (.func ⟨(.ofString "_asdict"), (.ofString "LondonHeader._asdict"), fArgs (memAt 12 9), .stmts (fBody (memAt 12 9)), fScope (memAt 12 9), 3, [], .none, .none, .none, (.str (.ofString "eth._utils.empty") 232), none, (.ref 224), .none, 0⟩), #[]⟩
noncomputable def o_226_12 : Params → Obj := fun P => ⟨(.type "tuple"), none, (.seq #[] 0), #[]⟩
noncomputable def o_227_12 : Params → Obj := fun P => ⟨.none, none, (.fields #[]), #[]⟩
noncomputable def o_228_12 : Params → Obj := fun P => ⟨(.type "tuple"), none, (.seq #[(.str (.ofString "self") 564)] 0), #[]⟩
noncomputable def o_229_12 : Params → Obj := fun P => ⟨(.type "tuple"), none, (.seq #[] 0), #[]⟩
noncomputable def o_230_12 : Params → Obj := fun P => ⟨.none, none, (.func ⟨(.ofString "__getnewargs__"), (.ofString "LondonHeader.__getnewargs__"), fArgs (memAt 12 10), .stmts (fBody (memAt 12 10)), fScope (memAt 12 10), 0, [], .none, .none, .none, .none, none, .none, .none, 0⟩), #[]⟩
noncomputable def o_231_12 : Params → Obj := fun P => ⟨(.type "code"), none, (.fields #[(.str (.ofString "__getnewargs__") 561), (.str (.ofString "LondonHeader.__getnewargs__") 562), (.str (.ofString "/claim/cut.py") 563), (.int 143 0), (.int 1 0), (.int 0 0), (.int 0 0), (.int 3 0), (.ref 226), (.bool true), (.int 181 0), (.ref 227), .none, (.ref 228), (.ref 229), (.ref 230), (.int 565 0), (.int 143 0), (.str (.ofString "/claim/cut.py") 566)]), #[]⟩
noncomputable def o_232_12 : Params → Obj := fun P => ⟨(.type "function"), none, (.func ⟨(.ofString "__getnewargs__"), (.ofString "LondonHeader.__getnewargs__"), fArgs (memAt 12 10), .stmts (fBody (memAt 12 10)), fScope (memAt 12 10), 3, [], .none, .none, (.str (.ofString "Return self as a plain tuple.  Used by copy and pickle.") 567), (.str (.ofString "eth._utils.empty") 232), none, (.ref 231), .none, 0⟩), #[]⟩
noncomputable def o_233_12 : Params → Obj := fun P => ⟨(.type "tuple"), none, (.seq #[(.str (.ofString "gas_limit") 569), (.str (.ofString "gas_used") 570), (.str (.ofString "base_fee_per_gas") 571)] 0), #[]⟩
noncomputable def o_234_12 : Params → Obj := fun P => ⟨(.type "dict"), none, (.dict #[⟨PyData.keyHash P (.ofString "index"), (.str (.ofString "index") 579), (.int 0 573)⟩, ⟨PyData.keyHash P (.ofString "__doc__"), (.str (.ofString "__doc__") 581), (.str (.ofString "Alias for field number 0") 574)⟩] 2), #[]⟩
noncomputable def o_235_12 : Params → Obj := fun P => ⟨(.ref 75), (some 234), .plain, #[]⟩
noncomputable def o_236_12 : Params → Obj := fun P => ⟨(.type "frame"), none, (.dict #[⟨PyData.keyHash P (.ofString "self"), (.str (.ofString "self") 575), (.ref 235)⟩, ⟨PyData.keyHash P (.ofString "index"), (.str (.ofString "index") 576), (.int 0 573)⟩, ⟨PyData.keyHash P (.ofString "doc"), (.str (.ofString "doc") 577), (.str (.ofString "Alias for field number 0") 574)⟩] 3), #[]⟩
noncomputable def o_237_12 : Params → Obj := fun P => ⟨(.type "dict"), none, (.dict #[⟨PyData.keyHash P (.ofString "index"), (.str (.ofString "index") 589), (.int 1 583)⟩, ⟨PyData.keyHash P (.ofString "__doc__"), (.str (.ofString "__doc__") 591), (.str (.ofString "Alias for field number 1") 584)⟩] 2), #[]⟩
noncomputable def o_238_12 : Params → Obj := fun P => ⟨(.ref 75), (some 237), .plain, #[]⟩
noncomputable def o_239_12 : Params → Obj := fun P => ⟨(.type "frame"), none, (.dict #[⟨PyData.keyHash P (.ofString "self"), (.str (.ofString "self") 585), (.ref 238)⟩, ⟨PyData.keyHash P (.ofString "index"), (.str (.ofString "index") 586), (.int 1 583)⟩, ⟨PyData.keyHash P (.ofString "doc"), (.str (.ofString "doc") 587), (.str (.ofString "Alias for field number 1") 584)⟩] 3), #[]⟩
noncomputable def o_240_12 : Params → Obj := fun P => ⟨(.type "dict"), none, (.dict #[⟨PyData.keyHash P (.ofString "index"), (.str (.ofString "index") 599), (.int 2 593)⟩, ⟨PyData.keyHash P (.ofString "__doc__"), (.str (.ofString "__doc__") 601), (.str (.ofString "Alias for field number 2") 594)⟩] 2), #[]⟩
noncomputable def o_241_12 : Params → Obj := fun P => ⟨(.ref 75), (some 240), .plain, #[]⟩
noncomputable def o_242_12 : Params → Obj := fun P => ⟨(.type "frame"), none, (.dict #[⟨PyData.keyHash P (.ofString "self"), (.str (.ofString "self") 595), (.ref 241)⟩, ⟨PyData.keyHash P (.ofString "index"), (.str (.ofString "index") 596), (.int 2 593)⟩, ⟨PyData.keyHash P (.ofString "doc"), (.str (.ofString "doc") 597), (.str (.ofString "Alias for field number 2") 594)⟩] 3), #[]⟩
noncomputable def o_243_12 : Params → Obj := fun P => ⟨(.type "tuple"), none, (.seq #[] 0), #[]⟩
noncomputable def o_244_12 : Params → Obj := fun P => ⟨(.type "list"), none, (.seq #[] 0), #[]⟩
noncomputable def o_245_12 : Params → Obj := fun P => ⟨(.type "dict"), none, (.dict #[⟨PyData.keyHash P (.ofString "__module__"), (.str (.ofString "__module__") 487), (.str (.ofString "eth._utils.empty") 232)⟩, ⟨PyData.keyHash P (.ofString "__firstlineno__"), (.str (.ofString "__firstlineno__") 491), (.int 107 490)⟩, ⟨PyData.keyHash P (.ofString "__doc__"), (.str (.ofString "__doc__") 493), (.str (.ofString "LondonHeader(gas_limit, gas_used, base_fee_per_gas)") 492)⟩, ⟨PyData.keyHash P (.ofString "__slots__"), (.str (.ofString "__slots__") 495), (.ref 184)⟩, ⟨PyData.keyHash P (.ofString "_fields"), (.str (.ofString "_fields") 499), (.ref 185)⟩, ⟨PyData.keyHash P (.ofString "_field_defaults"), (.str (.ofString "_field_defaults") 500), (.ref 186)⟩, ⟨PyData.keyHash P (.ofString "__new__"), (.str (.ofString "__new__") 511), (.ref 247)⟩, ⟨PyData.keyHash P (.ofString "_make"), (.str (.ofString "_make") 533), (.ref 202)⟩, ⟨PyData.keyHash P (.ofString "_replace"), (.str (.ofString "_replace") 544), (.ref 211)⟩, ⟨PyData.keyHash P (.ofString "__replace__"), (.str (.ofString "__replace__") 545), (.ref 211)⟩, ⟨PyData.keyHash P (.ofString "__repr__"), (.str (.ofString "__repr__") 553), (.ref 218)⟩, ⟨PyData.keyHash P (.ofString "_asdict"), (.str (.ofString "_asdict") 560), (.ref 225)⟩, ⟨PyData.keyHash P (.ofString "__getnewargs__"), (.str (.ofString "__getnewargs__") 568), (.ref 232)⟩, ⟨PyData.keyHash P (.ofString "__match_args__"), (.str (.ofString "__match_args__") 572), (.ref 233)⟩, ⟨PyData.keyHash P (.ofString "gas_limit"), (.str (.ofString "gas_limit") 582), (.ref 235)⟩, ⟨PyData.keyHash P (.ofString "gas_used"), (.str (.ofString "gas_used") 592), (.ref 238)⟩, ⟨PyData.keyHash P (.ofString "base_fee_per_gas"), (.str (.ofString "base_fee_per_gas") 602), (.ref 241)⟩, ⟨PyData.keyHash P (.ofString "__static_attributes__"), (.str (.ofString "__static_attributes__") 603), (.ref 243)⟩] 2), #[]⟩
noncomputable def o_246_12 : Params → Obj := fun P => ⟨(.type "type"), none, (.cls ⟨(.ofString "LondonHeader"), [(.type "tuple")], [(.ref 246), (.type "tuple"), (.type "object")], 245, (.ofString "LondonHeader"), false, [], [], false, none, false⟩), #[(some (.ref 176)), none, (some (.str (.ofString "LondonHeader") 480)), (some (.str (.ofString "LondonHeader") 488)), (some .none), (some (.bool false))]⟩
noncomputable def o_247_12 : Params → Obj := fun P => ⟨(.type "staticmethod"), none, (.fields #[(.ref 193)]), #[]⟩
noncomputable def o_248_12 : Params → Obj := fun P => ⟨(.type "super"), none, (.fields #[(.ref 246), (.ref 246), (.ref 246)]), #[]⟩
noncomputable def o_249_12 : Params → Obj := fun P => ⟨(.type "builtin_function_or_method"), none, (.fields #[(.builtin "object.__init_subclass__"), (.ref 246)]), #[]⟩
noncomputable def tree_12 : Params → BT := fun P => (.node (PySem.W.boot_o_0 P) (.node (PySem.W.boot_o_1 P) (.node (o_3_12 P) (.node (PySem.W.boot_o_7 P) (.node (o_15_10 P) (.node (o_31_10 P) (.node (o_63_10 P) (.node (o_127_11 P) .nil .nil) (.node (o_191_12 P) .nil .nil)) (.node (o_95_11 P) (.node (o_159_11 P) .nil .nil) (.node (o_223_12 P) .nil .nil))) (.node (o_47_10 P) (.node (o_79_10 P) (.node (o_143_11 P) .nil .nil) (.node (o_207_12 P) .nil .nil)) (.node (o_111_11 P) (.node (o_175_11 P) .nil .nil) (.node (o_239_12 P) .nil .nil)))) (.node (o_23_10 P) (.node (o_39_10 P) (.node (o_71_10 P) (.node (o_135_11 P) .nil .nil) (.node (o_199_12 P) .nil .nil)) (.node (o_103_11 P) (.node (o_167_11 P) .nil .nil) (.node (o_231_12 P) .nil .nil))) (.node (o_55_10 P) (.node (o_87_10 P) (.node (o_151_11 P) .nil .nil) (.node (o_215_12 P) .nil .nil)) (.node (o_119_11 P) (.node (o_183_12 P) .nil .nil) (.node (o_247_12 P) .nil .nil))))) (.node (o_11_a P) (.node (o_19_10 P) (.node (o_35_10 P) (.node (o_67_10 P) (.node (o_131_11 P) .nil .nil) (.node (o_195_12 P) .nil .nil)) (.node (o_99_11 P) (.node (o_163_11 P) .nil .nil) (.node (o_227_12 P) .nil .nil))) (.node (o_51_10 P) (.node (o_83_10 P) (.node (o_147_11 P) .nil .nil) (.node (o_211_12 P) .nil .nil)) (.node (o_115_11 P) (.node (o_179_12 P) .nil .nil) (.node (o_243_12 P) .nil .nil)))) (.node (o_27_10 P) (.node (o_43_10 P) (.node (o_75_10 P) (.node (o_139_11 P) .nil .nil) (.node (o_203_12 P) .nil .nil)) (.node (o_107_11 P) (.node (o_171_11 P) .nil .nil) (.node (o_235_12 P) .nil .nil))) (.node (o_59_10 P) (.node (o_91_10 P) (.node (o_155_11 P) .nil .nil) (.node (o_219_12 P) .nil .nil)) (.node (o_123_11 P) (.node (o_187_12 P) .nil .nil) .nil))))) (.node (PySem.W.boot_o_5 P) (.node (PySem.W.boot_o_9 P) (.node (o_17_10 P) (.node (o_33_10 P) (.node (o_65_10 P) (.node (o_129_11 P) .nil .nil) (.node (o_193_12 P) .nil .nil)) (.node (o_97_11 P) (.node (o_161_11 P) .nil .nil) (.node (o_225_12 P) .nil .nil))) (.node (o_49_10 P) (.node (o_81_10 P) (.node (o_145_11 P) .nil .nil) (.node (o_209_12 P) .nil .nil)) (.node (o_113_11 P) (.node (o_177_12 P) .nil .nil) (.node (o_241_12 P) .nil .nil)))) (.node (o_25_10 P) (.node (o_41_10 P) (.node (o_73_10 P) (.node (o_137_11 P) .nil .nil) (.node (o_201_12 P) .nil .nil)) (.node (o_105_11 P) (.node (o_169_11 P) .nil .nil) (.node (o_233_12 P) .nil .nil))) (.node (o_57_10 P) (.node (o_89_10 P) (.node (o_153_11 P) .nil .nil) (.node (o_217_12 P) .nil .nil)) (.node (o_121_11 P) (.node (o_185_12 P) .nil .nil) (.node (o_249_12 P) .nil .nil))))) (.node (o_13_a P) (.node (o_21_10 P) (.node (o_37_10 P) (.node (o_69_10 P) (.node (o_133_11 P) .nil .nil) (.node (o_197_12 P) .nil .nil)) (.node (o_101_11 P) (.node (o_165_11 P) .nil .nil) (.node (o_229_12 P) .nil .nil))) (.node (o_53_10 P) (.node (o_85_10 P) (.node (o_149_11 P) .nil .nil) (.node (o_213_12 P) .nil .nil)) (.node (o_117_11 P) (.node (o_181_12 P) .nil .nil) (.node (o_245_12 P) .nil .nil)))) (.node (o_29_10 P) (.node (o_45_10 P) (.node (o_77_10 P) (.node (o_141_11 P) .nil .nil) (.node (o_205_12 P) .nil .nil)) (.node (o_109_11 P) (.node (o_173_11 P) .nil .nil) (.node (o_237_12 P) .nil .nil))) (.node (o_61_10 P) (.node (o_93_11 P) (.node (o_157_11 P) .nil .nil) (.node (o_221_12 P) .nil .nil)) (.node (o_125_11 P) (.node (o_189_12 P) .nil .nil) .nil)))))) (.node (o_2_10 P) (.node (PySem.W.boot_o_4 P) (.node (PySem.W.boot_o_8 P) (.node (o_16_10 P) (.node (o_32_10 P) (.node (o_64_10 P) (.node (o_128_11 P) .nil .nil) (.node (o_192_12 P) .nil .nil)) (.node (o_96_11 P) (.node (o_160_11 P) .nil .nil) (.node (o_224_12 P) .nil .nil))) (.node (o_48_10 P) (.node (o_80_10 P) (.node (o_144_11 P) .nil .nil) (.node (o_208_12 P) .nil .nil)) (.node (o_112_11 P) (.node (o_176_12 P) .nil .nil) (.node (o_240_12 P) .nil .nil)))) (.node (o_24_10 P) (.node (o_40_10 P) (.node (o_72_10 P) (.node (o_136_11 P) .nil .nil) (.node (o_200_12 P) .nil .nil)) (.node (o_104_11 P) (.node (o_168_11 P) .nil .nil) (.node (o_232_12 P) .nil .nil))) (.node (o_56_10 P) (.node (o_88_10 P) (.node (o_152_11 P) .nil .nil) (.node (o_216_12 P) .nil .nil)) (.node (o_120_11 P) (.node (o_184_12 P) .nil .nil) (.node (o_248_12 P) .nil .nil))))) (.node (o_12_12 P) (.node (o_20_10 P) (.node (o_36_10 P) (.node (o_68_10 P) (.node (o_132_11 P) .nil .nil) (.node (o_196_12 P) .nil .nil)) (.node (o_100_11 P) (.node (o_164_11 P) .nil .nil) (.node (o_228_12 P) .nil .nil))) (.node (o_52_10 P) (.node (o_84_10 P) (.node (o_148_11 P) .nil .nil) (.node (o_212_12 P) .nil .nil)) (.node (o_116_11 P) (.node (o_180_12 P) .nil .nil) (.node (o_244_12 P) .nil .nil)))) (.node (o_28_10 P) (.node (o_44_10 P) (.node (o_76_10 P) (.node (o_140_11 P) .nil .nil) (.node (o_204_12 P) .nil .nil)) (.node (o_108_11 P) (.node (o_172_11 P) .nil .nil) (.node (o_236_12 P) .nil .nil))) (.node (o_60_10 P) (.node (o_92_10 P) (.node (o_156_11 P) .nil .nil) (.node (o_220_12 P) .nil .nil)) (.node (o_124_11 P) (.node (o_188_12 P) .nil .nil) .nil))))) (.node (PySem.W.boot_o_6 P) (.node (PySem.W.boot_o_10 P) (.node (o_18_10 P) (.node (o_34_10 P) (.node (o_66_10 P) (.node (o_130_11 P) .nil .nil) (.node (o_194_12 P) .nil .nil)) (.node (o_98_11 P) (.node (o_162_11 P) .nil .nil) (.node (o_226_12 P) .nil .nil))) (.node (o_50_10 P) (.node (o_82_10 P) (.node (o_146_11 P) .nil .nil) (.node (o_210_12 P) .nil .nil)) (.node (o_114_11 P) (.node (o_178_12 P) .nil .nil) (.node (o_242_12 P) .nil .nil)))) (.node (o_26_10 P) (.node (o_42_10 P) (.node (o_74_10 P) (.node (o_138_11 P) .nil .nil) (.node (o_202_12 P) .nil .nil)) (.node (o_106_11 P) (.node (o_170_11 P) .nil .nil) (.node (o_234_12 P) .nil .nil))) (.node (o_58_10 P) (.node (o_90_10 P) (.node (o_154_11 P) .nil .nil) (.node (o_218_12 P) .nil .nil)) (.node (o_122_11 P) (.node (o_186_12 P) .nil .nil) .nil)))) (.node (o_14_a P) (.node (o_22_10 P) (.node (o_38_10 P) (.node (o_70_10 P) (.node (o_134_11 P) .nil .nil) (.node (o_198_12 P) .nil .nil)) (.node (o_102_11 P) (.node (o_166_11 P) .nil .nil) (.node (o_230_12 P) .nil .nil))) (.node (o_54_10 P) (.node (o_86_10 P) (.node (o_150_11 P) .nil .nil) (.node (o_214_12 P) .nil .nil)) (.node (o_118_11 P) (.node (o_182_12 P) .nil .nil) (.node (o_246_12 P) .nil .nil)))) (.node (o_30_10 P) (.node (o_46_10 P) (.node (o_78_10 P) (.node (o_142_11 P) .nil .nil) (.node (o_206_12 P) .nil .nil)) (.node (o_110_11 P) (.node (o_174_11 P) .nil .nil) (.node (o_238_12 P) .nil .nil))) (.node (o_62_10 P) (.node (o_94_11 P) (.node (o_158_11 P) .nil .nil) (.node (o_222_12 P) .nil .nil)) (.node (o_126_11 P) (.node (o_190_12 P) .nil .nil) .nil)))))))
-- state 12: objs 250 toks 608
noncomputable def o_3_13 : Params → Obj := fun P => ⟨(.type "dict"), none, (.dict #[⟨PyData.keyHash P (.ofString "__name__"), (.str (.ofString "__name__") 165), (.str (.ofString "eth._utils.empty") 232)⟩, ⟨PyData.keyHash P (.ofString "__doc__"), (.str (.ofString "__doc__") 166), .none⟩, ⟨PyData.keyHash P (.ofString "__package__"), (.str (.ofString "__package__") 167), .none⟩, ⟨PyData.keyHash P (.ofString "__loader__"), (.str (.ofString "__loader__") 168), (.builtin "__main__.__loader__#opaque")⟩, ⟨PyData.keyHash P (.ofString "__spec__"), (.str (.ofString "__spec__") 169), .none⟩, ⟨PyData.keyHash P (.ofString "__annotations__"), (.str (.ofString "__annotations__") 170), (.ref 6)⟩, ⟨PyData.keyHash P (.ofString "__builtins__"), (.str (.ofString "__builtins__") 171), (.ref 4)⟩, ⟨PyData.keyHash P (.ofString "__file__"), (.str (.ofString "__file__") 173), (.str (.ofString "/claim/cut.py") 172)⟩, ⟨PyData.keyHash P (.ofString "__cached__"), (.str (.ofString "__cached__") 174), .none⟩, ⟨PyData.keyHash P (.ofString "_wall"), (.str (.ofString "_wall") 193), (.ref 21)⟩, ⟨PyData.keyHash P (.ofString "BASE_FEE_MAX_CHANGE_DENOMINATOR"), (.str (.ofString "BASE_FEE_MAX_CHANGE_DENOMINATOR") 195), (.int 8 194)⟩, ⟨PyData.keyHash P (.ofString "INITIAL_BASE_FEE"), (.str (.ofString "INITIAL_BASE_FEE") 197), (.int 1000000000 196)⟩, ⟨PyData.keyHash P (.ofString "ELASTICITY_MULTIPLIER"), (.str (.ofString "ELASTICITY_MULTIPLIER") 199), (.int 2 198)⟩, ⟨PyData.keyHash P (.ofString "calculate_expected_base_fee_per_gas"), (.str (.ofString "calculate_expected_base_fee_per_gas") 215), (.ref 28)⟩, ⟨PyData.keyHash P (.ofString "fake_exponential"), (.str (.ofString "fake_exponential") 231), (.ref 36)⟩, ⟨PyData.keyHash P (.ofString "_tuplegetter"), (.str (.ofString "_tuplegetter") 290), (.ref 75)⟩, ⟨PyData.keyHash P (.ofString "ValidationError"), (.str (.ofString "ValidationError") 312), (.ref 89)⟩, ⟨PyData.keyHash P (.ofString "Header"), (.str (.ofString "Header") 479), (.ref 172)⟩, ⟨PyData.keyHash P (.ofString "LondonHeader"), (.str (.ofString "LondonHeader") 607), (.ref 246)⟩, ⟨PyData.keyHash P (.ofString "BlobHeader"), (.str (.ofString "BlobHeader") 722), (.ref 317)⟩] 20), #[]⟩
noncomputable def o_12_13 : Params → Obj := fun P => ⟨.none, none, (.fields #[(.int 1 0), (.int 0 0), (.ref 20), (.int 8 0), (.int 0 0), (.ref 27), (.int 31 0), (.int 0 0), (.ref 35), (.int 41 0), (.int 0 0), (.ref 42), (.int 59 0), (.int 0 0), (.ref 85), (.int 61 0), (.int 0 0), (.ref 99), (.int 107 0), (.int 0 0), (.ref 182), (.int 150 0), (.int 0 0), (.ref 256)]), #[]⟩
noncomputable def o_250_13 : Params → Obj := fun P => ⟨(.type "tuple"), none, (.seq #[(.type "tuple")] 0), #[]⟩
noncomputable def o_251_13 : Params → Obj := fun P => ⟨(.type "builtin_function_or_method"), none, (.fields #[(.builtin "type.__prepare__"), (.type "type")]), #[]⟩
noncomputable def o_252_13 : Params → Obj := fun P => ⟨(.type "dict"), none, (.dict #[⟨PyData.keyHash P (.ofString "__module__"), (.str (.ofString "__module__") 615), (.str (.ofString "eth._utils.empty") 232)⟩, ⟨PyData.keyHash P (.ofString "__qualname__"), (.str (.ofString "__qualname__") 617), (.str (.ofString "BlobHeader") 616)⟩, ⟨PyData.keyHash P (.ofString "__firstlineno__"), (.str (.ofString "__firstlineno__") 619), (.int 150 618)⟩, ⟨PyData.keyHash P (.ofString "__doc__"), (.str (.ofString "__doc__") 621), (.str (.ofString "BlobHeader(excess_blob_gas, blob_gas_used)") 620)⟩, ⟨PyData.keyHash P (.ofString "__slots__"), (.str (.ofString "__slots__") 623), (.ref 258)⟩, ⟨PyData.keyHash P (.ofString "_fields"), (.str (.ofString "_fields") 626), (.ref 259)⟩, ⟨PyData.keyHash P (.ofString "_field_defaults"), (.str (.ofString "_field_defaults") 627), (.ref 260)⟩, ⟨PyData.keyHash P (.ofString "__new__"), (.str (.ofString "__new__") 637), (.ref 267)⟩, ⟨PyData.keyHash P (.ofString "_make"), (.str (.ofString "_make") 659), (.ref 276)⟩, ⟨PyData.keyHash P (.ofString "_replace"), (.str (.ofString "_replace") 670), (.ref 285)⟩, ⟨PyData.keyHash P (.ofString "__replace__"), (.str (.ofString "__replace__") 671), (.ref 285)⟩, ⟨PyData.keyHash P (.ofString "__repr__"), (.str (.ofString "__repr__") 679), (.ref 292)⟩, ⟨PyData.keyHash P (.ofString "_asdict"), (.str (.ofString "_asdict") 686), (.ref 299)⟩, ⟨PyData.keyHash P (.ofString "__getnewargs__"), (.str (.ofString "__getnewargs__") 694), (.ref 306)⟩, ⟨PyData.keyHash P (.ofString "__match_args__"), (.str (.ofString "__match_args__") 697), (.ref 307)⟩, ⟨PyData.keyHash P (.ofString "excess_blob_gas"), (.str (.ofString "excess_blob_gas") 707), (.ref 309)⟩, ⟨PyData.keyHash P (.ofString "blob_gas_used"), (.str (.ofString "blob_gas_used") 717), (.ref 312)⟩, ⟨PyData.keyHash P (.ofString "__static_attributes__"), (.str (.ofString "__static_attributes__") 718), (.ref 314)⟩, ⟨PyData.keyHash P (.ofString "__classcell__"), (.str (.ofString "__classcell__") 719), (.ref 253)⟩] 19), #[]⟩
noncomputable def o_253_13 : Params → Obj := fun P => ⟨(.type "cell"), none, (.cell (some (.ref 317))), #[]⟩
noncomputable def o_254_13 : Params → Obj := fun P => ⟨(.type "tuple"), none, (.seq #[] 0), #[]⟩
noncomputable def o_255_13 : Params → Obj := fun P => ⟨.none, none, (.fields #[(.int 156 0), (.int 4 0), (.ref 266), (.int 161 0), (.int 4 0), (.ref 273), (.int 168 0), (.int 4 0), (.ref 284), (.int 179 0), (.int 4 0), (.ref 291), (.int 183 0), (.int 4 0), (.ref 298), (.int 186 0), (.int 4 0), (.ref 305)]), #[]⟩
noncomputable def o_256_13 : Params → Obj := fun P => ⟨(.type "code"), none, (.fields #[(.str (.ofString "BlobHeader") 610), (.str (.ofString "BlobHeader") 611), (.str (.ofString "/claim/cut.py") 612), (.int 150 0), (.int 0 0), (.int 0 0), (.int 0 0), (.int 0 0), (.ref 254), (.bool false), (.int 181 0), (.ref 255), .none, .none, .none, .none, (.int 613 0), (.int 150 0), (.str (.ofString "/claim/cut.py") 614)]), #[]⟩
noncomputable def o_257_13 : Params → Obj := fun P => ⟨(.type "frame"), none, .plain, #[(some (.ref 256)), (some (.ref 3)), (some (.ref 252)), none, (some (.str (.ofString "eth._utils.empty") 232)), none, (some (.ref 0))]⟩
noncomputable def o_258_13 : Params → Obj := fun P => ⟨(.type "tuple"), none, (.seq #[] 0), #[]⟩
noncomputable def o_259_13 : Params → Obj := fun P => ⟨(.type "tuple"), none, (.seq #[(.str (.ofString "excess_blob_gas") 624), (.str (.ofString "blob_gas_used") 625)] 0), #[]⟩
noncomputable def o_260_13 : Params → Obj := fun P => ⟨(.type "dict"), none, (.dict #[] 0), #[]⟩
noncomputable def o_261_13 : Params → Obj := fun P => ⟨(.type "tuple"), none, (.seq #[] 0), #[]⟩
noncomputable def o_262_13 : Params → Obj := fun P => ⟨.none, none, (.fields #[]), #[]⟩
noncomputable def o_263_13 : Params → Obj := fun P => ⟨(.type "tuple"), none, (.seq #[(.str (.ofString "_cls") 631), (.str (.ofString "excess_blob_gas") 632), (.str (.ofString "blob_gas_used") 633)] 0), #[]⟩
noncomputable def o_264_13 : Params → Obj := fun P => ⟨(.type "tuple"), none, (.seq #[] 0), #[]⟩
noncomputable def o_265_13 : Params → Obj := fun P => ⟨.none, none, (.func ⟨(.ofString "__new__"), (.ofString "BlobHeader.__new__"), fArgs (memAt 13 4), .stmts (fBody (memAt 13 4)), fScope (memAt 13 4), 0, [], .none, .none, .none, .none, none, .none, .none, 0⟩), #[]⟩
noncomputable def o_266_13 : Params → Obj := fun P => ⟨(.type "code"), none, (.fields #[(.str (.ofString "__new__") 628), (.str (.ofString "BlobHeader.__new__") 629), (.str (.ofString "/claim/cut.py") 630), (.int 156 0), (.int 3 0), (.int 0 0), (.int 0 0), (.int 3 0), (.ref 261), (.bool true), (.int 181 0), (.ref 262), .none, (.ref 263), (.ref 264), (.ref 265), (.int 634 0), (.int 156 0), (.str (.ofString "/claim/cut.py") 635)]), #[]⟩
noncomputable def o_267_13 : Params → Obj := fun P => ⟨(.type "function"), none, (.func ⟨(.ofString "__new__"), (.ofString "BlobHeader.__new__"), fArgs (memAt 13 4), .stmts (fBody (memAt 13 4)), fScope (memAt 13 4), 3, [], .none, .none, (.str (.ofString "Create new instance of BlobHeader(excess_blob_gas, blob_gas_used)") 636), (.str (.ofString "eth._utils.empty") 232), none, (.ref 266), .none, 0⟩), #[]⟩
noncomputable def o_268_13 : Params → Obj := fun P => ⟨(.type "tuple"), none, (.seq #[] 0), #[]⟩
noncomputable def o_269_13 : Params → Obj := fun P => ⟨.none, none, (.fields #[]), #[]⟩
noncomputable def o_270_13 : Params → Obj := fun P => ⟨(.type "tuple"), none, (.seq #[(.str (.ofString "cls") 641), (.str (.ofString "iterable") 642), (.str (.ofString "result") 643)] 0), #[]⟩
noncomputable def o_271_13 : Params → Obj := fun P => ⟨(.type "tuple"), none, (.seq #[] 0), #[]⟩
noncomputable def o_272_13 : Params → Obj := fun P => ⟨.none, none, (.func ⟨(.ofString "_make"), (.ofString "BlobHeader._make"), fArgs (memAt 13 5), .stmts (fBody (memAt 13 5)), fScope (memAt 13 5), 0, [], .none, .none, .none, .none, none, .none, .none, 0⟩), #[]⟩
noncomputable def o_273_13 : Params → Obj := fun P => ⟨(.type "code"), none, (.fields #[(.str (.ofString "_make") 638), (.str (.ofString "BlobHeader._make") 639), (.str (.ofString "/claim/cut.py") 640), (.int 160 0), (.int 2 0), (.int 0 0), (.int 0 0), (.int 3 0), (.ref 268), (.bool true), (.int 181 0), (.ref 269), .none, (.ref 270), (.ref 271), (.ref 272), (.int 644 0), (.int 160 0), (.str (.ofString "/claim/cut.py") 645)]), #[]⟩
noncomputable def o_274_13 : Params → Obj := fun P => ⟨(.type "function"), none, (.func ⟨(.ofString "_make"), (.ofString "BlobHeader._make"), fArgs (memAt 13 5), .stmts (fBody (memAt 13 5)), fScope (memAt 13 5), 3, [], .none, .none, (.str (.ofString "Make a new BlobHeader object from a sequence or iterable") 646), (.str (.ofString "eth._utils.empty") 232), (some 277), (.ref 273), .none, 0⟩), #[]⟩
noncomputable def o_275_13 : Params → Obj := fun P => ⟨(.type "dict"), none, (.dict #[⟨PyData.keyHash P (.ofString "__module__"), (.str (.ofString "__module__") 648), (.str (.ofString "eth._utils.empty") 232)⟩, ⟨PyData.keyHash P (.ofString "__name__"), (.str (.ofString "__name__") 651), (.str (.ofString "_make") 650)⟩, ⟨PyData.keyHash P (.ofString "__qualname__"), (.str (.ofString "__qualname__") 654), (.str (.ofString "BlobHeader._make") 653)⟩, ⟨PyData.keyHash P (.ofString "__doc__"), (.str (.ofString "__doc__") 656), (.str (.ofString "Make a new BlobHeader object from a sequence or iterable") 646)⟩, ⟨PyData.keyHash P (.ofString "__annotations__"), (.str (.ofString "__annotations__") 658), (.ref 277)⟩] 5), #[]⟩
noncomputable def o_276_13 : Params → Obj := fun P => ⟨(.type "classmethod"), (some 275), (.fields #[(.ref 274), (.bool false)]), #[]⟩
noncomputable def o_277_13 : Params → Obj := fun P => ⟨(.type "dict"), none, (.dict #[] 0), #[]⟩
noncomputable def o_278_13 : Params → Obj := fun P => ⟨(.type "tuple"), none, (.seq #[(.ref 253)] 0), #[]⟩
noncomputable def o_279_13 : Params → Obj := fun P => ⟨(.type "tuple"), none, (.seq #[(.str (.ofString "__class__") 663)] 0), #[]⟩
noncomputable def o_280_13 : Params → Obj := fun P => ⟨.none, none, (.fields #[]), #[]⟩
noncomputable def o_281_13 : Params → Obj := fun P => ⟨(.type "tuple"), none, (.seq #[(.str (.ofString "self") 664), (.str (.ofString "kwds") 665), (.str (.ofString "result") 666)] 0), #[]⟩
noncomputable def o_282_13 : Params → Obj := fun P => ⟨(.type "tuple"), none, (.seq #[] 0), #[]⟩
noncomputable def o_283_13 : Params → Obj := fun P => ⟨.none, none, (.func ⟨(.ofString "_replace"), (.ofString "BlobHeader._replace"), fArgs (memAt 13 6), .stmts (fBody (memAt 13 6)), fScope (memAt 13 6), 0, [], .none, .none, .none, .none, none, .none, .none, 0⟩), #[]⟩
noncomputable def o_284_13 : Params → Obj := fun P => ⟨(.type "code"), none, (.fields #[(.str (.ofString "_replace") 660), (.str (.ofString "BlobHeader._replace") 661), (.str (.ofString "/claim/cut.py") 662), (.int 168 0), (.int 1 0), (.int 1 0), (.int 0 0), (.int 11 0), (.ref 279), (.bool true), (.int 181 0), (.ref 280), .none, (.ref 281), (.ref 282), (.ref 283), (.int 667 0), (.int 168 0), (.str (.ofString "/claim/cut.py") 668)]), #[]⟩
noncomputable def o_285_13 : Params → Obj := fun P => ⟨(.type "function"), none, (.func ⟨(.ofString "_replace"), (.ofString "BlobHeader._replace"), fArgs (memAt 13 6), .stmts (fBody (memAt 13 6)), fScope (memAt 13 6), 3, [((.ofString "__class__"), 253)], .none, .none, (.str (.ofString "Return a new BlobHeader object replacing specified fields with new values") 669), (.str (.ofString "eth._utils.empty") 232), none, (.ref 284), (.ref 278), 0⟩), #[]⟩
noncomputable def o_286_13 : Params → Obj := fun P => ⟨(.type "tuple"), none, (.seq #[] 0), #[]⟩
noncomputable def o_287_13 : Params → Obj := fun P => ⟨.none, none, (.fields #[]), #[]⟩
noncomputable def o_288_13 : Params → Obj := fun P => ⟨(.type "tuple"), none, (.seq #[(.str (.ofString "self") 675)] 0), #[]⟩
noncomputable def o_289_13 : Params → Obj := fun P => ⟨(.type "tuple"), none, (.seq #[] 0), #[]⟩
noncomputable def o_290_13 : Params → Obj := fun P => ⟨.none, none, (.func ⟨(.ofString "__repr__"), (.ofString "BlobHeader.__repr__"), fArgs (memAt 13 8), .stmts (fBody (memAt 13 8)), fScope (memAt 13 8), 0, [], .none, .none, .none, .none, none, .none, .none, 0⟩), #[]⟩
noncomputable def o_291_13 : Params → Obj := fun P => ⟨(.type "code"), none, (.fields #[(.str (.ofString "__repr__") 672), (.str (.ofString "BlobHeader.__repr__") 673), (.str (.ofString "/claim/cut.py") 674), (.int 179 0), (.int 1 0), (.int 0 0), (.int 0 0), (.int 3 0), (.ref 286), (.bool true), (.int 181 0), (.ref 287), .none, (.ref 288), (.ref 289), (.ref 290), (.int 676 0), (.int 179 0), (.str (.ofString "/claim/cut.py") 677)]), #[]⟩
noncomputable def o_292_13 : Params → Obj := fun P => ⟨(.type "function"), none, (.func ⟨(.ofString "__repr__"), (.ofString "BlobHeader.__repr__"), fArgs (memAt 13 8), .stmts (fBody (memAt 13 8)), fScope (memAt 13 8), 3, [], .none, .none, (.str (.ofString "Return a nicely formatted representation string") 678), (.str (.ofString "eth._utils.empty") 232), none, (.ref 291), .none, 0⟩), #[]⟩
noncomputable def o_293_13 : Params → Obj := fun P => ⟨(.type "tuple"), none, (.seq #[] 0), #[]⟩
noncomputable def o_294_13 : Params → Obj := fun P => ⟨.none, none, (.fields #[]), #[]⟩
noncomputable def o_295_13 : Params → Obj := fun P => ⟨(.type "tuple"), none, (.seq #[(.str (.ofString "self") 683)] 0), #[]⟩
noncomputable def o_296_13 : Params → Obj := fun P => ⟨(.type "tuple"), none, (.seq #[] 0), #[]⟩
noncomputable def o_297_13 : Params → Obj := fun P => ⟨.none, none, (.func ⟨(.ofString "_asdict"), (.ofString "BlobHeader._asdict"), fArgs (memAt 13 9), .stmts (fBody (memAt 13 9)), fScope (memAt 13 9), 0, [], .none, .none, .none, .none, none, .none, .none, 0⟩), #[]⟩
noncomputable def o_298_13 : Params → Obj := fun P => ⟨(.type "code"), none, (.fields #[(.str (.ofString "_asdict") 680), (.str (.ofString "BlobHeader._asdict") 681), (.str (.ofString "/claim/cut.py") 682), (.int 183 0), (.int 1 0), (.int 0 0), (.int 0 0), (.int 3 0), (.ref 293), (.bool true), (.int 181 0), (.ref 294), .none, (.ref 295), (.ref 296), (.ref 297), (.int 684 0), (.int 183 0), (.str (.ofString "/claim/cut.py") 685)]), #[]⟩
noncomputable def o_299_13 : Params → Obj := fun P => ⟨(.type "function"), none, (.func ⟨(.ofString "_asdict"), (.ofString "BlobHeader._asdict"), fArgs (memAt 13 9), .stmts (fBody (memAt 13 9)), fScope (memAt 13 9), 3, [], .none, .none, .none, (.str (.ofString "eth._utils.empty") 232), none, (.ref 298), .none, 0⟩), #[]⟩
noncomputable def o_300_13 : Params → Obj := fun P => ⟨(.type "tuple"), none, (.seq #[] 0), #[]⟩
noncomputable def o_301_13 : Params → Obj := fun P => ⟨.none, none, (.fields #[]), #[]⟩
noncomputable def o_302_13 : Params → Obj := fun P => ⟨(.type "tuple"), none, (.seq #[(.str (.ofString "self") 690)] 0), #[]⟩
noncomputable def o_303_13 : Params → Obj := fun P => ⟨(.type "tuple"), none, (.seq #[] 0), #[]⟩
noncomputable def o_304_13 : Params → Obj := fun P => ⟨.none, none, (.func ⟨(.ofString "__getnewargs__"), (.ofString "BlobHeader.__getnewargs__"), fArgs (memAt 13 10), .stmts (fBody (memAt 13 10)), fScope (memAt 13 10), 0, [], .none, .none, .none, .none, none, .none, .none, 0⟩), #[]⟩
noncomputable def o_305_13 : Params → Obj := fun P => ⟨(.type "code"), none, (.fields #[(.str (.ofString "__getnewargs__") 687), (.str (.ofString "BlobHeader.__getnewargs__") 688), (.str (.ofString "/claim/cut.py") 689), (.int 186 0), (.int 1 0), (.int 0 0), (.int 0 0), (.int 3 0), (.ref 300), (.bool true), (.int 181 0), (.ref 301), .none, (.ref 302), (.ref 303), (.ref 304), (.int 691 0), (.int 186 0), (.str (.ofString "/claim/cut.py") 692)]), #[]⟩
noncomputable def o_306_13 : Params → Obj := fun P => ⟨(.type "function"), none, (.func ⟨(.ofString "__getnewargs__"), (.ofString "BlobHeader.__getnewargs__"), fArgs (memAt 13 10), .stmts (fBody (memAt 13 10)), fScope (memAt 13 10), 3, [], .none, .none, (.str (.ofString "Return self as a plain tuple.  Used by copy and pickle.") 693), (.str (.ofString "eth._utils.empty") 232), none, (.ref 305), .none, 0⟩), #[]⟩
noncomputable def o_307_13 : Params → Obj := fun P => ⟨(.type "tuple"), none, (.seq #[(.str (.ofString "excess_blob_gas") 695), (.str (.ofString "blob_gas_used") 696)] 0), #[]⟩
noncomputable def o_308_13 : Params → Obj := fun P => ⟨(.type "dict"), none, (.dict #[⟨PyData.keyHash P (.ofString "index"), (.str (.ofString "index") 704), (.int 0 698)⟩, ⟨PyData.keyHash P (.ofString "__doc__"), (.str (.ofString "__doc__") 706), (.str (.ofString "Alias for field number 0") 699)⟩] 2), #[]⟩
noncomputable def o_309_13 : Params → Obj := fun P => ⟨(.ref 75), (some 308), .plain, #[]⟩
noncomputable def o_310_13 : Params → Obj := fun P => ⟨(.type "frame"), none, (.dict #[⟨PyData.keyHash P (.ofString "self"), (.str (.ofString "self") 700), (.ref 309)⟩, ⟨PyData.keyHash P (.ofString "index"), (.str (.ofString "index") 701), (.int 0 698)⟩, ⟨PyData.keyHash P (.ofString "doc"), (.str (.ofString "doc") 702), (.str (.ofString "Alias for field number 0") 699)⟩] 3), #[]⟩
noncomputable def o_311_13 : Params → Obj := fun P => ⟨(.type "dict"), none, (.dict #[⟨PyData.keyHash P (.ofString "index"), (.str (.ofString "index") 714), (.int 1 708)⟩, ⟨PyData.keyHash P (.ofString "__doc__"), (.str (.ofString "__doc__") 716), (.str (.ofString "Alias for field number 1") 709)⟩] 2), #[]⟩
noncomputable def o_312_13 : Params → Obj := fun P => ⟨(.ref 75), (some 311), .plain, #[]⟩
noncomputable def o_313_13 : Params → Obj := fun P => ⟨(.type "frame"), none, (.dict #[⟨PyData.keyHash P (.ofString "self"), (.str (.ofString "self") 710), (.ref 312)⟩, ⟨PyData.keyHash P (.ofString "index"), (.str (.ofString "index") 711), (.int 1 708)⟩, ⟨PyData.keyHash P (.ofString "doc"), (.str (.ofString "doc") 712), (.str (.ofString "Alias for field number 1") 709)⟩] 3), #[]⟩
noncomputable def o_314_13 : Params → Obj := fun P => ⟨(.type "tuple"), none, (.seq #[] 0), #[]⟩
noncomputable def o_315_13 : Params → Obj := fun P => ⟨(.type "list"), none, (.seq #[] 0), #[]⟩
noncomputable def o_316_13 : Params → Obj := fun P => ⟨(.type "dict"), none, (.dict #[⟨PyData.keyHash P (.ofString "__module__"), (.str (.ofString "__module__") 615), (.str (.ofString "eth._utils.empty") 232)⟩, ⟨PyData.keyHash P (.ofString "__firstlineno__"), (.str (.ofString "__firstlineno__") 619), (.int 150 618)⟩, ⟨PyData.keyHash P (.ofString "__doc__"), (.str (.ofString "__doc__") 621), (.str (.ofString "BlobHeader(excess_blob_gas, blob_gas_used)") 620)⟩, ⟨PyData.keyHash P (.ofString "__slots__"), (.str (.ofString "__slots__") 623), (.ref 258)⟩, ⟨PyData.keyHash P (.ofString "_fields"), (.str (.ofString "_fields") 626), (.ref 259)⟩, ⟨PyData.keyHash P (.ofString "_field_defaults"), (.str (.ofString "_field_defaults") 627), (.ref 260)⟩, ⟨PyData.keyHash P (.ofString "__new__"), (.str (.ofString "__new__") 637), (.ref 318)⟩, ⟨PyData.keyHash P (.ofString "_make"), (.str (.ofString "_make") 659), (.ref 276)⟩, ⟨PyData.keyHash P (.ofString "_replace"), (.str (.ofString "_replace") 670), (.ref 285)⟩, ⟨PyData.keyHash P (.ofString "__replace__"), (.str (.ofString "__replace__") 671), (.ref 285)⟩, ⟨PyData.keyHash P (.ofString "__repr__"), (.str (.ofString "__repr__") 679), (.ref 292)⟩, ⟨PyData.keyHash P (.ofString "_asdict"), (.str (.ofString "_asdict") 686), (.ref 299)⟩, ⟨PyData.keyHash P (.ofString "__getnewargs__"), (.str (.ofString "__getnewargs__") 694), (.ref 306)⟩, ⟨PyData.keyHash P (.ofString "__match_args__"), (.str (.ofString "__match_args__") 697), (.ref 307)⟩, ⟨PyData.keyHash P (.ofString "excess_blob_gas"), (.str (.ofString "excess_blob_gas") 707), (.ref 309)⟩, ⟨PyData.keyHash P (.ofString "blob_gas_used"), (.str (.ofString "blob_gas_used") 717), (.ref 312)⟩, ⟨PyData.keyHash P (.ofString "__static_attributes__"), (.str (.ofString "__static_attributes__") 718), (.ref 314)⟩] 2), #[]⟩
noncomputable def o_317_13 : Params → Obj := fun P => ⟨(.type "type"), none, (.cls ⟨(.ofString "BlobHeader"), [(.type "tuple")], [(.ref 317), (.type "tuple"), (.type "object")], 316, (.ofString "BlobHeader"), false, [], [], false, none, false⟩), #[(some (.ref 250)), none, (some (.str (.ofString "BlobHeader") 608)), (some (.str (.ofString "BlobHeader") 616)), (some .none), (some (.bool false))]⟩
noncomputable def o_318_13 : Params → Obj := fun P => ⟨(.type "staticmethod"), none, (.fields #[(.ref 267)]), #[]⟩
noncomputable def o_319_13 : Params → Obj := fun P => ⟨(.type "super"), none, (.fields #[(.ref 317), (.ref 317), (.ref 317)]), #[]⟩
noncomputable def o_320_13 : Params → Obj := fun P => ⟨(.type "builtin_function_or_method"), none, (.fields #[(.builtin "object.__init_subclass__"), (.ref 317)]), #[]⟩
noncomputable def tree_13 : Params → BT := fun P => (.node (PySem.W.boot_o_0 P) (.node (PySem.W.boot_o_1 P) (.node (o_3_13 P) (.node (PySem.W.boot_o_7 P) (.node (o_15_10 P) (.node (o_31_10 P) (.node (o_63_10 P) (.node (o_127_11 P) (.node (o_255_13 P) .nil .nil) .nil) (.node (o_191_12 P) (.node (o_319_13 P) .nil .nil) .nil)) (.node (o_95_11 P) (.node (o_159_11 P) (.node (o_287_13 P) .nil .nil) .nil) (.node (o_223_12 P) .nil .nil))) (.node (o_47_10 P) (.node (o_79_10 P) (.node (o_143_11 P) (.node (o_271_13 P) .nil .nil) .nil) (.node (o_207_12 P) .nil .nil)) (.node (o_111_11 P) (.node (o_175_11 P) (.node (o_303_13 P) .nil .nil) .nil) (.node (o_239_12 P) .nil .nil)))) (.node (o_23_10 P) (.node (o_39_10 P) (.node (o_71_10 P) (.node (o_135_11 P) (.node (o_263_13 P) .nil .nil) .nil) (.node (o_199_12 P) .nil .nil)) (.node (o_103_11 P) (.node (o_167_11 P) (.node (o_295_13 P) .nil .nil) .nil) (.node (o_231_12 P) .nil .nil))) (.node (o_55_10 P) (.node (o_87_10 P) (.node (o_151_11 P) (.node (o_279_13 P) .nil .nil) .nil) (.node (o_215_12 P) .nil .nil)) (.node (o_119_11 P) (.node (o_183_12 P) (.node (o_311_13 P) .nil .nil) .nil) (.node (o_247_12 P) .nil .nil))))) (.node (o_11_a P) (.node (o_19_10 P) (.node (o_35_10 P) (.node (o_67_10 P) (.node (o_131_11 P) (.node (o_259_13 P) .nil .nil) .nil) (.node (o_195_12 P) .nil .nil)) (.node (o_99_11 P) (.node (o_163_11 P) (.node (o_291_13 P) .nil .nil) .nil) (.node (o_227_12 P) .nil .nil))) (.node (o_51_10 P) (.node (o_83_10 P) (.node (o_147_11 P) (.node (o_275_13 P) .nil .nil) .nil) (.node (o_211_12 P) .nil .nil)) (.node (o_115_11 P) (.node (o_179_12 P) (.node (o_307_13 P) .nil .nil) .nil) (.node (o_243_12 P) .nil .nil)))) (.node (o_27_10 P) (.node (o_43_10 P) (.node (o_75_10 P) (.node (o_139_11 P) (.node (o_267_13 P) .nil .nil) .nil) (.node (o_203_12 P) .nil .nil)) (.node (o_107_11 P) (.node (o_171_11 P) (.node (o_299_13 P) .nil .nil) .nil) (.node (o_235_12 P) .nil .nil))) (.node (o_59_10 P) (.node (o_91_10 P) (.node (o_155_11 P) (.node (o_283_13 P) .nil .nil) .nil) (.node (o_219_12 P) .nil .nil)) (.node (o_123_11 P) (.node (o_187_12 P) (.node (o_315_13 P) .nil .nil) .nil) (.node (o_251_13 P) .nil .nil)))))) (.node (PySem.W.boot_o_5 P) (.node (PySem.W.boot_o_9 P) (.node (o_17_10 P) (.node (o_33_10 P) (.node (o_65_10 P) (.node (o_129_11 P) (.node (o_257_13 P) .nil .nil) .nil) (.node (o_193_12 P) .nil .nil)) (.node (o_97_11 P) (.node (o_161_11 P) (.node (o_289_13 P) .nil .nil) .nil) (.node (o_225_12 P) .nil .nil))) (.node (o_49_10 P) (.node (o_81_10 P) (.node (o_145_11 P) (.node (o_273_13 P) .nil .nil) .nil) (.node (o_209_12 P) .nil .nil)) (.node (o_113_11 P) (.node (o_177_12 P) (.node (o_305_13 P) .nil .nil) .nil) (.node (o_241_12 P) .nil .nil)))) (.node (o_25_10 P) (.node (o_41_10 P) (.node (o_73_10 P) (.node (o_137_11 P) (.node (o_265_13 P) .nil .nil) .nil) (.node (o_201_12 P) .nil .nil)) (.node (o_105_11 P) (.node (o_169_11 P) (.node (o_297_13 P) .nil .nil) .nil) (.node (o_233_12 P) .nil .nil))) (.node (o_57_10 P) (.node (o_89_10 P) (.node (o_153_11 P) (.node (o_281_13 P) .nil .nil) .nil) (.node (o_217_12 P) .nil .nil)) (.node (o_121_11 P) (.node (o_185_12 P) (.node (o_313_13 P) .nil .nil) .nil) (.node (o_249_12 P) .nil .nil))))) (.node (o_13_a P) (.node (o_21_10 P) (.node (o_37_10 P) (.node (o_69_10 P) (.node (o_133_11 P) (.node (o_261_13 P) .nil .nil) .nil) (.node (o_197_12 P) .nil .nil)) (.node (o_101_11 P) (.node (o_165_11 P) (.node (o_293_13 P) .nil .nil) .nil) (.node (o_229_12 P) .nil .nil))) (.node (o_53_10 P) (.node (o_85_10 P) (.node (o_149_11 P) (.node (o_277_13 P) .nil .nil) .nil) (.node (o_213_12 P) .nil .nil)) (.node (o_117_11 P) (.node (o_181_12 P) (.node (o_309_13 P) .nil .nil) .nil) (.node (o_245_12 P) .nil .nil)))) (.node (o_29_10 P) (.node (o_45_10 P) (.node (o_77_10 P) (.node (o_141_11 P) (.node (o_269_13 P) .nil .nil) .nil) (.node (o_205_12 P) .nil .nil)) (.node (o_109_11 P) (.node (o_173_11 P) (.node (o_301_13 P) .nil .nil) .nil) (.node (o_237_12 P) .nil .nil))) (.node (o_61_10 P) (.node (o_93_11 P) (.node (o_157_11 P) (.node (o_285_13 P) .nil .nil) .nil) (.node (o_221_12 P) .nil .nil)) (.node (o_125_11 P) (.node (o_189_12 P) (.node (o_317_13 P) .nil .nil) .nil) (.node (o_253_13 P) .nil .nil))))))) (.node (o_2_10 P) (.node (PySem.W.boot_o_4 P) (.node (PySem.W.boot_o_8 P) (.node (o_16_10 P) (.node (o_32_10 P) (.node (o_64_10 P) (.node (o_128_11 P) (.node (o_256_13 P) .nil .nil) .nil) (.node (o_192_12 P) (.node (o_320_13 P) .nil .nil) .nil)) (.node (o_96_11 P) (.node (o_160_11 P) (.node (o_288_13 P) .nil .nil) .nil) (.node (o_224_12 P) .nil .nil))) (.node (o_48_10 P) (.node (o_80_10 P) (.node (o_144_11 P) (.node (o_272_13 P) .nil .nil) .nil) (.node (o_208_12 P) .nil .nil)) (.node (o_112_11 P) (.node (o_176_12 P) (.node (o_304_13 P) .nil .nil) .nil) (.node (o_240_12 P) .nil .nil)))) (.node (o_24_10 P) (.node (o_40_10 P) (.node (o_72_10 P) (.node (o_136_11 P) (.node (o_264_13 P) .nil .nil) .nil) (.node (o_200_12 P) .nil .nil)) (.node (o_104_11 P) (.node (o_168_11 P) (.node (o_296_13 P) .nil .nil) .nil) (.node (o_232_12 P) .nil .nil))) (.node (o_56_10 P) (.node (o_88_10 P) (.node (o_152_11 P) (.node (o_280_13 P) .nil .nil) .nil) (.node (o_216_12 P) .nil .nil)) (.node (o_120_11 P) (.node (o_184_12 P) (.node (o_312_13 P) .nil .nil) .nil) (.node (o_248_12 P) .nil .nil))))) (.node (o_12_13 P) (.node (o_20_10 P) (.node (o_36_10 P) (.node (o_68_10 P) (.node (o_132_11 P) (.node (o_260_13 P) .nil .nil) .nil) (.node (o_196_12 P) .nil .nil)) (.node (o_100_11 P) (.node (o_164_11 P) (.node (o_292_13 P) .nil .nil) .nil) (.node (o_228_12 P) .nil .nil))) (.node (o_52_10 P) (.node (o_84_10 P) (.node (o_148_11 P) (.node (o_276_13 P) .nil .nil) .nil) (.node (o_212_12 P) .nil .nil)) (.node (o_116_11 P) (.node (o_180_12 P) (.node (o_308_13 P) .nil .nil) .nil) (.node (o_244_12 P) .nil .nil)))) (.node (o_28_10 P) (.node (o_44_10 P) (.node (o_76_10 P) (.node (o_140_11 P) (.node (o_268_13 P) .nil .nil) .nil) (.node (o_204_12 P) .nil .nil)) (.node (o_108_11 P) (.node (o_172_11 P) (.node (o_300_13 P) .nil .nil) .nil) (.node (o_236_12 P) .nil .nil))) (.node (o_60_10 P) (.node (o_92_10 P) (.node (o_156_11 P) (.node (o_284_13 P) .nil .nil) .nil) (.node (o_220_12 P) .nil .nil)) (.node (o_124_11 P) (.node (o_188_12 P) (.node (o_316_13 P) .nil .nil) .nil) (.node (o_252_13 P) .nil .nil)))))) (.node (PySem.W.boot_o_6 P) (.node (PySem.W.boot_o_10 P) (.node (o_18_10 P) (.node (o_34_10 P) (.node (o_66_10 P) (.node (o_130_11 P) (.node (o_258_13 P) .nil .nil) .nil) (.node (o_194_12 P) .nil .nil)) (.node (o_98_11 P) (.node (o_162_11 P) (.node (o_290_13 P) .nil .nil) .nil) (.node (o_226_12 P) .nil .nil))) (.node (o_50_10 P) (.node (o_82_10 P) (.node (o_146_11 P) (.node (o_274_13 P) .nil .nil) .nil) (.node (o_210_12 P) .nil .nil)) (.node (o_114_11 P) (.node (o_178_12 P) (.node (o_306_13 P) .nil .nil) .nil) (.node (o_242_12 P) .nil .nil)))) (.node (o_26_10 P) (.node (o_42_10 P) (.node (o_74_10 P) (.node (o_138_11 P) (.node (o_266_13 P) .nil .nil) .nil) (.node (o_202_12 P) .nil .nil)) (.node (o_106_11 P) (.node (o_170_11 P) (.node (o_298_13 P) .nil .nil) .nil) (.node (o_234_12 P) .nil .nil))) (.node (o_58_10 P) (.node (o_90_10 P) (.node (o_154_11 P) (.node (o_282_13 P) .nil .nil) .nil) (.node (o_218_12 P) .nil .nil)) (.node (o_122_11 P) (.node (o_186_12 P) (.node (o_314_13 P) .nil .nil) .nil) (.node (o_250_13 P) .nil .nil))))) (.node (o_14_a P) (.node (o_22_10 P) (.node (o_38_10 P) (.node (o_70_10 P) (.node (o_134_11 P) (.node (o_262_13 P) .nil .nil) .nil) (.node (o_198_12 P) .nil .nil)) (.node (o_102_11 P) (.node (o_166_11 P) (.node (o_294_13 P) .nil .nil) .nil) (.node (o_230_12 P) .nil .nil))) (.node (o_54_10 P) (.node (o_86_10 P) (.node (o_150_11 P) (.node (o_278_13 P) .nil .nil) .nil) (.node (o_214_12 P) .nil .nil)) (.node (o_118_11 P) (.node (o_182_12 P) (.node (o_310_13 P) .nil .nil) .nil) (.node (o_246_12 P) .nil .nil)))) (.node (o_30_10 P) (.node (o_46_10 P) (.node (o_78_10 P) (.node (o_142_11 P) (.node (o_270_13 P) .nil .nil) .nil) (.node (o_206_12 P) .nil .nil)) (.node (o_110_11 P) (.node (o_174_11 P) (.node (o_302_13 P) .nil .nil) .nil) (.node (o_238_12 P) .nil .nil))) (.node (o_62_10 P) (.node (o_94_11 P) (.node (o_158_11 P) (.node (o_286_13 P) .nil .nil) .nil) (.node (o_222_12 P) .nil .nil)) (.node (o_126_11 P) (.node (o_190_12 P) (.node (o_318_13 P) .nil .nil) .nil) (.node (o_254_13 P) .nil .nil))))))))
-- state 13: objs 321 toks 723
noncomputable def o_3_64 : Params → Obj := fun P => ⟨(.type "dict"), none, (.dict (List.toArray (⟨PyData.keyHash P (.ofString "__name__"), (.str (.ofString "__name__") 165), (.str (.ofString "law_kw0010_01") 870)⟩ :: ⟨PyData.keyHash P (.ofString "__doc__"), (.str (.ofString "__doc__") 166), .none⟩ :: ⟨PyData.keyHash P (.ofString "__package__"), (.str (.ofString "__package__") 167), .none⟩ :: ⟨PyData.keyHash P (.ofString "__loader__"), (.str (.ofString "__loader__") 168), (.builtin "__main__.__loader__#opaque")⟩ :: ⟨PyData.keyHash P (.ofString "__spec__"), (.str (.ofString "__spec__") 169), .none⟩ :: ⟨PyData.keyHash P (.ofString "__annotations__"), (.str (.ofString "__annotations__") 170), (.ref 6)⟩ :: ⟨PyData.keyHash P (.ofString "__builtins__"), (.str (.ofString "__builtins__") 171), (.ref 4)⟩ :: ⟨PyData.keyHash P (.ofString "__file__"), (.str (.ofString "__file__") 173), (.str (.ofString "/claim/cut.py") 172)⟩ :: ⟨PyData.keyHash P (.ofString "__cached__"), (.str (.ofString "__cached__") 174), .none⟩ :: ⟨PyData.keyHash P (.ofString "_wall"), (.str (.ofString "_wall") 193), (.ref 21)⟩ :: ⟨PyData.keyHash P (.ofString "BASE_FEE_MAX_CHANGE_DENOMINATOR"), (.str (.ofString "BASE_FEE_MAX_CHANGE_DENOMINATOR") 195), (.int 8 194)⟩ :: ⟨PyData.keyHash P (.ofString "INITIAL_BASE_FEE"), (.str (.ofString "INITIAL_BASE_FEE") 197), (.int 1000000000 196)⟩ :: ⟨PyData.keyHash P (.ofString "ELASTICITY_MULTIPLIER"), (.str (.ofString "ELASTICITY_MULTIPLIER") 199), (.int 2 198)⟩ :: ⟨PyData.keyHash P (.ofString "calculate_expected_base_fee_per_gas"), (.str (.ofString "calculate_expected_base_fee_per_gas") 215), (.ref 28)⟩ :: ⟨PyData.keyHash P (.ofString "fake_exponential"), (.str (.ofString "fake_exponential") 231), (.ref 36)⟩ :: ⟨PyData.keyHash P (.ofString "_tuplegetter"), (.str (.ofString "_tuplegetter") 290), (.ref 75)⟩ :: ⟨PyData.keyHash P (.ofString "ValidationError"), (.str (.ofString "ValidationError") 312), (.ref 89)⟩ :: ⟨PyData.keyHash P (.ofString "Header"), (.str (.ofString "Header") 479), (.ref 172)⟩ :: ⟨PyData.keyHash P (.ofString "LondonHeader"), (.str (.ofString "LondonHeader") 607), (.ref 246)⟩ :: ⟨PyData.keyHash P (.ofString "BlobHeader"), (.str (.ofString "BlobHeader") 722), (.ref 317)⟩ :: ⟨PyData.keyHash P (.ofString "GAS_LIMIT_EMA_DENOMINATOR"), (.str (.ofString "GAS_LIMIT_EMA_DENOMINATOR") 724), (.int 1024 723)⟩ :: ⟨PyData.keyHash P (.ofString "GAS_LIMIT_ADJUSTMENT_FACTOR"), (.str (.ofString "GAS_LIMIT_ADJUSTMENT_FACTOR") 726), (.int 1024 725)⟩ :: ⟨PyData.keyHash P (.ofString "GAS_LIMIT_MINIMUM"), (.str (.ofString "GAS_LIMIT_MINIMUM") 728), (.int 5000 727)⟩ :: ⟨PyData.keyHash P (.ofString "GAS_LIMIT_MAXIMUM"), (.str (.ofString "GAS_LIMIT_MAXIMUM") 730), (.int 9223372036854775807 729)⟩ :: ⟨PyData.keyHash P (.ofString "GAS_LIMIT_USAGE_ADJUSTMENT_NUMERATOR"), (.str (.ofString "GAS_LIMIT_USAGE_ADJUSTMENT_NUMERATOR") 732), (.int 3 731)⟩ :: ⟨PyData.keyHash P (.ofString "GAS_LIMIT_USAGE_ADJUSTMENT_DENOMINATOR"), (.str (.ofString "GAS_LIMIT_USAGE_ADJUSTMENT_DENOMINATOR") 734), (.int 2 733)⟩ :: ⟨PyData.keyHash P (.ofString "DIFFICULTY_ADJUSTMENT_DENOMINATOR"), (.str (.ofString "DIFFICULTY_ADJUSTMENT_DENOMINATOR") 736), (.int 2048 735)⟩ :: ⟨PyData.keyHash P (.ofString "DIFFICULTY_MINIMUM"), (.str (.ofString "DIFFICULTY_MINIMUM") 738), (.int 131072 737)⟩ :: ⟨PyData.keyHash P (.ofString "BOMB_EXPONENTIAL_PERIOD"), (.str (.ofString "BOMB_EXPONENTIAL_PERIOD") 740), (.int 100000 739)⟩ :: ⟨PyData.keyHash P (.ofString "BOMB_EXPONENTIAL_FREE_PERIODS"), (.str (.ofString "BOMB_EXPONENTIAL_FREE_PERIODS") 742), (.int 2 741)⟩ :: ⟨PyData.keyHash P (.ofString "EMPTY_UNCLE_HASH"), (.str (.ofString "EMPTY_UNCLE_HASH") 744), (.bytes #[29, 204, 77, 232, 222, 199, 93, 122, 171, 133, 181, 103, 182, 204, 212, 26, 211, 18, 69, 27, 148, 138, 116, 19, 240, 161, 66, 253, 64, 212, 147, 71] 743)⟩ :: ⟨PyData.keyHash P (.ofString "compute_gas_limit_bounds"), (.str (.ofString "compute_gas_limit_bounds") 757), (.ref 327)⟩ :: ⟨PyData.keyHash P (.ofString "compute_gas_limit"), (.str (.ofString "compute_gas_limit") 769), (.ref 334)⟩ :: ⟨PyData.keyHash P (.ofString "validate_is_integer"), (.str (.ofString "validate_is_integer") 780), (.ref 342)⟩ :: ⟨PyData.keyHash P (.ofString "validate_gt"), (.str (.ofString "validate_gt") 790), (.ref 350)⟩ :: ⟨PyData.keyHash P (.ofString "BYZANTIUM_DIFFICULTY_ADJUSTMENT_CUTOFF"), (.str (.ofString "BYZANTIUM_DIFFICULTY_ADJUSTMENT_CUTOFF") 792), (.int 9 791)⟩ :: ⟨PyData.keyHash P (.ofString "compute_difficulty"), (.str (.ofString "compute_difficulty") 811), (.ref 357)⟩ :: ⟨PyData.keyHash P (.ofString "TARGET_BLOB_GAS_PER_BLOCK_constants"), (.str (.ofString "TARGET_BLOB_GAS_PER_BLOCK_constants") 813), (.int 393216 812)⟩ :: ⟨PyData.keyHash P (.ofString "calc_excess_blob_gas_cancun"), (.str (.ofString "calc_excess_blob_gas_cancun") 822), (.ref 364)⟩ :: ⟨PyData.keyHash P (.ofString "FRONTIER_DIFFICULTY_ADJUSTMENT_CUTOFF"), (.str (.ofString "FRONTIER_DIFFICULTY_ADJUSTMENT_CUTOFF") 824), (.int 13 823)⟩ :: ⟨PyData.keyHash P (.ofString "compute_frontier_difficulty"), (.str (.ofString "compute_frontier_difficulty") 840), (.ref 371)⟩ :: ⟨PyData.keyHash P (.ofString "HOMESTEAD_DIFFICULTY_ADJUSTMENT_CUTOFF"), (.str (.ofString "HOMESTEAD_DIFFICULTY_ADJUSTMENT_CUTOFF") 842), (.int 10 841)⟩ :: ⟨PyData.keyHash P (.ofString "compute_homestead_difficulty"), (.str (.ofString "compute_homestead_difficulty") 858), (.ref 378)⟩ :: ⟨PyData.keyHash P (.ofString "TARGET_BLOB_GAS_PER_BLOCK_constants2"), (.str (.ofString "TARGET_BLOB_GAS_PER_BLOCK_constants2") 860), (.int 786432 859)⟩ :: ⟨PyData.keyHash P (.ofString "calc_excess_blob_gas_prague"), (.str (.ofString "calc_excess_blob_gas_prague") 869), (.ref 385)⟩ :: ⟨PyData.keyHash P (.ofString "_law_reader"), (.str (.ofString "_law_reader") 882), (.ref 392)⟩ :: ⟨PyData.keyHash P (.ofString "_law_pick"), (.str (.ofString "_law_pick") 892), (.ref 399)⟩ :: ⟨PyData.keyHash P (.ofString "_law_great"), (.str (.ofString "_law_great") 902), (.ref 406)⟩ :: ⟨PyData.keyHash P (.ofString "_law_delays"), (.str (.ofString "_law_delays") 908), (.ref 413)⟩ :: ⟨PyData.keyHash P (.ofString "_law_bomb"), (.str (.ofString "_law_bomb") 918), (.ref 420)⟩ :: ⟨PyData.keyHash P (.ofString "_law_frontier"), (.str (.ofString "_law_frontier") 929), (.ref 427)⟩ :: ⟨PyData.keyHash P (.ofString "_law_stepped"), (.str (.ofString "_law_stepped") 938), (.ref 434)⟩ :: ⟨PyData.keyHash P (.ofString "_law_difficulties"), (.str (.ofString "_law_difficulties") 951), (.ref 441)⟩ :: ⟨PyData.keyHash P (.ofString "_law_told"), (.str (.ofString "_law_told") 961), (.ref 448)⟩ :: ⟨PyData.keyHash P (.ofString "_law_base_fee"), (.str (.ofString "_law_base_fee") 972), (.ref 455)⟩ :: ⟨PyData.keyHash P (.ofString "_law_limit"), (.str (.ofString "_law_limit") 983), (.ref 462)⟩ :: ⟨PyData.keyHash P (.ofString "_law_price"), (.str (.ofString "_law_price") 992), (.ref 469)⟩ :: ⟨PyData.keyHash P (.ofString "_law_excess"), (.str (.ofString "_law_excess") 1002), (.ref 476)⟩ :: ⟨PyData.keyHash P (.ofString "_law_are_numbers"), (.str (.ofString "_law_are_numbers") 1008), (.ref 481)⟩ :: ⟨PyData.keyHash P (.ofString "_law_fees_right"), (.str (.ofString "_law_fees_right") 1014), (.ref 486)⟩ :: ⟨PyData.keyHash P (.ofString "_law_limits_right"), (.str (.ofString "_law_limits_right") 1027), (.ref 493)⟩ :: ⟨PyData.keyHash P (.ofString "_law_blobs_right"), (.str (.ofString "_law_blobs_right") 1041), (.ref 500)⟩ :: ⟨PyData.keyHash P (.ofString "law"), (.str (.ofString "law") 1063), (.ref 507)⟩ :: [])) 63), #[]⟩
noncomputable def o_12_64 : Params → Obj := fun P => ⟨.none, none, (.fields (List.toArray ((.int 1 0) :: (.int 0 0) :: (.ref 20) :: (.int 8 0) :: (.int 0 0) :: (.ref 27) :: (.int 31 0) :: (.int 0 0) :: (.ref 35) :: (.int 41 0) :: (.int 0 0) :: (.ref 42) :: (.int 59 0) :: (.int 0 0) :: (.ref 85) :: (.int 61 0) :: (.int 0 0) :: (.ref 99) :: (.int 107 0) :: (.int 0 0) :: (.ref 182) :: (.int 150 0) :: (.int 0 0) :: (.ref 256) :: (.int 204 0) :: (.int 0 0) :: (.ref 326) :: (.int 212 0) :: (.int 0 0) :: (.ref 333) :: (.int 246 0) :: (.int 0 0) :: (.ref 341) :: (.int 249 0) :: (.int 0 0) :: (.ref 349) :: (.int 255 0) :: (.int 0 0) :: (.ref 356) :: (.int 273 0) :: (.int 0 0) :: (.ref 363) :: (.int 283 0) :: (.int 0 0) :: (.ref 370) :: (.int 302 0) :: (.int 0 0) :: (.ref 377) :: (.int 318 0) :: (.int 0 0) :: (.ref 384) :: (.int 327 0) :: (.int 0 0) :: (.ref 391) :: (.int 335 0) :: (.int 0 0) :: (.ref 398) :: (.int 342 0) :: (.int 0 0) :: (.ref 405) :: (.int 347 0) :: (.int 0 0) :: (.ref 412) :: (.int 349 0) :: (.int 0 0) :: (.ref 419) :: (.int 357 0) :: (.int 0 0) :: (.ref 426) :: (.int 365 0) :: (.int 0 0) :: (.ref 433) :: (.int 367 0) :: (.int 0 0) :: (.ref 440) :: (.int 375 0) :: (.int 0 0) :: (.ref 447) :: (.int 388 0) :: (.int 0 0) :: (.ref 454) :: (.int 396 0) :: (.int 0 0) :: (.ref 461) :: (.int 402 0) :: (.int 0 0) :: (.ref 468) :: (.int 407 0) :: (.int 0 0) :: (.ref 475) :: (.int 410 0) :: (.int 0 0) :: (.ref 480) :: (.int 412 0) :: (.int 0 0) :: (.ref 485) :: (.int 420 0) :: (.int 0 0) :: (.ref 492) :: (.int 435 0) :: (.int 0 0) :: (.ref 499) :: (.int 450 0) :: (.int 0 0) :: (.ref 506) :: []))), #[]⟩
noncomputable def o_321_64 : Params → Obj := fun P => ⟨(.type "tuple"), none, (.seq #[] 0), #[]⟩
noncomputable def o_322_64 : Params → Obj := fun P => ⟨.none, none, (.fields #[]), #[]⟩
noncomputable def o_323_64 : Params → Obj := fun P => ⟨(.type "tuple"), none, (.seq #[(.str (.ofString "previous_limit") 750), (.str (.ofString "boundary_range") 751), (.str (.ofString "upper_bound_inclusive") 752), (.str (.ofString "lower_bound_inclusive") 753)] 0), #[]⟩
noncomputable def o_324_64 : Params → Obj := fun P => ⟨(.type "tuple"), none, (.seq #[] 0), #[]⟩
noncomputable def o_325_64 : Params → Obj := fun P => ⟨.none, none, (.func ⟨(.ofString "compute_gas_limit_bounds"), (.ofString "compute_gas_limit_bounds"), fArgs (stAt 26), .stmts (fBody (stAt 26)), fScope (stAt 26), 0, [], .none, .none, .none, .none, none, .none, .none, 0⟩), #[]⟩
noncomputable def o_326_64 : Params → Obj := fun P => ⟨(.type "code"), none, (.fields #[(.str (.ofString "compute_gas_limit_bounds") 747), (.str (.ofString "compute_gas_limit_bounds") 748), (.str (.ofString "/claim/cut.py") 749), (.int 204 0), (.int 1 0), (.int 0 0), (.int 0 0), (.int 3 0), (.ref 321), (.bool true), (.int 181 0), (.ref 322), .none, (.ref 323), (.ref 324), (.ref 325), (.int 754 0), (.int 204 0), (.str (.ofString "/claim/cut.py") 755)]), #[]⟩
noncomputable def o_327_64 : Params → Obj := fun P => ⟨(.type "function"), none, (.func ⟨(.ofString "compute_gas_limit_bounds"), (.ofString "compute_gas_limit_bounds"), fArgs (stAt 26), .stmts (fBody (stAt 26)), fScope (stAt 26), 3, [], .none, .none, (.str (.ofString "\nCompute the boundaries for the block gas limit based on the parent block.\n") 756), (.str (.ofString "eth._utils.headers") 745), none, (.ref 326), .none, 0⟩), #[]⟩
noncomputable def o_328_64 : Params → Obj := fun P => ⟨(.type "tuple"), none, (.seq #[] 0), #[]⟩
noncomputable def o_329_64 : Params → Obj := fun P => ⟨.none, none, (.fields #[]), #[]⟩
noncomputable def o_330_64 : Params → Obj := fun P => ⟨(.type "tuple"), none, (.seq #[(.str (.ofString "parent_header") 761), (.str (.ofString "genesis_gas_limit") 762), (.str (.ofString "decay") 763), (.str (.ofString "usage_increase") 764), (.str (.ofString "gas_limit") 765)] 0), #[]⟩
noncomputable def o_331_64 : Params → Obj := fun P => ⟨(.type "tuple"), none, (.seq #[] 0), #[]⟩
noncomputable def o_332_64 : Params → Obj := fun P => ⟨.none, none, (.func ⟨(.ofString "compute_gas_limit"), (.ofString "compute_gas_limit"), fArgs (stAt 27), .stmts (fBody (stAt 27)), fScope (stAt 27), 0, [], .none, .none, .none, .none, none, .none, .none, 0⟩), #[]⟩
noncomputable def o_333_64 : Params → Obj := fun P => ⟨(.type "code"), none, (.fields #[(.str (.ofString "compute_gas_limit") 758), (.str (.ofString "compute_gas_limit") 759), (.str (.ofString "/claim/cut.py") 760), (.int 212 0), (.int 2 0), (.int 0 0), (.int 0 0), (.int 3 0), (.ref 328), (.bool true), (.int 181 0), (.ref 329), .none, (.ref 330), (.ref 331), (.ref 332), (.int 766 0), (.int 212 0), (.str (.ofString "/claim/cut.py") 767)]), #[]⟩
noncomputable def o_334_64 : Params → Obj := fun P => ⟨(.type "function"), none, (.func ⟨(.ofString "compute_gas_limit"), (.ofString "compute_gas_limit"), fArgs (stAt 27), .stmts (fBody (stAt 27)), fScope (stAt 27), 3, [], .none, .none, (.str (.ofString "\nA simple strategy for adjusting the gas limit.\n\nFor each block:\n\n- decrease by 1/1024th of the gas limit from the previous block\n- increase by 50% of the total gas used by the previous block\n\nIf the value is less than the given `genesis_gas_limit`:\n\n- increase the gas limit by 1/1024th of the gas limit from the previous block.\n\nIf the value is less than the GAS_LIMIT_MINIMUM:\n\n- use the GAS_LIMIT_MINIMUM as the new gas limit.\n") 768), (.str (.ofString "eth._utils.headers") 745), none, (.ref 333), .none, 0⟩), #[]⟩
noncomputable def o_335_64 : Params → Obj := fun P => ⟨(.type "tuple"), none, (.seq #[(.str (.ofString "Value") 772)] 0), #[]⟩
noncomputable def o_336_64 : Params → Obj := fun P => ⟨(.type "tuple"), none, (.seq #[] 0), #[]⟩
noncomputable def o_337_64 : Params → Obj := fun P => ⟨.none, none, (.fields #[]), #[]⟩
noncomputable def o_338_64 : Params → Obj := fun P => ⟨(.type "tuple"), none, (.seq #[(.str (.ofString "value") 776), (.str (.ofString "title") 777)] 0), #[]⟩
noncomputable def o_339_64 : Params → Obj := fun P => ⟨(.type "tuple"), none, (.seq #[] 0), #[]⟩
noncomputable def o_340_64 : Params → Obj := fun P => ⟨.none, none, (.func ⟨(.ofString "validate_is_integer"), (.ofString "validate_is_integer"), fArgs (stAt 29), .stmts (fBody (stAt 29)), fScope (stAt 29), 0, [], .none, .none, .none, .none, none, .none, .none, 0⟩), #[]⟩
noncomputable def o_341_64 : Params → Obj := fun P => ⟨(.type "code"), none, (.fields #[(.str (.ofString "validate_is_integer") 773), (.str (.ofString "validate_is_integer") 774), (.str (.ofString "/claim/cut.py") 775), (.int 246 0), (.int 2 0), (.int 0 0), (.int 0 0), (.int 3 0), (.ref 336), (.bool true), (.int 181 0), (.ref 337), .none, (.ref 338), (.ref 339), (.ref 340), (.int 778 0), (.int 246 0), (.str (.ofString "/claim/cut.py") 779)]), #[]⟩
noncomputable def o_342_64 : Params → Obj := fun P => ⟨(.type "function"), none, (.func ⟨(.ofString "validate_is_integer"), (.ofString "validate_is_integer"), fArgs (stAt 29), .stmts (fBody (stAt 29)), fScope (stAt 29), 3, [], (.ref 335), .none, .none, (.str (.ofString "eth.validation") 770), none, (.ref 341), .none, 0⟩), #[]⟩
noncomputable def o_343_64 : Params → Obj := fun P => ⟨(.type "tuple"), none, (.seq #[(.str (.ofString "Value") 781)] 0), #[]⟩
noncomputable def o_344_64 : Params → Obj := fun P => ⟨(.type "tuple"), none, (.seq #[] 0), #[]⟩
noncomputable def o_345_64 : Params → Obj := fun P => ⟨.none, none, (.fields #[]), #[]⟩
noncomputable def o_346_64 : Params → Obj := fun P => ⟨(.type "tuple"), none, (.seq #[(.str (.ofString "value") 785), (.str (.ofString "minimum") 786), (.str (.ofString "title") 787)] 0), #[]⟩
noncomputable def o_347_64 : Params → Obj := fun P => ⟨(.type "tuple"), none, (.seq #[] 0), #[]⟩
noncomputable def o_348_64 : Params → Obj := fun P => ⟨.none, none, (.func ⟨(.ofString "validate_gt"), (.ofString "validate_gt"), fArgs (stAt 30), .stmts (fBody (stAt 30)), fScope (stAt 30), 0, [], .none, .none, .none, .none, none, .none, .none, 0⟩), #[]⟩
noncomputable def o_349_64 : Params → Obj := fun P => ⟨(.type "code"), none, (.fields #[(.str (.ofString "validate_gt") 782), (.str (.ofString "validate_gt") 783), (.str (.ofString "/claim/cut.py") 784), (.int 249 0), (.int 3 0), (.int 0 0), (.int 0 0), (.int 3 0), (.ref 344), (.bool true), (.int 181 0), (.ref 345), .none, (.ref 346), (.ref 347), (.ref 348), (.int 788 0), (.int 249 0), (.str (.ofString "/claim/cut.py") 789)]), #[]⟩
noncomputable def o_350_64 : Params → Obj := fun P => ⟨(.type "function"), none, (.func ⟨(.ofString "validate_gt"), (.ofString "validate_gt"), fArgs (stAt 30), .stmts (fBody (stAt 30)), fScope (stAt 30), 3, [], (.ref 343), .none, .none, (.str (.ofString "eth.validation") 770), none, (.ref 349), .none, 0⟩), #[]⟩
noncomputable def o_351_64 : Params → Obj := fun P => ⟨(.type "tuple"), none, (.seq #[] 0), #[]⟩
noncomputable def o_352_64 : Params → Obj := fun P => ⟨.none, none, (.fields #[]), #[]⟩
noncomputable def o_353_64 : Params → Obj := fun P => ⟨(.type "tuple"), none, (.seq #[(.str (.ofString "bomb_delay") 798), (.str (.ofString "parent_header") 799), (.str (.ofString "timestamp") 800), (.str (.ofString "parent_timestamp") 801), (.str (.ofString "parent_difficulty") 802), (.str (.ofString "offset") 803), (.str (.ofString "has_uncles") 804), (.str (.ofString "adj_factor") 805), (.str (.ofString "difficulty") 806), (.str (.ofString "num_bomb_periods") 807)] 0), #[]⟩
noncomputable def o_354_64 : Params → Obj := fun P => ⟨(.type "tuple"), none, (.seq #[] 0), #[]⟩
noncomputable def o_355_64 : Params → Obj := fun P => ⟨.none, none, (.func ⟨(.ofString "compute_difficulty"), (.ofString "compute_difficulty"), fArgs (stAt 33), .stmts (fBody (stAt 33)), fScope (stAt 33), 0, [], .none, .none, .none, .none, none, .none, .none, 0⟩), #[]⟩
noncomputable def o_356_64 : Params → Obj := fun P => ⟨(.type "code"), none, (.fields #[(.str (.ofString "compute_difficulty") 795), (.str (.ofString "compute_difficulty") 796), (.str (.ofString "/claim/cut.py") 797), (.int 255 0), (.int 3 0), (.int 0 0), (.int 0 0), (.int 3 0), (.ref 351), (.bool true), (.int 181 0), (.ref 352), .none, (.ref 353), (.ref 354), (.ref 355), (.int 808 0), (.int 255 0), (.str (.ofString "/claim/cut.py") 809)]), #[]⟩
noncomputable def o_357_64 : Params → Obj := fun P => ⟨(.type "function"), none, (.func ⟨(.ofString "compute_difficulty"), (.ofString "compute_difficulty"), fArgs (stAt 33), .stmts (fBody (stAt 33)), fScope (stAt 33), 3, [], .none, .none, (.str (.ofString "\nhttps://github.com/ethereum/EIPs/issues/100\n") 810), (.str (.ofString "eth.vm.forks.byzantium.headers") 793), none, (.ref 356), .none, 0⟩), #[]⟩
noncomputable def o_358_64 : Params → Obj := fun P => ⟨(.type "tuple"), none, (.seq #[] 0), #[]⟩
noncomputable def o_359_64 : Params → Obj := fun P => ⟨.none, none, (.fields #[]), #[]⟩
noncomputable def o_360_64 : Params → Obj := fun P => ⟨(.type "tuple"), none, (.seq #[(.str (.ofString "parent_header") 819)] 0), #[]⟩
noncomputable def o_361_64 : Params → Obj := fun P => ⟨(.type "tuple"), none, (.seq #[] 0), #[]⟩
noncomputable def o_362_64 : Params → Obj := fun P => ⟨.none, none, (.func ⟨(.ofString "calc_excess_blob_gas_cancun"), (.ofString "calc_excess_blob_gas_cancun"), fArgs (stAt 36), .stmts (fBody (stAt 36)), fScope (stAt 36), 0, [], .none, .none, .none, .none, none, .none, .none, 0⟩), #[]⟩
noncomputable def o_363_64 : Params → Obj := fun P => ⟨(.type "code"), none, (.fields #[(.str (.ofString "calc_excess_blob_gas_cancun") 816), (.str (.ofString "calc_excess_blob_gas_cancun") 817), (.str (.ofString "/claim/cut.py") 818), (.int 273 0), (.int 1 0), (.int 0 0), (.int 0 0), (.int 3 0), (.ref 358), (.bool true), (.int 181 0), (.ref 359), .none, (.ref 360), (.ref 361), (.ref 362), (.int 820 0), (.int 273 0), (.str (.ofString "/claim/cut.py") 821)]), #[]⟩
noncomputable def o_364_64 : Params → Obj := fun P => ⟨(.type "function"), none, (.func ⟨(.ofString "calc_excess_blob_gas_cancun"), (.ofString "calc_excess_blob_gas_cancun"), fArgs (stAt 36), .stmts (fBody (stAt 36)), fScope (stAt 36), 3, [], .none, .none, .none, (.str (.ofString "eth.vm.forks.cancun.headers") 814), none, (.ref 363), .none, 0⟩), #[]⟩
noncomputable def o_365_64 : Params → Obj := fun P => ⟨(.type "tuple"), none, (.seq #[] 0), #[]⟩
noncomputable def o_366_64 : Params → Obj := fun P => ⟨.none, none, (.fields #[]), #[]⟩
noncomputable def o_367_64 : Params → Obj := fun P => ⟨(.type "tuple"), none, (.seq #[(.str (.ofString "parent_header") 830), (.str (.ofString "timestamp") 831), (.str (.ofString "offset") 832), (.str (.ofString "difficulty_minimum") 833), (.str (.ofString "base_difficulty") 834), (.str (.ofString "num_bomb_periods") 835), (.str (.ofString "difficulty") 836)] 0), #[]⟩
noncomputable def o_368_64 : Params → Obj := fun P => ⟨(.type "tuple"), none, (.seq #[] 0), #[]⟩
noncomputable def o_369_64 : Params → Obj := fun P => ⟨.none, none, (.func ⟨(.ofString "compute_frontier_difficulty"), (.ofString "compute_frontier_difficulty"), fArgs (stAt 39), .stmts (fBody (stAt 39)), fScope (stAt 39), 0, [], .none, .none, .none, .none, none, .none, .none, 0⟩), #[]⟩
noncomputable def o_370_64 : Params → Obj := fun P => ⟨(.type "code"), none, (.fields #[(.str (.ofString "compute_frontier_difficulty") 827), (.str (.ofString "compute_frontier_difficulty") 828), (.str (.ofString "/claim/cut.py") 829), (.int 283 0), (.int 2 0), (.int 0 0), (.int 0 0), (.int 3 0), (.ref 365), (.bool true), (.int 181 0), (.ref 366), .none, (.ref 367), (.ref 368), (.ref 369), (.int 837 0), (.int 283 0), (.str (.ofString "/claim/cut.py") 838)]), #[]⟩
noncomputable def o_371_64 : Params → Obj := fun P => ⟨(.type "function"), none, (.func ⟨(.ofString "compute_frontier_difficulty"), (.ofString "compute_frontier_difficulty"), fArgs (stAt 39), .stmts (fBody (stAt 39)), fScope (stAt 39), 3, [], .none, .none, (.str (.ofString "\nComputes the difficulty for a frontier block based on the parent block.\n") 839), (.str (.ofString "eth.vm.forks.frontier.headers") 825), none, (.ref 370), .none, 0⟩), #[]⟩
noncomputable def o_372_64 : Params → Obj := fun P => ⟨(.type "tuple"), none, (.seq #[] 0), #[]⟩
noncomputable def o_373_64 : Params → Obj := fun P => ⟨.none, none, (.fields #[]), #[]⟩
noncomputable def o_374_64 : Params → Obj := fun P => ⟨(.type "tuple"), none, (.seq #[(.str (.ofString "parent_header") 848), (.str (.ofString "timestamp") 849), (.str (.ofString "parent_tstamp") 850), (.str (.ofString "offset") 851), (.str (.ofString "sign") 852), (.str (.ofString "difficulty") 853), (.str (.ofString "num_bomb_periods") 854)] 0), #[]⟩
noncomputable def o_375_64 : Params → Obj := fun P => ⟨(.type "tuple"), none, (.seq #[] 0), #[]⟩
noncomputable def o_376_64 : Params → Obj := fun P => ⟨.none, none, (.func ⟨(.ofString "compute_homestead_difficulty"), (.ofString "compute_homestead_difficulty"), fArgs (stAt 42), .stmts (fBody (stAt 42)), fScope (stAt 42), 0, [], .none, .none, .none, .none, none, .none, .none, 0⟩), #[]⟩
noncomputable def o_377_64 : Params → Obj := fun P => ⟨(.type "code"), none, (.fields #[(.str (.ofString "compute_homestead_difficulty") 845), (.str (.ofString "compute_homestead_difficulty") 846), (.str (.ofString "/claim/cut.py") 847), (.int 302 0), (.int 2 0), (.int 0 0), (.int 0 0), (.int 3 0), (.ref 372), (.bool true), (.int 181 0), (.ref 373), .none, (.ref 374), (.ref 375), (.ref 376), (.int 855 0), (.int 302 0), (.str (.ofString "/claim/cut.py") 856)]), #[]⟩
noncomputable def o_378_64 : Params → Obj := fun P => ⟨(.type "function"), none, (.func ⟨(.ofString "compute_homestead_difficulty"), (.ofString "compute_homestead_difficulty"), fArgs (stAt 42), .stmts (fBody (stAt 42)), fScope (stAt 42), 3, [], .none, .none, (.str (.ofString "\nComputes the difficulty for a homestead block based on the parent block.\n") 857), (.str (.ofString "eth.vm.forks.homestead.headers") 843), none, (.ref 377), .none, 0⟩), #[]⟩
noncomputable def o_379_64 : Params → Obj := fun P => ⟨(.type "tuple"), none, (.seq #[] 0), #[]⟩
noncomputable def o_380_64 : Params → Obj := fun P => ⟨.none, none, (.fields #[]), #[]⟩
noncomputable def o_381_64 : Params → Obj := fun P => ⟨(.type "tuple"), none, (.seq #[(.str (.ofString "parent_header") 866)] 0), #[]⟩
noncomputable def o_382_64 : Params → Obj := fun P => ⟨(.type "tuple"), none, (.seq #[] 0), #[]⟩
noncomputable def o_383_64 : Params → Obj := fun P => ⟨.none, none, (.func ⟨(.ofString "calc_excess_blob_gas_prague"), (.ofString "calc_excess_blob_gas_prague"), fArgs (stAt 45), .stmts (fBody (stAt 45)), fScope (stAt 45), 0, [], .none, .none, .none, .none, none, .none, .none, 0⟩), #[]⟩
noncomputable def o_384_64 : Params → Obj := fun P => ⟨(.type "code"), none, (.fields #[(.str (.ofString "calc_excess_blob_gas_prague") 863), (.str (.ofString "calc_excess_blob_gas_prague") 864), (.str (.ofString "/claim/cut.py") 865), (.int 318 0), (.int 1 0), (.int 0 0), (.int 0 0), (.int 3 0), (.ref 379), (.bool true), (.int 181 0), (.ref 380), .none, (.ref 381), (.ref 382), (.ref 383), (.int 867 0), (.int 318 0), (.str (.ofString "/claim/cut.py") 868)]), #[]⟩
noncomputable def o_385_64 : Params → Obj := fun P => ⟨(.type "function"), none, (.func ⟨(.ofString "calc_excess_blob_gas_prague"), (.ofString "calc_excess_blob_gas_prague"), fArgs (stAt 45), .stmts (fBody (stAt 45)), fScope (stAt 45), 3, [], .none, .none, .none, (.str (.ofString "eth.vm.forks.prague.headers") 861), none, (.ref 384), .none, 0⟩), #[]⟩
noncomputable def o_386_64 : Params → Obj := fun P => ⟨(.type "tuple"), none, (.seq #[] 0), #[]⟩
noncomputable def o_387_64 : Params → Obj := fun P => ⟨.none, none, (.fields #[]), #[]⟩
noncomputable def o_388_64 : Params → Obj := fun P => ⟨(.type "tuple"), none, (.seq #[(.str (.ofString "script") 875), (.str (.ofString "row") 876), (.str (.ofString "k") 877), (.str (.ofString "cell") 878), (.str (.ofString "turn") 879)] 0), #[]⟩
noncomputable def o_389_64 : Params → Obj := fun P => ⟨(.type "tuple"), none, (.seq #[] 0), #[]⟩
noncomputable def o_390_64 : Params → Obj := fun P => ⟨.none, none, (.func ⟨(.ofString "_law_reader"), (.ofString "_law_reader"), fArgs (stAt 47), .stmts (fBody (stAt 47)), fScope (stAt 47), 0, [], .none, .none, .none, .none, none, .none, .none, 0⟩), #[]⟩
noncomputable def o_391_64 : Params → Obj := fun P => ⟨(.type "code"), none, (.fields #[(.str (.ofString "_law_reader") 872), (.str (.ofString "_law_reader") 873), (.str (.ofString "/claim/cut.py") 874), (.int 327 0), (.int 1 0), (.int 0 0), (.int 0 0), (.int 3 0), (.ref 386), (.bool true), (.int 181 0), (.ref 387), .none, (.ref 388), (.ref 389), (.ref 390), (.int 880 0), (.int 327 0), (.str (.ofString "/claim/cut.py") 881)]), #[]⟩
noncomputable def o_392_64 : Params → Obj := fun P => ⟨(.type "function"), none, (.func ⟨(.ofString "_law_reader"), (.ofString "_law_reader"), fArgs (stAt 47), .stmts (fBody (stAt 47)), fScope (stAt 47), 3, [], .none, .none, .none, (.str (.ofString "law_kw0010_01") 870), none, (.ref 391), .none, 0⟩), #[]⟩
noncomputable def o_393_64 : Params → Obj := fun P => ⟨(.type "tuple"), none, (.seq #[] 0), #[]⟩
noncomputable def o_394_64 : Params → Obj := fun P => ⟨.none, none, (.fields #[]), #[]⟩
noncomputable def o_395_64 : Params → Obj := fun P => ⟨(.type "tuple"), none, (.seq #[(.str (.ofString "d") 886), (.str (.ofString "many") 887), (.str (.ofString "at") 888), (.str (.ofString "place") 889)] 0), #[]⟩
noncomputable def o_396_64 : Params → Obj := fun P => ⟨(.type "tuple"), none, (.seq #[] 0), #[]⟩
noncomputable def o_397_64 : Params → Obj := fun P => ⟨.none, none, (.func ⟨(.ofString "_law_pick"), (.ofString "_law_pick"), fArgs (stAt 48), .stmts (fBody (stAt 48)), fScope (stAt 48), 0, [], .none, .none, .none, .none, none, .none, .none, 0⟩), #[]⟩
noncomputable def o_398_64 : Params → Obj := fun P => ⟨(.type "code"), none, (.fields #[(.str (.ofString "_law_pick") 883), (.str (.ofString "_law_pick") 884), (.str (.ofString "/claim/cut.py") 885), (.int 335 0), (.int 2 0), (.int 0 0), (.int 0 0), (.int 3 0), (.ref 393), (.bool true), (.int 181 0), (.ref 394), .none, (.ref 395), (.ref 396), (.ref 397), (.int 890 0), (.int 335 0), (.str (.ofString "/claim/cut.py") 891)]), #[]⟩
noncomputable def o_399_64 : Params → Obj := fun P => ⟨(.type "function"), none, (.func ⟨(.ofString "_law_pick"), (.ofString "_law_pick"), fArgs (stAt 48), .stmts (fBody (stAt 48)), fScope (stAt 48), 3, [], .none, .none, .none, (.str (.ofString "law_kw0010_01") 870), none, (.ref 398), .none, 0⟩), #[]⟩
noncomputable def o_400_64 : Params → Obj := fun P => ⟨(.type "tuple"), none, (.seq #[] 0), #[]⟩
noncomputable def o_401_64 : Params → Obj := fun P => ⟨.none, none, (.fields #[]), #[]⟩
noncomputable def o_402_64 : Params → Obj := fun P => ⟨(.type "tuple"), none, (.seq #[(.str (.ofString "d") 896), (.str (.ofString "most") 897), (.str (.ofString "place") 898), (.str (.ofString "turn") 899)] 0), #[]⟩
noncomputable def o_403_64 : Params → Obj := fun P => ⟨(.type "tuple"), none, (.seq #[] 0), #[]⟩
noncomputable def o_404_64 : Params → Obj := fun P => ⟨.none, none, (.func ⟨(.ofString "_law_great"), (.ofString "_law_great"), fArgs (stAt 49), .stmts (fBody (stAt 49)), fScope (stAt 49), 0, [], .none, .none, .none, .none, none, .none, .none, 0⟩), #[]⟩
noncomputable def o_405_64 : Params → Obj := fun P => ⟨(.type "code"), none, (.fields #[(.str (.ofString "_law_great") 893), (.str (.ofString "_law_great") 894), (.str (.ofString "/claim/cut.py") 895), (.int 342 0), (.int 2 0), (.int 0 0), (.int 0 0), (.int 3 0), (.ref 400), (.bool true), (.int 181 0), (.ref 401), .none, (.ref 402), (.ref 403), (.ref 404), (.int 900 0), (.int 342 0), (.str (.ofString "/claim/cut.py") 901)]), #[]⟩
noncomputable def o_406_64 : Params → Obj := fun P => ⟨(.type "function"), none, (.func ⟨(.ofString "_law_great"), (.ofString "_law_great"), fArgs (stAt 49), .stmts (fBody (stAt 49)), fScope (stAt 49), 3, [], .none, .none, .none, (.str (.ofString "law_kw0010_01") 870), none, (.ref 405), .none, 0⟩), #[]⟩
noncomputable def o_407_64 : Params → Obj := fun P => ⟨(.type "tuple"), none, (.seq #[] 0), #[]⟩
noncomputable def o_408_64 : Params → Obj := fun P => ⟨.none, none, (.fields #[]), #[]⟩
noncomputable def o_409_64 : Params → Obj := fun P => ⟨(.type "tuple"), none, (.seq #[] 0), #[]⟩
noncomputable def o_410_64 : Params → Obj := fun P => ⟨(.type "tuple"), none, (.seq #[] 0), #[]⟩
noncomputable def o_411_64 : Params → Obj := fun P => ⟨.none, none, (.func ⟨(.ofString "_law_delays"), (.ofString "_law_delays"), fArgs (stAt 50), .stmts (fBody (stAt 50)), fScope (stAt 50), 0, [], .none, .none, .none, .none, none, .none, .none, 0⟩), #[]⟩
noncomputable def o_412_64 : Params → Obj := fun P => ⟨(.type "code"), none, (.fields #[(.str (.ofString "_law_delays") 903), (.str (.ofString "_law_delays") 904), (.str (.ofString "/claim/cut.py") 905), (.int 347 0), (.int 0 0), (.int 0 0), (.int 0 0), (.int 3 0), (.ref 407), (.bool true), (.int 181 0), (.ref 408), .none, (.ref 409), (.ref 410), (.ref 411), (.int 906 0), (.int 347 0), (.str (.ofString "/claim/cut.py") 907)]), #[]⟩
noncomputable def o_413_64 : Params → Obj := fun P => ⟨(.type "function"), none, (.func ⟨(.ofString "_law_delays"), (.ofString "_law_delays"), fArgs (stAt 50), .stmts (fBody (stAt 50)), fScope (stAt 50), 3, [], .none, .none, .none, (.str (.ofString "law_kw0010_01") 870), none, (.ref 412), .none, 0⟩), #[]⟩
noncomputable def o_414_64 : Params → Obj := fun P => ⟨(.type "tuple"), none, (.seq #[] 0), #[]⟩
noncomputable def o_415_64 : Params → Obj := fun P => ⟨.none, none, (.fields #[]), #[]⟩
noncomputable def o_416_64 : Params → Obj := fun P => ⟨(.type "tuple"), none, (.seq #[(.str (.ofString "place") 912), (.str (.ofString "periods") 913), (.str (.ofString "grown") 914), (.str (.ofString "turn") 915)] 0), #[]⟩
noncomputable def o_417_64 : Params → Obj := fun P => ⟨(.type "tuple"), none, (.seq #[] 0), #[]⟩
noncomputable def o_418_64 : Params → Obj := fun P => ⟨.none, none, (.func ⟨(.ofString "_law_bomb"), (.ofString "_law_bomb"), fArgs (stAt 51), .stmts (fBody (stAt 51)), fScope (stAt 51), 0, [], .none, .none, .none, .none, none, .none, .none, 0⟩), #[]⟩
noncomputable def o_419_64 : Params → Obj := fun P => ⟨(.type "code"), none, (.fields #[(.str (.ofString "_law_bomb") 909), (.str (.ofString "_law_bomb") 910), (.str (.ofString "/claim/cut.py") 911), (.int 349 0), (.int 1 0), (.int 0 0), (.int 0 0), (.int 3 0), (.ref 414), (.bool true), (.int 181 0), (.ref 415), .none, (.ref 416), (.ref 417), (.ref 418), (.int 916 0), (.int 349 0), (.str (.ofString "/claim/cut.py") 917)]), #[]⟩
noncomputable def o_420_64 : Params → Obj := fun P => ⟨(.type "function"), none, (.func ⟨(.ofString "_law_bomb"), (.ofString "_law_bomb"), fArgs (stAt 51), .stmts (fBody (stAt 51)), fScope (stAt 51), 3, [], .none, .none, .none, (.str (.ofString "law_kw0010_01") 870), none, (.ref 419), .none, 0⟩), #[]⟩
noncomputable def o_421_64 : Params → Obj := fun P => ⟨(.type "tuple"), none, (.seq #[] 0), #[]⟩
noncomputable def o_422_64 : Params → Obj := fun P => ⟨.none, none, (.fields #[]), #[]⟩
noncomputable def o_423_64 : Params → Obj := fun P => ⟨(.type "tuple"), none, (.seq #[(.str (.ofString "t") 922), (.str (.ofString "went") 923), (.str (.ofString "place") 924), (.str (.ofString "step") 925), (.str (.ofString "plain") 926)] 0), #[]⟩
noncomputable def o_424_64 : Params → Obj := fun P => ⟨(.type "tuple"), none, (.seq #[] 0), #[]⟩
noncomputable def o_425_64 : Params → Obj := fun P => ⟨.none, none, (.func ⟨(.ofString "_law_frontier"), (.ofString "_law_frontier"), fArgs (stAt 52), .stmts (fBody (stAt 52)), fScope (stAt 52), 0, [], .none, .none, .none, .none, none, .none, .none, 0⟩), #[]⟩
noncomputable def o_426_64 : Params → Obj := fun P => ⟨(.type "code"), none, (.fields #[(.str (.ofString "_law_frontier") 919), (.str (.ofString "_law_frontier") 920), (.str (.ofString "/claim/cut.py") 921), (.int 357 0), (.int 3 0), (.int 0 0), (.int 0 0), (.int 3 0), (.ref 421), (.bool true), (.int 181 0), (.ref 422), .none, (.ref 423), (.ref 424), (.ref 425), (.int 927 0), (.int 357 0), (.str (.ofString "/claim/cut.py") 928)]), #[]⟩
noncomputable def o_427_64 : Params → Obj := fun P => ⟨(.type "function"), none, (.func ⟨(.ofString "_law_frontier"), (.ofString "_law_frontier"), fArgs (stAt 52), .stmts (fBody (stAt 52)), fScope (stAt 52), 3, [], .none, .none, .none, (.str (.ofString "law_kw0010_01") 870), none, (.ref 426), .none, 0⟩), #[]⟩
noncomputable def o_428_64 : Params → Obj := fun P => ⟨(.type "tuple"), none, (.seq #[] 0), #[]⟩
noncomputable def o_429_64 : Params → Obj := fun P => ⟨.none, none, (.fields #[]), #[]⟩
noncomputable def o_430_64 : Params → Obj := fun P => ⟨(.type "tuple"), none, (.seq #[(.str (.ofString "t") 933), (.str (.ofString "times") 934), (.str (.ofString "place") 935)] 0), #[]⟩
noncomputable def o_431_64 : Params → Obj := fun P => ⟨(.type "tuple"), none, (.seq #[] 0), #[]⟩
noncomputable def o_432_64 : Params → Obj := fun P => ⟨.none, none, (.func ⟨(.ofString "_law_stepped"), (.ofString "_law_stepped"), fArgs (stAt 53), .stmts (fBody (stAt 53)), fScope (stAt 53), 0, [], .none, .none, .none, .none, none, .none, .none, 0⟩), #[]⟩
noncomputable def o_433_64 : Params → Obj := fun P => ⟨(.type "code"), none, (.fields #[(.str (.ofString "_law_stepped") 930), (.str (.ofString "_law_stepped") 931), (.str (.ofString "/claim/cut.py") 932), (.int 365 0), (.int 3 0), (.int 0 0), (.int 0 0), (.int 3 0), (.ref 428), (.bool true), (.int 181 0), (.ref 429), .none, (.ref 430), (.ref 431), (.ref 432), (.int 936 0), (.int 365 0), (.str (.ofString "/claim/cut.py") 937)]), #[]⟩
noncomputable def o_434_64 : Params → Obj := fun P => ⟨(.type "function"), none, (.func ⟨(.ofString "_law_stepped"), (.ofString "_law_stepped"), fArgs (stAt 53), .stmts (fBody (stAt 53)), fScope (stAt 53), 3, [], .none, .none, .none, (.str (.ofString "law_kw0010_01") 870), none, (.ref 433), .none, 0⟩), #[]⟩
noncomputable def o_435_64 : Params → Obj := fun P => ⟨(.type "tuple"), none, (.seq #[] 0), #[]⟩
noncomputable def o_436_64 : Params → Obj := fun P => ⟨.none, none, (.fields #[]), #[]⟩
noncomputable def o_437_64 : Params → Obj := fun P => ⟨(.type "tuple"), none, (.seq #[(.str (.ofString "t") 942), (.str (.ofString "went") 943), (.str (.ofString "place") 944), (.str (.ofString "uncles") 945), (.str (.ofString "found") 946), (.str (.ofString "delay") 947), (.str (.ofString "times") 948)] 0), #[]⟩
noncomputable def o_438_64 : Params → Obj := fun P => ⟨(.type "tuple"), none, (.seq #[] 0), #[]⟩
noncomputable def o_439_64 : Params → Obj := fun P => ⟨.none, none, (.func ⟨(.ofString "_law_difficulties"), (.ofString "_law_difficulties"), fArgs (stAt 54), .stmts (fBody (stAt 54)), fScope (stAt 54), 0, [], .none, .none, .none, .none, none, .none, .none, 0⟩), #[]⟩
noncomputable def o_440_64 : Params → Obj := fun P => ⟨(.type "code"), none, (.fields #[(.str (.ofString "_law_difficulties") 939), (.str (.ofString "_law_difficulties") 940), (.str (.ofString "/claim/cut.py") 941), (.int 367 0), (.int 4 0), (.int 0 0), (.int 0 0), (.int 3 0), (.ref 435), (.bool true), (.int 181 0), (.ref 436), .none, (.ref 437), (.ref 438), (.ref 439), (.int 949 0), (.int 367 0), (.str (.ofString "/claim/cut.py") 950)]), #[]⟩
noncomputable def o_441_64 : Params → Obj := fun P => ⟨(.type "function"), none, (.func ⟨(.ofString "_law_difficulties"), (.ofString "_law_difficulties"), fArgs (stAt 54), .stmts (fBody (stAt 54)), fScope (stAt 54), 3, [], .none, .none, .none, (.str (.ofString "law_kw0010_01") 870), none, (.ref 440), .none, 0⟩), #[]⟩
noncomputable def o_442_64 : Params → Obj := fun P => ⟨(.type "tuple"), none, (.seq #[] 0), #[]⟩
noncomputable def o_443_64 : Params → Obj := fun P => ⟨.none, none, (.fields #[]), #[]⟩
noncomputable def o_444_64 : Params → Obj := fun P => ⟨(.type "tuple"), none, (.seq #[(.str (.ofString "parent") 955), (.str (.ofString "time") 956), (.str (.ofString "found") 957), (.str (.ofString "turn") 958)] 0), #[]⟩
noncomputable def o_445_64 : Params → Obj := fun P => ⟨(.type "tuple"), none, (.seq #[] 0), #[]⟩
noncomputable def o_446_64 : Params → Obj := fun P => ⟨.none, none, (.func ⟨(.ofString "_law_told"), (.ofString "_law_told"), fArgs (stAt 55), .stmts (fBody (stAt 55)), fScope (stAt 55), 0, [], .none, .none, .none, .none, none, .none, .none, 0⟩), #[]⟩
noncomputable def o_447_64 : Params → Obj := fun P => ⟨(.type "code"), none, (.fields #[(.str (.ofString "_law_told") 952), (.str (.ofString "_law_told") 953), (.str (.ofString "/claim/cut.py") 954), (.int 375 0), (.int 2 0), (.int 0 0), (.int 0 0), (.int 3 0), (.ref 442), (.bool true), (.int 181 0), (.ref 443), .none, (.ref 444), (.ref 445), (.ref 446), (.int 959 0), (.int 375 0), (.str (.ofString "/claim/cut.py") 960)]), #[]⟩
noncomputable def o_448_64 : Params → Obj := fun P => ⟨(.type "function"), none, (.func ⟨(.ofString "_law_told"), (.ofString "_law_told"), fArgs (stAt 55), .stmts (fBody (stAt 55)), fScope (stAt 55), 3, [], .none, .none, .none, (.str (.ofString "law_kw0010_01") 870), none, (.ref 447), .none, 0⟩), #[]⟩
noncomputable def o_449_64 : Params → Obj := fun P => ⟨(.type "tuple"), none, (.seq #[] 0), #[]⟩
noncomputable def o_450_64 : Params → Obj := fun P => ⟨.none, none, (.fields #[]), #[]⟩
noncomputable def o_451_64 : Params → Obj := fun P => ⟨(.type "tuple"), none, (.seq #[(.str (.ofString "limit") 965), (.str (.ofString "used") 966), (.str (.ofString "fee") 967), (.str (.ofString "half") 968), (.str (.ofString "part") 969)] 0), #[]⟩
noncomputable def o_452_64 : Params → Obj := fun P => ⟨(.type "tuple"), none, (.seq #[] 0), #[]⟩
noncomputable def o_453_64 : Params → Obj := fun P => ⟨.none, none, (.func ⟨(.ofString "_law_base_fee"), (.ofString "_law_base_fee"), fArgs (stAt 56), .stmts (fBody (stAt 56)), fScope (stAt 56), 0, [], .none, .none, .none, .none, none, .none, .none, 0⟩), #[]⟩
noncomputable def o_454_64 : Params → Obj := fun P => ⟨(.type "code"), none, (.fields #[(.str (.ofString "_law_base_fee") 962), (.str (.ofString "_law_base_fee") 963), (.str (.ofString "/claim/cut.py") 964), (.int 388 0), (.int 3 0), (.int 0 0), (.int 0 0), (.int 3 0), (.ref 449), (.bool true), (.int 181 0), (.ref 450), .none, (.ref 451), (.ref 452), (.ref 453), (.int 970 0), (.int 388 0), (.str (.ofString "/claim/cut.py") 971)]), #[]⟩
noncomputable def o_455_64 : Params → Obj := fun P => ⟨(.type "function"), none, (.func ⟨(.ofString "_law_base_fee"), (.ofString "_law_base_fee"), fArgs (stAt 56), .stmts (fBody (stAt 56)), fScope (stAt 56), 3, [], .none, .none, .none, (.str (.ofString "law_kw0010_01") 870), none, (.ref 454), .none, 0⟩), #[]⟩
noncomputable def o_456_64 : Params → Obj := fun P => ⟨(.type "tuple"), none, (.seq #[] 0), #[]⟩
noncomputable def o_457_64 : Params → Obj := fun P => ⟨.none, none, (.fields #[]), #[]⟩
noncomputable def o_458_64 : Params → Obj := fun P => ⟨(.type "tuple"), none, (.seq #[(.str (.ofString "limit") 976), (.str (.ofString "used") 977), (.str (.ofString "least") 978), (.str (.ofString "decay") 979), (.str (.ofString "wanted") 980)] 0), #[]⟩
noncomputable def o_459_64 : Params → Obj := fun P => ⟨(.type "tuple"), none, (.seq #[] 0), #[]⟩
noncomputable def o_460_64 : Params → Obj := fun P => ⟨.none, none, (.func ⟨(.ofString "_law_limit"), (.ofString "_law_limit"), fArgs (stAt 57), .stmts (fBody (stAt 57)), fScope (stAt 57), 0, [], .none, .none, .none, .none, none, .none, .none, 0⟩), #[]⟩
noncomputable def o_461_64 : Params → Obj := fun P => ⟨(.type "code"), none, (.fields #[(.str (.ofString "_law_limit") 973), (.str (.ofString "_law_limit") 974), (.str (.ofString "/claim/cut.py") 975), (.int 396 0), (.int 3 0), (.int 0 0), (.int 0 0), (.int 3 0), (.ref 456), (.bool true), (.int 181 0), (.ref 457), .none, (.ref 458), (.ref 459), (.ref 460), (.int 981 0), (.int 396 0), (.str (.ofString "/claim/cut.py") 982)]), #[]⟩
noncomputable def o_462_64 : Params → Obj := fun P => ⟨(.type "function"), none, (.func ⟨(.ofString "_law_limit"), (.ofString "_law_limit"), fArgs (stAt 57), .stmts (fBody (stAt 57)), fScope (stAt 57), 3, [], .none, .none, .none, (.str (.ofString "law_kw0010_01") 870), none, (.ref 461), .none, 0⟩), #[]⟩
noncomputable def o_463_64 : Params → Obj := fun P => ⟨(.type "tuple"), none, (.seq #[] 0), #[]⟩
noncomputable def o_464_64 : Params → Obj := fun P => ⟨.none, none, (.fields #[]), #[]⟩
noncomputable def o_465_64 : Params → Obj := fun P => ⟨(.type "tuple"), none, (.seq #[(.str (.ofString "excess") 987), (.str (.ofString "fraction") 988), (.str (.ofString "terms") 989)] 0), #[]⟩
noncomputable def o_466_64 : Params → Obj := fun P => ⟨(.type "tuple"), none, (.seq #[] 0), #[]⟩
noncomputable def o_467_64 : Params → Obj := fun P => ⟨.none, none, (.func ⟨(.ofString "_law_price"), (.ofString "_law_price"), fArgs (stAt 58), .stmts (fBody (stAt 58)), fScope (stAt 58), 0, [], .none, .none, .none, .none, none, .none, .none, 0⟩), #[]⟩
noncomputable def o_468_64 : Params → Obj := fun P => ⟨(.type "code"), none, (.fields #[(.str (.ofString "_law_price") 984), (.str (.ofString "_law_price") 985), (.str (.ofString "/claim/cut.py") 986), (.int 402 0), (.int 2 0), (.int 0 0), (.int 0 0), (.int 3 0), (.ref 463), (.bool true), (.int 181 0), (.ref 464), .none, (.ref 465), (.ref 466), (.ref 467), (.int 990 0), (.int 402 0), (.str (.ofString "/claim/cut.py") 991)]), #[]⟩
noncomputable def o_469_64 : Params → Obj := fun P => ⟨(.type "function"), none, (.func ⟨(.ofString "_law_price"), (.ofString "_law_price"), fArgs (stAt 58), .stmts (fBody (stAt 58)), fScope (stAt 58), 3, [], .none, .none, .none, (.str (.ofString "law_kw0010_01") 870), none, (.ref 468), .none, 0⟩), #[]⟩
noncomputable def o_470_64 : Params → Obj := fun P => ⟨(.type "tuple"), none, (.seq #[] 0), #[]⟩
noncomputable def o_471_64 : Params → Obj := fun P => ⟨.none, none, (.fields #[]), #[]⟩
noncomputable def o_472_64 : Params → Obj := fun P => ⟨(.type "tuple"), none, (.seq #[(.str (.ofString "excess") 996), (.str (.ofString "used") 997), (.str (.ofString "target") 998), (.str (.ofString "rest") 999)] 0), #[]⟩
noncomputable def o_473_64 : Params → Obj := fun P => ⟨(.type "tuple"), none, (.seq #[] 0), #[]⟩
noncomputable def o_474_64 : Params → Obj := fun P => ⟨.none, none, (.func ⟨(.ofString "_law_excess"), (.ofString "_law_excess"), fArgs (stAt 59), .stmts (fBody (stAt 59)), fScope (stAt 59), 0, [], .none, .none, .none, .none, none, .none, .none, 0⟩), #[]⟩
noncomputable def o_475_64 : Params → Obj := fun P => ⟨(.type "code"), none, (.fields #[(.str (.ofString "_law_excess") 993), (.str (.ofString "_law_excess") 994), (.str (.ofString "/claim/cut.py") 995), (.int 407 0), (.int 3 0), (.int 0 0), (.int 0 0), (.int 3 0), (.ref 470), (.bool true), (.int 181 0), (.ref 471), .none, (.ref 472), (.ref 473), (.ref 474), (.int 1000 0), (.int 407 0), (.str (.ofString "/claim/cut.py") 1001)]), #[]⟩
noncomputable def o_476_64 : Params → Obj := fun P => ⟨(.type "function"), none, (.func ⟨(.ofString "_law_excess"), (.ofString "_law_excess"), fArgs (stAt 59), .stmts (fBody (stAt 59)), fScope (stAt 59), 3, [], .none, .none, .none, (.str (.ofString "law_kw0010_01") 870), none, (.ref 475), .none, 0⟩), #[]⟩
noncomputable def o_477_64 : Params → Obj := fun P => ⟨(.type "tuple"), none, (.seq #[] 0), #[]⟩
noncomputable def o_478_64 : Params → Obj := fun P => ⟨.none, none, (.fields #[]), #[]⟩
noncomputable def o_479_64 : Params → Obj := fun P => ⟨.none, none, (.func ⟨(.ofString "_law_are_numbers"), (.ofString "_law_are_numbers"), fArgs (stAt 60), .stmts (fBody (stAt 60)), fScope (stAt 60), 0, [], .none, .none, .none, .none, none, .none, .none, 0⟩), #[]⟩
noncomputable def o_480_64 : Params → Obj := fun P => ⟨(.type "code"), none, (.fields #[(.str (.ofString "_law_are_numbers") 1003), (.str (.ofString "_law_are_numbers") 1004), (.str (.ofString "/claim/cut.py") 1005), (.int 410 0), (.int 1 0), (.int 0 0), (.int 0 0), (.int 3 0), (.ref 477), (.bool true), (.int 181 0), (.ref 478), .none, .none, .none, (.ref 479), (.int 1006 0), (.int 410 0), (.str (.ofString "/claim/cut.py") 1007)]), #[]⟩
noncomputable def o_481_64 : Params → Obj := fun P => ⟨(.type "function"), none, (.func ⟨(.ofString "_law_are_numbers"), (.ofString "_law_are_numbers"), fArgs (stAt 60), .stmts (fBody (stAt 60)), fScope (stAt 60), 3, [], .none, .none, .none, (.str (.ofString "law_kw0010_01") 870), none, (.ref 480), .none, 0⟩), #[]⟩
noncomputable def o_482_64 : Params → Obj := fun P => ⟨(.type "tuple"), none, (.seq #[] 0), #[]⟩
noncomputable def o_483_64 : Params → Obj := fun P => ⟨.none, none, (.fields #[]), #[]⟩
noncomputable def o_484_64 : Params → Obj := fun P => ⟨.none, none, (.func ⟨(.ofString "_law_fees_right"), (.ofString "_law_fees_right"), fArgs (stAt 61), .stmts (fBody (stAt 61)), fScope (stAt 61), 0, [], .none, .none, .none, .none, none, .none, .none, 0⟩), #[]⟩
noncomputable def o_485_64 : Params → Obj := fun P => ⟨(.type "code"), none, (.fields #[(.str (.ofString "_law_fees_right") 1009), (.str (.ofString "_law_fees_right") 1010), (.str (.ofString "/claim/cut.py") 1011), (.int 412 0), (.int 4 0), (.int 0 0), (.int 0 0), (.int 3 0), (.ref 482), (.bool true), (.int 181 0), (.ref 483), .none, .none, .none, (.ref 484), (.int 1012 0), (.int 412 0), (.str (.ofString "/claim/cut.py") 1013)]), #[]⟩
noncomputable def o_486_64 : Params → Obj := fun P => ⟨(.type "function"), none, (.func ⟨(.ofString "_law_fees_right"), (.ofString "_law_fees_right"), fArgs (stAt 61), .stmts (fBody (stAt 61)), fScope (stAt 61), 3, [], .none, .none, .none, (.str (.ofString "law_kw0010_01") 870), none, (.ref 485), .none, 0⟩), #[]⟩
noncomputable def o_487_64 : Params → Obj := fun P => ⟨(.type "tuple"), none, (.seq #[] 0), #[]⟩
noncomputable def o_488_64 : Params → Obj := fun P => ⟨.none, none, (.fields #[]), #[]⟩
noncomputable def o_489_64 : Params → Obj := fun P => ⟨(.type "tuple"), none, (.seq #[(.str (.ofString "d") 1018), (.str (.ofString "limit") 1019), (.str (.ofString "used") 1020), (.str (.ofString "low") 1021), (.str (.ofString "high") 1022), (.str (.ofString "least") 1023), (.str (.ofString "told") 1024)] 0), #[]⟩
noncomputable def o_490_64 : Params → Obj := fun P => ⟨(.type "tuple"), none, (.seq #[] 0), #[]⟩
noncomputable def o_491_64 : Params → Obj := fun P => ⟨.none, none, (.func ⟨(.ofString "_law_limits_right"), (.ofString "_law_limits_right"), fArgs (stAt 62), .stmts (fBody (stAt 62)), fScope (stAt 62), 0, [], .none, .none, .none, .none, none, .none, .none, 0⟩), #[]⟩
noncomputable def o_492_64 : Params → Obj := fun P => ⟨(.type "code"), none, (.fields #[(.str (.ofString "_law_limits_right") 1015), (.str (.ofString "_law_limits_right") 1016), (.str (.ofString "/claim/cut.py") 1017), (.int 420 0), (.int 3 0), (.int 0 0), (.int 0 0), (.int 3 0), (.ref 487), (.bool true), (.int 181 0), (.ref 488), .none, (.ref 489), (.ref 490), (.ref 491), (.int 1025 0), (.int 420 0), (.str (.ofString "/claim/cut.py") 1026)]), #[]⟩
noncomputable def o_493_64 : Params → Obj := fun P => ⟨(.type "function"), none, (.func ⟨(.ofString "_law_limits_right"), (.ofString "_law_limits_right"), fArgs (stAt 62), .stmts (fBody (stAt 62)), fScope (stAt 62), 3, [], .none, .none, .none, (.str (.ofString "law_kw0010_01") 870), none, (.ref 492), .none, 0⟩), #[]⟩
noncomputable def o_494_64 : Params → Obj := fun P => ⟨(.type "tuple"), none, (.seq #[] 0), #[]⟩
noncomputable def o_495_64 : Params → Obj := fun P => ⟨.none, none, (.fields #[]), #[]⟩
noncomputable def o_496_64 : Params → Obj := fun P => ⟨(.type "tuple"), none, (.seq #[(.str (.ofString "d") 1031), (.str (.ofString "excess") 1032), (.str (.ofString "used") 1033), (.str (.ofString "one") 1034), (.str (.ofString "other") 1035), (.str (.ofString "plain") 1036), (.str (.ofString "fraction") 1037), (.str (.ofString "told") 1038)] 0), #[]⟩
noncomputable def o_497_64 : Params → Obj := fun P => ⟨(.type "tuple"), none, (.seq #[] 0), #[]⟩
noncomputable def o_498_64 : Params → Obj := fun P => ⟨.none, none, (.func ⟨(.ofString "_law_blobs_right"), (.ofString "_law_blobs_right"), fArgs (stAt 63), .stmts (fBody (stAt 63)), fScope (stAt 63), 0, [], .none, .none, .none, .none, none, .none, .none, 0⟩), #[]⟩
noncomputable def o_499_64 : Params → Obj := fun P => ⟨(.type "code"), none, (.fields #[(.str (.ofString "_law_blobs_right") 1028), (.str (.ofString "_law_blobs_right") 1029), (.str (.ofString "/claim/cut.py") 1030), (.int 435 0), (.int 3 0), (.int 0 0), (.int 0 0), (.int 3 0), (.ref 494), (.bool true), (.int 181 0), (.ref 495), .none, (.ref 496), (.ref 497), (.ref 498), (.int 1039 0), (.int 435 0), (.str (.ofString "/claim/cut.py") 1040)]), #[]⟩
noncomputable def o_500_64 : Params → Obj := fun P => ⟨(.type "function"), none, (.func ⟨(.ofString "_law_blobs_right"), (.ofString "_law_blobs_right"), fArgs (stAt 63), .stmts (fBody (stAt 63)), fScope (stAt 63), 3, [], .none, .none, .none, (.str (.ofString "law_kw0010_01") 870), none, (.ref 499), .none, 0⟩), #[]⟩
noncomputable def o_501_64 : Params → Obj := fun P => ⟨(.type "tuple"), none, (.seq #[] 0), #[]⟩
noncomputable def o_502_64 : Params → Obj := fun P => ⟨.none, none, (.fields #[]), #[]⟩
noncomputable def o_503_64 : Params → Obj := fun P => ⟨(.type "tuple"), none, (.seq #[(.str (.ofString "script") 1045), (.str (.ofString "d") 1046), (.str (.ofString "time") 1047), (.str (.ofString "weight") 1048), (.str (.ofString "place") 1049), (.str (.ofString "limit") 1050), (.str (.ofString "fee") 1051), (.str (.ofString "excess") 1052), (.str (.ofString "turn") 1053), (.str (.ofString "uncles") 1054), (.str (.ofString "went") 1055), (.str (.ofString "used") 1056), (.str (.ofString "parent") 1057), (.str (.ofString "told") 1058), (.str (.ofString "due") 1059), (.str (.ofString "blobs") 1060)] 0), #[]⟩
noncomputable def o_504_64 : Params → Obj := fun P => ⟨(.type "tuple"), none, (.seq #[] 0), #[]⟩
noncomputable def o_505_64 : Params → Obj := fun P => ⟨.none, none, (.func ⟨(.ofString "law"), (.ofString "law"), fArgs (stAt 64), .stmts (fBody (stAt 64)), fScope (stAt 64), 0, [], .none, .none, .none, .none, none, .none, .none, 0⟩), #[]⟩
noncomputable def o_506_64 : Params → Obj := fun P => ⟨(.type "code"), none, (.fields #[(.str (.ofString "law") 1042), (.str (.ofString "law") 1043), (.str (.ofString "/claim/cut.py") 1044), (.int 450 0), (.int 1 0), (.int 0 0), (.int 0 0), (.int 3 0), (.ref 501), (.bool true), (.int 181 0), (.ref 502), .none, (.ref 503), (.ref 504), (.ref 505), (.int 1061 0), (.int 450 0), (.str (.ofString "/claim/cut.py") 1062)]), #[]⟩
noncomputable def o_507_64 : Params → Obj := fun P => ⟨(.type "function"), none, (.func ⟨(.ofString "law"), (.ofString "law"), fArgs (stAt 64), .stmts (fBody (stAt 64)), fScope (stAt 64), 3, [], .none, .none, .none, (.str (.ofString "law_kw0010_01") 870), none, (.ref 506), .none, 0⟩), #[]⟩
noncomputable def tree_64 : Params → BT := fun P => (.node (PySem.W.boot_o_0 P) (.node (PySem.W.boot_o_1 P) (.node (o_3_64 P) (.node (PySem.W.boot_o_7 P) (.node (o_15_10 P) (.node (o_31_10 P) (.node (o_63_10 P) (.node (o_127_11 P) (.node (o_255_13 P) .nil .nil) (.node (o_383_64 P) .nil .nil)) (.node (o_191_12 P) (.node (o_319_13 P) .nil .nil) (.node (o_447_64 P) .nil .nil))) (.node (o_95_11 P) (.node (o_159_11 P) (.node (o_287_13 P) .nil .nil) (.node (o_415_64 P) .nil .nil)) (.node (o_223_12 P) (.node (o_351_64 P) .nil .nil) (.node (o_479_64 P) .nil .nil)))) (.node (o_47_10 P) (.node (o_79_10 P) (.node (o_143_11 P) (.node (o_271_13 P) .nil .nil) (.node (o_399_64 P) .nil .nil)) (.node (o_207_12 P) (.node (o_335_64 P) .nil .nil) (.node (o_463_64 P) .nil .nil))) (.node (o_111_11 P) (.node (o_175_11 P) (.node (o_303_13 P) .nil .nil) (.node (o_431_64 P) .nil .nil)) (.node (o_239_12 P) (.node (o_367_64 P) .nil .nil) (.node (o_495_64 P) .nil .nil))))) (.node (o_23_10 P) (.node (o_39_10 P) (.node (o_71_10 P) (.node (o_135_11 P) (.node (o_263_13 P) .nil .nil) (.node (o_391_64 P) .nil .nil)) (.node (o_199_12 P) (.node (o_327_64 P) .nil .nil) (.node (o_455_64 P) .nil .nil))) (.node (o_103_11 P) (.node (o_167_11 P) (.node (o_295_13 P) .nil .nil) (.node (o_423_64 P) .nil .nil)) (.node (o_231_12 P) (.node (o_359_64 P) .nil .nil) (.node (o_487_64 P) .nil .nil)))) (.node (o_55_10 P) (.node (o_87_10 P) (.node (o_151_11 P) (.node (o_279_13 P) .nil .nil) (.node (o_407_64 P) .nil .nil)) (.node (o_215_12 P) (.node (o_343_64 P) .nil .nil) (.node (o_471_64 P) .nil .nil))) (.node (o_119_11 P) (.node (o_183_12 P) (.node (o_311_13 P) .nil .nil) (.node (o_439_64 P) .nil .nil)) (.node (o_247_12 P) (.node (o_375_64 P) .nil .nil) (.node (o_503_64 P) .nil .nil)))))) (.node (o_11_a P) (.node (o_19_10 P) (.node (o_35_10 P) (.node (o_67_10 P) (.node (o_131_11 P) (.node (o_259_13 P) .nil .nil) (.node (o_387_64 P) .nil .nil)) (.node (o_195_12 P) (.node (o_323_64 P) .nil .nil) (.node (o_451_64 P) .nil .nil))) (.node (o_99_11 P) (.node (o_163_11 P) (.node (o_291_13 P) .nil .nil) (.node (o_419_64 P) .nil .nil)) (.node (o_227_12 P) (.node (o_355_64 P) .nil .nil) (.node (o_483_64 P) .nil .nil)))) (.node (o_51_10 P) (.node (o_83_10 P) (.node (o_147_11 P) (.node (o_275_13 P) .nil .nil) (.node (o_403_64 P) .nil .nil)) (.node (o_211_12 P) (.node (o_339_64 P) .nil .nil) (.node (o_467_64 P) .nil .nil))) (.node (o_115_11 P) (.node (o_179_12 P) (.node (o_307_13 P) .nil .nil) (.node (o_435_64 P) .nil .nil)) (.node (o_243_12 P) (.node (o_371_64 P) .nil .nil) (.node (o_499_64 P) .nil .nil))))) (.node (o_27_10 P) (.node (o_43_10 P) (.node (o_75_10 P) (.node (o_139_11 P) (.node (o_267_13 P) .nil .nil) (.node (o_395_64 P) .nil .nil)) (.node (o_203_12 P) (.node (o_331_64 P) .nil .nil) (.node (o_459_64 P) .nil .nil))) (.node (o_107_11 P) (.node (o_171_11 P) (.node (o_299_13 P) .nil .nil) (.node (o_427_64 P) .nil .nil)) (.node (o_235_12 P) (.node (o_363_64 P) .nil .nil) (.node (o_491_64 P) .nil .nil)))) (.node (o_59_10 P) (.node (o_91_10 P) (.node (o_155_11 P) (.node (o_283_13 P) .nil .nil) (.node (o_411_64 P) .nil .nil)) (.node (o_219_12 P) (.node (o_347_64 P) .nil .nil) (.node (o_475_64 P) .nil .nil))) (.node (o_123_11 P) (.node (o_187_12 P) (.node (o_315_13 P) .nil .nil) (.node (o_443_64 P) .nil .nil)) (.node (o_251_13 P) (.node (o_379_64 P) .nil .nil) (.node (o_507_64 P) .nil .nil))))))) (.node (PySem.W.boot_o_5 P) (.node (PySem.W.boot_o_9 P) (.node (o_17_10 P) (.node (o_33_10 P) (.node (o_65_10 P) (.node (o_129_11 P) (.node (o_257_13 P) .nil .nil) (.node (o_385_64 P) .nil .nil)) (.node (o_193_12 P) (.node (o_321_64 P) .nil .nil) (.node (o_449_64 P) .nil .nil))) (.node (o_97_11 P) (.node (o_161_11 P) (.node (o_289_13 P) .nil .nil) (.node (o_417_64 P) .nil .nil)) (.node (o_225_12 P) (.node (o_353_64 P) .nil .nil) (.node (o_481_64 P) .nil .nil)))) (.node (o_49_10 P) (.node (o_81_10 P) (.node (o_145_11 P) (.node (o_273_13 P) .nil .nil) (.node (o_401_64 P) .nil .nil)) (.node (o_209_12 P) (.node (o_337_64 P) .nil .nil) (.node (o_465_64 P) .nil .nil))) (.node (o_113_11 P) (.node (o_177_12 P) (.node (o_305_13 P) .nil .nil) (.node (o_433_64 P) .nil .nil)) (.node (o_241_12 P) (.node (o_369_64 P) .nil .nil) (.node (o_497_64 P) .nil .nil))))) (.node (o_25_10 P) (.node (o_41_10 P) (.node (o_73_10 P) (.node (o_137_11 P) (.node (o_265_13 P) .nil .nil) (.node (o_393_64 P) .nil .nil)) (.node (o_201_12 P) (.node (o_329_64 P) .nil .nil) (.node (o_457_64 P) .nil .nil))) (.node (o_105_11 P) (.node (o_169_11 P) (.node (o_297_13 P) .nil .nil) (.node (o_425_64 P) .nil .nil)) (.node (o_233_12 P) (.node (o_361_64 P) .nil .nil) (.node (o_489_64 P) .nil .nil)))) (.node (o_57_10 P) (.node (o_89_10 P) (.node (o_153_11 P) (.node (o_281_13 P) .nil .nil) (.node (o_409_64 P) .nil .nil)) (.node (o_217_12 P) (.node (o_345_64 P) .nil .nil) (.node (o_473_64 P) .nil .nil))) (.node (o_121_11 P) (.node (o_185_12 P) (.node (o_313_13 P) .nil .nil) (.node (o_441_64 P) .nil .nil)) (.node (o_249_12 P) (.node (o_377_64 P) .nil .nil) (.node (o_505_64 P) .nil .nil)))))) (.node (o_13_a P) (.node (o_21_10 P) (.node (o_37_10 P) (.node (o_69_10 P) (.node (o_133_11 P) (.node (o_261_13 P) .nil .nil) (.node (o_389_64 P) .nil .nil)) (.node (o_197_12 P) (.node (o_325_64 P) .nil .nil) (.node (o_453_64 P) .nil .nil))) (.node (o_101_11 P) (.node (o_165_11 P) (.node (o_293_13 P) .nil .nil) (.node (o_421_64 P) .nil .nil)) (.node (o_229_12 P) (.node (o_357_64 P) .nil .nil) (.node (o_485_64 P) .nil .nil)))) (.node (o_53_10 P) (.node (o_85_10 P) (.node (o_149_11 P) (.node (o_277_13 P) .nil .nil) (.node (o_405_64 P) .nil .nil)) (.node (o_213_12 P) (.node (o_341_64 P) .nil .nil) (.node (o_469_64 P) .nil .nil))) (.node (o_117_11 P) (.node (o_181_12 P) (.node (o_309_13 P) .nil .nil) (.node (o_437_64 P) .nil .nil)) (.node (o_245_12 P) (.node (o_373_64 P) .nil .nil) (.node (o_501_64 P) .nil .nil))))) (.node (o_29_10 P) (.node (o_45_10 P) (.node (o_77_10 P) (.node (o_141_11 P) (.node (o_269_13 P) .nil .nil) (.node (o_397_64 P) .nil .nil)) (.node (o_205_12 P) (.node (o_333_64 P) .nil .nil) (.node (o_461_64 P) .nil .nil))) (.node (o_109_11 P) (.node (o_173_11 P) (.node (o_301_13 P) .nil .nil) (.node (o_429_64 P) .nil .nil)) (.node (o_237_12 P) (.node (o_365_64 P) .nil .nil) (.node (o_493_64 P) .nil .nil)))) (.node (o_61_10 P) (.node (o_93_11 P) (.node (o_157_11 P) (.node (o_285_13 P) .nil .nil) (.node (o_413_64 P) .nil .nil)) (.node (o_221_12 P) (.node (o_349_64 P) .nil .nil) (.node (o_477_64 P) .nil .nil))) (.node (o_125_11 P) (.node (o_189_12 P) (.node (o_317_13 P) .nil .nil) (.node (o_445_64 P) .nil .nil)) (.node (o_253_13 P) (.node (o_381_64 P) .nil .nil) .nil))))))) (.node (o_2_10 P) (.node (PySem.W.boot_o_4 P) (.node (PySem.W.boot_o_8 P) (.node (o_16_10 P) (.node (o_32_10 P) (.node (o_64_10 P) (.node (o_128_11 P) (.node (o_256_13 P) .nil .nil) (.node (o_384_64 P) .nil .nil)) (.node (o_192_12 P) (.node (o_320_13 P) .nil .nil) (.node (o_448_64 P) .nil .nil))) (.node (o_96_11 P) (.node (o_160_11 P) (.node (o_288_13 P) .nil .nil) (.node (o_416_64 P) .nil .nil)) (.node (o_224_12 P) (.node (o_352_64 P) .nil .nil) (.node (o_480_64 P) .nil .nil)))) (.node (o_48_10 P) (.node (o_80_10 P) (.node (o_144_11 P) (.node (o_272_13 P) .nil .nil) (.node (o_400_64 P) .nil .nil)) (.node (o_208_12 P) (.node (o_336_64 P) .nil .nil) (.node (o_464_64 P) .nil .nil))) (.node (o_112_11 P) (.node (o_176_12 P) (.node (o_304_13 P) .nil .nil) (.node (o_432_64 P) .nil .nil)) (.node (o_240_12 P) (.node (o_368_64 P) .nil .nil) (.node (o_496_64 P) .nil .nil))))) (.node (o_24_10 P) (.node (o_40_10 P) (.node (o_72_10 P) (.node (o_136_11 P) (.node (o_264_13 P) .nil .nil) (.node (o_392_64 P) .nil .nil)) (.node (o_200_12 P) (.node (o_328_64 P) .nil .nil) (.node (o_456_64 P) .nil .nil))) (.node (o_104_11 P) (.node (o_168_11 P) (.node (o_296_13 P) .nil .nil) (.node (o_424_64 P) .nil .nil)) (.node (o_232_12 P) (.node (o_360_64 P) .nil .nil) (.node (o_488_64 P) .nil .nil)))) (.node (o_56_10 P) (.node (o_88_10 P) (.node (o_152_11 P) (.node (o_280_13 P) .nil .nil) (.node (o_408_64 P) .nil .nil)) (.node (o_216_12 P) (.node (o_344_64 P) .nil .nil) (.node (o_472_64 P) .nil .nil))) (.node (o_120_11 P) (.node (o_184_12 P) (.node (o_312_13 P) .nil .nil) (.node (o_440_64 P) .nil .nil)) (.node (o_248_12 P) (.node (o_376_64 P) .nil .nil) (.node (o_504_64 P) .nil .nil)))))) (.node (o_12_64 P) (.node (o_20_10 P) (.node (o_36_10 P) (.node (o_68_10 P) (.node (o_132_11 P) (.node (o_260_13 P) .nil .nil) (.node (o_388_64 P) .nil .nil)) (.node (o_196_12 P) (.node (o_324_64 P) .nil .nil) (.node (o_452_64 P) .nil .nil))) (.node (o_100_11 P) (.node (o_164_11 P) (.node (o_292_13 P) .nil .nil) (.node (o_420_64 P) .nil .nil)) (.node (o_228_12 P) (.node (o_356_64 P) .nil .nil) (.node (o_484_64 P) .nil .nil)))) (.node (o_52_10 P) (.node (o_84_10 P) (.node (o_148_11 P) (.node (o_276_13 P) .nil .nil) (.node (o_404_64 P) .nil .nil)) (.node (o_212_12 P) (.node (o_340_64 P) .nil .nil) (.node (o_468_64 P) .nil .nil))) (.node (o_116_11 P) (.node (o_180_12 P) (.node (o_308_13 P) .nil .nil) (.node (o_436_64 P) .nil .nil)) (.node (o_244_12 P) (.node (o_372_64 P) .nil .nil) (.node (o_500_64 P) .nil .nil))))) (.node (o_28_10 P) (.node (o_44_10 P) (.node (o_76_10 P) (.node (o_140_11 P) (.node (o_268_13 P) .nil .nil) (.node (o_396_64 P) .nil .nil)) (.node (o_204_12 P) (.node (o_332_64 P) .nil .nil) (.node (o_460_64 P) .nil .nil))) (.node (o_108_11 P) (.node (o_172_11 P) (.node (o_300_13 P) .nil .nil) (.node (o_428_64 P) .nil .nil)) (.node (o_236_12 P) (.node (o_364_64 P) .nil .nil) (.node (o_492_64 P) .nil .nil)))) (.node (o_60_10 P) (.node (o_92_10 P) (.node (o_156_11 P) (.node (o_284_13 P) .nil .nil) (.node (o_412_64 P) .nil .nil)) (.node (o_220_12 P) (.node (o_348_64 P) .nil .nil) (.node (o_476_64 P) .nil .nil))) (.node (o_124_11 P) (.node (o_188_12 P) (.node (o_316_13 P) .nil .nil) (.node (o_444_64 P) .nil .nil)) (.node (o_252_13 P) (.node (o_380_64 P) .nil .nil) .nil)))))) (.node (PySem.W.boot_o_6 P) (.node (PySem.W.boot_o_10 P) (.node (o_18_10 P) (.node (o_34_10 P) (.node (o_66_10 P) (.node (o_130_11 P) (.node (o_258_13 P) .nil .nil) (.node (o_386_64 P) .nil .nil)) (.node (o_194_12 P) (.node (o_322_64 P) .nil .nil) (.node (o_450_64 P) .nil .nil))) (.node (o_98_11 P) (.node (o_162_11 P) (.node (o_290_13 P) .nil .nil) (.node (o_418_64 P) .nil .nil)) (.node (o_226_12 P) (.node (o_354_64 P) .nil .nil) (.node (o_482_64 P) .nil .nil)))) (.node (o_50_10 P) (.node (o_82_10 P) (.node (o_146_11 P) (.node (o_274_13 P) .nil .nil) (.node (o_402_64 P) .nil .nil)) (.node (o_210_12 P) (.node (o_338_64 P) .nil .nil) (.node (o_466_64 P) .nil .nil))) (.node (o_114_11 P) (.node (o_178_12 P) (.node (o_306_13 P) .nil .nil) (.node (o_434_64 P) .nil .nil)) (.node (o_242_12 P) (.node (o_370_64 P) .nil .nil) (.node (o_498_64 P) .nil .nil))))) (.node (o_26_10 P) (.node (o_42_10 P) (.node (o_74_10 P) (.node (o_138_11 P) (.node (o_266_13 P) .nil .nil) (.node (o_394_64 P) .nil .nil)) (.node (o_202_12 P) (.node (o_330_64 P) .nil .nil) (.node (o_458_64 P) .nil .nil))) (.node (o_106_11 P) (.node (o_170_11 P) (.node (o_298_13 P) .nil .nil) (.node (o_426_64 P) .nil .nil)) (.node (o_234_12 P) (.node (o_362_64 P) .nil .nil) (.node (o_490_64 P) .nil .nil)))) (.node (o_58_10 P) (.node (o_90_10 P) (.node (o_154_11 P) (.node (o_282_13 P) .nil .nil) (.node (o_410_64 P) .nil .nil)) (.node (o_218_12 P) (.node (o_346_64 P) .nil .nil) (.node (o_474_64 P) .nil .nil))) (.node (o_122_11 P) (.node (o_186_12 P) (.node (o_314_13 P) .nil .nil) (.node (o_442_64 P) .nil .nil)) (.node (o_250_13 P) (.node (o_378_64 P) .nil .nil) (.node (o_506_64 P) .nil .nil)))))) (.node (o_14_a P) (.node (o_22_10 P) (.node (o_38_10 P) (.node (o_70_10 P) (.node (o_134_11 P) (.node (o_262_13 P) .nil .nil) (.node (o_390_64 P) .nil .nil)) (.node (o_198_12 P) (.node (o_326_64 P) .nil .nil) (.node (o_454_64 P) .nil .nil))) (.node (o_102_11 P) (.node (o_166_11 P) (.node (o_294_13 P) .nil .nil) (.node (o_422_64 P) .nil .nil)) (.node (o_230_12 P) (.node (o_358_64 P) .nil .nil) (.node (o_486_64 P) .nil .nil)))) (.node (o_54_10 P) (.node (o_86_10 P) (.node (o_150_11 P) (.node (o_278_13 P) .nil .nil) (.node (o_406_64 P) .nil .nil)) (.node (o_214_12 P) (.node (o_342_64 P) .nil .nil) (.node (o_470_64 P) .nil .nil))) (.node (o_118_11 P) (.node (o_182_12 P) (.node (o_310_13 P) .nil .nil) (.node (o_438_64 P) .nil .nil)) (.node (o_246_12 P) (.node (o_374_64 P) .nil .nil) (.node (o_502_64 P) .nil .nil))))) (.node (o_30_10 P) (.node (o_46_10 P) (.node (o_78_10 P) (.node (o_142_11 P) (.node (o_270_13 P) .nil .nil) (.node (o_398_64 P) .nil .nil)) (.node (o_206_12 P) (.node (o_334_64 P) .nil .nil) (.node (o_462_64 P) .nil .nil))) (.node (o_110_11 P) (.node (o_174_11 P) (.node (o_302_13 P) .nil .nil) (.node (o_430_64 P) .nil .nil)) (.node (o_238_12 P) (.node (o_366_64 P) .nil .nil) (.node (o_494_64 P) .nil .nil)))) (.node (o_62_10 P) (.node (o_94_11 P) (.node (o_158_11 P) (.node (o_286_13 P) .nil .nil) (.node (o_414_64 P) .nil .nil)) (.node (o_222_12 P) (.node (o_350_64 P) .nil .nil) (.node (o_478_64 P) .nil .nil))) (.node (o_126_11 P) (.node (o_190_12 P) (.node (o_318_13 P) .nil .nil) (.node (o_446_64 P) .nil .nil)) (.node (o_254_13 P) (.node (o_382_64 P) .nil .nil) .nil))))))))
-- state 64: objs 508 toks 1064
noncomputable def heap_f : Params → Heap := fun P => ⟨⟨(PySem.W.boot_o_0 P :: PySem.W.boot_o_1 P :: o_2_10 P :: o_3_64 P :: PySem.W.boot_o_4 P :: PySem.W.boot_o_5 P :: PySem.W.boot_o_6 P :: PySem.W.boot_o_7 P :: PySem.W.boot_o_8 P :: PySem.W.boot_o_9 P :: PySem.W.boot_o_10 P :: o_11_a P :: o_12_64 P :: o_13_a P :: o_14_a P :: o_15_10 P :: o_16_10 P :: o_17_10 P :: o_18_10 P :: o_19_10 P :: o_20_10 P :: o_21_10 P :: o_22_10 P :: o_23_10 P :: o_24_10 P :: o_25_10 P :: o_26_10 P :: o_27_10 P :: o_28_10 P :: o_29_10 P :: o_30_10 P :: o_31_10 P :: o_32_10 P :: o_33_10 P :: o_34_10 P :: o_35_10 P :: o_36_10 P :: o_37_10 P :: o_38_10 P :: o_39_10 P :: o_40_10 P :: o_41_10 P :: o_42_10 P :: o_43_10 P :: o_44_10 P :: o_45_10 P :: o_46_10 P :: o_47_10 P :: o_48_10 P :: o_49_10 P :: o_50_10 P :: o_51_10 P :: o_52_10 P :: o_53_10 P :: o_54_10 P :: o_55_10 P :: o_56_10 P :: o_57_10 P :: o_58_10 P :: o_59_10 P :: o_60_10 P :: o_61_10 P :: o_62_10 P :: o_63_10 P :: o_64_10 P :: o_65_10 P :: o_66_10 P :: o_67_10 P :: o_68_10 P :: o_69_10 P :: o_70_10 P :: o_71_10 P :: o_72_10 P :: o_73_10 P :: o_74_10 P :: o_75_10 P :: o_76_10 P :: o_77_10 P :: o_78_10 P :: o_79_10 P :: o_80_10 P :: o_81_10 P :: o_82_10 P :: o_83_10 P :: o_84_10 P :: o_85_10 P :: o_86_10 P :: o_87_10 P :: o_88_10 P :: o_89_10 P :: o_90_10 P :: o_91_10 P :: o_92_10 P :: o_93_11 P :: o_94_11 P :: o_95_11 P :: o_96_11 P :: o_97_11 P :: o_98_11 P :: o_99_11 P :: o_100_11 P :: o_101_11 P :: o_102_11 P :: o_103_11 P :: o_104_11 P :: o_105_11 P :: o_106_11 P :: o_107_11 P :: o_108_11 P :: o_109_11 P :: o_110_11 P :: o_111_11 P :: o_112_11 P :: o_113_11 P :: o_114_11 P :: o_115_11 P :: o_116_11 P :: o_117_11 P :: o_118_11 P :: o_119_11 P :: o_120_11 P :: o_121_11 P :: o_122_11 P :: o_123_11 P :: o_124_11 P :: o_125_11 P :: o_126_11 P :: o_127_11 P :: o_128_11 P :: o_129_11 P :: o_130_11 P :: o_131_11 P :: o_132_11 P :: o_133_11 P :: o_134_11 P :: o_135_11 P :: o_136_11 P :: o_137_11 P :: o_138_11 P :: o_139_11 P :: o_140_11 P :: o_141_11 P :: o_142_11 P :: o_143_11 P :: o_144_11 P :: o_145_11 P :: o_146_11 P :: o_147_11 P :: o_148_11 P :: o_149_11 P :: o_150_11 P :: o_151_11 P :: o_152_11 P :: o_153_11 P :: o_154_11 P :: o_155_11 P :: o_156_11 P :: o_157_11 P :: o_158_11 P :: o_159_11 P :: o_160_11 P :: o_161_11 P :: o_162_11 P :: o_163_11 P :: o_164_11 P :: o_165_11 P :: o_166_11 P :: o_167_11 P :: o_168_11 P :: o_169_11 P :: o_170_11 P :: o_171_11 P :: o_172_11 P :: o_173_11 P :: o_174_11 P :: o_175_11 P :: o_176_12 P :: o_177_12 P :: o_178_12 P :: o_179_12 P :: o_180_12 P :: o_181_12 P :: o_182_12 P :: o_183_12 P :: o_184_12 P :: o_185_12 P :: o_186_12 P :: o_187_12 P :: o_188_12 P :: o_189_12 P :: o_190_12 P :: o_191_12 P :: o_192_12 P :: o_193_12 P :: o_194_12 P :: o_195_12 P :: o_196_12 P :: o_197_12 P :: o_198_12 P :: o_199_12 P :: o_200_12 P :: o_201_12 P :: o_202_12 P :: o_203_12 P :: o_204_12 P :: o_205_12 P :: o_206_12 P :: o_207_12 P :: o_208_12 P :: o_209_12 P :: o_210_12 P :: o_211_12 P :: o_212_12 P :: o_213_12 P :: o_214_12 P :: o_215_12 P :: o_216_12 P :: o_217_12 P :: o_218_12 P :: o_219_12 P :: o_220_12 P :: o_221_12 P :: o_222_12 P :: o_223_12 P :: o_224_12 P :: o_225_12 P :: o_226_12 P :: o_227_12 P :: o_228_12 P :: o_229_12 P :: o_230_12 P :: o_231_12 P :: o_232_12 P :: o_233_12 P :: o_234_12 P :: o_235_12 P :: o_236_12 P :: o_237_12 P :: o_238_12 P :: o_239_12 P :: o_240_12 P :: o_241_12 P :: o_242_12 P :: o_243_12 P :: o_244_12 P :: o_245_12 P :: o_246_12 P :: o_247_12 P :: o_248_12 P :: o_249_12 P :: o_250_13 P :: o_251_13 P :: o_252_13 P :: o_253_13 P :: o_254_13 P :: o_255_13 P :: o_256_13 P :: o_257_13 P :: o_258_13 P :: o_259_13 P :: o_260_13 P :: o_261_13 P :: o_262_13 P :: o_263_13 P :: o_264_13 P :: o_265_13 P :: o_266_13 P :: o_267_13 P :: o_268_13 P :: o_269_13 P :: o_270_13 P :: o_271_13 P :: o_272_13 P :: o_273_13 P :: o_274_13 P :: o_275_13 P :: o_276_13 P :: o_277_13 P :: o_278_13 P :: o_279_13 P :: o_280_13 P :: o_281_13 P :: o_282_13 P :: o_283_13 P :: o_284_13 P :: o_285_13 P :: o_286_13 P :: o_287_13 P :: o_288_13 P :: o_289_13 P :: o_290_13 P :: o_291_13 P :: o_292_13 P :: o_293_13 P :: o_294_13 P :: o_295_13 P :: o_296_13 P :: o_297_13 P :: o_298_13 P :: o_299_13 P :: o_300_13 P :: o_301_13 P :: o_302_13 P :: o_303_13 P :: o_304_13 P :: o_305_13 P :: o_306_13 P :: o_307_13 P :: o_308_13 P :: o_309_13 P :: o_310_13 P :: o_311_13 P :: o_312_13 P :: o_313_13 P :: o_314_13 P :: o_315_13 P :: o_316_13 P :: o_317_13 P :: o_318_13 P :: o_319_13 P :: o_320_13 P :: o_321_64 P :: o_322_64 P :: o_323_64 P :: o_324_64 P :: o_325_64 P :: o_326_64 P :: o_327_64 P :: o_328_64 P :: o_329_64 P :: o_330_64 P :: o_331_64 P :: o_332_64 P :: o_333_64 P :: o_334_64 P :: o_335_64 P :: o_336_64 P :: o_337_64 P :: o_338_64 P :: o_339_64 P :: o_340_64 P :: o_341_64 P :: o_342_64 P :: o_343_64 P :: o_344_64 P :: o_345_64 P :: o_346_64 P :: o_347_64 P :: o_348_64 P :: o_349_64 P :: o_350_64 P :: o_351_64 P :: o_352_64 P :: o_353_64 P :: o_354_64 P :: o_355_64 P :: o_356_64 P :: o_357_64 P :: o_358_64 P :: o_359_64 P :: o_360_64 P :: o_361_64 P :: o_362_64 P :: o_363_64 P :: o_364_64 P :: o_365_64 P :: o_366_64 P :: o_367_64 P :: o_368_64 P :: o_369_64 P :: o_370_64 P :: o_371_64 P :: o_372_64 P :: o_373_64 P :: o_374_64 P :: o_375_64 P :: o_376_64 P :: o_377_64 P :: o_378_64 P :: o_379_64 P :: o_380_64 P :: o_381_64 P :: o_382_64 P :: o_383_64 P :: o_384_64 P :: o_385_64 P :: o_386_64 P :: o_387_64 P :: o_388_64 P :: o_389_64 P :: o_390_64 P :: o_391_64 P :: o_392_64 P :: o_393_64 P :: o_394_64 P :: o_395_64 P :: o_396_64 P :: o_397_64 P :: o_398_64 P :: o_399_64 P :: o_400_64 P :: o_401_64 P :: o_402_64 P :: o_403_64 P :: o_404_64 P :: o_405_64 P :: o_406_64 P :: o_407_64 P :: o_408_64 P :: o_409_64 P :: o_410_64 P :: o_411_64 P :: o_412_64 P :: o_413_64 P :: o_414_64 P :: o_415_64 P :: o_416_64 P :: o_417_64 P :: o_418_64 P :: o_419_64 P :: o_420_64 P :: o_421_64 P :: o_422_64 P :: o_423_64 P :: o_424_64 P :: o_425_64 P :: o_426_64 P :: o_427_64 P :: o_428_64 P :: o_429_64 P :: o_430_64 P :: o_431_64 P :: o_432_64 P :: o_433_64 P :: o_434_64 P :: o_435_64 P :: o_436_64 P :: o_437_64 P :: o_438_64 P :: o_439_64 P :: o_440_64 P :: o_441_64 P :: o_442_64 P :: o_443_64 P :: o_444_64 P :: o_445_64 P :: o_446_64 P :: o_447_64 P :: o_448_64 P :: o_449_64 P :: o_450_64 P :: o_451_64 P :: o_452_64 P :: o_453_64 P :: o_454_64 P :: o_455_64 P :: o_456_64 P :: o_457_64 P :: o_458_64 P :: o_459_64 P :: o_460_64 P :: o_461_64 P :: o_462_64 P :: o_463_64 P :: o_464_64 P :: o_465_64 P :: o_466_64 P :: o_467_64 P :: o_468_64 P :: o_469_64 P :: o_470_64 P :: o_471_64 P :: o_472_64 P :: o_473_64 P :: o_474_64 P :: o_475_64 P :: o_476_64 P :: o_477_64 P :: o_478_64 P :: o_479_64 P :: o_480_64 P :: o_481_64 P :: o_482_64 P :: o_483_64 P :: o_484_64 P :: o_485_64 P :: o_486_64 P :: o_487_64 P :: o_488_64 P :: o_489_64 P :: o_490_64 P :: o_491_64 P :: o_492_64 P :: o_493_64 P :: o_494_64 P :: o_495_64 P :: o_496_64 P :: o_497_64 P :: o_498_64 P :: o_499_64 P :: o_500_64 P :: o_501_64 P :: o_502_64 P :: o_503_64 P :: o_504_64 P :: o_505_64 P :: o_506_64 P :: o_507_64 P :: [])⟩, lifeN⟩
-- state f: objs 508 toks 1064
noncomputable def K : Params → Frag := fun P => ((nat_lit 0, PySem.W.boot_o_0 P) :: (nat_lit 1, PySem.W.boot_o_1 P) :: (nat_lit 2, o_2_10 P) :: (nat_lit 3, o_3_64 P) :: (nat_lit 4, PySem.W.boot_o_4 P) :: (nat_lit 5, PySem.W.boot_o_5 P) :: (nat_lit 6, PySem.W.boot_o_6 P) :: (nat_lit 7, PySem.W.boot_o_7 P) :: (nat_lit 8, PySem.W.boot_o_8 P) :: (nat_lit 9, PySem.W.boot_o_9 P) :: (nat_lit 10, PySem.W.boot_o_10 P) :: (nat_lit 11, o_11_a P) :: (nat_lit 12, o_12_64 P) :: (nat_lit 13, o_13_a P) :: (nat_lit 14, o_14_a P) :: (nat_lit 15, o_15_10 P) :: (nat_lit 16, o_16_10 P) :: (nat_lit 17, o_17_10 P) :: (nat_lit 18, o_18_10 P) :: (nat_lit 19, o_19_10 P) :: (nat_lit 20, o_20_10 P) :: (nat_lit 21, o_21_10 P) :: (nat_lit 22, o_22_10 P) :: (nat_lit 23, o_23_10 P) :: (nat_lit 24, o_24_10 P) :: (nat_lit 25, o_25_10 P) :: (nat_lit 26, o_26_10 P) :: (nat_lit 27, o_27_10 P) :: (nat_lit 28, o_28_10 P) :: (nat_lit 29, o_29_10 P) :: (nat_lit 30, o_30_10 P) :: (nat_lit 31, o_31_10 P) :: (nat_lit 32, o_32_10 P) :: (nat_lit 33, o_33_10 P) :: (nat_lit 34, o_34_10 P) :: (nat_lit 35, o_35_10 P) :: (nat_lit 36, o_36_10 P) :: (nat_lit 44, o_44_10 P) :: (nat_lit 45, o_45_10 P) :: (nat_lit 46, o_46_10 P) :: (nat_lit 47, o_47_10 P) :: (nat_lit 48, o_48_10 P) :: (nat_lit 49, o_49_10 P) :: (nat_lit 50, o_50_10 P) :: (nat_lit 51, o_51_10 P) :: (nat_lit 52, o_52_10 P) :: (nat_lit 53, o_53_10 P) :: (nat_lit 54, o_54_10 P) :: (nat_lit 55, o_55_10 P) :: (nat_lit 56, o_56_10 P) :: (nat_lit 57, o_57_10 P) :: (nat_lit 58, o_58_10 P) :: (nat_lit 59, o_59_10 P) :: (nat_lit 60, o_60_10 P) :: (nat_lit 61, o_61_10 P) :: (nat_lit 62, o_62_10 P) :: (nat_lit 63, o_63_10 P) :: (nat_lit 64, o_64_10 P) :: (nat_lit 65, o_65_10 P) :: (nat_lit 66, o_66_10 P) :: (nat_lit 67, o_67_10 P) :: (nat_lit 68, o_68_10 P) :: (nat_lit 69, o_69_10 P) :: (nat_lit 70, o_70_10 P) :: (nat_lit 71, o_71_10 P) :: (nat_lit 72, o_72_10 P) :: (nat_lit 73, o_73_10 P) :: (nat_lit 74, o_74_10 P) :: (nat_lit 75, o_75_10 P) :: (nat_lit 76, o_76_10 P) :: (nat_lit 77, o_77_10 P) :: (nat_lit 80, o_80_10 P) :: (nat_lit 87, o_87_10 P) :: (nat_lit 88, o_88_10 P) :: (nat_lit 89, o_89_10 P) :: (nat_lit 90, o_90_10 P) :: (nat_lit 93, o_93_11 P) :: (nat_lit 96, o_96_11 P) :: (nat_lit 101, o_101_11 P) :: (nat_lit 102, o_102_11 P) :: (nat_lit 103, o_103_11 P) :: (nat_lit 104, o_104_11 P) :: (nat_lit 105, o_105_11 P) :: (nat_lit 106, o_106_11 P) :: (nat_lit 107, o_107_11 P) :: (nat_lit 108, o_108_11 P) :: (nat_lit 109, o_109_11 P) :: (nat_lit 110, o_110_11 P) :: (nat_lit 111, o_111_11 P) :: (nat_lit 112, o_112_11 P) :: (nat_lit 113, o_113_11 P) :: (nat_lit 114, o_114_11 P) :: (nat_lit 115, o_115_11 P) :: (nat_lit 116, o_116_11 P) :: (nat_lit 117, o_117_11 P) :: (nat_lit 118, o_118_11 P) :: (nat_lit 119, o_119_11 P) :: (nat_lit 120, o_120_11 P) :: (nat_lit 121, o_121_11 P) :: (nat_lit 122, o_122_11 P) :: (nat_lit 123, o_123_11 P) :: (nat_lit 124, o_124_11 P) :: (nat_lit 125, o_125_11 P) :: (nat_lit 126, o_126_11 P) :: (nat_lit 127, o_127_11 P) :: (nat_lit 128, o_128_11 P) :: (nat_lit 129, o_129_11 P) :: (nat_lit 130, o_130_11 P) :: (nat_lit 131, o_131_11 P) :: (nat_lit 132, o_132_11 P) :: (nat_lit 133, o_133_11 P) :: (nat_lit 134, o_134_11 P) :: (nat_lit 135, o_135_11 P) :: (nat_lit 136, o_136_11 P) :: (nat_lit 137, o_137_11 P) :: (nat_lit 138, o_138_11 P) :: (nat_lit 139, o_139_11 P) :: (nat_lit 140, o_140_11 P) :: (nat_lit 141, o_141_11 P) :: (nat_lit 142, o_142_11 P) :: (nat_lit 143, o_143_11 P) :: (nat_lit 144, o_144_11 P) :: (nat_lit 145, o_145_11 P) :: (nat_lit 146, o_146_11 P) :: (nat_lit 147, o_147_11 P) :: (nat_lit 148, o_148_11 P) :: (nat_lit 149, o_149_11 P) :: (nat_lit 150, o_150_11 P) :: (nat_lit 151, o_151_11 P) :: (nat_lit 152, o_152_11 P) :: (nat_lit 154, o_154_11 P) :: (nat_lit 155, o_155_11 P) :: (nat_lit 157, o_157_11 P) :: (nat_lit 158, o_158_11 P) :: (nat_lit 160, o_160_11 P) :: (nat_lit 161, o_161_11 P) :: (nat_lit 163, o_163_11 P) :: (nat_lit 164, o_164_11 P) :: (nat_lit 166, o_166_11 P) :: (nat_lit 167, o_167_11 P) :: (nat_lit 169, o_169_11 P) :: (nat_lit 171, o_171_11 P) :: (nat_lit 172, o_172_11 P) :: (nat_lit 173, o_173_11 P) :: (nat_lit 176, o_176_12 P) :: (nat_lit 179, o_179_12 P) :: (nat_lit 184, o_184_12 P) :: (nat_lit 185, o_185_12 P) :: (nat_lit 186, o_186_12 P) :: (nat_lit 187, o_187_12 P) :: (nat_lit 188, o_188_12 P) :: (nat_lit 189, o_189_12 P) :: (nat_lit 190, o_190_12 P) :: (nat_lit 191, o_191_12 P) :: (nat_lit 192, o_192_12 P) :: (nat_lit 193, o_193_12 P) :: (nat_lit 194, o_194_12 P) :: (nat_lit 195, o_195_12 P) :: (nat_lit 196, o_196_12 P) :: (nat_lit 197, o_197_12 P) :: (nat_lit 198, o_198_12 P) :: (nat_lit 199, o_199_12 P) :: (nat_lit 200, o_200_12 P) :: (nat_lit 201, o_201_12 P) :: (nat_lit 202, o_202_12 P) :: (nat_lit 203, o_203_12 P) :: (nat_lit 204, o_204_12 P) :: (nat_lit 205, o_205_12 P) :: (nat_lit 206, o_206_12 P) :: (nat_lit 207, o_207_12 P) :: (nat_lit 208, o_208_12 P) :: (nat_lit 209, o_209_12 P) :: (nat_lit 210, o_210_12 P) :: (nat_lit 211, o_211_12 P) :: (nat_lit 212, o_212_12 P) :: (nat_lit 213, o_213_12 P) :: (nat_lit 214, o_214_12 P) :: (nat_lit 215, o_215_12 P) :: (nat_lit 216, o_216_12 P) :: (nat_lit 217, o_217_12 P) :: (nat_lit 218, o_218_12 P) :: (nat_lit 219, o_219_12 P) :: (nat_lit 220, o_220_12 P) :: (nat_lit 221, o_221_12 P) :: (nat_lit 222, o_222_12 P) :: (nat_lit 223, o_223_12 P) :: (nat_lit 224, o_224_12 P) :: (nat_lit 225, o_225_12 P) :: (nat_lit 226, o_226_12 P) :: (nat_lit 227, o_227_12 P) :: (nat_lit 228, o_228_12 P) :: (nat_lit 229, o_229_12 P) :: (nat_lit 230, o_230_12 P) :: (nat_lit 231, o_231_12 P) :: (nat_lit 232, o_232_12 P) :: (nat_lit 233, o_233_12 P) :: (nat_lit 234, o_234_12 P) :: (nat_lit 235, o_235_12 P) :: (nat_lit 237, o_237_12 P) :: (nat_lit 238, o_238_12 P) :: (nat_lit 240, o_240_12 P) :: (nat_lit 241, o_241_12 P) :: (nat_lit 243, o_243_12 P) :: (nat_lit 245, o_245_12 P) :: (nat_lit 246, o_246_12 P) :: (nat_lit 247, o_247_12 P) :: (nat_lit 250, o_250_13 P) :: (nat_lit 253, o_253_13 P) :: (nat_lit 258, o_258_13 P) :: (nat_lit 259, o_259_13 P) :: (nat_lit 260, o_260_13 P) :: (nat_lit 261, o_261_13 P) :: (nat_lit 262, o_262_13 P) :: (nat_lit 263, o_263_13 P) :: (nat_lit 264, o_264_13 P) :: (nat_lit 265, o_265_13 P) :: (nat_lit 266, o_266_13 P) :: (nat_lit 267, o_267_13 P) :: (nat_lit 268, o_268_13 P) :: (nat_lit 269, o_269_13 P) :: (nat_lit 270, o_270_13 P) :: (nat_lit 271, o_271_13 P) :: (nat_lit 272, o_272_13 P) :: (nat_lit 273, o_273_13 P) :: (nat_lit 274, o_274_13 P) :: (nat_lit 275, o_275_13 P) :: (nat_lit 276, o_276_13 P) :: (nat_lit 277, o_277_13 P) :: (nat_lit 278, o_278_13 P) :: (nat_lit 279, o_279_13 P) :: (nat_lit 280, o_280_13 P) :: (nat_lit 281, o_281_13 P) :: (nat_lit 282, o_282_13 P) :: (nat_lit 283, o_283_13 P) :: (nat_lit 284, o_284_13 P) :: (nat_lit 285, o_285_13 P) :: (nat_lit 286, o_286_13 P) :: (nat_lit 287, o_287_13 P) :: (nat_lit 288, o_288_13 P) :: (nat_lit 289, o_289_13 P) :: (nat_lit 290, o_290_13 P) :: (nat_lit 291, o_291_13 P) :: (nat_lit 292, o_292_13 P) :: (nat_lit 293, o_293_13 P) :: (nat_lit 294, o_294_13 P) :: (nat_lit 295, o_295_13 P) :: (nat_lit 296, o_296_13 P) :: (nat_lit 297, o_297_13 P) :: (nat_lit 298, o_298_13 P) :: (nat_lit 299, o_299_13 P) :: (nat_lit 300, o_300_13 P) :: (nat_lit 301, o_301_13 P) :: (nat_lit 302, o_302_13 P) :: (nat_lit 303, o_303_13 P) :: (nat_lit 304, o_304_13 P) :: (nat_lit 305, o_305_13 P) :: (nat_lit 306, o_306_13 P) :: (nat_lit 307, o_307_13 P) :: (nat_lit 308, o_308_13 P) :: (nat_lit 309, o_309_13 P) :: (nat_lit 311, o_311_13 P) :: (nat_lit 312, o_312_13 P) :: (nat_lit 314, o_314_13 P) :: (nat_lit 316, o_316_13 P) :: (nat_lit 317, o_317_13 P) :: (nat_lit 318, o_318_13 P) :: (nat_lit 321, o_321_64 P) :: (nat_lit 322, o_322_64 P) :: (nat_lit 323, o_323_64 P) :: (nat_lit 324, o_324_64 P) :: (nat_lit 325, o_325_64 P) :: (nat_lit 326, o_326_64 P) :: (nat_lit 327, o_327_64 P) :: (nat_lit 328, o_328_64 P) :: (nat_lit 329, o_329_64 P) :: (nat_lit 330, o_330_64 P) :: (nat_lit 331, o_331_64 P) :: (nat_lit 332, o_332_64 P) :: (nat_lit 333, o_333_64 P) :: (nat_lit 334, o_334_64 P) :: (nat_lit 335, o_335_64 P) :: (nat_lit 336, o_336_64 P) :: (nat_lit 337, o_337_64 P) :: (nat_lit 338, o_338_64 P) :: (nat_lit 339, o_339_64 P) :: (nat_lit 340, o_340_64 P) :: (nat_lit 341, o_341_64 P) :: (nat_lit 342, o_342_64 P) :: (nat_lit 343, o_343_64 P) :: (nat_lit 344, o_344_64 P) :: (nat_lit 345, o_345_64 P) :: (nat_lit 346, o_346_64 P) :: (nat_lit 347, o_347_64 P) :: (nat_lit 348, o_348_64 P) :: (nat_lit 349, o_349_64 P) :: (nat_lit 350, o_350_64 P) :: (nat_lit 351, o_351_64 P) :: (nat_lit 352, o_352_64 P) :: (nat_lit 353, o_353_64 P) :: (nat_lit 354, o_354_64 P) :: (nat_lit 355, o_355_64 P) :: (nat_lit 356, o_356_64 P) :: (nat_lit 357, o_357_64 P) :: (nat_lit 358, o_358_64 P) :: (nat_lit 359, o_359_64 P) :: (nat_lit 360, o_360_64 P) :: (nat_lit 361, o_361_64 P) :: (nat_lit 362, o_362_64 P) :: (nat_lit 363, o_363_64 P) :: (nat_lit 364, o_364_64 P) :: (nat_lit 365, o_365_64 P) :: (nat_lit 366, o_366_64 P) :: (nat_lit 367, o_367_64 P) :: (nat_lit 368, o_368_64 P) :: (nat_lit 369, o_369_64 P) :: (nat_lit 370, o_370_64 P) :: (nat_lit 371, o_371_64 P) :: (nat_lit 372, o_372_64 P) :: (nat_lit 373, o_373_64 P) :: (nat_lit 374, o_374_64 P) :: (nat_lit 375, o_375_64 P) :: (nat_lit 376, o_376_64 P) :: (nat_lit 377, o_377_64 P) :: (nat_lit 378, o_378_64 P) :: (nat_lit 379, o_379_64 P) :: (nat_lit 380, o_380_64 P) :: (nat_lit 381, o_381_64 P) :: (nat_lit 382, o_382_64 P) :: (nat_lit 383, o_383_64 P) :: (nat_lit 384, o_384_64 P) :: (nat_lit 385, o_385_64 P) :: (nat_lit 386, o_386_64 P) :: (nat_lit 387, o_387_64 P) :: (nat_lit 388, o_388_64 P) :: (nat_lit 389, o_389_64 P) :: (nat_lit 390, o_390_64 P) :: (nat_lit 391, o_391_64 P) :: (nat_lit 392, o_392_64 P) :: (nat_lit 393, o_393_64 P) :: (nat_lit 394, o_394_64 P) :: (nat_lit 395, o_395_64 P) :: (nat_lit 396, o_396_64 P) :: (nat_lit 397, o_397_64 P) :: (nat_lit 398, o_398_64 P) :: (nat_lit 399, o_399_64 P) :: (nat_lit 400, o_400_64 P) :: (nat_lit 401, o_401_64 P) :: (nat_lit 402, o_402_64 P) :: (nat_lit 403, o_403_64 P) :: (nat_lit 404, o_404_64 P) :: (nat_lit 405, o_405_64 P) :: (nat_lit 406, o_406_64 P) :: (nat_lit 407, o_407_64 P) :: (nat_lit 408, o_408_64 P) :: (nat_lit 409, o_409_64 P) :: (nat_lit 410, o_410_64 P) :: (nat_lit 411, o_411_64 P) :: (nat_lit 412, o_412_64 P) :: (nat_lit 413, o_413_64 P) :: (nat_lit 414, o_414_64 P) :: (nat_lit 415, o_415_64 P) :: (nat_lit 416, o_416_64 P) :: (nat_lit 417, o_417_64 P) :: (nat_lit 418, o_418_64 P) :: (nat_lit 419, o_419_64 P) :: (nat_lit 420, o_420_64 P) :: (nat_lit 421, o_421_64 P) :: (nat_lit 422, o_422_64 P) :: (nat_lit 423, o_423_64 P) :: (nat_lit 424, o_424_64 P) :: (nat_lit 425, o_425_64 P) :: (nat_lit 426, o_426_64 P) :: (nat_lit 427, o_427_64 P) :: (nat_lit 428, o_428_64 P) :: (nat_lit 429, o_429_64 P) :: (nat_lit 430, o_430_64 P) :: (nat_lit 431, o_431_64 P) :: (nat_lit 432, o_432_64 P) :: (nat_lit 433, o_433_64 P) :: (nat_lit 434, o_434_64 P) :: (nat_lit 435, o_435_64 P) :: (nat_lit 436, o_436_64 P) :: (nat_lit 437, o_437_64 P) :: (nat_lit 438, o_438_64 P) :: (nat_lit 439, o_439_64 P) :: (nat_lit 440, o_440_64 P) :: (nat_lit 441, o_441_64 P) :: (nat_lit 442, o_442_64 P) :: (nat_lit 443, o_443_64 P) :: (nat_lit 444, o_444_64 P) :: (nat_lit 445, o_445_64 P) :: (nat_lit 446, o_446_64 P) :: (nat_lit 447, o_447_64 P) :: (nat_lit 448, o_448_64 P) :: (nat_lit 449, o_449_64 P) :: (nat_lit 450, o_450_64 P) :: (nat_lit 451, o_451_64 P) :: (nat_lit 452, o_452_64 P) :: (nat_lit 453, o_453_64 P) :: (nat_lit 454, o_454_64 P) :: (nat_lit 455, o_455_64 P) :: (nat_lit 456, o_456_64 P) :: (nat_lit 457, o_457_64 P) :: (nat_lit 458, o_458_64 P) :: (nat_lit 459, o_459_64 P) :: (nat_lit 460, o_460_64 P) :: (nat_lit 461, o_461_64 P) :: (nat_lit 462, o_462_64 P) :: (nat_lit 463, o_463_64 P) :: (nat_lit 464, o_464_64 P) :: (nat_lit 465, o_465_64 P) :: (nat_lit 466, o_466_64 P) :: (nat_lit 467, o_467_64 P) :: (nat_lit 468, o_468_64 P) :: (nat_lit 469, o_469_64 P) :: (nat_lit 470, o_470_64 P) :: (nat_lit 471, o_471_64 P) :: (nat_lit 472, o_472_64 P) :: (nat_lit 473, o_473_64 P) :: (nat_lit 474, o_474_64 P) :: (nat_lit 475, o_475_64 P) :: (nat_lit 476, o_476_64 P) :: (nat_lit 477, o_477_64 P) :: (nat_lit 478, o_478_64 P) :: (nat_lit 479, o_479_64 P) :: (nat_lit 480, o_480_64 P) :: (nat_lit 481, o_481_64 P) :: (nat_lit 482, o_482_64 P) :: (nat_lit 483, o_483_64 P) :: (nat_lit 484, o_484_64 P) :: (nat_lit 485, o_485_64 P) :: (nat_lit 486, o_486_64 P) :: (nat_lit 487, o_487_64 P) :: (nat_lit 488, o_488_64 P) :: (nat_lit 489, o_489_64 P) :: (nat_lit 490, o_490_64 P) :: (nat_lit 491, o_491_64 P) :: (nat_lit 492, o_492_64 P) :: (nat_lit 493, o_493_64 P) :: (nat_lit 494, o_494_64 P) :: (nat_lit 495, o_495_64 P) :: (nat_lit 496, o_496_64 P) :: (nat_lit 497, o_497_64 P) :: (nat_lit 498, o_498_64 P) :: (nat_lit 499, o_499_64 P) :: (nat_lit 500, o_500_64 P) :: (nat_lit 501, o_501_64 P) :: (nat_lit 502, o_502_64 P) :: (nat_lit 503, o_503_64 P) :: (nat_lit 504, o_504_64 P) :: (nat_lit 505, o_505_64 P) :: (nat_lit 506, o_506_64 P) :: (nat_lit 507, o_507_64 P) :: [])
-- frag 453
noncomputable abbrev ann0 : Option Value := some (.ref 6)
noncomputable abbrev bodyN : List Stmt := behindTheImports pw
noncomputable abbrev envN : Env := { scope := pw.main.scope, locals := mainNs, globals := mainNs, cells := [], code := .ref 13, frame := some 14 }
noncomputable abbrev codeN : Code := .body bodyN envN
noncomputable abbrev frB : List Frame := [topFrame ⟨0, 0, 0, 0⟩]
noncomputable def sl (a k : Nat) : List Stmt := (bodyN.drop a).take k
noncomputable abbrev stT (t : Params → BT) (n toks : Nat) (w : World) (os : OsState) : SharedT := ⟨t w.params, n, lifeN, ⟨[]⟩, ⟨0, 0, 0, 0⟩, toks, os⟩
theorem segRunT_fast : @segRunT = @Fast.tw10110043849684766642 := Fast.te10110043849684766642
theorem treeTable_fast : @treeTable = @Fast.tw14364793385576792824 := Fast.te14364793385576792824
theorem pc_1 (w : World) : (fun os => segRunT treeTable pw w 11 ann0 1 700 (stT tree_b 15 187 w os) (piecesOf (sl 0 11) envN codeN ⟨0, 0, 0, 0⟩ frB)) = fun os => some (.next, stT tree_10 93 313 w os, codeN, ⟨59, 0, 60, 53⟩) := by
  rw [segRunT_fast, treeTable_fast]
  kernel_rfl
theorem pc_2 (w : World) : (fun os => segRunT treeTable pw w 11 ann0 1 1500 (stT tree_10 93 313 w os) (piecesOf (sl 11 1) envN codeN ⟨59, 0, 60, 53⟩ frB)) = fun os => some (.next, stT tree_11 176 480 w os, codeN, ⟨61, 0, 106, 58⟩) := by
  rw [segRunT_fast, treeTable_fast]
  kernel_rfl
theorem pc_3 (w : World) : (fun os => segRunT treeTable pw w 11 ann0 1 1060 (stT tree_11 176 480 w os) (piecesOf (sl 12 1) envN codeN ⟨61, 0, 106, 58⟩ frB)) = fun os => some (.next, stT tree_12 250 608 w os, codeN, ⟨107, 0, 149, 66⟩) := by
  rw [segRunT_fast, treeTable_fast]
  kernel_rfl
theorem pc_4 (w : World) : (fun os => segRunT treeTable pw w 11 ann0 1 910 (stT tree_12 250 608 w os) (piecesOf (sl 13 1) envN codeN ⟨107, 0, 149, 66⟩ frB)) = fun os => some (.next, stT tree_13 321 723 w os, codeN, ⟨150, 0, 191, 63⟩) := by
  rw [segRunT_fast, treeTable_fast]
  kernel_rfl
theorem pc_5 (w : World) : (fun os => segRunT treeTable pw w 11 ann0 1 1120 (stT tree_13 321 723 w os) (piecesOf (sl 14 51) envN codeN ⟨150, 0, 191, 63⟩ frB)) = fun os => some (.next, stT tree_64 508 1064 w os, codeN, ⟨450, 0, 478, 15⟩) := by
  rw [segRunT_fast, treeTable_fast]
  kernel_rfl
noncomputable abbrev p0 : Pos := ⟨0, 0, 0, 0⟩
noncomputable abbrev pZ : Pos := ⟨450, 0, 478, 15⟩
noncomputable abbrev st0 (w : World) (os : OsState) : Shared := ⟨boot_heap w.params, ⟨[]⟩, boot_drawn, boot_toks, os⟩
noncomputable abbrev stA (w : World) (os : OsState) : Shared := ⟨heap_a w.params, ⟨[]⟩, ⟨0, 0, 0, 0⟩, 187, os⟩
noncomputable abbrev stF (w : World) (os : OsState) : Shared := ⟨heap_f w.params, ⟨[]⟩, ⟨0, 0, 0, 0⟩, 1064, os⟩
theorem topGo_fast : @topGo = @Fast.tw15667345088766844465 := Fast.te15667345088766844465
theorem topRun_fast : @topRun = @Fast.tw14082659384304107361 := Fast.te14082659384304107361
theorem segRun_fast : @segRun = @Fast.tw14374325043358763698 := Fast.te14374325043358763698
theorem denote_fast : @denote = @Fast.tw11892475500146522536 := Fast.te11892475500146522536
theorem fence_fast : @fenceModules? = @Fast.tw14289696077712309145 := Fast.te14289696077712309145
theorem hd_open : opening pw = plainProg pw.main.scope.names := by kernel_rfl
theorem hd_fence (s : Shared) : fenceModules? pw s = some s := by kernel_rfl
theorem hd_pre (w : World) : (fun os => topGo treeTable pw w 11 ann0 12 (st0 w os) (topStub pw)) = fun os => some (stA w os, ⟨denote treeTable codeN, codeN, p0, frB⟩) := by
  rw [topGo_fast, denote_fast]
  kernel_rfl
theorem hd_block (w : World) : (fun os => segRun treeTable pw w 11 ann0 1 1 (stA w os) (blockOf bodyN envN codeN p0 frB)) = fun os => some (.next, (stT tree_b 15 187 w os).abs, codeN, p0) := by
  rw [segRun_fast]
  kernel_rfl
theorem hd_fin (w : World) : (fun os => topRun treeTable pw w 11 ann0 2 (stT tree_64 508 1064 w os).abs ⟨doneF .next, codeN, pZ, frB⟩) = fun os => some (stF w os) := by
  rw [topRun_fast]
  kernel_rfl
theorem hd_size (w : World) : ((boot_heap w.params).isNs mainGlobals && (#[] : Array GenState).size == 0, (boot_heap w.params).objs.size, (boot_heap w.params).nsMap mainGlobals "__annotations__") = (true, 11, ann0) := by kernel_rfl
theorem hd_body : bodyN = sl 0 11 ++ (sl 11 1 ++ (sl 12 1 ++ (sl 13 1 ++ (sl 14 51 ++ [])))) := by kernel_rfl
noncomputable def viewN : Program := { pw with main := { pw.main with body := [stAt 0, stAt 1, stAt 2, stAt 3, stAt 5, stAt 9, stAt 10, stAt 11, stAt 12, stAt 13, stAt 14, stAt 15, stAt 16, stAt 17, stAt 18, stAt 19, stAt 20, stAt 21, stAt 22, stAt 23, stAt 24, stAt 26, stAt 27, stAt 31, stAt 33, stAt 34, stAt 36, stAt 37, stAt 39, stAt 40, stAt 42, stAt 43, stAt 45, stAt 47, stAt 48, stAt 49, stAt 50, stAt 51, stAt 52, stAt 53, stAt 54, stAt 55, stAt 56, stAt 57, stAt 58, stAt 59, stAt 60, stAt 61, stAt 62, stAt 63, stAt 64] } }
noncomputable def looseN : List Str := [Str.ofString "fake_exponential", Str.ofString "_tuplegetter", Str.ofString "Header", Str.ofString "LondonHeader", Str.ofString "BlobHeader", Str.ofString "validate_is_integer", Str.ofString "validate_gt"]
noncomputable def asN : List Addr := [0, 1, 2, 3, 4, 5, 6, 7, 8, 9, 10, 11, 12, 13, 14, 15, 16, 17, 18, 19, 20, 21, 22, 23, 24, 25, 26, 27, 28, 29, 30, 31, 32, 33, 34, 35, 36, 44, 45, 46, 47, 48, 49, 50, 51, 52, 53, 54, 55, 56, 57, 58, 59, 60, 61, 62, 63, 64, 65, 66, 67, 68, 69, 70, 71, 72, 73, 74, 75, 76, 77, 80, 87, 88, 89, 90, 93, 96, 101, 102, 103, 104, 105, 106, 107, 108, 109, 110, 111, 112, 113, 114, 115, 116, 117, 118, 119, 120, 121, 122, 123, 124, 125, 126, 127, 128, 129, 130, 131, 132, 133, 134, 135, 136, 137, 138, 139, 140, 141, 142, 143, 144, 145, 146, 147, 148, 149, 150, 151, 152, 154, 155, 157, 158, 160, 161, 163, 164, 166, 167, 169, 171, 172, 173, 176, 179, 184, 185, 186, 187, 188, 189, 190, 191, 192, 193, 194, 195, 196, 197, 198, 199, 200, 201, 202, 203, 204, 205, 206, 207, 208, 209, 210, 211, 212, 213, 214, 215, 216, 217, 218, 219, 220, 221, 222, 223, 224, 225, 226, 227, 228, 229, 230, 231, 232, 233, 234, 235, 237, 238, 240, 241, 243, 245, 246, 247, 250, 253, 258, 259, 260, 261, 262, 263, 264, 265, 266, 267, 268, 269, 270, 271, 272, 273, 274, 275, 276, 277, 278, 279, 280, 281, 282, 283, 284, 285, 286, 287, 288, 289, 290, 291, 292, 293, 294, 295, 296, 297, 298, 299, 300, 301, 302, 303, 304, 305, 306, 307, 308, 309, 311, 312, 314, 316, 317, 318, 321, 322, 323, 324, 325, 326, 327, 328, 329, 330, 331, 332, 333, 334, 335, 336, 337, 338, 339, 340, 341, 342, 343, 344, 345, 346, 347, 348, 349, 350, 351, 352, 353, 354, 355, 356, 357, 358, 359, 360, 361, 362, 363, 364, 365, 366, 367, 368, 369, 370, 371, 372, 373, 374, 375, 376, 377, 378, 379, 380, 381, 382, 383, 384, 385, 386, 387, 388, 389, 390, 391, 392, 393, 394, 395, 396, 397, 398, 399, 400, 401, 402, 403, 404, 405, 406, 407, 408, 409, 410, 411, 412, 413, 414, 415, 416, 417, 418, 419, 420, 421, 422, 423, 424, 425, 426, 427, 428, 429, 430, 431, 432, 433, 434, 435, 436, 437, 438, 439, 440, 441, 442, 443, 444, 445, 446, 447, 448, 449, 450, 451, 452, 453, 454, 455, 456, 457, 458, 459, 460, 461, 462, 463, 464, 465, 466, 467, 468, 469, 470, 471, 472, 473, 474, 475, 476, 477, 478, 479, 480, 481, 482, 483, 484, 485, 486, 487, 488, 489, 490, 491, 492, 493, 494, 495, 496, 497, 498, 499, 500, 501, 502, 503, 504, 505, 506, 507]
theorem asN_is (P : Params) : asN = (K P).map (·.1) := by kernel_rfl
noncomputable abbrev hookN : Hook := kHook K asN asN_is
noncomputable abbrev rowN : RowW := OpenRow.toRowW PySem.Challenge.rw_kw0010_01.row
theorem openSeen_fast : @openSeen = @Fast.tw4187177175401517315 := Fast.te4187177175401517315
theorem importedModules_fast : @importedModules = @Fast.tw5923862056798008813 := Fast.te5923862056798008813
noncomputable abbrev XtN : Shared → Bool := fun s => xlAt viewN [] s && recOk (RowW.records rowN) s
theorem look1 (w : World) : (fun os => (staticsOk (importedModules pw.main.body) (boot_heap w.params) (heap_f w.params) && namesBound pw (heap_f w.params) && gensDone (stF w os) && laidKept (boot_heap w.params) (heap_f w.params))) = fun _ => true := by
  rw [importedModules_fast]
  kernel_rfl
theorem look2 (w : World) : (fun os => openSeen viewN looseN (importedModules pw.main.body) XtN true (stF w os)) = fun _ => openGood viewN looseN := by
  rw [openSeen_fast, importedModules_fast]
  kernel_rfl
theorem look3 (w : World) : (fun os => hookN.obs (stF w os)) = fun _ => hookN.val w := by
  kernel_rfl
theorem pcs {n : Nat} {S S' : World → OsState → SharedT} {l : List Stmt} {q q' : Pos} {w : World} (h : (fun os => segRunT treeTable pw w 11 ann0 1 n (S w os) (piecesOf l envN codeN q frB)) = fun os => some (.next, S' w os, codeN, q')) (os : OsState) :
    segRun treeTable pw w 11 ann0 1 n (S w os).abs (piecesOf l envN codeN q frB) = some (.next, (S' w os).abs, codeN, q') := segRun_of (congrFun h os)
theorem hd_run (w : World) (os : OsState) : topRun treeTable pw w 11 ann0 (12 + (1 + (700 + (1500 + (1060 + (910 + (1120 + 2))))))) (st0 w os) (topStub pw) = some (stF w os) := by
  refine go_top (congrFun (hd_pre w) os) (piece_block (congrFun (hd_block w) os) ?_)
  have k : topRun treeTable pw w 11 ann0 (700 + (1500 + (1060 + (910 + (1120 + 2))))) (stT tree_b 15 187 w os).abs (restOf (sl 0 11 ++ (sl 11 1 ++ (sl 12 1 ++ (sl 13 1 ++ (sl 14 51 ++ []))))) envN codeN p0 frB) = some (stF w os) :=
    piece_app (pcs (pc_1 w) os) (piece_app (pcs (pc_2 w) os) (piece_app (pcs (pc_3 w) os) (piece_app (pcs (pc_4 w) os) (piece_app (pcs (pc_5 w) os) (piece_nil (congrFun (hd_fin w) os))))))
  exact (congrArg (fun l => topRun treeTable pw w 11 ann0 (700 + (1500 + (1060 + (910 + (1120 + 2))))) (stT tree_b 15 187 w os).abs (restOf l envN codeN p0 frB)) hd_body).trans k
theorem left : LeftO pw viewN looseN XtN hookN.obs hookN.val 10548 :=
  LeftO.of_pieces (boot_open hd_open (by decide) hd_fence) hd_size hd_run (by decide) fun w => by
    funext os
    exact Prod.ext (congrFun (look1 w) os) (Prod.ext (congrFun (look2 w) os) (congrFun (look3 w) os))
theorem wellSaid_fast : @OpenLaw.wellSaid = @Fast.tw9446332074065402090 := Fast.te9446332074065402090
theorem said : PySem.Challenge.rw_kw0010_01.wellSaid = true := by
  rw [wellSaid_fast]
  kernel_rfl
noncomputable abbrev Nws := List (Addr × Obj)
/-- the ledger without the objects at the addresses of small -/
noncomputable def rest (news small : Nws) : Nws := news.filter fun q => !(small.map (·.1)).contains q.1
theorem mem_rest {news small : Nws} {q : Addr × Obj} : q ∈ rest news small ↔ q ∈ news ∧ q.1 ∉ small.map (·.1) := by
  unfold rest; rw [List.mem_filter]; simp
theorem rest_nil {news : Nws} : rest news [] = news := by
  unfold rest; simp
/-- where a def's body ends -/
noncomputable def Back (g : Heap) (P : Nws → Value → Shared → Prop) (v : Value) (s' : Shared) : Prop := ∃ L' m' new, Fr g L' s'.heap m' ∧ News g L' s'.heap new ∧ P new v s'
noncomputable def OldIn (g : Heap) (news small : Nws) : Prop := ∀ q ∈ news, q.1 ∉ small.map (·.1) → g.get? q.1 = some q.2
theorem call_fr {prog : Program} {w : World} {A₀ A : Around} {s : Shared} {base h₀ : Heap} {outer : List Env} {L : Addr} {m : Str → Option Value} {env : Env} {news small : Nws} {K : Frag} {p : Program} {loose : List Str} {mean : ExcName → Option Value} {mg mb : Str → Option Value}
    {R : Result → Shared → Prop} {name qual : Str} {params : Arguments} {body : List Stmt} {scope : Scope} {dV kV doc pm cdv ct oc : Value} {an od : Option Addr} {osl : Array (Option Value)} {f : Addr} {args : Args} {binds : List (Str × Value)}
    (B : Below A₀ base outer h₀) (F : Fr h₀ L s.heap m) (X₀ : K.In h₀) (N : News h₀ L s.heap news) (T : Top p loose mean mg mb h₀) (hA : A.frames = some (env :: outer)) (hf : env.frame = some L) (hke : env.scope.kind = .function)
    (hs : ∀ q ∈ small, q ∈ news)
    (ho : K.lookup f = some ⟨oc, od, .func (fnOf name qual params body scope dV kV doc pm an cdv ct), osl⟩) (hcd : codeIn K cdv qual = true) (hroom : A.depth < recursionLimit)
    (hbind : BindsTo s (fnOf name qual params body scope dV kV doc pm an cdv ct) args binds) (hloc : ∀ y ∈ binds, scope.names.lookup y.1 = some .local)
    (h : ∀ g L' h₁, Fr h₀ L g m → Fr g L' h₁ (fun y => binds.reverse.lookup y) → News g L' h₁ small → Below A base (env :: outer) g → K.In g → Top p loose mean mg mb g → OldIn g news small → (∀ q ∈ small, q.1 < L') →
      wpAny (model prog w) (A.deeper (envOf qual scope L' f cdv)) (execs body (envOf qual scope L' f cdv))
        (fun fl s' => Back g (fun new v s' => Fr h₀ L s'.heap m → News h₀ L s'.heap (new ++ rest news small) → (∀ q ∈ new, ∀ q' ∈ rest news small, q'.1 ≠ q.1) → R (.ok (.ret v)) s') (match fl with | .ret v => v | _ => .none) s')
        (fun e s' => wpAny (model prog w) (A.deeper (envOf qual scope L' f cdv)) (leaving (envOf qual scope L' f cdv) e) (fun _ s'' => R (.error e) s'') (fun e' s'' => R (.error e') s'') s')
        { s with heap := h₁, toks := s.toks + binds.length })
    (hco : scope.isCoroutine = false) (hgen : scope.isGenerator = false) (hk : scope.kind = .function)
    (hcell : ∀ x ∈ scope.names, x.2 ≠ .cell) : codeAny (model prog w) A (.call (.ref f) args) R s := by
  have Ns : News h₀ L s.heap small := fun q hq => N q (hs q hq)
  obtain ⟨FG, BG, st, _⟩ := groundX (R := R) B F Ns hA hf hke
  obtain ⟨oL, es, ep, hL, hLd, hLk, hLf⟩ := F.ns
  have nL : L ∉ small.map (·.1) := fun q => by
    obtain ⟨p, hp, e⟩ := List.mem_map.mp q
    exact (Ns p hp).2.1 e
  have hLg := hideAll_get (small.map (·.1)) hL nL
  have Xg : K.In (hideAll s.heap (small.map (·.1))) := X₀.keeps st
  have old : OldIn (hideAll s.heap (small.map (·.1))) news small := fun q hq hn => hideAll_get _ (N q hq).1 hn
  refine codeAny_call_def (fd := fnOf name qual params body scope dV kV doc pm an cdv ct) (body := body) (binds := binds) hroom ((X₀.keeps F.keep) _ _ ho) rfl (T.nolimit.keeps F.keep) (codeRec_of (X₀.keeps F.keep) hcd) rfl hbind hcell hloc (fun h₁ hns hk₁ => ?_) hco hgen hk
  refine wpAny_mono (h _ s.heap.objs.size h₁ FG ⟨hns, fun b o e => hk₁ b o (of_hideAll _ e), Nat.le_of_eq (hideAll_size _ _)⟩
    (fun q hq => ⟨hk₁ _ _ (Ns q hq).1, Nat.ne_of_lt (Heap.lt_size (Ns q hq).1), hideAll_none _ (List.mem_map_of_mem hq)⟩) BG Xg (T.keeps st) old (fun q hq => Heap.lt_size (Ns q hq).1)) (fun fl s' hl => ?_) fun _ _ y => y
  obtain ⟨L', m', new, F', N', k⟩ := hl
  refine k ⟨⟨oL, es, ep, F'.keep L oL hLg, hLd, hLk, hLf⟩, fun b o e => F'.keep b o (st b o e), F.above⟩ (fun q hq => ?_) fun q hq q' hq' e => ?_
  · rcases List.mem_append.mp hq with hq | hq
    · refine ⟨(N' q hq).1, fun e => ?_, ?_⟩
      · have := (N' q hq).2.2; rw [e, hLg] at this; cases this
      · cases z : h₀.get? q.1 with
        | none => rfl
        | some o => have := (N' q hq).2.2; rw [st _ _ z] at this; cases this
    · obtain ⟨h1, h2⟩ := mem_rest.mp hq
      exact ⟨F'.keep _ _ (old q h1 h2), (N q h1).2.1, (N q h1).2.2⟩
  · obtain ⟨h1, h2⟩ := mem_rest.mp hq'
    have a := (N' q hq).2.2
    rw [← e, old q' h1 h2] at a
    cases a
/-- what a call of f with vs does from within any def: it changes small alone (to new), hands back r -/
structure Tell (w : World) (k : Nat) (f : Addr) (vs : List Value) (facts small : Nws) (P : Nws → Value → Prop) : Prop where
  tell : ∀ {p : Program} {loose : List Str} {mean : ExcName → Option Value} {mg mb : Str → Option Value} {dp un : Nat} {gd : Option (List Code)} {cn : Str} {cs : Scope} {a : Addr} {ccd : Value} {cl : List (Str × Addr)} {outer : List Env} {A₀ : Around} {base h₀ : Heap} {L : Addr} {m : Str → Option Value} {news : Nws} {s : Shared} {Q E : Value → Shared → Prop},
    Below A₀ base outer h₀ → Fr h₀ L s.heap m → (Mine.K w.params).In h₀ → News h₀ L s.heap news → Top p loose mean mg mb h₀ → cs.kind = .function →
    (∀ q ∈ facts, q ∈ news ∨ h₀.get? q.1 = some q.2) → (∀ q ∈ small, q ∈ news) → (∀ q ∈ facts, q.1 ∉ small.map (·.1)) → dp + k < recursionLimit → un + 8 * k < cLine →
    (∀ r h' tk' new, P new r → Fr h₀ L h' m → News h₀ L h' (new ++ rest news small) → (∀ q ∈ new, ∀ q' ∈ rest news small, q'.1 ≠ q.1) → Q r { s with heap := h', toks := tk' }) →
    wpAny (model pw w) (ktrTop dp un gd cn cs L a ccd cl outer) (call (.ref f) vs) Q E s
/-- the body's end, as the walk meets it -/
noncomputable def Ends (g : Heap) (s : Shared) (P : Nws → Value → Prop) (v : Value) (s' : Shared) : Prop :=
  ∃ L' m' new h tk, s' = { s with heap := h, toks := tk } ∧ Fr g L' h m' ∧ News g L' h new ∧ ∃ new', (∀ q ∈ new', q ∈ new) ∧ P new' v
theorem tell_of {w : World} {k : Nat} {f : Addr} {vs : List Value} {facts small : Nws} {P : Nws → Value → Prop}
    {name qual : Str} {params : Arguments} {body : List Stmt} {scope : Scope} {dV kV doc pm cdv ct oc : Value} {an od : Option Addr} {osl : Array (Option Value)} {binds : List (Str × Value)}
    (ho : (Mine.K w.params).lookup f = some ⟨oc, od, .func (fnOf name qual params body scope dV kV doc pm an cdv ct), osl⟩) (hcd : codeIn (Mine.K w.params) cdv qual = true)
    (hbind : ∀ (h₀ : Heap) (s : Shared), (Mine.K w.params).In h₀ → (∀ b o, h₀.get? b = some o → s.heap.get? b = some o) → BindsTo s (fnOf name qual params body scope dV kV doc pm an cdv ct) ⟨vs, []⟩ binds) (hloc : ∀ y ∈ binds, scope.names.lookup y.1 = some .local)
    (hco : scope.isCoroutine = false) (hgen : scope.isGenerator = false) (hk : scope.kind = .function) (hcell : ∀ x ∈ scope.names, x.2 ≠ .cell) (hk0 : 0 < k)
    (hbody : ∀ {p : Program} {loose : List Str} {mean : ExcName → Option Value} {mg mb : Str → Option Value} {dp un : Nat} {gd : Option (List Code)} {cn : Str} {cs : Scope} {a : Addr} {ccd : Value} {cl : List (Str × Addr)} {outer : List Env} {base g : Heap} {L L' : Addr} {h₁ : Heap} {s : Shared},
      Fr g L' h₁ (fun y => binds.reverse.lookup y) → News g L' h₁ small → Below (ktrTop dp un gd cn cs L a ccd cl outer) base (envX cn cs L a ccd cl :: outer) g → (Mine.K w.params).In g → Top p loose mean mg mb g → cs.kind = .function → (∀ q ∈ facts, g.get? q.1 = some q.2) → (∀ q ∈ small, q.1 < L') →
      dp + k < recursionLimit → un + 8 * k < cLine →
      wpAny (model pw w) ((ktrTop dp un gd cn cs L a ccd cl outer).deeper (envOf qual scope L' f cdv)) (execs body (envOf qual scope L' f cdv))
        (fun fl s' => Ends g s P (match fl with | .ret v => v | _ => .none) s') (fun _ _ => False) { s with heap := h₁, toks := s.toks + binds.length }) :
    Tell w k f vs facts small P := by
  constructor
  intro p loose mean mg mb dp un gd cn cs a ccd cl outer A₀ base h₀ L m news s Q E B F X N T hck hfa hs hfs hd hu hret
  refine wpAny_call ?_
  refine call_fr B F X N T (env := envX cn cs L a ccd cl) rfl rfl hck hs ho hcd (by show dp < _; omega) (hbind h₀ s X F.keep) hloc (fun g L' h₁ FG F' N' B' X' T' O' l' => ?_) hco hgen hk hcell
  refine wpAny_mono (hbody (s := s) F' N' B' X' T' hck (fun q hq => ?_) l' hd hu) (fun fl s' he => ?_) fun _ _ y => y.elim
  · rcases hfa q hq with z | z
    · exact O' q z (hfs q hq)
    · exact FG.keep _ _ z
  · obtain ⟨L₂, m₂, new, h, tk, rfl, F₂, N₂, new', hsub, hP⟩ := he
    refine ⟨L₂, m₂, new', F₂, fun q hq => N₂ q (hsub q hq), fun F₃ N₃ ne => ?_⟩
    exact hret _ h tk new' hP F₃ N₃ ne
theorem fill {G : Prop} (h : PySem.Challenge.rw_kw0010_01 = PySem.Challenge.rw_kw0010_01 → Mine.K = Mine.K → G) : G := h rfl rfl
noncomputable abbrev RInt (y : Int) : Nws → Value → Prop := fun new r => new = [] ∧ ∃ tk, r = .int y tk
theorem ends_int {g : Heap} {s : Shared} {L' : Addr} {h : Heap} {m' : Str → Option Value} {new : Nws} {x y : Int} {t : Tok} {tk : Nat}
    (F : Fr g L' h m') (N : News g L' h new) (e : x = y) : Ends g s (RInt y) (.int x t) { s with heap := h, toks := tk } :=
  ⟨L', m', new, h, tk, rfl, F, N, [], fun _ h => (nomatch h), rfl, t, by rw [e]⟩
theorem use_int {w : World} {k : Nat} {f : Addr} {vs : List Value} {facts : Nws} {y : Int}
    {p : Program} {loose : List Str} {mean : ExcName → Option Value} {mg mb : Str → Option Value} {dp un : Nat} {gd : Option (List Code)} {cn : Str} {cs : Scope} {a : Addr} {ccd : Value} {cl : List (Str × Addr)} {outer : List Env} {A₀ : Around} {base h₀ : Heap} {L : Addr} {m : Str → Option Value} {news : Nws} {s : Shared} {Q E : Value → Shared → Prop}
    (C : Tell w k f vs facts [] (RInt y)) (B : Below A₀ base outer h₀) (F : Fr h₀ L s.heap m) (X : (Mine.K w.params).In h₀) (N : News h₀ L s.heap news) (T : Top p loose mean mg mb h₀) (hk : cs.kind = .function)
    (hfa : ∀ q ∈ facts, q ∈ news ∨ h₀.get? q.1 = some q.2) (hd : dp + k < recursionLimit) (hu : un + 8 * k < cLine)
    (ret : ∀ t h' tk', Fr h₀ L h' m → News h₀ L h' news → Q (.int y t) { s with heap := h', toks := tk' }) :
    wpAny (model pw w) (ktrTop dp un gd cn cs L a ccd cl outer) (call (.ref f) vs) Q E s :=
  C.tell B F X N T hk hfa (fun _ h => (nomatch h)) (fun _ _ h => (nomatch h)) hd hu fun r h' tk' new hP F' N' _ => by
    obtain ⟨rfl, t, rfl⟩ := hP
    rw [rest_nil] at N'
    exact ret t h' tk' F' N'
theorem noPy {x y : Int} (h : -2 ^ 100 < y) (h' : y < 2 ^ 100) : Builtin.divisionGoesByPylong x y = false := by
  refine PyProof.noPylong_of_log2 ?_
  by_cases h0 : y.natAbs = 0
  · rw [h0]; decide +kernel
  · have : y.natAbs < 2 ^ 100 := by omega
    have := (Nat.log2_lt h0).mpr this
    omega
theorem fdivQ {prog : Program} {w : World} {A : Around} {E : Value → Shared → Prop} {s : Shared} {a b : Int} {t u : Tok} {Q : Value → Shared → Prop} (hb : 0 < b) (hb' : b < 2 ^ 100) (h : Q (.int (a.fdiv b) s.toks) { s with toks := s.toks + 1 }) :
    wpAny (model prog w) A (binaryOp .FloorDiv (.int a t) (.int b u)) Q E s := floordiv_int (by omega) h (Or.inl (noPy (by omega) hb'))
theorem fmodQ {prog : Program} {w : World} {A : Around} {E : Value → Shared → Prop} {s : Shared} {a b : Int} {t u : Tok} {Q : Value → Shared → Prop} (hb : 0 < b) (h : Q (.int (a.fmod b) s.toks) { s with toks := s.toks + 1 }) :
    wpAny (model prog w) A (binaryOp .Mod (.int a t) (.int b u)) Q E s := mod_int' (by omega) h
theorem isList_of {h : Heap} {a : Addr} {items : Array Value} {n : Nat} (e : h.get? a = some (PySem.W.listOf items n)) : h.IsList a items := ⟨_, e, rfl, n, rfl⟩
noncomputable abbrev hdrObj (C d : Addr) (vs : List Value) : Obj := ⟨.ref C, some d, .seq vs.toArray 0, #[]⟩
theorem inst_hdr {h : Heap} {x C d : Addr} {vs : List Value} (e : h.get? x = some (hdrObj C d vs)) (e' : h.get? d = some (dictOf [] 0)) : InstAt h x (hdrObj C d vs) C (some (dictOf [] 0)) := ⟨e, rfl, rfl, e'⟩
theorem clsObj {K : Frag} {h : Heap} {C : Addr} (X : K.In h) (hc : (clsIn K C).isSome = true) : ∃ oc od cd sl, h.get? C = some ⟨oc, od, .cls cd, sl⟩ := by
  unfold clsIn at hc
  split at hc
  · rename_i ho; exact ⟨_, _, _, _, X _ _ ho⟩
  · cases hc
theorem issub_nested {prog : Program} {w : World} {A : Around} {E : Value → Shared → Prop} {s : Shared} {K : Frag} {C : Addr} {Q : PySem.Fin → Shared → Prop} (X : K.In s.heap) (hc : (clsIn K C).isSome = true) (hm : mroIn K C (.type "tuple") = some true)
    (hq : Q (.done (.ret (.bool true))) s) : wpAny (model prog w) A (Builtin.«issubclass.nested» ⟨[.ref C, .type "tuple", rawInt 0], []⟩) Q E s := by
  obtain ⟨oc, od, cd, sl, hC⟩ := clsObj X hc
  have L1 := looks_mroIn (M := model prog w) X hm
  obtain ⟨hh, g, d, t, os⟩ := s
  dsimp only at hC
  unfold Builtin.«issubclass.nested»
  repeat lk
  exact hq
theorem issub_meets {K : Frag} {C : Addr} (hc : (clsIn K C).isSome = true) (hm : mroIn K C (.type "tuple") = some true) : Meets (Builtin.«issubclass» ⟨[.ref C, .type "tuple"], []⟩) (fun _ R s => K.In s.heap ∧ R (.ok (.ret (.bool true))) s) :=
  fun _ _ _ _ _ hs => issubclass_outer (issub_nested hs.1 hc hm hs.2)
theorem issub_hdr {prog : Program} {w : World} {A : Around} {E : Value → Shared → Prop} {s : Shared} {K : Frag} {C L : Addr} {h₀ : Heap} {m : Str → Option Value} {Q : Value → Shared → Prop} (F : Fr h₀ L s.heap m) (X : K.In h₀) (hc : isClsIn K C = true) (hm : mroIn K C (.type "tuple") = some true)
    (hq : Q (.bool true) s) : wpAny (model prog w) A (call (.builtin "issubclass") [.ref C, .type "tuple"]) Q E s :=
  call_issubclass (issub_meets hc hm) ⟨X.keeps F.keep, hq⟩
theorem tupitem_meets (l C d : Addr) (vs : List Value) (i : Int) (u : Tok) (k : Nat) (y : Value) {K : Frag} (hm : mroIn K C (.type "tuple") = some true) (hlo : -2 ^ 63 ≤ i) (hhi : i < 2 ^ 63) (hk : seqIndex? i vs.length = some k) (hy : vs[k]? = some y) :
    Meets (Builtin.«tuple.__getitem__» ⟨[.ref l, .int i u], []⟩)
      (fun _ R s => s.heap.get? l = some (hdrObj C d vs) ∧ K.In s.heap ∧ R (.ok (.ret y)) s) :=
  fun prog w A R s h => by
    obtain ⟨hp, g, dr, tk, os⟩ := s
    obtain ⟨hl, X, h⟩ := h
    have L1 := looks_mroIn (M := model prog w) X hm
    dsimp only at hl h
    unfold Builtin.«tuple.__getitem__»
    repeat lk
    refine wpAny_ite_false (by simp; omega) ?_
    simp only [List.size_toArray, hk, Option.bind_some, List.getElem?_toArray, hy]
    repeat lk
    exact h
theorem ti_plain : plainId "tuple.__getitem__" = true := by decide +kernel
theorem ti_kind : builtinKind "tuple.__getitem__" = some .slot := by kernel_rfl
theorem ti_split : splitId "tuple.__getitem__" = some ("tuple", "__getitem__") := by kernel_rfl
set_option maxHeartbeats 400000 in
theorem call_tupitem {prog : Program} {w : World} {A : Around} {E : Value → Shared → Prop} {s : Shared} {K : Frag} {C l d L : Addr} {h₀ : Heap} {m : Str → Option Value} {Q : Value → Shared → Prop} {vs : List Value} {i : Int} {u : Tok} {k : Nat} {y : Value} (F : Fr h₀ L s.heap m) (X : K.In h₀) (hx : h₀.get? l = some (hdrObj C d vs)) (hdd : h₀.get? d = some (dictOf [] 0)) (hm : mroIn K C (.type "tuple") = some true) (hlo : -2 ^ 63 ≤ i) (hhi : i < 2 ^ 63) (hk : seqIndex? i vs.length = some k) (hy : vs[k]? = some y)
    (hq : Q y s) : wpAny (model prog w) A (call (.builtin "tuple.__getitem__") [.ref l, .int i u]) Q E s := by
  have I := inst_hdr (F.keep _ _ hx) (F.keep _ _ hdd)
  have hi : Looks (model prog w) s.heap (isInstance (.ref l) (.type "tuple")) true := I.type.andThen (looks_mroIn (X.keeps F.keep) hm)
  refine wpAny_call ?_
  refine codeAny_call_builtin ti_plain entry_tuple_getitem ?_
  have ha : argsOk "tuple.__getitem__" ⟨Value.ref l :: [.int i u], []⟩ := args_tuple_getitem _ _
  refine check_slot (i := "tuple.__getitem__") (owner := "tuple") (n := "__getitem__") (self := .ref l) (rest := [.int i u]) (kw := []) ti_kind ti_split hi ha ?_
  have z := tupitem_meets l C d vs i u k y (K := K) hm hlo hhi hk hy prog w A (fun r s' => match r with | .ok (.ret v) => Q v s' | .ok _ => False | .error e => E e s') s ⟨F.keep _ _ hx, X.keeps F.keep, hq⟩
  exact z
theorem nameL {M : Model} {A : Around} {E : Value → Shared → Prop} {s : Shared} {h₀ : Heap} {L a : Addr} {m : Str → Option Value} {name : Str} {scope : Scope} {cd : Value} {x : Str} {pos : Pos} {v : Value} {Q : Value → Shared → Prop}
    (hk : scope.kind = .function) (hl : (envOf name scope L a cd).kindOf x = some .local) (hd : (x == ("__debug__" : Str)) = false) (F : Fr h₀ L s.heap m) (hv : m x = some v) (h : Q v s) :
    wpAny M A (eval (.Name x pos) (envOf name scope L a cd)) Q E s := ld F hv h hk hl hd
theorem nameK {M : Model} {A : Around} {E : Value → Shared → Prop} {s : Shared} {K : Frag} {h₀ : Heap} {L a : Addr} {m mg mb : Str → Option Value} {cn : Str} {cs : Scope} {ccd : Value} {p : Program} {loose : List Str} {x : Str} {pos : Pos} {v : Value} {Q : Value → Shared → Prop}
    (hk : cs.kind = .function) (hx : (envOf cn cs L a ccd).kindOf x = some .globalImplicit) (hd : (x == ("__debug__" : Str)) = false) (F : Fr h₀ L s.heap m) (X : K.In h₀) (T : TopRead p loose mg mb h₀) (e : nsIn K mainGlobals x = some (some v)) (h : Q v s) :
    wpAny M A (eval (.Name x pos) (envOf cn cs L a ccd)) Q E s := name_K F X T e h hk hx hd
theorem nameB {M : Model} {A : Around} {E : Value → Shared → Prop} {s : Shared} {K : Frag} {h₀ : Heap} {L a : Addr} {m mg mb : Str → Option Value} {cn : Str} {cs : Scope} {ccd : Value} {p : Program} {loose : List Str} {x : Str} {pos : Pos} {v : Value} {Q : Value → Shared → Prop}
    (hk : cs.kind = .function) (hx : (envOf cn cs L a ccd).kindOf x = some .globalImplicit) (hd : (x == ("__debug__" : Str)) = false) (F : Fr h₀ L s.heap m) (X : K.In h₀) (T : TopRead p loose mg mb h₀) (e : nsIn K mainGlobals x = some none) (hv : bootBuiltins x = some v) (hn : x ≠ "__name__") (h : Q v s) :
    wpAny M A (eval (.Name x pos) (envOf cn cs L a ccd)) Q E s := name_B F X T e hv hn h hk hx hd
theorem pite_ff {d : Decidable ((false : Bool) = true)} {a b : Prop} (h : b) : @ite Prop ((false : Bool) = true) d a b := by rw [if_neg (by simp)]; exact h
theorem pite_tt {d : Decidable ((true : Bool) = true)} {a b : Prop} (h : a) : @ite Prop ((true : Bool) = true) d a b := by rw [if_pos rfl]; exact h
theorem pite_nt {d : Decidable ((!true) = true)} {a b : Prop} (h : b) : @ite Prop ((!true) = true) d a b := by rw [if_neg (by simp)]; exact h
theorem pite_nf {d : Decidable ((!false) = true)} {a b : Prop} (h : a) : @ite Prop ((!false) = true) d a b := by rw [if_pos (by simp)]; exact h
theorem pite_t {d : Decidable True} {a b : Prop} (h : a) : @ite Prop True d a b := by rw [if_pos trivial]; exact h
theorem pite_f {d : Decidable False} {a b : Prop} (h : b) : @ite Prop False d a b := by rw [if_neg id]; exact h
theorem room {dp n k : Nat} (h : dp + n < recursionLimit) (hk : 1 + k ≤ n) : dp + 1 + k < recursionLimit := by omega
theorem units {un n m : Nat} (h : un + 8 * n < cLine) (hk : 3 + m ≤ 8 * n) : un + 3 + m < cLine := by omega
theorem nn_add {a c : Int} (h : 0 ≤ a) (hc : 0 ≤ c) : 0 ≤ a + c := by omega
theorem le_add {a b c : Int} (h : a ≤ b) : a + c ≤ b + c := by omega
theorem lt40 {a b : Int} (h : a ≤ b) (hb : b < 1099511627776) : a < 2 ^ 40 := by omega
theorem news_tl {g h : Heap} {L : Addr} {a : Addr × Obj} {r : Nws} (N : News g L h (a :: r)) : News g L h r := fun q hq => N q (.tail _ hq)
theorem news_2nd {g h : Heap} {L : Addr} {a b : Addr × Obj} {r : Nws} (N : News g L h (a :: b :: r)) : News g L h (a :: r) := fun q hq => by
  rcases List.mem_cons.mp hq with rfl | hq
  · exact N _ (.head _)
  · exact N q (.tail _ (.tail _ hq))
theorem news_hdr {g h : Heap} {L x d C e : Addr} {vs : List Value} {r : Nws} (N : News g L h ((x, hdrObj C e vs) :: (d, dictOf [] 0) :: r)) : News g L h r := fun q hq => N q (.tail _ (.tail _ hq))
structure Gen (P Q : Flow → Shared → Prop) : Prop where
  to : ∀ f s, P f s → Q f s
theorem gen_post {prog : Program} {w : World} {A : Around} {c : Sem Flow} {P : Flow → Shared → Prop} {E : Value → Shared → Prop} {s : Shared} (h : ∀ Q, Gen P Q → wpAny (model prog w) A c Q E s) : wpAny (model prog w) A c P E s := h P ⟨fun _ _ h => h⟩
theorem execs_gen {prog : Program} {w : World} {A : Around} {E : Value → Shared → Prop} {s : Shared} {st : Stmt} {rest : List Stmt} {env : Env} {Q : Flow → Shared → Prop}
    (h : ∀ Q9, Gen (fun fl s' => match fl with | .next => wpAny (model prog w) A (execs rest env) Q E s' | fl => Q fl s') Q9 → wpAny (model prog w) A (exec st env) Q9 E s) : wpAny (model prog w) A (execs (st :: rest) env) Q E s :=
  wpAny_execs_cons (h _ ⟨fun _ _ h => h⟩)
end Mine
local macro_rules | `(tactic| ktr_room) => `(tactic| ((with_reducible rename (_ + _ < recursionLimit) => hd9); exact Mine.room hd9 (by decide)))
local macro_rules | `(tactic| ktr_units) => `(tactic| ((with_reducible rename (_ + 8 * _ < cLine) => hu9); exact Mine.units hu9 (by decide)))
local macro_rules | `(tactic| wrow_close) => `(tactic| (refine Mine.Gen.to (by with_reducible assumption) _ _ ?_; (try dsimp only)))
local macro_rules | `(tactic| walk_at "ite") => `(tactic| k_extra "ite")
local macro_rules | `(tactic| walk_at "execs cons") => `(tactic| k_extra "execs cons")
local macro_rules | `(tactic| walk_at "eval Name") => `(tactic| k_extra "eval Name")
local macro_rules | `(tactic| walk_at "callWith ref") => `(tactic| k_extra "callWith ref")
local macro_rules | `(tactic| walk_at "binaryOp Mult int int") => `(tactic| k_extra "binaryOp Mult int int")
local macro_rules | `(tactic| walk_at "binaryOp FloorDiv int int") => `(tactic| k_extra "binaryOp FloorDiv int int")
local macro_rules | `(tactic| walk_at "binaryOp Mod int int") => `(tactic| k_extra "binaryOp Mod int int")
local macro_rules | `(tactic| walk_at "call ref") => `(tactic| k_extra "call ref")
local macro_rules | `(tactic| walk_at "call builtin:issubclass") => `(tactic| k_extra "call builtin:issubclass")
local macro_rules | `(tactic| walk_at "call builtin:tuple.__getitem__") => `(tactic| k_extra "call builtin:tuple.__getitem__")
local macro_rules | `(tactic| walk_at "getMethod") => `(tactic| k_extra "getMethod")
local macro_rules | `(tactic| walk_at "call builtin:tuple.__new__") => `(tactic| k_extra "call builtin:tuple.__new__")
local macro_rules | `(tactic| walk_at "getAttr ref") => `(tactic| k_extra "getAttr ref")
local macro_rules | `(tactic| walk_at "noteFrame ref") => `(tactic| k_extra "noteFrame ref")
local macro_rules | `(tactic| walk_at "And") => `(tactic| k_extra "And")
local macro_rules | `(tactic| walk_at "joinParts") => `(tactic| k_extra "joinParts")
local macro_rules | `(tactic| walk_at "call type:bytes") => `(tactic| k_extra "call type:bytes")
local macro_rules | `(tactic| walk_at "subscriptTail") => `(tactic| k_extra "subscriptTail")
local macro_rules | `(tactic| walk_at "binaryOp Mult ref int") => `(tactic| k_extra "binaryOp Mult ref int")
namespace Mine
noncomputable abbrev mx (a b : Int) : Int := if b > a then b else a
noncomputable abbrev mn (a b : Int) : Int := if b < a then b else a
noncomputable def bombV (place : Int) : Int := if Int.fdiv place 100000 < 2 then 0 else 2 ^ (Int.fdiv place 100000 - 2).toNat
theorem bomb_end {x place : Int} (hn : ¬ Int.fdiv place 100000 < 2) (h : x = 2 ^ (rangeKs 0 (Int.fdiv place 100000 - 2 - 0).toNat).length) : x = bombV place := by
  unfold bombV; rw [if_neg hn, h]
  congr 1
  simp [rangeKs]
set_option maxHeartbeats 4000000 in
theorem t_bomb (w : World) (place : Int) (t1 : Tok) (h0 : 0 ≤ place) (h1 : place < 2 ^ 40)
   : Tell w 10 420 [.int place t1] [] [] (RInt (bombV place)) := by
  k_with_none
  (k_with "ite" => first | with_reducible refine Mine.pite_ff ?_ | with_reducible refine Mine.pite_tt ?_ | with_reducible refine Mine.pite_nt ?_ | with_reducible refine Mine.pite_nf ?_ | with_reducible refine Mine.pite_t ?_ | with_reducible refine Mine.pite_f ?_)
  (k_with "execs cons" => first | (k_here; k_gentoks) | ((with_reducible refine Mine.execs_gen ?_); intro Q9 hQ9))
  (k_with "execs cons" => ((with_reducible show wpAny _ _ (execs _ _) (UnrPost _ _ _ _ _ _ _) _ _); (refine Mine.gen_post ?_); intro Q9 hQ9))
  (k_with "execs cons" => ((with_reducible show wpAny _ _ (execs _ _) (UnrPostW _ _ _ _ _ _) _ _); (refine Mine.gen_post ?_); intro Q9 hQ9))
  (k_with "eval Name" => (k_here; (with_reducible show wpAny _ _ (eval (Expr.Name _ _) (envOf _ _ _ _ _)) _ _ _); name_kind "globalImplicit"; name_is_builtin; (with_reducible rename Fr _ _ _ _ => kF); k_dflt (refine' Mine.nameB ?c1 ?c2 ?c3 kF ?k1 ?k2 ?k3 ?k4 ?k5 ?_; (case c1 => kernel_rfl); (case c2 => kernel_rfl); (case c3 => kernel_rfl); (case k1 => k_asm); (case k2 => k_asm); (case k3 => k_is); (case k4 => boot_by_name); (case k5 => decide); k_whole)))
  (k_with "eval Name" => (k_here; (with_reducible show wpAny _ _ (eval (Expr.Name _ _) (envOf _ _ _ _ _)) _ _ _); name_kind "globalImplicit"; (with_reducible rename Fr _ _ _ _ => kF); k_dflt (refine' Mine.nameK ?c1 ?c2 ?c3 kF ?k1 ?k2 ?k3 ?_; (case c1 => kernel_rfl); (case c2 => kernel_rfl); (case c3 => kernel_rfl); (case k1 => k_asm); (case k2 => k_asm); (case k3 => k_is); k_whole)))
  (k_with "eval Name" => (k_here; (with_reducible show wpAny _ _ (eval (Expr.Name _ _) (envOf _ _ _ _ _)) _ _ _); name_kind "local"; k_dflt (refine' Mine.nameL ?c1 ?c2 ?c3 ?k1 ?k2 ?_; (case c1 => kernel_rfl); (case c2 => kernel_rfl); (case c3 => kernel_rfl); (case k1 => k_asm); (case k2 => exact rfl); k_whole)))
  (k_with "callWith ref" => (k_here; k_dflt (first
  | (refine' callWith_K ?k1 ?k2 ?_; (case k1 => k_asm); (case k2 => k_is); k_whole)
  | (refine' callWith_KW ?k1 ?k2 ?k3 ?_; (case k1 => k_asm); (case k2 => k_is); (case k3 => exact rfl); k_whole))))
  (k_with "ct int" => (
  (try dsimp only)
  refine' Mine.ends_int ?e1 ?e2 ?_
  case e1 => k_asm
  case e2 => k_asm))
  (k_with "ct with" => (
  (case k1 => k_asm)
  (case k2 => k_asm)
  (case k3 => k_in)
  (case k4 => k_asm)
  (case k5 => k_asm)
  (case kK => first | exact rfl | assumption)
  (case kf => first | exact fun _ h => (nomatch h) | walk_at "ct facts")
  (case kd => ktr_room)
  (case ku => ktr_units)))
  (k_with "ct mul" => first | omega | (split <;> omega) | (simp only [] at *; omega) | (constructor <;> omega))
  (k_with "binaryOp Mult int int" => ((first
  | (refine mul_int ?_ (PySem.IntMulOk.of_right (PySem.intBits_le_64 (by walk_at "ct mul") (by walk_at "ct mul"))))
  | (refine mul_int ?_ (PySem.IntMulOk.of_left (PySem.intBits_le_64 (by walk_at "ct mul") (by walk_at "ct mul"))))); (try dsimp only)))
  (k_with "binaryOp FloorDiv int int" => ((with_reducible refine Mine.fdivQ (by first | omega | (simp only [] at *; omega)) (by first | omega | (simp only [] at *; omega)) ?_); (try dsimp only)))
  (k_with "binaryOp Mod int int" => ((with_reducible refine Mine.fmodQ (by first | omega | (simp only [] at *; omega)) ?_); (try dsimp only)))
  refine Mine.fill ?_
  k_fill
  intro _ _
  refine' Mine.tell_of ?ho ?hcd ?hb ?hl ?c1 ?c2 ?c3 ?c4 (by decide) ?_
  case ho => k_is
  case hcd => k_is
  case hb => (conv in (occs := *) Mine.fArgs _ => all_goals whnf); first | exact fun _ _ _ _ => BindsTo.of_eq rfl | exact fun h₀ s X k => binds_K (X.keeps k) rfl (by k_is) rfl rfl rfl
  case hl => exact locs rfl
  case c1 => exact rfl
  case c2 => exact rfl
  case c3 => exact rfl
  case c4 => decide
  intro _ _ _ _ _ _ _ _ _ _ _ _ _ _ _ _ _ _ _ _ _ _ _ _ _ _ _ _ _ _
  (conv in (occs := *) Mine.fBody _ => all_goals whnf)
  (conv in (occs := *) Mine.fScope _ => all_goals whnf)
  (try dsimp only)
  (try k_fold)
  refine Mine.gen_post fun Q9 hQ9 => ?_
  (k_with "pyIter ref" => k_state (fun pre g => g = 2 ^ pre.length) "grown")
  k_steps
  · walk_at "ct int"
    unfold bombV; rw [if_pos (by assumption)]
  · walk_at "ct int"
    exact bomb_end (by assumption) (by assumption)
noncomputable abbrev stepV (t times place : Int) : Int := mx 131072 (t + Int.fdiv t 2048 * mx (-99) times) + bombV place
set_option maxHeartbeats 4000000 in
theorem t_stepped (w : World) (t times place : Int) (t1 t2 t3 : Tok) (h0 : 0 ≤ place) (h1 : place < 2 ^ 40) (hs : -2 ^ 40 < times) (hs1 : times < 2 ^ 40)
   : Tell w 20 434 [.int t t1, .int times t2, .int place t3] [] [] (RInt (stepV t times place)) := by
  k_with_none
  (k_with "ite" => first | with_reducible refine Mine.pite_ff ?_ | with_reducible refine Mine.pite_tt ?_ | with_reducible refine Mine.pite_nt ?_ | with_reducible refine Mine.pite_nf ?_ | with_reducible refine Mine.pite_t ?_ | with_reducible refine Mine.pite_f ?_)
  (k_with "execs cons" => first | (k_here; k_gentoks) | ((with_reducible refine Mine.execs_gen ?_); intro Q9 hQ9))
  (k_with "execs cons" => ((with_reducible show wpAny _ _ (execs _ _) (UnrPost _ _ _ _ _ _ _) _ _); (refine Mine.gen_post ?_); intro Q9 hQ9))
  (k_with "execs cons" => ((with_reducible show wpAny _ _ (execs _ _) (UnrPostW _ _ _ _ _ _) _ _); (refine Mine.gen_post ?_); intro Q9 hQ9))
  (k_with "eval Name" => (k_here; (with_reducible show wpAny _ _ (eval (Expr.Name _ _) (envOf _ _ _ _ _)) _ _ _); name_kind "globalImplicit"; name_is_builtin; (with_reducible rename Fr _ _ _ _ => kF); k_dflt (refine' Mine.nameB ?c1 ?c2 ?c3 kF ?k1 ?k2 ?k3 ?k4 ?k5 ?_; (case c1 => kernel_rfl); (case c2 => kernel_rfl); (case c3 => kernel_rfl); (case k1 => k_asm); (case k2 => k_asm); (case k3 => k_is); (case k4 => boot_by_name); (case k5 => decide); k_whole)))
  (k_with "eval Name" => (k_here; (with_reducible show wpAny _ _ (eval (Expr.Name _ _) (envOf _ _ _ _ _)) _ _ _); name_kind "globalImplicit"; (with_reducible rename Fr _ _ _ _ => kF); k_dflt (refine' Mine.nameK ?c1 ?c2 ?c3 kF ?k1 ?k2 ?k3 ?_; (case c1 => kernel_rfl); (case c2 => kernel_rfl); (case c3 => kernel_rfl); (case k1 => k_asm); (case k2 => k_asm); (case k3 => k_is); k_whole)))
  (k_with "eval Name" => (k_here; (with_reducible show wpAny _ _ (eval (Expr.Name _ _) (envOf _ _ _ _ _)) _ _ _); name_kind "local"; k_dflt (refine' Mine.nameL ?c1 ?c2 ?c3 ?k1 ?k2 ?_; (case c1 => kernel_rfl); (case c2 => kernel_rfl); (case c3 => kernel_rfl); (case k1 => k_asm); (case k2 => exact rfl); k_whole)))
  (k_with "callWith ref" => (k_here; k_dflt (first
  | (refine' callWith_K ?k1 ?k2 ?_; (case k1 => k_asm); (case k2 => k_is); k_whole)
  | (refine' callWith_KW ?k1 ?k2 ?k3 ?_; (case k1 => k_asm); (case k2 => k_is); (case k3 => exact rfl); k_whole))))
  (k_with "ct int" => (
  (try dsimp only)
  refine' Mine.ends_int ?e1 ?e2 ?_
  case e1 => k_asm
  case e2 => k_asm))
  (k_with "ct with" => (
  (case k1 => k_asm)
  (case k2 => k_asm)
  (case k3 => k_in)
  (case k4 => k_asm)
  (case k5 => k_asm)
  (case kK => first | exact rfl | assumption)
  (case kf => first | exact fun _ h => (nomatch h) | walk_at "ct facts")
  (case kd => ktr_room)
  (case ku => ktr_units)))
  (k_with "ct mul" => first | omega | (split <;> omega) | (simp only [] at *; omega) | (constructor <;> omega))
  (k_with "binaryOp Mult int int" => ((first
  | (refine mul_int ?_ (PySem.IntMulOk.of_right (PySem.intBits_le_64 (by walk_at "ct mul") (by walk_at "ct mul"))))
  | (refine mul_int ?_ (PySem.IntMulOk.of_left (PySem.intBits_le_64 (by walk_at "ct mul") (by walk_at "ct mul"))))); (try dsimp only)))
  (k_with "binaryOp FloorDiv int int" => ((with_reducible refine Mine.fdivQ (by first | omega | (simp only [] at *; omega)) (by first | omega | (simp only [] at *; omega)) ?_); (try dsimp only)))
  (k_with "binaryOp Mod int int" => ((with_reducible refine Mine.fmodQ (by first | omega | (simp only [] at *; omega)) ?_); (try dsimp only)))
  (k_with "call ref" => ((with_reducible show wpAny _ _ (call (Value.ref 420) _) _ _ _); k_dflt ((refine' Mine.use_int (Mine.t_bomb _ _ _ ?p0 ?p1) ?k1 ?k2 ?k3 ?k4 ?k5 ?kK ?kf ?kd ?ku ?_); walk_at "ct with"; (case p0 => first | assumption | omega); (case p1 => first | assumption | omega); intro t9 h9 tk9 F9 N9; (try k_sweep))))
  refine Mine.fill ?_
  k_fill
  intro _ _
  refine' Mine.tell_of ?ho ?hcd ?hb ?hl ?c1 ?c2 ?c3 ?c4 (by decide) ?_
  case ho => k_is
  case hcd => k_is
  case hb => (conv in (occs := *) Mine.fArgs _ => all_goals whnf); first | exact fun _ _ _ _ => BindsTo.of_eq rfl | exact fun h₀ s X k => binds_K (X.keeps k) rfl (by k_is) rfl rfl rfl
  case hl => exact locs rfl
  case c1 => exact rfl
  case c2 => exact rfl
  case c3 => exact rfl
  case c4 => decide
  intro _ _ _ _ _ _ _ _ _ _ _ _ _ _ _ _ _ _ _ _ _ _ _ _ _ _ _ _ _ _
  (conv in (occs := *) Mine.fBody _ => all_goals whnf)
  (conv in (occs := *) Mine.fScope _ => all_goals whnf)
  (try dsimp only)
  (try k_fold)
  refine Mine.gen_post fun Q9 hQ9 => ?_
  k_steps
  all_goals walk_at "ct int"
  all_goals rfl
noncomputable def frontV (t went place : Int) : Int :=
  let step := if went ≥ 13 then - Int.fdiv t 2048 else Int.fdiv t 2048
  let plain := mx (t + step) (mn t 131072)
  if Int.fdiv place 100000 < 2 then plain else mx (plain + bombV place) 131072
set_option maxHeartbeats 4000000 in
theorem t_frontier (w : World) (t went place : Int) (t1 t2 t3 : Tok) (h0 : 0 ≤ place) (h1 : place < 2 ^ 40)
   : Tell w 20 427 [.int t t1, .int went t2, .int place t3] [] [] (RInt (frontV t went place)) := by
  refine Mine.fill ?_
  k_fill
  intro _ _
  refine' Mine.tell_of ?ho ?hcd ?hb ?hl ?c1 ?c2 ?c3 ?c4 (by decide) ?_
  case ho => k_is
  case hcd => k_is
  case hb => (conv in (occs := *) Mine.fArgs _ => all_goals whnf); first | exact fun _ _ _ _ => BindsTo.of_eq rfl | exact fun h₀ s X k => binds_K (X.keeps k) rfl (by k_is) rfl rfl rfl
  case hl => exact locs rfl
  case c1 => exact rfl
  case c2 => exact rfl
  case c3 => exact rfl
  case c4 => decide
  intro _ _ _ _ _ _ _ _ _ _ _ _ _ _ _ _ _ _ _ _ _ _ _ _ _ _ _ _ _ _
  (conv in (occs := *) Mine.fBody _ => all_goals whnf)
  (conv in (occs := *) Mine.fScope _ => all_goals whnf)
  (try dsimp only)
  (try k_fold)
  refine Mine.gen_post fun Q9 hQ9 => ?_
  k_steps
  all_goals walk_at "ct int"
  all_goals (unfold frontV; simp only [*, if_true, if_false]; try rfl)
theorem excess_end (x : Int) : [0, x].getD (if decide (0 < x) = true then 1 else 0 : Int).toNat 0 = mx 0 x := by
  unfold mx
  by_cases h : 0 < x
  · simp [h]
  · simp [h]
set_option maxHeartbeats 4000000 in
theorem t_excess (w : World) (e u t : Int) (t1 t2 t3 : Tok)
   : Tell w 20 476 [.int e t1, .int u t2, .int t t3] [] [] (RInt (mx 0 (e + u - t))) := by
  refine Mine.fill ?_
  k_fill
  intro _ _
  refine' Mine.tell_of ?ho ?hcd ?hb ?hl ?c1 ?c2 ?c3 ?c4 (by decide) ?_
  case ho => k_is
  case hcd => k_is
  case hb => (conv in (occs := *) Mine.fArgs _ => all_goals whnf); first | exact fun _ _ _ _ => BindsTo.of_eq rfl | exact fun h₀ s X k => binds_K (X.keeps k) rfl (by k_is) rfl rfl rfl
  case hl => exact locs rfl
  case c1 => exact rfl
  case c2 => exact rfl
  case c3 => exact rfl
  case c4 => decide
  intro _ _ _ _ _ _ _ _ _ _ _ _ _ _ _ _ _ _ _ _ _ _ _ _ _ _ _ _ _ _
  (conv in (occs := *) Mine.fBody _ => all_goals whnf)
  (conv in (occs := *) Mine.fScope _ => all_goals whnf)
  (try dsimp only)
  (try k_fold)
  refine Mine.gen_post fun Q9 hQ9 => ?_
  k_steps
  all_goals walk_at "ct int"
  all_goals exact excess_end _
noncomputable def limitV (limit used least : Int) : Int :=
  let decay := Int.fdiv limit 1024
  let wanted := mx 5000 (limit - decay + 1 + Int.fdiv (used * 3) 2048)
  if wanted < least then limit + decay - 1 else wanted
set_option maxHeartbeats 4000000 in
theorem t_limit (w : World) (limit used least : Int) (t1 t2 t3 : Tok)
   : Tell w 20 462 [.int limit t1, .int used t2, .int least t3] [] [] (RInt (limitV limit used least)) := by
  refine Mine.fill ?_
  k_fill
  intro _ _
  refine' Mine.tell_of ?ho ?hcd ?hb ?hl ?c1 ?c2 ?c3 ?c4 (by decide) ?_
  case ho => k_is
  case hcd => k_is
  case hb => (conv in (occs := *) Mine.fArgs _ => all_goals whnf); first | exact fun _ _ _ _ => BindsTo.of_eq rfl | exact fun h₀ s X k => binds_K (X.keeps k) rfl (by k_is) rfl rfl rfl
  case hl => exact locs rfl
  case c1 => exact rfl
  case c2 => exact rfl
  case c3 => exact rfl
  case c4 => decide
  intro _ _ _ _ _ _ _ _ _ _ _ _ _ _ _ _ _ _ _ _ _ _ _ _ _ _ _ _ _ _
  (conv in (occs := *) Mine.fBody _ => all_goals whnf)
  (conv in (occs := *) Mine.fScope _ => all_goals whnf)
  (try dsimp only)
  (try k_fold)
  refine Mine.gen_post fun Q9 hQ9 => ?_
  k_steps
  all_goals walk_at "ct int"
  all_goals (unfold limitV; simp only [*, if_true, if_false]; try rfl)
noncomputable abbrev ab (x : Int) : Int := if x < 0 then -x else x
noncomputable def feeV (limit used fee : Int) : Int :=
  let half := Int.fdiv limit 2
  if used = half then fee else
  let part := Int.fdiv (fee * ab (used - half)) (8 * half)
  if used > half then fee + mx part 1 else fee - part
set_option maxHeartbeats 4000000 in
theorem t_fee (w : World) (limit used fee : Int) (t1 t2 t3 : Tok) (h0 : 5120 ≤ limit) (h1 : limit < 2 ^ 63) (h2 : 0 ≤ used) (h3 : used ≤ limit)
   : Tell w 20 455 [.int limit t1, .int used t2, .int fee t3] [] [] (RInt (feeV limit used fee)) := by
  have hhalf : 0 < Int.fdiv limit 2 := by rw [Int.fdiv_eq_ediv_of_nonneg _ (by omega)]; omega
  obtain ⟨h9, h10⟩ : -2 ^ 64 < used - Int.fdiv limit 2 ∧ used - Int.fdiv limit 2 < 2 ^ 64 := by rw [Int.fdiv_eq_ediv_of_nonneg _ (by omega)]; omega
  refine Mine.fill ?_
  k_fill
  intro _ _
  refine' Mine.tell_of ?ho ?hcd ?hb ?hl ?c1 ?c2 ?c3 ?c4 (by decide) ?_
  case ho => k_is
  case hcd => k_is
  case hb => (conv in (occs := *) Mine.fArgs _ => all_goals whnf); first | exact fun _ _ _ _ => BindsTo.of_eq rfl | exact fun h₀ s X k => binds_K (X.keeps k) rfl (by k_is) rfl rfl rfl
  case hl => exact locs rfl
  case c1 => exact rfl
  case c2 => exact rfl
  case c3 => exact rfl
  case c4 => decide
  intro _ _ _ _ _ _ _ _ _ _ _ _ _ _ _ _ _ _ _ _ _ _ _ _ _ _ _ _ _ _
  (conv in (occs := *) Mine.fBody _ => all_goals whnf)
  (conv in (occs := *) Mine.fScope _ => all_goals whnf)
  (try dsimp only)
  (try k_fold)
  refine Mine.gen_post fun Q9 hQ9 => ?_
  k_steps
  all_goals walk_at "ct int"
  all_goals (unfold feeV; simp only [*, if_true, if_false]; try rfl)
noncomputable abbrev kRow : Str := Str.ofString "row"
noncomputable abbrev kAt : Str := Str.ofString "at"
noncomputable def DObj (w : World) (oD : Obj) (R : Addr) (a : Int) : Prop := ∃ ta, oD.IsDictOf (PySem.strKind pw w) [(kRow, .ref R), (kAt, .int a ta)]
noncomputable abbrev RPick (w : World) (D R : Addr) (a many : Int) : Nws → Value → Prop := fun new r => ∃ oD', new = [(D, oD')] ∧ DObj w oD' R (a + 1) ∧ ∃ v tk, r = .int v tk ∧ 0 ≤ v ∧ v < many
theorem ends_pick {w : World} {D R : Addr} {a many v : Int} {oD' : Obj} {ta t : Tok} {g : Heap} {s : Shared} {L' : Addr} {h : Heap} {m' : Str → Option Value} {tk : Nat}
    (F : Fr g L' h m') (N : News g L' h [(D, oD')]) (hd : oD'.IsDictOf (PySem.strKind pw w) [(Str.ofString "row", .ref R), (Str.ofString "at", .int (a + 1) ta)]) (h2 : 0 < many) :
    Ends g s (RPick w D R a many) (.int (v.fmod many) t) { s with heap := h, toks := tk } :=
  ⟨L', m', _, h, tk, rfl, F, N, _, fun _ h => h, oD', rfl, ⟨ta, hd⟩, _, _, rfl, by rw [Int.fmod_eq_emod_of_nonneg _ (by omega)]; exact Int.emod_nonneg _ (by omega), by rw [Int.fmod_eq_emod_of_nonneg _ (by omega)]; exact Int.emod_lt_of_pos _ h2⟩
set_option maxHeartbeats 4000000 in
theorem t_pick (w : World) (D R : Addr) (oD : Obj) (vs : List Value) (ns : List Int) (nn : Nat) (a many : Int) (t1 : Tok) (h0 : 0 ≤ a) (h1 : a < 2 ^ 40) (h2 : 0 < many) (hI : IntsAre vs ns) (hl : ns.length < 2 ^ 40) (hD : DObj w oD R a)
   : Tell w 10 399 [.ref D, .int many t1] [(R, PySem.W.listOf vs.toArray nn)] [(D, oD)] (RPick w D R a many) := by
  k_with_none
  (k_with "ite" => first | with_reducible refine Mine.pite_ff ?_ | with_reducible refine Mine.pite_tt ?_ | with_reducible refine Mine.pite_nt ?_ | with_reducible refine Mine.pite_nf ?_ | with_reducible refine Mine.pite_t ?_ | with_reducible refine Mine.pite_f ?_)
  (k_with "execs cons" => first | (k_here; k_gentoks) | ((with_reducible refine Mine.execs_gen ?_); intro Q9 hQ9))
  (k_with "execs cons" => ((with_reducible show wpAny _ _ (execs _ _) (UnrPost _ _ _ _ _ _ _) _ _); (refine Mine.gen_post ?_); intro Q9 hQ9))
  (k_with "execs cons" => ((with_reducible show wpAny _ _ (execs _ _) (UnrPostW _ _ _ _ _ _) _ _); (refine Mine.gen_post ?_); intro Q9 hQ9))
  (k_with "eval Name" => (k_here; (with_reducible show wpAny _ _ (eval (Expr.Name _ _) (envOf _ _ _ _ _)) _ _ _); name_kind "globalImplicit"; name_is_builtin; (with_reducible rename Fr _ _ _ _ => kF); k_dflt (refine' Mine.nameB ?c1 ?c2 ?c3 kF ?k1 ?k2 ?k3 ?k4 ?k5 ?_; (case c1 => kernel_rfl); (case c2 => kernel_rfl); (case c3 => kernel_rfl); (case k1 => k_asm); (case k2 => k_asm); (case k3 => k_is); (case k4 => boot_by_name); (case k5 => decide); k_whole)))
  (k_with "eval Name" => (k_here; (with_reducible show wpAny _ _ (eval (Expr.Name _ _) (envOf _ _ _ _ _)) _ _ _); name_kind "globalImplicit"; (with_reducible rename Fr _ _ _ _ => kF); k_dflt (refine' Mine.nameK ?c1 ?c2 ?c3 kF ?k1 ?k2 ?k3 ?_; (case c1 => kernel_rfl); (case c2 => kernel_rfl); (case c3 => kernel_rfl); (case k1 => k_asm); (case k2 => k_asm); (case k3 => k_is); k_whole)))
  (k_with "eval Name" => (k_here; (with_reducible show wpAny _ _ (eval (Expr.Name _ _) (envOf _ _ _ _ _)) _ _ _); name_kind "local"; k_dflt (refine' Mine.nameL ?c1 ?c2 ?c3 ?k1 ?k2 ?_; (case c1 => kernel_rfl); (case c2 => kernel_rfl); (case c3 => kernel_rfl); (case k1 => k_asm); (case k2 => exact rfl); k_whole)))
  (k_with "callWith ref" => (k_here; k_dflt (first
  | (refine' callWith_K ?k1 ?k2 ?_; (case k1 => k_asm); (case k2 => k_is); k_whole)
  | (refine' callWith_KW ?k1 ?k2 ?k3 ?_; (case k1 => k_asm); (case k2 => k_is); (case k3 => exact rfl); k_whole))))
  (k_with "ct int" => (
  (try dsimp only)
  refine' Mine.ends_int ?e1 ?e2 ?_
  case e1 => k_asm
  case e2 => k_asm))
  (k_with "ct with" => (
  (case k1 => k_asm)
  (case k2 => k_asm)
  (case k3 => k_in)
  (case k4 => k_asm)
  (case k5 => k_asm)
  (case kK => first | exact rfl | assumption)
  (case kf => first | exact fun _ h => (nomatch h) | walk_at "ct facts")
  (case kd => ktr_room)
  (case ku => ktr_units)))
  (k_with "ct mul" => first | omega | (split <;> omega) | (simp only [] at *; omega) | (constructor <;> omega))
  (k_with "binaryOp Mult int int" => ((first
  | (refine mul_int ?_ (PySem.IntMulOk.of_right (PySem.intBits_le_64 (by walk_at "ct mul") (by walk_at "ct mul"))))
  | (refine mul_int ?_ (PySem.IntMulOk.of_left (PySem.intBits_le_64 (by walk_at "ct mul") (by walk_at "ct mul"))))); (try dsimp only)))
  (k_with "binaryOp FloorDiv int int" => ((with_reducible refine Mine.fdivQ (by first | omega | (simp only [] at *; omega)) (by first | omega | (simp only [] at *; omega)) ?_); (try dsimp only)))
  (k_with "binaryOp Mod int int" => ((with_reducible refine Mine.fmodQ (by first | omega | (simp only [] at *; omega)) ?_); (try dsimp only)))
  refine Mine.fill ?_
  k_fill
  intro _ _
  refine' Mine.tell_of ?ho ?hcd ?hb ?hl ?c1 ?c2 ?c3 ?c4 (by decide) ?_
  case ho => k_is
  case hcd => k_is
  case hb => (conv in (occs := *) Mine.fArgs _ => all_goals whnf); first | exact fun _ _ _ _ => BindsTo.of_eq rfl | exact fun h₀ s X k => binds_K (X.keeps k) rfl (by k_is) rfl rfl rfl
  case hl => exact locs rfl
  case c1 => exact rfl
  case c2 => exact rfl
  case c3 => exact rfl
  case c4 => decide
  intro _ _ _ _ _ _ _ _ _ _ _ _ _ _ _ _ _ _ _ _ _ _ _ _ _ _ _ _ _ _
  (conv in (occs := *) Mine.fBody _ => all_goals whnf)
  (conv in (occs := *) Mine.fScope _ => all_goals whnf)
  (try dsimp only)
  (try k_fold)
  refine Mine.gen_post fun Q9 hQ9 => ?_
  rename_i hfa hsm hd hu
  have hR := hfa _ (.head _)
  have hL := isList_of hR
  obtain ⟨ta, hDD⟩ := hD
  k_steps
  all_goals (try dsimp only)
  all_goals exact ends_pick (by k_asm) (by k_asm) (by assumption) h2
theorem use_pick {w : World} {D R : Addr} {oD : Obj} {vs : List Value} {ns : List Int} {nn : Nat} {a many : Int} {t1 : Tok} {gf : Obj → Nws}
    {p : Program} {loose : List Str} {mean : ExcName → Option Value} {mg mb : Str → Option Value} {dp un : Nat} {gd : Option (List Code)} {cn : Str} {cs : Scope} {ad : Addr} {ccd : Value} {cl : List (Str × Addr)} {outer : List Env} {A₀ : Around} {base h₀ : Heap} {L : Addr} {m : Str → Option Value} {news : Nws} {s : Shared} {Q E : Value → Shared → Prop}
    (B : Below A₀ base outer h₀) (F : Fr h₀ L s.heap m) (X : (Mine.K w.params).In h₀) (N : News h₀ L s.heap news) (T : Top p loose mean mg mb h₀) (hk : cs.kind = .function)
    (hD : DObj w oD R a) (U : UpdF D oD news gf) (hR : (R, PySem.W.listOf vs.toArray nn) ∈ news ∨ h₀.get? R = some (PySem.W.listOf vs.toArray nn)) (hRD : R ≠ D) (hI : IntsAre vs ns) (hl : ns.length < 2 ^ 40) (h0 : 0 ≤ a) (h1 : a < 2 ^ 40) (h2 : 0 < many)
    (hd : dp + 10 < recursionLimit) (hu : un + 8 * 10 < cLine)
    (ret : ∀ oD' v t h' tk', DObj w oD' R (a + 1) → 0 ≤ v → v < many → Fr h₀ L h' m → News h₀ L h' (gf oD') → Q (.int v t) { s with heap := h', toks := tk' }) :
    wpAny (model pw w) (ktrTop dp un gd cn cs L ad ccd cl outer) (call (.ref 399) [.ref D, .int many t1]) Q E s := by
  obtain ⟨own, rst, rfl, hg, n1, n2⟩ := U.split
  refine (t_pick w D R oD vs ns nn a many t1 h0 h1 h2 hI hl hD).tell B F X N T hk (fun q hq => ?_) (fun q hq => ?_) (fun q hq => ?_) hd hu fun r h' tk' new hP F' N' _ => ?_
  · cases hq with
    | head => exact hR
    | tail _ h => cases h
  · cases hq with
    | head => exact List.mem_append_right _ (.head _)
    | tail _ h => cases h
  · cases hq with
    | head => simp only [List.map_cons, List.map_nil, List.mem_singleton]; exact hRD
    | tail _ h => cases h
  · obtain ⟨oD', rfl, hd', v, tk, rfl, v0, v1⟩ := hP
    refine ret oD' v tk h' tk' hd' v0 v1 F' fun q hq => ?_
    rw [hg] at hq
    rcases List.mem_append.mp hq with hq | hq
    · exact N' q (List.mem_append_right _ (mem_rest.mpr ⟨List.mem_append_left _ hq, by simpa using n1 q hq⟩))
    · rcases List.mem_cons.mp hq with rfl | hq
      · exact N' _ (.head _)
      · exact N' q (List.mem_append_right _ (mem_rest.mpr ⟨List.mem_append_right _ (.tail _ hq), by simpa using n2 q hq⟩))
noncomputable abbrev RGreat (w : World) (D R : Addr) (a most : Int) : Nws → Value → Prop := fun new r => ∃ oD', new = [(D, oD')] ∧ DObj w oD' R (a + 6) ∧ ∃ v tk, r = .int v tk ∧ 0 ≤ v ∧ v ≤ most
theorem ends_great {w : World} {D R : Addr} {a b most v : Int} {oD' : Obj} {t : Tok} {g : Heap} {s : Shared} {L' : Addr} {h : Heap} {m' : Str → Option Value} {tk : Nat} {new : Nws}
    (F : Fr g L' h m') (N : News g L' h new) (hm : (D, oD') ∈ new) (hd : DObj w oD' R b) (e : b = a + 6) (h2 : 0 ≤ most) :
    Ends g s (RGreat w D R a most) (.int (v.fmod (most + 1)) t) { s with heap := h, toks := tk } := by
  subst e
  refine ⟨L', m', _, h, tk, rfl, F, N, [(D, oD')], fun q hq => ?_, oD', rfl, hd, _, _, rfl, by rw [Int.fmod_eq_emod_of_nonneg _ (by omega)]; exact Int.emod_nonneg _ (by omega), ?_⟩
  · cases hq with
    | head => exact hm
    | tail _ h => cases h
  · rw [Int.fmod_eq_emod_of_nonneg _ (by omega)]; have := Int.emod_lt_of_pos v (show 0 < most + 1 by omega); omega
set_option maxHeartbeats 4000000 in
theorem t_great (w : World) (D R : Addr) (oD : Obj) (vs : List Value) (ns : List Int) (nn : Nat) (a most : Int) (t1 : Tok) (h0 : 0 ≤ a) (h1 : a < 2 ^ 30) (h2 : 0 ≤ most) (hI : IntsAre vs ns) (hl : ns.length < 2 ^ 40) (hRD : R ≠ D) (hD : DObj w oD R a)
   : Tell w 20 406 [.ref D, .int most t1] [(R, PySem.W.listOf vs.toArray nn)] [(D, oD)] (RGreat w D R a most) := by
  k_with_none
  (k_with "ite" => first | with_reducible refine Mine.pite_ff ?_ | with_reducible refine Mine.pite_tt ?_ | with_reducible refine Mine.pite_nt ?_ | with_reducible refine Mine.pite_nf ?_ | with_reducible refine Mine.pite_t ?_ | with_reducible refine Mine.pite_f ?_)
  (k_with "execs cons" => first | (k_here; k_gentoks) | ((with_reducible refine Mine.execs_gen ?_); intro Q9 hQ9))
  (k_with "execs cons" => ((with_reducible show wpAny _ _ (execs _ _) (UnrPost _ _ _ _ _ _ _) _ _); (refine Mine.gen_post ?_); intro Q9 hQ9))
  (k_with "execs cons" => ((with_reducible show wpAny _ _ (execs _ _) (UnrPostW _ _ _ _ _ _) _ _); (refine Mine.gen_post ?_); intro Q9 hQ9))
  (k_with "eval Name" => (k_here; (with_reducible show wpAny _ _ (eval (Expr.Name _ _) (envOf _ _ _ _ _)) _ _ _); name_kind "globalImplicit"; name_is_builtin; (with_reducible rename Fr _ _ _ _ => kF); k_dflt (refine' Mine.nameB ?c1 ?c2 ?c3 kF ?k1 ?k2 ?k3 ?k4 ?k5 ?_; (case c1 => kernel_rfl); (case c2 => kernel_rfl); (case c3 => kernel_rfl); (case k1 => k_asm); (case k2 => k_asm); (case k3 => k_is); (case k4 => boot_by_name); (case k5 => decide); k_whole)))
  (k_with "eval Name" => (k_here; (with_reducible show wpAny _ _ (eval (Expr.Name _ _) (envOf _ _ _ _ _)) _ _ _); name_kind "globalImplicit"; (with_reducible rename Fr _ _ _ _ => kF); k_dflt (refine' Mine.nameK ?c1 ?c2 ?c3 kF ?k1 ?k2 ?k3 ?_; (case c1 => kernel_rfl); (case c2 => kernel_rfl); (case c3 => kernel_rfl); (case k1 => k_asm); (case k2 => k_asm); (case k3 => k_is); k_whole)))
  (k_with "eval Name" => (k_here; (with_reducible show wpAny _ _ (eval (Expr.Name _ _) (envOf _ _ _ _ _)) _ _ _); name_kind "local"; k_dflt (refine' Mine.nameL ?c1 ?c2 ?c3 ?k1 ?k2 ?_; (case c1 => kernel_rfl); (case c2 => kernel_rfl); (case c3 => kernel_rfl); (case k1 => k_asm); (case k2 => exact rfl); k_whole)))
  (k_with "callWith ref" => (k_here; k_dflt (first
  | (refine' callWith_K ?k1 ?k2 ?_; (case k1 => k_asm); (case k2 => k_is); k_whole)
  | (refine' callWith_KW ?k1 ?k2 ?k3 ?_; (case k1 => k_asm); (case k2 => k_is); (case k3 => exact rfl); k_whole))))
  (k_with "ct int" => (
  (try dsimp only)
  refine' Mine.ends_int ?e1 ?e2 ?_
  case e1 => k_asm
  case e2 => k_asm))
  (k_with "ct with" => (
  (case k1 => k_asm)
  (case k2 => k_asm)
  (case k3 => k_in)
  (case k4 => k_asm)
  (case k5 => k_asm)
  (case kK => first | exact rfl | assumption)
  (case kf => first | exact fun _ h => (nomatch h) | walk_at "ct facts")
  (case kd => ktr_room)
  (case ku => ktr_units)))
  (k_with "ct mul" => first | omega | (split <;> omega) | (simp only [] at *; omega) | (constructor <;> omega))
  (k_with "binaryOp Mult int int" => ((first
  | (refine mul_int ?_ (PySem.IntMulOk.of_right (PySem.intBits_le_64 (by walk_at "ct mul") (by walk_at "ct mul"))))
  | (refine mul_int ?_ (PySem.IntMulOk.of_left (PySem.intBits_le_64 (by walk_at "ct mul") (by walk_at "ct mul"))))); (try dsimp only)))
  (k_with "binaryOp FloorDiv int int" => ((with_reducible refine Mine.fdivQ (by first | omega | (simp only [] at *; omega)) (by first | omega | (simp only [] at *; omega)) ?_); (try dsimp only)))
  (k_with "binaryOp Mod int int" => ((with_reducible refine Mine.fmodQ (by first | omega | (simp only [] at *; omega)) ?_); (try dsimp only)))
  (k_with "call ref" => (
  (with_reducible show wpAny _ _ (call (Value.ref 399) _) _ _ _)
  k_dflt (
  (refine' Mine.use_pick ?k1 ?k2 ?k3 ?k4 ?k5 ?kK ?pD ?pU ?pR ?pN ?pI ?pl ?p0 ?p1 ?p2 ?kd ?ku ?_)
  (case k1 => k_asm)
  (case k2 => k_asm)
  (case k3 => k_in)
  (case k4 => k_asm)
  (case k5 => k_asm)
  (case pU => k_updF)
  (case pD => assumption)
  (case kK => first | exact rfl | assumption)
  (case kd => ktr_room)
  (case ku => ktr_units)
  (case pR => first | exact Or.inr (by assumption) | exact Or.inl (by k_mem))
  (case pN => first | assumption | k_ne)
  (case pI => assumption)
  (case pl => first | assumption | omega)
  (case p0 => omega)
  (case p1 => omega)
  (case p2 => first | decide | omega)
  intro oD9 v9 t9 h9 tk9 hD9 v90 v91 F9 N9
  (try dsimp only at N9)
  (try k_sweep))))
  refine Mine.fill ?_
  k_fill
  intro _ _
  refine' Mine.tell_of ?ho ?hcd ?hb ?hl ?c1 ?c2 ?c3 ?c4 (by decide) ?_
  case ho => k_is
  case hcd => k_is
  case hb => (conv in (occs := *) Mine.fArgs _ => all_goals whnf); first | exact fun _ _ _ _ => BindsTo.of_eq rfl | exact fun h₀ s X k => binds_K (X.keeps k) rfl (by k_is) rfl rfl rfl
  case hl => exact locs rfl
  case c1 => exact rfl
  case c2 => exact rfl
  case c3 => exact rfl
  case c4 => decide
  intro _ _ _ _ _ _ _ _ _ _ _ _ _ _ _ _ _ _ _ _ _ _ _ _ _ _ _ _ _ _
  (conv in (occs := *) Mine.fBody _ => all_goals whnf)
  (conv in (occs := *) Mine.fScope _ => all_goals whnf)
  (try dsimp only)
  (try k_fold)
  refine Mine.gen_post fun Q9 hQ9 => ?_
  rename_i hfa hsm hd hu
  have hR := hfa _ (.head _)
  dsimp only at hR
  k_steps
  all_goals (try dsimp only)
  all_goals exact ends_great (by k_asm) (by k_asm) (.head _) (by assumption) (by omega) h2
noncomputable def termV (e f : Int) : Nat → Int
  | 0 => f
  | n + 1 => Int.fdiv (termV e f n * e) (f * ((n : Int) + 1))
noncomputable def sumV (e f : Int) : Nat → Int
  | 0 => 0
  | n + 1 => sumV e f n + termV e f n
noncomputable def priceV (e f : Int) : Int := Int.fdiv (sumV e f 80) f
section
variable {e f : Int} (h0 : 0 ≤ e) (h1 : e ≤ 7 * f) (f0 : 0 < f) (f1 : f ≤ 2 ^ 23)
include h0 f0
theorem term_nonneg : ∀ n, 0 ≤ termV e f n
  | 0 => Int.le_of_lt f0
  | n + 1 => by
    unfold termV
    have hp : 0 ≤ f * ((n : Int) + 1) := Int.mul_nonneg (by omega) (by omega)
    rw [Int.fdiv_eq_ediv_of_nonneg _ hp]
    exact Int.ediv_nonneg (Int.mul_nonneg (term_nonneg n) h0) hp
omit h0 in
theorem term_succ (n : Nat) : termV e f (n + 1) = (termV e f n * e) / (f * ((n : Int) + 1)) := by
  show Int.fdiv _ _ = _
  exact Int.fdiv_eq_ediv_of_nonneg _ (Int.mul_nonneg (by omega) (by omega))
include h1
theorem term_seven (n : Nat) : termV e f (n + 1) ≤ 7 * termV e f n := by
  rw [term_succ f0]
  have hp : 0 < f * ((n : Int) + 1) := Int.mul_pos f0 (by omega)
  refine Int.ediv_le_of_le_mul hp ?_
  have t0 := term_nonneg h0 f0 n
  have a : termV e f n * e ≤ termV e f n * (7 * f) := Int.mul_le_mul_of_nonneg_left h1 t0
  have b : termV e f n * (7 * f) ≤ termV e f n * (7 * (f * ((n : Int) + 1))) := by
    refine Int.mul_le_mul_of_nonneg_left ?_ t0
    have : f * 1 ≤ f * ((n : Int) + 1) := Int.mul_le_mul_of_nonneg_left (by omega) (by omega)
    omega
  have c : 7 * termV e f n * (f * ((n : Int) + 1)) = termV e f n * (7 * (f * ((n : Int) + 1))) := by
    rw [Int.mul_comm 7, Int.mul_assoc]
  omega
theorem term_half (n : Nat) (hn : 13 ≤ n) : 2 * termV e f (n + 1) ≤ termV e f n := by
  rw [term_succ f0]
  have hp : 0 < f * ((n : Int) + 1) := Int.mul_pos f0 (by omega)
  have t0 := term_nonneg h0 f0 n
  have q := Int.ediv_mul_le (termV e f n * e) (Int.ne_of_gt hp)
  generalize (termV e f n * e) / (f * ((n : Int) + 1)) = x at q
  have b : termV e f n * (2 * e) ≤ termV e f n * (f * ((n : Int) + 1)) := by
    refine Int.mul_le_mul_of_nonneg_left ?_ t0
    have : f * 14 ≤ f * ((n : Int) + 1) := Int.mul_le_mul_of_nonneg_left (by omega) (by omega)
    omega
  have c : termV e f n * (2 * e) = 2 * (termV e f n * e) := by rw [← Int.mul_assoc, Int.mul_comm _ 2, Int.mul_assoc]
  have d : (2 * x) * (f * ((n : Int) + 1)) ≤ termV e f n * (f * ((n : Int) + 1)) := by
    have : (2 * x) * (f * ((n : Int) + 1)) = 2 * (x * (f * ((n : Int) + 1))) := Int.mul_assoc _ _ _
    omega
  exact Int.le_of_mul_le_mul_right d hp
include f1
theorem term13 : termV e f 13 ≤ 2 ^ 60 := by
  have g : ∀ n : Nat, termV e f n ≤ 7 ^ n * f := by
    intro n
    induction n with
    | zero => show f ≤ 1 * f; omega
    | succ n ih =>
      have := term_seven h0 h1 f0 n
      have c : (7 : Int) ^ (n + 1) * f = 7 * (7 ^ n * f) := by rw [Int.pow_succ, Int.mul_comm (7 ^ n) 7, Int.mul_assoc]
      omega
  have := g 13
  have c : (7 : Int) ^ 13 = 96889010407 := by decide
  rw [c] at this
  omega
theorem term_end : termV e f 80 = 0 := by
  have g : ∀ k : Nat, 2 ^ k * termV e f (13 + k) ≤ 2 ^ 60 := by
    intro k
    induction k with
    | zero => have := term13 h0 h1 f0 f1; show 1 * termV e f 13 ≤ _; omega
    | succ k ih =>
      have t := term_half h0 h1 f0 (13 + k) (by omega)
      have p : (0 : Int) ≤ 2 ^ k := Int.pow_nonneg (by decide)
      have m := Int.mul_le_mul_of_nonneg_left t p
      have c : (2 : Int) ^ (k + 1) * termV e f (13 + (k + 1)) = 2 ^ k * (2 * termV e f (13 + k + 1)) := by rw [Int.pow_succ, Int.mul_assoc]; rfl
      omega
  have t : (2 : Int) ^ 67 * termV e f 80 ≤ 2 ^ 60 := g 67
  have c : (2 : Int) ^ 67 = 147573952589676412928 := by decide
  rw [c] at t
  have := term_nonneg h0 f0 80
  omega
omit h1 f1
theorem term_zero {n : Nat} (hz : termV e f n = 0) (k : Nat) : termV e f (n + k) = 0 := by
  induction k with
  | zero => exact hz
  | succ k ih =>
    show termV e f (n + k + 1) = 0
    rw [term_succ f0, ih, Int.zero_mul, Int.zero_ediv]
theorem sum_zero {n : Nat} (hz : termV e f n = 0) (k : Nat) : sumV e f (n + k) = sumV e f n := by
  induction k with
  | zero => rfl
  | succ k ih =>
    show sumV e f (n + k) + termV e f (n + k) = _
    rw [ih, term_zero h0 f0 hz]; omega
theorem sum_at {n : Nat} (hn : n ≤ 80) (hz : termV e f n = 0) : sumV e f 80 = sumV e f n := by
  have := sum_zero h0 f0 hz (80 - n)
  rw [show n + (80 - n) = 80 by omega] at this
  exact this
end
theorem fd (a : Int) {b : Int} (h : 0 ≤ b) : Int.fdiv a b = a / b := Int.fdiv_eq_ediv_of_nonneg _ h
theorem fee1 {limit used fee : Int} (h : used = Int.fdiv limit 2) : fee = feeV limit used fee := by
  unfold feeV; simp only []; rw [if_pos h]
theorem fee_q {a h : Int} (hh : 0 < h) : Int.fdiv (Int.fdiv a h) 8 = Int.fdiv a (8 * h) := by
  rw [fd _ (by omega), fd _ (by omega), fd _ (by omega), Int.mul_comm 8 h]
  exact Int.ediv_ediv_of_nonneg (by omega)
theorem fee2 {limit used fee : Int} (h0 : 0 < Int.fdiv limit 2) (h : ¬ used = Int.fdiv limit 2) (h' : used > Int.fdiv limit 2) :
    (fee + if 1 > ((fee * (used - limit.fdiv 2)).fdiv (limit.fdiv 2)).fdiv 8 then 1 else ((fee * (used - limit.fdiv 2)).fdiv (limit.fdiv 2)).fdiv 8) = feeV limit used fee := by
  unfold feeV; simp only []; rw [if_neg h, if_pos h', fee_q h0]
  have : ab (used - limit.fdiv 2) = used - limit.fdiv 2 := if_neg (by omega)
  rw [this]
theorem fee3 {limit used fee : Int} (hf : 0 ≤ fee) (hu : 0 ≤ used) (h0 : 0 < Int.fdiv limit 2) (h : ¬ used = Int.fdiv limit 2) (h' : ¬ used > Int.fdiv limit 2) :
    (if 0 > fee - ((fee * (limit.fdiv 2 - used)).fdiv (limit.fdiv 2)).fdiv 8 then 0 else fee - ((fee * (limit.fdiv 2 - used)).fdiv (limit.fdiv 2)).fdiv 8) = feeV limit used fee := by
  unfold feeV; simp only []; rw [if_neg h, if_neg h', fee_q h0]
  have : ab (used - limit.fdiv 2) = limit.fdiv 2 - used := by unfold ab; rw [if_pos (by omega)]; omega
  rw [this, if_neg]
  generalize Int.fdiv limit 2 = q at *
  rw [fd _ (by omega)]
  have h1 : fee * (q - used) ≤ fee * q := Int.mul_le_mul_of_nonneg_left (by omega) hf
  have h2 : fee * q ≤ fee * (8 * q) := Int.mul_le_mul_of_nonneg_left (by omega) hf
  have h3 : fee * (q - used) / (8 * q) ≤ fee := Int.ediv_le_of_le_mul (by omega) (by omega)
  omega
theorem gl_q {a : Int} : Int.fdiv (Int.fdiv a 2) 1024 = Int.fdiv a 2048 := by
  rw [fd _ (by omega), fd _ (by omega), fd _ (by omega)]; omega
theorem gl1 {limit used least : Int} (h : (if limit - limit.fdiv 1024 + 1 + ((used * 3).fdiv 2).fdiv 1024 > 5000 then limit - limit.fdiv 1024 + 1 + ((used * 3).fdiv 2).fdiv 1024 else 5000) < least) :
    limit + limit.fdiv 1024 - 1 = limitV limit used least := by
  rw [gl_q] at h
  unfold limitV mx; simp only []; rw [if_pos (by exact h)]
theorem gl2 {limit used least : Int} (h : ¬ (if limit - limit.fdiv 1024 + 1 + ((used * 3).fdiv 2).fdiv 1024 > 5000 then limit - limit.fdiv 1024 + 1 + ((used * 3).fdiv 2).fdiv 1024 else 5000) < least) :
    (if limit - limit.fdiv 1024 + 1 + ((used * 3).fdiv 2).fdiv 1024 > 5000 then limit - limit.fdiv 1024 + 1 + ((used * 3).fdiv 2).fdiv 1024 else 5000) = limitV limit used least := by
  rw [gl_q] at h ⊢
  unfold limitV mx; simp only []; exact (if_neg h).symm
theorem gl_0 {used : Int} (h : used = 0) : (0 : Int) = ((used * 3).fdiv 2).fdiv 1024 := by subst h; rfl
theorem gl3 {limit used least : Int} (z : used = 0) (h : (if limit - limit.fdiv 1024 + 1 + 0 > 5000 then limit - limit.fdiv 1024 + 1 + 0 else 5000) < least) :
    limit + limit.fdiv 1024 - 1 = limitV limit used least := by
  rw [gl_0 z] at h; exact gl1 h
theorem gl4 {limit used least : Int} (z : used = 0) (h : ¬ (if limit - limit.fdiv 1024 + 1 + 0 > 5000 then limit - limit.fdiv 1024 + 1 + 0 else 5000) < least) :
    (if limit - limit.fdiv 1024 + 1 + 0 > 5000 then limit - limit.fdiv 1024 + 1 + 0 else 5000) = limitV limit used least := by
  rw [gl_0 z] at h ⊢; exact gl2 h
theorem fr1 {t went p : Int} (a : went < 13) (b : 0 ≤ Int.fdiv p 100000 - 2) : mx (mx (t + t.fdiv 2048) (mn t 131072) + 2 ^ (Int.fdiv p 100000 - 2).toNat) 131072 = frontV t went p := by
  unfold frontV bombV; simp only []
  rw [if_neg (show ¬ went ≥ 13 by omega), if_neg (show ¬ Int.fdiv p 100000 < 2 by omega), if_neg (show ¬ Int.fdiv p 100000 < 2 by omega)]
theorem fr2 {t went p : Int} (a : went < 13) (b : ¬ 0 ≤ Int.fdiv p 100000 - 2) : mx (t + t.fdiv 2048) (mn t 131072) = frontV t went p := by
  unfold frontV; simp only []
  rw [if_neg (show ¬ went ≥ 13 by omega), if_pos (show Int.fdiv p 100000 < 2 by omega)]
theorem fr3 {t went p : Int} (a : ¬ went < 13) (b : 0 ≤ Int.fdiv p 100000 - 2) : mx (mx (t - t.fdiv 2048) (mn t 131072) + 2 ^ (Int.fdiv p 100000 - 2).toNat) 131072 = frontV t went p := by
  unfold frontV bombV; simp only []
  rw [if_pos (show went ≥ 13 by omega), if_neg (show ¬ Int.fdiv p 100000 < 2 by omega), if_neg (show ¬ Int.fdiv p 100000 < 2 by omega), Int.sub_eq_add_neg]
theorem fr4 {t went p : Int} (a : ¬ went < 13) (b : ¬ 0 ≤ Int.fdiv p 100000 - 2) : mx (t - t.fdiv 2048) (mn t 131072) = frontV t went p := by
  unfold frontV; simp only []
  rw [if_pos (show went ≥ 13 by omega), if_pos (show Int.fdiv p 100000 < 2 by omega), Int.sub_eq_add_neg]
theorem mx_comm (a b : Int) : mx a b = mx b a := by unfold mx; split <;> split <;> omega
theorem two_pow_nonneg (n : Nat) : (0 : Int) ≤ 2 ^ n := Int.le_of_lt (Int.pow_pos (by decide))
theorem st1 {t times p : Int} (b : 0 ≤ Int.fdiv p 100000 - 2) : mx (mx (t + t.fdiv 2048 * mx times (-99)) 131072 + 2 ^ (Int.fdiv p 100000 - 2).toNat) 131072 = stepV t times p := by
  show _ = mx 131072 (t + Int.fdiv t 2048 * mx (-99) times) + bombV p
  unfold bombV
  rw [if_neg (show ¬ Int.fdiv p 100000 < 2 by omega), mx_comm times, mx_comm _ 131072, mx_comm _ 131072]
  have h := two_pow_nonneg (Int.fdiv p 100000 - 2).toNat
  generalize (2 : Int) ^ (Int.fdiv p 100000 - 2).toNat = q at *
  generalize t + Int.fdiv t 2048 * mx (-99) times = r
  unfold mx; split <;> split <;> omega
theorem st2 {t times p : Int} (b : ¬ 0 ≤ Int.fdiv p 100000 - 2) : mx (t + t.fdiv 2048 * mx times (-99)) 131072 = stepV t times p := by
  show _ = mx 131072 (t + Int.fdiv t 2048 * mx (-99) times) + bombV p
  unfold bombV
  rw [if_pos (show Int.fdiv p 100000 < 2 by omega), mx_comm times, mx_comm _ 131072]
  omega
noncomputable def FxI (e f i out acc : Int) : Prop := ∃ n : Nat, n ≤ 80 ∧ i = (n : Int) + 1 ∧ acc = termV e f n ∧ out = sumV e f n
theorem fx_start {e f : Int} : FxI e f 1 0 (1 * f) := ⟨0, by omega, by omega, by show 1 * f = f; omega, rfl⟩
theorem fx_lt {e f i out acc : Int} (h0 : 0 ≤ e) (h1 : e ≤ 7 * f) (f0 : 0 < f) (f1 : f ≤ 2 ^ 23) (h : FxI e f i out acc) (ha : acc > 0) : 0 < i ∧ i ≤ 80 := by
  obtain ⟨n, hn, rfl, rfl, rfl⟩ := h
  by_cases hx : n = 80
  · subst hx; rw [term_end h0 h1 f0 f1] at ha; omega
  · omega
theorem fx_turn {e f i out acc : Int} (h0 : 0 ≤ e) (h1 : e ≤ 7 * f) (f0 : 0 < f) (f1 : f ≤ 2 ^ 23) (h : FxI e f i out acc) (ha : acc > 0) : FxI e f (i + 1) (out + acc) (Int.fdiv (acc * e) (f * i)) := by
  have hl := fx_lt h0 h1 f0 f1 h ha
  obtain ⟨n, hn, rfl, rfl, rfl⟩ := h
  exact ⟨n + 1, by omega, by omega, rfl, rfl⟩
theorem fx_end {e f i out acc : Int} (h0 : 0 ≤ e) (f0 : 0 < f) (h : FxI e f i out acc) (ha : ¬ acc > 0) : Int.fdiv out f = priceV e f := by
  obtain ⟨n, hn, rfl, rfl, rfl⟩ := h
  have := term_nonneg h0 f0 n
  unfold priceV
  rw [sum_at h0 f0 hn (by omega)]
theorem fx_den {e f i out acc : Int} (h0 : 0 ≤ e) (h1 : e ≤ 7 * f) (f0 : 0 < f) (f1 : f ≤ 2 ^ 23) (h : FxI e f i out acc) (ha : acc > 0) : 0 < f * i ∧ f * i < 2 ^ 100 := by
  obtain ⟨a, b⟩ := fx_lt h0 h1 f0 f1 h ha
  refine ⟨Int.mul_pos f0 a, ?_⟩
  have : f * i ≤ f * 80 := Int.mul_le_mul_of_nonneg_left b (by omega)
  omega
theorem fx_less {e f i out acc : Int} (h0 : 0 ≤ e) (h1 : e ≤ 7 * f) (f0 : 0 < f) (f1 : f ≤ 2 ^ 23) (h : FxI e f i out acc) (ha : acc > 0) : (81 - (i + 1)).toNat < (81 - i).toNat := by
  have := fx_lt h0 h1 f0 f1 h ha
  omega
theorem fdivX {prog : Program} {w : World} {A : Around} {E : Value → Shared → Prop} {s : Shared} {e f i out acc a : Int} {t u : Tok} {Q : Value → Shared → Prop} (h0 : 0 ≤ e) (h1 : e ≤ 7 * f) (f0 : 0 < f) (f1 : f ≤ 2 ^ 23) (hi : FxI e f i out acc) (ha : acc > 0)
    (h : Q (.int (a.fdiv (f * i)) s.toks) { s with toks := s.toks + 1 }) :
    wpAny (model prog w) A (binaryOp .FloorDiv (.int a t) (.int (f * i) u)) Q E s := fdivQ (fx_den h0 h1 f0 f1 hi ha).1 (fx_den h0 h1 f0 f1 hi ha).2 h
set_option maxHeartbeats 4000000 in
theorem t_fake (w : World) (e f : Int) (t1 t2 t3 : Tok) (h0 : 0 ≤ e) (h1 : e ≤ 7 * f) (f0 : 0 < f) (f1 : f ≤ 2 ^ 23)
   : Tell w 10 36 [.int 1 t1, .int e t2, .int f t3] [] [] (RInt (priceV e f)) := by
  k_with_none
  (k_with "ite" => first | with_reducible refine Mine.pite_ff ?_ | with_reducible refine Mine.pite_tt ?_ | with_reducible refine Mine.pite_nt ?_ | with_reducible refine Mine.pite_nf ?_ | with_reducible refine Mine.pite_t ?_ | with_reducible refine Mine.pite_f ?_)
  (k_with "execs cons" => first | (k_here; k_gentoks) | ((with_reducible refine Mine.execs_gen ?_); intro Q9 hQ9))
  (k_with "execs cons" => ((with_reducible show wpAny _ _ (execs _ _) (UnrPost _ _ _ _ _ _ _) _ _); (refine Mine.gen_post ?_); intro Q9 hQ9))
  (k_with "execs cons" => ((with_reducible show wpAny _ _ (execs _ _) (UnrPostW _ _ _ _ _ _) _ _); (refine Mine.gen_post ?_); intro Q9 hQ9))
  (k_with "eval Name" => (k_here; (with_reducible show wpAny _ _ (eval (Expr.Name _ _) (envOf _ _ _ _ _)) _ _ _); name_kind "globalImplicit"; name_is_builtin; (with_reducible rename Fr _ _ _ _ => kF); k_dflt (refine' Mine.nameB ?c1 ?c2 ?c3 kF ?k1 ?k2 ?k3 ?k4 ?k5 ?_; (case c1 => kernel_rfl); (case c2 => kernel_rfl); (case c3 => kernel_rfl); (case k1 => k_asm); (case k2 => k_asm); (case k3 => k_is); (case k4 => boot_by_name); (case k5 => decide); k_whole)))
  (k_with "eval Name" => (k_here; (with_reducible show wpAny _ _ (eval (Expr.Name _ _) (envOf _ _ _ _ _)) _ _ _); name_kind "globalImplicit"; (with_reducible rename Fr _ _ _ _ => kF); k_dflt (refine' Mine.nameK ?c1 ?c2 ?c3 kF ?k1 ?k2 ?k3 ?_; (case c1 => kernel_rfl); (case c2 => kernel_rfl); (case c3 => kernel_rfl); (case k1 => k_asm); (case k2 => k_asm); (case k3 => k_is); k_whole)))
  (k_with "eval Name" => (k_here; (with_reducible show wpAny _ _ (eval (Expr.Name _ _) (envOf _ _ _ _ _)) _ _ _); name_kind "local"; k_dflt (refine' Mine.nameL ?c1 ?c2 ?c3 ?k1 ?k2 ?_; (case c1 => kernel_rfl); (case c2 => kernel_rfl); (case c3 => kernel_rfl); (case k1 => k_asm); (case k2 => exact rfl); k_whole)))
  (k_with "callWith ref" => (k_here; k_dflt (first
  | (refine' callWith_K ?k1 ?k2 ?_; (case k1 => k_asm); (case k2 => k_is); k_whole)
  | (refine' callWith_KW ?k1 ?k2 ?k3 ?_; (case k1 => k_asm); (case k2 => k_is); (case k3 => exact rfl); k_whole))))
  (k_with "ct int" => (
  (try dsimp only)
  refine' Mine.ends_int ?e1 ?e2 ?_
  case e1 => k_asm
  case e2 => k_asm))
  (k_with "ct with" => (
  (case k1 => k_asm)
  (case k2 => k_asm)
  (case k3 => k_in)
  (case k4 => k_asm)
  (case k5 => k_asm)
  (case kK => first | exact rfl | assumption)
  (case kf => first | exact fun _ h => (nomatch h) | walk_at "ct facts")
  (case kd => ktr_room)
  (case ku => ktr_units)))
  (k_with "ct mul" => first | omega | (split <;> omega) | (simp only [] at *; omega) | (constructor <;> omega))
  (k_with "binaryOp Mult int int" => ((first
  | (refine mul_int ?_ (PySem.IntMulOk.of_right (PySem.intBits_le_64 (by walk_at "ct mul") (by walk_at "ct mul"))))
  | (refine mul_int ?_ (PySem.IntMulOk.of_left (PySem.intBits_le_64 (by walk_at "ct mul") (by walk_at "ct mul"))))); (try dsimp only)))
  (k_with "binaryOp FloorDiv int int" => ((with_reducible refine Mine.fdivQ (by first | omega | (simp only [] at *; omega)) (by first | omega | (simp only [] at *; omega)) ?_); (try dsimp only)))
  (k_with "binaryOp Mod int int" => ((with_reducible refine Mine.fmodQ (by first | omega | (simp only [] at *; omega)) ?_); (try dsimp only)))
  (k_with "binaryOp FloorDiv int int" => (with_reducible refine Mine.fdivX (by assumption) (by assumption) (by assumption) (by assumption) (by assumption) (by assumption) ?_))
  refine Mine.fill ?_
  k_fill
  intro _ _
  refine' Mine.tell_of ?ho ?hcd ?hb ?hl ?c1 ?c2 ?c3 ?c4 (by decide) ?_
  case ho => k_is
  case hcd => k_is
  case hb => (conv in (occs := *) Mine.fArgs _ => all_goals whnf); exact fun h₀ s X k => binds_K (X.keeps k) rfl (by k_is) rfl rfl rfl
  case hl => exact locs rfl
  case c1 => exact rfl
  case c2 => exact rfl
  case c3 => exact rfl
  case c4 => decide
  intro p loose mean mg mb dp un gd cn cs a ccd cl outer base g L L' h₁ s F' N' B' X' T' hck hfa hsm hd hu
  (conv in (occs := *) Mine.fBody _ => all_goals whnf)
  (conv in (occs := *) Mine.fScope _ => all_goals whnf)
  (try dsimp only)
  (try k_fold)
  (k_with "exec While BoolOp cons nil" => k_while (fun (_ : List Int) i out acc => FxI e f i out acc) (fun (_ : List Int) i out acc => (81 - i).toNat) "i" "output" "numerator_accum")
  (k_with "state" => first | exact fx_turn h0 h1 f0 f1 (by assumption) (by assumption) | exact fx_start)
  (k_with "measure" => exact fx_less h0 h1 f0 f1 (by assumption) (by assumption))
  k_steps
  all_goals walk_at "ct int"
  all_goals first
    | exact fx_end h0 f0 (by assumption) (by assumption)
    | exact absurd (fx_lt h0 h1 f0 f1 (by assumption) (by assumption)).2 (by omega)
noncomputable def Stop (P : Prop) : Prop := P
theorem stop {P : Prop} (h : Stop P) : P := h
noncomputable def PxI (e f : Int) (ts : List Int) : Prop := ∃ n : Nat, n ≤ 80 ∧ ts = (List.range (n + 1)).map (termV e f)
theorem px_start {e f : Int} : PxI e f [f] := ⟨0, by omega, rfl⟩
theorem px_len {e f : Int} {ts : List Int} (h : PxI e f ts) : 1 ≤ ts.length ∧ ts.length ≤ 81 := by
  obtain ⟨n, hn, rfl⟩ := h
  simp; omega
theorem px_last {e f : Int} (n : Nat) : ((List.range (n + 1)).map (termV e f)).getD (-1 + (((List.range (n + 1)).map (termV e f)).length : Int)).toNat 0 = termV e f n := by
  have : (-1 + (((List.range (n + 1)).map (termV e f)).length : Int)).toNat = n := by simp; omega
  rw [this]
  simp
theorem px_sum {e f : Int} : ∀ n : Nat, ((List.range n).map (termV e f)).sum = sumV e f n
  | 0 => rfl
  | n + 1 => by
    rw [List.range_succ, List.map_append, List.sum_append, px_sum n]
    show _ + (termV e f n + 0) = _
    rw [Int.add_zero]; rfl
theorem px_lt {e f : Int} (h0 : 0 ≤ e) (h1 : e ≤ 7 * f) (f0 : 0 < f) (f1 : f ≤ 2 ^ 23) {ts : List Int} (h : PxI e f ts) (ha : ts.getD (-1 + (ts.length : Int)).toNat 0 > 0) : ts.length ≤ 80 := by
  obtain ⟨n, hn, rfl⟩ := h
  rw [px_last] at ha
  by_cases hx : n = 80
  · subst hx; rw [term_end h0 h1 f0 f1] at ha; omega
  · simp; omega
theorem px_turn {e f : Int} (h0 : 0 ≤ e) (h1 : e ≤ 7 * f) (f0 : 0 < f) (f1 : f ≤ 2 ^ 23) {ts : List Int} (h : PxI e f ts) (ha : ts.getD (-1 + (ts.length : Int)).toNat 0 > 0) : PxI e f (ts ++ [Int.fdiv (ts.getD (-1 + (ts.length : Int)).toNat 0 * e) (f * (ts.length : Int))]) := by
  have hl := px_lt h0 h1 f0 f1 h ha
  obtain ⟨n, hn, rfl⟩ := h
  have hl' : n + 1 ≤ 80 := by simpa using hl
  refine ⟨n + 1, by omega, ?_⟩
  rw [px_last, List.range_succ (n := n + 1), List.map_append]
  congr 1
  show [_] = [termV e f (n + 1)]
  have : (((List.range (n + 1)).map (termV e f)).length : Int) = (n : Int) + 1 := by simp
  rw [this]; rfl
theorem px_end {e f : Int} (h0 : 0 ≤ e) (f0 : 0 < f) {ts : List Int} (h : PxI e f ts) (ha : ¬ ts.getD (-1 + (ts.length : Int)).toNat 0 > 0) : Int.fdiv ts.sum f = priceV e f := by
  obtain ⟨n, hn, rfl⟩ := h
  rw [px_last] at ha
  have t0 := term_nonneg h0 f0 n
  have hz : termV e f n = 0 := by omega
  rw [px_sum]
  unfold priceV
  rw [sum_at h0 f0 hn hz]
  show Int.fdiv (sumV e f n + termV e f n) f = _
  rw [hz, Int.add_zero]
theorem px_den {f : Int} (f0 : 0 < f) (f1 : f ≤ 2 ^ 23) {n : Nat} (hl1 : 1 ≤ n) (hl2 : n ≤ 81) : 0 < f * (n : Int) ∧ f * (n : Int) < 2 ^ 100 := by
  refine ⟨Int.mul_pos f0 (by omega), ?_⟩
  have : f * (n : Int) ≤ f * 81 := Int.mul_le_mul_of_nonneg_left (by omega) (by omega)
  omega
theorem fdivY {prog : Program} {w : World} {A : Around} {E : Value → Shared → Prop} {s : Shared} {f a : Int} {n : Nat} {t u : Tok} {Q : Value → Shared → Prop} (f0 : 0 < f) (f1 : f ≤ 2 ^ 23) (hl1 : 1 ≤ n) (hl2 : n ≤ 81)
    (h : Q (.int (a.fdiv (f * (n : Int))) s.toks) { s with toks := s.toks + 1 }) :
    wpAny (model prog w) A (binaryOp .FloorDiv (.int a t) (.int (f * (n : Int)) u)) Q E s := fdivQ (px_den f0 f1 hl1 hl2).1 (px_den f0 f1 hl1 hl2).2 h
set_option maxHeartbeats 4000000 in
theorem t_price (w : World) (e f : Int) (t2 t3 : Tok) (h0 : 0 ≤ e) (h1 : e ≤ 7 * f) (f0 : 0 < f) (f1 : f ≤ 2 ^ 23)
   : Tell w 10 469 [.int e t2, .int f t3] [] [] (RInt (priceV e f)) := by
  k_with_none
  (k_with "ite" => first | with_reducible refine Mine.pite_ff ?_ | with_reducible refine Mine.pite_tt ?_ | with_reducible refine Mine.pite_nt ?_ | with_reducible refine Mine.pite_nf ?_ | with_reducible refine Mine.pite_t ?_ | with_reducible refine Mine.pite_f ?_)
  (k_with "execs cons" => first | (k_here; k_gentoks) | ((with_reducible refine Mine.execs_gen ?_); intro Q9 hQ9))
  (k_with "execs cons" => ((with_reducible show wpAny _ _ (execs _ _) (UnrPost _ _ _ _ _ _ _) _ _); (refine Mine.gen_post ?_); intro Q9 hQ9))
  (k_with "execs cons" => ((with_reducible show wpAny _ _ (execs _ _) (UnrPostW _ _ _ _ _ _) _ _); (refine Mine.gen_post ?_); intro Q9 hQ9))
  (k_with "eval Name" => (k_here; (with_reducible show wpAny _ _ (eval (Expr.Name _ _) (envOf _ _ _ _ _)) _ _ _); name_kind "globalImplicit"; name_is_builtin; (with_reducible rename Fr _ _ _ _ => kF); k_dflt (refine' Mine.nameB ?c1 ?c2 ?c3 kF ?k1 ?k2 ?k3 ?k4 ?k5 ?_; (case c1 => kernel_rfl); (case c2 => kernel_rfl); (case c3 => kernel_rfl); (case k1 => k_asm); (case k2 => k_asm); (case k3 => k_is); (case k4 => boot_by_name); (case k5 => decide); k_whole)))
  (k_with "eval Name" => (k_here; (with_reducible show wpAny _ _ (eval (Expr.Name _ _) (envOf _ _ _ _ _)) _ _ _); name_kind "globalImplicit"; (with_reducible rename Fr _ _ _ _ => kF); k_dflt (refine' Mine.nameK ?c1 ?c2 ?c3 kF ?k1 ?k2 ?k3 ?_; (case c1 => kernel_rfl); (case c2 => kernel_rfl); (case c3 => kernel_rfl); (case k1 => k_asm); (case k2 => k_asm); (case k3 => k_is); k_whole)))
  (k_with "eval Name" => (k_here; (with_reducible show wpAny _ _ (eval (Expr.Name _ _) (envOf _ _ _ _ _)) _ _ _); name_kind "local"; k_dflt (refine' Mine.nameL ?c1 ?c2 ?c3 ?k1 ?k2 ?_; (case c1 => kernel_rfl); (case c2 => kernel_rfl); (case c3 => kernel_rfl); (case k1 => k_asm); (case k2 => exact rfl); k_whole)))
  (k_with "callWith ref" => (k_here; k_dflt (first
  | (refine' callWith_K ?k1 ?k2 ?_; (case k1 => k_asm); (case k2 => k_is); k_whole)
  | (refine' callWith_KW ?k1 ?k2 ?k3 ?_; (case k1 => k_asm); (case k2 => k_is); (case k3 => exact rfl); k_whole))))
  (k_with "ct int" => (
  (try dsimp only)
  refine' Mine.ends_int ?e1 ?e2 ?_
  case e1 => k_asm
  case e2 => k_asm))
  (k_with "ct with" => (
  (case k1 => k_asm)
  (case k2 => k_asm)
  (case k3 => k_in)
  (case k4 => k_asm)
  (case k5 => k_asm)
  (case kK => first | exact rfl | assumption)
  (case kf => first | exact fun _ h => (nomatch h) | walk_at "ct facts")
  (case kd => ktr_room)
  (case ku => ktr_units)))
  (k_with "ct mul" => first | omega | (split <;> omega) | (simp only [] at *; omega) | (constructor <;> omega))
  (k_with "binaryOp Mult int int" => ((first
  | (refine mul_int ?_ (PySem.IntMulOk.of_right (PySem.intBits_le_64 (by walk_at "ct mul") (by walk_at "ct mul"))))
  | (refine mul_int ?_ (PySem.IntMulOk.of_left (PySem.intBits_le_64 (by walk_at "ct mul") (by walk_at "ct mul"))))); (try dsimp only)))
  (k_with "binaryOp FloorDiv int int" => ((with_reducible refine Mine.fdivQ (by first | omega | (simp only [] at *; omega)) (by first | omega | (simp only [] at *; omega)) ?_); (try dsimp only)))
  (k_with "binaryOp Mod int int" => ((with_reducible refine Mine.fmodQ (by first | omega | (simp only [] at *; omega)) ?_); (try dsimp only)))
  (k_with "binaryOp FloorDiv int int" => (with_reducible refine Mine.fdivY (by assumption) (by assumption) (by assumption) (by assumption) ?_))
  refine Mine.fill ?_
  k_fill
  intro _ _
  refine' Mine.tell_of ?ho ?hcd ?hb ?hl ?c1 ?c2 ?c3 ?c4 (by decide) ?_
  case ho => k_is
  case hcd => k_is
  case hb => (conv in (occs := *) Mine.fArgs _ => all_goals whnf); first | exact fun _ _ _ _ => BindsTo.of_eq rfl | exact fun h₀ s X k => binds_K (X.keeps k) rfl (by k_is) rfl rfl rfl
  case hl => exact locs rfl
  case c1 => exact rfl
  case c2 => exact rfl
  case c3 => exact rfl
  case c4 => decide
  intro _ _ _ _ _ _ _ _ _ _ _ _ _ _ _ _ _ _ _ _ _ _ _ _ _ _ _ _ _ _
  (conv in (occs := *) Mine.fBody _ => all_goals whnf)
  (conv in (occs := *) Mine.fScope _ => all_goals whnf)
  (try dsimp only)
  (try k_fold)
  refine Mine.gen_post fun Q9 hQ9 => ?_
  (k_with "exec While Compare cons nil" => refine stop ?_)
  k_steps
  unfold Stop
  (rename Fr _ _ _ _ => lF')
  (rename News _ _ _ _ => lN')
  refine ksw_while (σ := List Value × List Int × Nat) (fun c => [(_, PySem.W.listOf c.1.toArray c.2.2)]) (fun _ => []) (fun c => IntsAre c.1 c.2.1) [] (fun c => PxI e f c.2.1 ∧ 1 ≤ c.2.1.length ∧ c.2.1.length ≤ 81) (fun c => 82 - c.2.1.length) ⟨[.int f t3], [f], 0⟩ lF' lN' ?_ ?_ ?_ ?_
  · repeat constructor
  · intro _ h; cases h
  · exact ⟨px_start, by simp, by simp⟩
  rintro ⟨vs, ns, nn⟩ u h tk hI ⟨hP, hl1, hl2⟩ F N
  dsimp only at hI hP hl1 hl2 N ⊢
  k_steps
  · (rename News _ _ _ _ => nE)
    (rename Fr _ _ _ _ => fE)
    (try simp only [List.push_toArray] at nE)
    refine ksw_end (⟨vs ++ [.int (Int.fdiv (ns.getD (-1 + (ns.length : Int)).toNat 0 * e) (f * (ns.length : Int))) _], ns ++ [Int.fdiv (ns.getD (-1 + (ns.length : Int)).toNat 0 * e) (f * (ns.length : Int))], nn + 1⟩ : List Value × List Int × Nat) fE nE (fun _ h => h) (by kst_facts) (fun _ h => nomatch h) (fun _ _ _ => rfl) ⟨px_turn h0 h1 f0 f1 hP (by assumption), by simp, ?_⟩ ?_
    · have := px_lt h0 h1 f0 f1 hP (by assumption)
      simp; omega
    · have := px_lt h0 h1 f0 f1 hP (by assumption)
      simp; omega
  · walk_at "ct int"
    exact px_end h0 f0 hP (by assumption)
end Mine
local macro_rules | `(tactic| k_inst) => `(tactic| exact Mine.inst_hdr (Fr.keep (by k_asm) _ _ (by assumption)) (Fr.keep (by k_asm) _ _ (by assumption)))
local macro_rules | `(tactic| k_inst) => `(tactic| exact InstAt.of_K (Frag.In.keeps (by assumption) (Fr.keep (by k_asm))) (by assumption) (by assumption))
namespace Mine
theorem ends_val {g : Heap} {s : Shared} {L' : Addr} {h : Heap} {m' : Str → Option Value} {new : Nws} {v : Value} {tk : Nat}
    (F : Fr g L' h m') (N : News g L' h new) : Ends g s (fun new r => new = [] ∧ r = v) v { s with heap := h, toks := tk } :=
  ⟨L', m', new, h, tk, rfl, F, N, [], fun _ h => (nomatch h), rfl, rfl⟩
noncomputable abbrev kIdx : Str := Str.ofString "index"
set_option maxHeartbeats 4000000 in
theorem t_get (w : World) (x C d p dp : Addr) (vs : List Value) (i : Int) (k n : Nat) (v dv : Value) (x1 x2 : Int) (t1 t2 t3 : Tok)
    (hc : isClsIn (Mine.K w.params) C = true) (hm : mroIn (Mine.K w.params) C (.type "tuple") = some true) (hp : (Mine.K w.params).lookup p = some ⟨.ref 75, some dp, .plain, #[]⟩) (hdp : (Mine.K w.params).lookup dp = some (dictOf [⟨x1, .str (Str.ofString "index") t1, .int i t2⟩, ⟨x2, .str (Str.ofString "__doc__") t3, dv⟩] n))
    (hlo : -2 ^ 63 ≤ i) (hhi : i < 2 ^ 63) (hk : seqIndex? i vs.length = some k) (hv : vs[k]? = some v)
    : Tell w 6 58 [.ref p, .ref x, .ref C] [(x, hdrObj C d vs), (d, dictOf [] 0)] [] (fun new r => new = [] ∧ r = v) := by
  k_with_none
  (k_with "ite" => first | with_reducible refine Mine.pite_ff ?_ | with_reducible refine Mine.pite_tt ?_ | with_reducible refine Mine.pite_nt ?_ | with_reducible refine Mine.pite_nf ?_ | with_reducible refine Mine.pite_t ?_ | with_reducible refine Mine.pite_f ?_)
  (k_with "execs cons" => first | (k_here; k_gentoks) | ((with_reducible refine Mine.execs_gen ?_); intro Q9 hQ9))
  (k_with "execs cons" => ((with_reducible show wpAny _ _ (execs _ _) (UnrPost _ _ _ _ _ _ _) _ _); (refine Mine.gen_post ?_); intro Q9 hQ9))
  (k_with "execs cons" => ((with_reducible show wpAny _ _ (execs _ _) (UnrPostW _ _ _ _ _ _) _ _); (refine Mine.gen_post ?_); intro Q9 hQ9))
  (k_with "eval Name" => (k_here; (with_reducible show wpAny _ _ (eval (Expr.Name _ _) (envOf _ _ _ _ _)) _ _ _); name_kind "globalImplicit"; name_is_builtin; (with_reducible rename Fr _ _ _ _ => kF); k_dflt (refine' Mine.nameB ?c1 ?c2 ?c3 kF ?k1 ?k2 ?k3 ?k4 ?k5 ?_; (case c1 => kernel_rfl); (case c2 => kernel_rfl); (case c3 => kernel_rfl); (case k1 => k_asm); (case k2 => k_asm); (case k3 => k_is); (case k4 => boot_by_name); (case k5 => decide); k_whole)))
  (k_with "eval Name" => (k_here; (with_reducible show wpAny _ _ (eval (Expr.Name _ _) (envOf _ _ _ _ _)) _ _ _); name_kind "globalImplicit"; (with_reducible rename Fr _ _ _ _ => kF); k_dflt (refine' Mine.nameK ?c1 ?c2 ?c3 kF ?k1 ?k2 ?k3 ?_; (case c1 => kernel_rfl); (case c2 => kernel_rfl); (case c3 => kernel_rfl); (case k1 => k_asm); (case k2 => k_asm); (case k3 => k_is); k_whole)))
  (k_with "eval Name" => (k_here; (with_reducible show wpAny _ _ (eval (Expr.Name _ _) (envOf _ _ _ _ _)) _ _ _); name_kind "local"; k_dflt (refine' Mine.nameL ?c1 ?c2 ?c3 ?k1 ?k2 ?_; (case c1 => kernel_rfl); (case c2 => kernel_rfl); (case c3 => kernel_rfl); (case k1 => k_asm); (case k2 => exact rfl); k_whole)))
  (k_with "callWith ref" => (k_here; k_dflt (first
  | (refine' callWith_K ?k1 ?k2 ?_; (case k1 => k_asm); (case k2 => k_is); k_whole)
  | (refine' callWith_KW ?k1 ?k2 ?k3 ?_; (case k1 => k_asm); (case k2 => k_is); (case k3 => exact rfl); k_whole))))
  (k_with "ct int" => (
  (try dsimp only)
  refine' Mine.ends_int ?e1 ?e2 ?_
  case e1 => k_asm
  case e2 => k_asm))
  (k_with "ct with" => (
  (case k1 => k_asm)
  (case k2 => k_asm)
  (case k3 => k_in)
  (case k4 => k_asm)
  (case k5 => k_asm)
  (case kK => first | exact rfl | assumption)
  (case kf => first | exact fun _ h => (nomatch h) | walk_at "ct facts")
  (case kd => ktr_room)
  (case ku => ktr_units)))
  (k_with "ct mul" => first | omega | (split <;> omega) | (simp only [] at *; omega) | (constructor <;> omega))
  (k_with "binaryOp Mult int int" => ((first
  | (refine mul_int ?_ (PySem.IntMulOk.of_right (PySem.intBits_le_64 (by walk_at "ct mul") (by walk_at "ct mul"))))
  | (refine mul_int ?_ (PySem.IntMulOk.of_left (PySem.intBits_le_64 (by walk_at "ct mul") (by walk_at "ct mul"))))); (try dsimp only)))
  (k_with "binaryOp FloorDiv int int" => ((with_reducible refine Mine.fdivQ (by first | omega | (simp only [] at *; omega)) (by first | omega | (simp only [] at *; omega)) ?_); (try dsimp only)))
  (k_with "binaryOp Mod int int" => ((with_reducible refine Mine.fmodQ (by first | omega | (simp only [] at *; omega)) ?_); (try dsimp only)))
  (k_with "call builtin:issubclass" => (k_here; k_dflt ((refine' Mine.issub_hdr ?F ?X ?c ?m ?_; (case F => k_asm); (case X => k_asm); (case c => first | assumption | k_is); (case m => first | assumption | k_is)))))
  (k_with "call builtin:tuple.__getitem__" => (k_here; k_dflt ((refine' Mine.call_tupitem ?F ?X ?x ?dd ?m ?l ?h ?k ?y ?_; (case F => k_asm); (case X => k_asm); (case x => assumption); (case dd => assumption); (case m => first | assumption | k_is); (case l => first | assumption | decide); (case h => first | assumption | decide); (case k => first | assumption | rfl); (case y => first | assumption | rfl)))))
  (k_with "getMethod" => (k_here; (with_reducible show wpAny _ _ (getMethod (Value.type _) _ _) _ _ _); k_dflt ((refine' method_type ?F ?X ?t ?s ?e ?h ?_; (case F => k_asm); (case X => k_asm); (case t => first | rfl | kernel_rfl); (case s => decide +kernel); (case e => k_is); (case h => k_handed)))))
  refine Mine.fill ?_
  k_fill
  intro _ _
  refine' Mine.tell_of ?ho ?hcd ?hb ?hl ?c1 ?c2 ?c3 ?c4 (by decide) ?_
  case ho => k_is
  case hcd => k_is
  case hb => (conv in (occs := *) Mine.fArgs _ => all_goals whnf); first | exact fun _ _ _ _ => BindsTo.of_eq rfl | exact fun h₀ s X k => binds_K (X.keeps k) rfl (by k_is) rfl rfl rfl
  case hl => exact locs rfl
  case c1 => exact rfl
  case c2 => exact rfl
  case c3 => exact rfl
  case c4 => decide
  intro _ _ _ _ _ _ _ _ _ _ _ _ _ _ _ _ _ _ _ _ _ _ _ _ _ _ _ _ _ _
  (conv in (occs := *) Mine.fBody _ => all_goals whnf)
  (conv in (occs := *) Mine.fScope _ => all_goals whnf)
  (try dsimp only)
  (try k_fold)
  refine Mine.gen_post fun Q9 hQ9 => ?_
  rename_i hfa hsm hd hu
  have hx := hfa _ (.head _)
  have hxd := hfa _ (.tail _ (.head _))
  dsimp only at hx hxd
  k_steps
  exact ends_val (by k_asm) (by k_asm)
structure NtCls (K : Frag) (C : Addr) : Prop where
  cls : ∃ oc od cd sl, K.lookup C = some ⟨oc, od, .cls cd, sl⟩ ∧ cd.mro = [.ref C, .type "tuple", .type "object"] ∧ cd.bases = [.type "tuple"] ∧ cd.hasDel = false ∧ sl.toList[4]? = some (some .none)
section
variable {K : Frag} {C : Addr} {h : Heap} {M : Model}
theorem bestBase_tuple : Builtin.Slots.bestBase [.type "tuple"] = pure (.type "tuple") := by kernel_rfl
theorem madeBy_tuple : Bind.madeBy (.type "tuple") = pure (some "tuple.__new__") := PySem.F.called_tuple.made
theorem nt_madeBy (Y : NtCls K C) (X : K.In h) : Looks M h (Bind.madeBy (.ref C)) none := by
  obtain ⟨oc, od, cd, sl, hl, hm, hb, hd, hs⟩ := Y.cls
  have hC := X _ _ hl
  intro A Q E s k q
  unfold Bind.madeBy
  have hmr : Looks M h (mroOf (.ref C)) cd.mro := (Looks.ld (part := none) hC).andThen .now |>.andThen .now
  refine wpAny_bind (hmr A _ E s k ?_)
  rw [hm, List.forIn_cons]
  refine wpAny_bind (wpAny_bind (wpAny_bind (wpAny_bind (wpAny_loadPart (k _ _ hC) (wpAny_pure ?_)))))
  dsimp only
  rw [← Array.getElem?_toList, hs]
  exact wpAny_pure (wpAny_pure (wpAny_pure q))
theorem nt_staticBase (Y : NtCls K C) (X : K.In h) : Looks M h (Bind.staticBase (.ref C)) (.type "tuple") := by
  have Z := nt_madeBy (M := M) Y X
  obtain ⟨oc, od, cd, sl, hl, hm, hb, hd, hs⟩ := Y.cls
  have hC := X _ _ hl
  intro A Q E s k q
  unfold Bind.staticBase
  have hmr : Looks M h (mroOf (.ref C)) cd.mro := (Looks.ld (part := none) hC).andThen .now |>.andThen .now
  refine wpAny_bind (hmr A _ E s k ?_)
  rw [hm, List.forIn_cons]
  refine wpAny_bind (wpAny_bind (wpAny_bind (Z A _ E s k ?_)))
  simp only [Option.isSome_none, Bool.false_eq_true, if_false]
  have L : Looks M h (classData C) cd := (Looks.ld (part := none) hC).andThen .now
  refine wpAny_bind (L A _ E s k ?_)
  rw [hb, bestBase_tuple]
  refine wpAny_bind (wpAny_pure (wpAny_pure ?_))
  dsimp only
  rw [List.forIn_cons]
  dsimp only
  rw [madeBy_tuple]
  exact wpAny_bind (wpAny_bind (wpAny_pure (wpAny_pure (wpAny_pure (wpAny_pure q)))))
theorem nt_madeHere (Y : NtCls K C) (X : K.In h) : Looks M h (Bind.madeHere "tuple.__new__" (.ref C)) () := by
  unfold Bind.madeHere
  refine (nt_staticBase Y X).andThen ?_
  rw [madeBy_tuple]
  exact Looks.of_pure (by kernel_rfl)
end
theorem nt_new {prog : Program} {w : World} {A : Around} {K : Frag} {C t : Addr} {R : Result → Shared → Prop} {s : Shared} {vs : List Value} {td : Option Addr} {n : Nat} {sl : Array (Option Value)} (Y : NtCls K C) (X : K.In s.heap) (hc : isClsIn K C = true) (hm : mroIn K C (.type "tuple") = some true) (hi : findIn K (.ref C) "__init__" = some (some (.builtin "object.__init__")))
    (ht : s.heap.get? t = some ⟨.type "tuple", td, .seq vs.toArray n, sl⟩) (hz : vs.length ≤ 1000)
    (hq : ∀ h' : Heap, (∀ b o', s.heap.get? b = some o' → h'.get? b = some o') → R (.ok (.ret (.ref (h'.objs.size + 1)))) { s with heap := (h'.push (dictOf [] 0)).push (hdrObj C h'.objs.size vs) }) :
    wpAny (model prog w) A.in1 (Builtin.«tuple.__new__» ⟨[.ref C, .ref t], []⟩)
      (fun fin s' => match fin with | .done f => R (.ok f) s' | .again c' => c'.quiet = true ∧ codeAny (model prog w) A c' R s') (fun e s' => R (.error e) s') s := by
  have L1 := looks_mroIn (M := model prog w) X hm
  have L2 := looks_findIn (M := model prog w) X hi
  have L3 := nt_madeHere (M := model prog w) Y X
  obtain ⟨oc, od, cd, csl, hl, hmro, hb, hd, hs⟩ := Y.cls
  have hC := X _ _ hl
  obtain ⟨hh, g, dr, tk, os⟩ := s
  dsimp only at hC ht hq
  have hz2 : vs.toArray.size ≤ sizeLine := by rw [List.size_toArray]; show _ ≤ 2 ^ 24; omega
  have hcol : ∀ {A : Around} {Q : List Value → Shared → Prop} {E : Value → Shared → Prop}, (∀ h', (∀ b o', hh.get? b = some o' → h'.get? b = some o') → Q vs.toArray.toList ⟨h', g, dr, tk, os⟩) → wpAny (model prog w) A (collect (.ref t)) Q E ⟨hh, g, dr, tk, os⟩ := fun h =>
    PySem.wpAny_collect_seq (T := "tuple") t (.inr rfl) ht rfl rfl h hz2
  unfold Builtin.«tuple.__new__»
  repeat (first | with_reducible refine hcol ?_ | lk)
  intro h' hk
  have hC' := hk _ _ hC
  rw [List.toList_toArray]
  refine wpAny_bind (wpAny_pure (wpAny_bind (wpAny_alloc ?_)))
  have hC2 : ((h'.push emptyDict).push (hdrObj C h'.objs.size vs)).get? C = some ⟨oc, od, .cls cd, csl⟩ := Heap.get?_push_of_some _ (Heap.get?_push_of_some _ hC')
  refine wpAny_bind ?_
  unfold newObj
  dsimp only
  rw [if_neg (by rw [List.size_toArray]; show ¬ _ > 2 ^ 24; omega)]
  show wpAny _ _ (newObjAsIs _ _ _) _ _ _
  unfold newObjAsIs classHasDel
  refine wpAny_bind (wpAny_alloc (wpAny_bind (wpAny_bind (wpAny_load hC2 (wpAny_pure ?_)))))
  rw [hd]
  refine wpAny_pure (wpAny_pure ?_)
  have z := hq h' hk
  show R _ _
  rw [Heap.size_push]
  exact z
theorem tn_kind : builtinKind "tuple.__new__" = some .builtinFn := by kernel_rfl
theorem tn_split : splitId "tuple.__new__" = some ("tuple", "__new__") := by kernel_rfl
theorem tn_args (a b : Value) : argsOk "tuple.__new__" ⟨[a, b], []⟩ := by unfold argsOk; kernel_rfl
theorem nt_check {prog : Program} {w : World} {A : Around} {E : Value → Shared → Prop} {K : Frag} {C t : Addr} {s : Shared} {Q : Unit → Shared → Prop} (Y : NtCls K C) (X : K.In s.heap) (hm : mroIn K C (.type "tuple") = some true) (hq : Q () s) :
    wpAny (model prog w) A (checkBuiltinCall "tuple.__new__" ⟨[.ref C, .ref t], []⟩) Q E s := by
  have L1 := looks_mroIn (M := model prog w) X hm
  have L3 := nt_staticBase (M := model prog w) Y X
  obtain ⟨oc, od, cd, csl, hl, hmro, hb, hd, hs⟩ := Y.cls
  have hC := X _ _ hl
  obtain ⟨hh, g, dr, tk, os⟩ := s
  dsimp only at hC
  have L4 : Looks (model prog w) hh (Bind.madeBy (.type "tuple")) (some "tuple.__new__") := Looks.of_pure madeBy_tuple
  have ha := tn_args (.ref C) (.ref t)
  unfold checkBuiltinCall
  rw [tn_kind, tn_split]
  cases hsig : Manifest.signature? "tuple.__new__" with
  | none =>
    repeat (first | lk | simp only [bne_self_eq_false, Bool.false_eq_true, if_false])
    exact hq
  | some sig =>
    simp only [argsOk, hsig] at ha
    have h2 : Bind.checkArgs "tuple.__new__" sig ⟨[.ref C, .ref t], []⟩ = pure () := ha
    repeat (first | rw [h2] | lk | simp only [bne_self_eq_false, Bool.false_eq_true, if_false])
    exact hq
theorem tn_plain : plainId "tuple.__new__" = true := by decide +kernel
noncomputable abbrev tupObj (vs : List Value) : Obj := { cls := .type "tuple", data := .seq vs.toArray }
theorem call_tupnew {prog : Program} {w : World} {A : Around} {E : Value → Shared → Prop} {K : Frag} {C t L : Addr} {s : Shared} {Q : Value → Shared → Prop} {h₀ : Heap} {m : Str → Option Value} {news : Nws} {vs : List Value} (F : Fr h₀ L s.heap m) (N : News h₀ L s.heap news) (X₀ : K.In h₀)
    (Y : NtCls K C) (hc : isClsIn K C = true) (hm : mroIn K C (.type "tuple") = some true) (hi : findIn K (.ref C) "__init__" = some (some (.builtin "object.__init__"))) (ht : (t, tupObj vs) ∈ news) (hz : vs.length ≤ 1000)
    (h : ∀ x d h', Fr h₀ L h' m → News h₀ L h' ((x, hdrObj C d vs) :: (d, dictOf [] 0) :: news) → (∀ p ∈ news, p.1 < d) → d < x → Q (.ref x) { s with heap := h' }) :
    wpAny (model prog w) A (call (.builtin "tuple.__new__") [.ref C, .ref t]) Q E s := by
  have X := X₀.keeps F.keep
  refine wpAny_call ?_
  refine codeAny_call_builtin tn_plain PySem.F.entry_tuple_new ?_
  refine nt_check Y X hm ?_
  refine nt_new (R := fun r s' => match r with | .ok (.ret v) => Q v s' | .ok _ => False | .error e => E e s') Y X hc hm hi (N _ ht).1 hz fun h' hk => ?_
  have F' : Fr h₀ L h' m := ⟨F.ns.keeps hk, fun b o e => hk _ _ (F.keep b o e), F.above⟩
  have N' : News h₀ L h' news := fun p hp => ⟨hk _ _ (N p hp).1, (N p hp).2.1, (N p hp).2.2⟩
  have N2 := (N'.push F' (dictOf [] 0)).push (F'.push _) (hdrObj C h'.objs.size vs)
  rw [Heap.size_push] at N2
  exact h _ h'.objs.size _ ((F'.push _).push _) N2 (fun p hp => Heap.lt_size (N' p hp).1) (Nat.lt_succ_self _)
theorem nt_init {prog : Program} {w : World} {A : Around} {K : Frag} {C x d : Addr} {vs : List Value} {R : Result → Shared → Prop} {s : Shared} {r0 : Value} {rs : List Value} (Y : NtCls K C) (X : K.In s.heap) (hi : findIn K (.ref C) "__init__" = some (some (.builtin "object.__init__"))) (ho : mroIn K C (.type "object") = some true)
    (hx : s.heap.get? x = some (hdrObj C d vs)) (hd : s.heap.get? d = some (dictOf [] 0)) (hq : R (.ok (.ret .none)) s) :
    codeAny (model prog w) A (.call (.builtin "object.__init__") ⟨.ref x :: r0 :: rs, []⟩) R s := by
  have I := inst_hdr hx hd
  have ht := I.type (M := model prog w)
  have t2 : Looks (model prog w) s.heap (isInstance (.ref x) (.type "object")) true := ht.andThen (looks_mroIn X ho)
  have L1 := nt_madeBy (M := model prog w) Y X
  have L2 := looks_findIn (M := model prog w) X hi
  obtain ⟨hh, g, dr, tk, os⟩ := s
  have ha : argsOk "object.__init__" ⟨.ref x :: r0 :: rs, []⟩ := by unfold argsOk; kernel_rfl
  refine codeAny_call_builtin oi_plain entry_oi (@check_slot (model prog w) _ _ _ "object.__init__" "object" "__init__" (.ref x) (r0 :: rs) [] _ oi_kind oi_split t2 ha ?_)
  unfold Builtin.«object.__init__»
  repeat (first | simp only [bne_self_eq_false, Bool.false_eq_true, if_false] | lk)
  exact hq
theorem make_nt {prog : Program} {w : World} {dp un : Nat} {gd : Option (List Code)} {cn : Str} {cs : Scope} {a : Addr} {ccd : Value} {cl : List (Str × Addr)} {outer : List Env} {E : Value → Shared → Prop} {K : Frag} {C L p fnew : Addr} {h₀ : Heap} {m : Str → Option Value} {s : Shared} {Q : Value → Shared → Prop} {rs : List Value} {r0 mc : Value}
    (F : Fr h₀ L s.heap m) (X₀ : K.In h₀) (Y : NtCls K C) (htc : specialIn K (.ref C) "__call__" = some (some (.builtin "type.__call__"))) (hty : instIn K (.ref C) (.type "type") = some true)
    (hmt : typeIn K (.ref C) = some mc) (hr : readsIn K C mc = true) (e : findCls K (.ref C) mc "__new__" = some (.get (.builtin "staticmethod.__get__") (.ref p) .none (.ref C))) (hp : recIn K p "staticmethod" = some [.ref fnew])
    (hi : findIn K (.ref C) "__init__" = some (some (.builtin "object.__init__"))) (ho : mroIn K C (.type "object") = some true) (hself : mroIn K C (.ref C) = some true)
    (h : wpAny (model prog w) (ktrTop (dp + 1) (un + 1) gd cn cs L a ccd cl outer) (call (.ref fnew) (.ref C :: r0 :: rs)) (fun v s' => ∃ x d h' tk', v = .ref x ∧ s' = { s with heap := h', toks := tk' } ∧ (∀ b o, h₀.get? b = some o → h'.get? b = some o) ∧ (∃ vs, h'.get? x = some (hdrObj C d vs)) ∧ h'.get? d = some (dictOf [] 0) ∧ Q (.ref x) s') E { s with toks := s.toks + 1 }) :
    wpAny (model prog w) (ktrTop dp un gd cn cs L a ccd cl outer) (call (.ref C) (r0 :: rs)) Q E s := by
  have X := X₀.keeps F.keep
  have L1 := nt_madeBy (M := model prog w) Y X
  have L2 := looks_specialIn (M := model prog w) X htc
  have L3 := looks_instIn (M := model prog w) X hty
  obtain ⟨oc, od, cd, csl, hl, hmro, hb, hd, hs⟩ := Y.cls
  have hC := X _ _ hl
  have F0 := F
  obtain ⟨hh, g, dr, tk, os⟩ := s
  dsimp only at hC
  refine wpAny_call (codeAny_of_tree ?_)
  show wpAny _ _ (callAny (.ref C) _) _ _ _
  refine nd_load hC ?_
  show wpAny _ _ (callAny.viaDunder (.ref C) _) _ _ _
  unfold callAny.viaDunder
  refine wpAny_bind (L2.at ?_)
  dsimp only
  rw [tc_bind]
  refine wpAny_bind (wpAny_pure (wpAny_bind (wpAny_pure ?_)))
  refine wpAny_pure (a := Fin.again (.call (.builtin "type.__call__") ⟨.ref C :: r0 :: rs, []⟩)) (And.intro rfl ?_)
  refine codeAny_call_builtin_at (Code.quiet_builtin _ (by decide +kernel)) entry_typeCall (check_slot tc_kind tc_split L3 (tc_args _ _ _) ?_)
  unfold Builtin.«type.__call__»
  have hm : Looks (model prog w) hh (mroOf (.ref C)) cd.mro := ((Looks.ld (part := none) hC).andThen .now).andThen .now
  have e4 : cd.mro.isEmpty = false := by rw [hmro]; rfl
  have hget : ∀ {A : Around} {Q : Value → Shared → Prop} {E : Value → Shared → Prop}, Q (.ref fnew) ⟨hh, g, dr, tk + 1, os⟩ → wpAny (model prog w) A (getAttr (.ref C) "__new__") Q E ⟨hh, g, dr, tk, os⟩ := fun hq => cls_sm (s := ⟨hh, g, dr, tk, os⟩) F0 X₀ hmt hr e hp rfl hq
  have h' : wpAny (model prog w) ((ktrTop dp un gd cn cs L a ccd cl outer).under (Code.builtin "type.__call__" ⟨.ref C :: r0 :: rs, []⟩)) (call (.ref fnew) (.ref C :: r0 :: rs)) _ E ⟨hh, g, dr, tk + 1, os⟩ := h
  repeat (first | simp only [e4, Bool.false_eq_true, if_false] | with_reducible refine hget ?_ | (with_reducible refine wpAny_mono h' ?_ ?_) | lk)
  · rintro v s' ⟨x, d, h2, tk', rfl, rfl, hk, ⟨vs, hx⟩, hdd, hq⟩
    have X2 : K.In h2 := X₀.keeps hk
    have I := inst_hdr hx hdd
    have t1 := I.type (M := model prog w)
    have s1 := looks_mroIn (M := model prog w) X2 hself
    have i1 := looks_findIn (M := model prog w) X2 hi
    have b1 : Looks (model prog w) h2 (bindSpecial (.builtin "object.__init__") (.ref x)) (.builtin "object.__init__", [.ref x]) := Looks.of_pure (oi_bind _)
    unfold isInstance callSpecial? specialOf
    repeat (first | with_reducible refine wpAny_call ?_ | lk)
    refine nt_init (r0 := r0) (rs := rs) (d := d) (vs := _) Y X2 hi ho hx hdd ?_
    exact wpAny_pure (wpAny_pure hq)
  · exact fun _ _ z => z
theorem nt172 (w : World) : NtCls (Mine.K w.params) 172 := by
  refine fill ?_
  k_fill
  intro _ _
  refine ⟨_, _, _, _, by k_is, rfl, rfl, rfl, rfl⟩
theorem nt246 (w : World) : NtCls (Mine.K w.params) 246 := by
  refine fill ?_
  k_fill
  intro _ _
  refine ⟨_, _, _, _, by k_is, rfl, rfl, rfl, rfl⟩
theorem nt317 (w : World) : NtCls (Mine.K w.params) 317 := by
  refine fill ?_
  k_fill
  intro _ _
  refine ⟨_, _, _, _, by k_is, rfl, rfl, rfl, rfl⟩
noncomputable abbrev RNew (C : Addr) (vs : List Value) : Nws → Value → Prop := fun new r => ∃ x d, new = [(x, hdrObj C d vs), (d, dictOf [] 0)] ∧ r = .ref x ∧ d < x
theorem ends_new {g : Heap} {s : Shared} {L' : Addr} {h : Heap} {m' : Str → Option Value} {new : Nws} {C x d : Addr} {vs : List Value} {tk : Nat}
    (F : Fr g L' h m') (N : News g L' h ((x, hdrObj C d vs) :: (d, dictOf [] 0) :: new)) (l : d < x) : Ends g s (RNew C vs) (.ref x) { s with heap := h, toks := tk } :=
  ⟨L', m', _, h, tk, rfl, F, N, [(x, hdrObj C d vs), (d, dictOf [] 0)], by
    intro q hq
    rcases List.mem_cons.mp hq with e | hq
    · rw [e]; exact .head _
    · rcases List.mem_cons.mp hq with e | hq
      · rw [e]; exact .tail _ (.head _)
      · exact absurd hq (by simp), x, d, rfl, rfl, l⟩
set_option maxHeartbeats 4000000 in
theorem t_new172 (w : World) (v0 v1 v2 v3 v4 v5 : Value) : Tell w 6 110 [.ref 172, v0, v1, v2, v3, v4, v5] [] [] (RNew 172 [v0, v1, v2, v3, v4, v5]) := by
  k_with_none
  (k_with "ite" => first | with_reducible refine Mine.pite_ff ?_ | with_reducible refine Mine.pite_tt ?_ | with_reducible refine Mine.pite_nt ?_ | with_reducible refine Mine.pite_nf ?_ | with_reducible refine Mine.pite_t ?_ | with_reducible refine Mine.pite_f ?_)
  (k_with "execs cons" => first | (k_here; k_gentoks) | ((with_reducible refine Mine.execs_gen ?_); intro Q9 hQ9))
  (k_with "execs cons" => ((with_reducible show wpAny _ _ (execs _ _) (UnrPost _ _ _ _ _ _ _) _ _); (refine Mine.gen_post ?_); intro Q9 hQ9))
  (k_with "execs cons" => ((with_reducible show wpAny _ _ (execs _ _) (UnrPostW _ _ _ _ _ _) _ _); (refine Mine.gen_post ?_); intro Q9 hQ9))
  (k_with "eval Name" => (k_here; (with_reducible show wpAny _ _ (eval (Expr.Name _ _) (envOf _ _ _ _ _)) _ _ _); name_kind "globalImplicit"; name_is_builtin; (with_reducible rename Fr _ _ _ _ => kF); k_dflt (refine' Mine.nameB ?c1 ?c2 ?c3 kF ?k1 ?k2 ?k3 ?k4 ?k5 ?_; (case c1 => kernel_rfl); (case c2 => kernel_rfl); (case c3 => kernel_rfl); (case k1 => k_asm); (case k2 => k_asm); (case k3 => k_is); (case k4 => boot_by_name); (case k5 => decide); k_whole)))
  (k_with "eval Name" => (k_here; (with_reducible show wpAny _ _ (eval (Expr.Name _ _) (envOf _ _ _ _ _)) _ _ _); name_kind "globalImplicit"; (with_reducible rename Fr _ _ _ _ => kF); k_dflt (refine' Mine.nameK ?c1 ?c2 ?c3 kF ?k1 ?k2 ?k3 ?_; (case c1 => kernel_rfl); (case c2 => kernel_rfl); (case c3 => kernel_rfl); (case k1 => k_asm); (case k2 => k_asm); (case k3 => k_is); k_whole)))
  (k_with "eval Name" => (k_here; (with_reducible show wpAny _ _ (eval (Expr.Name _ _) (envOf _ _ _ _ _)) _ _ _); name_kind "local"; k_dflt (refine' Mine.nameL ?c1 ?c2 ?c3 ?k1 ?k2 ?_; (case c1 => kernel_rfl); (case c2 => kernel_rfl); (case c3 => kernel_rfl); (case k1 => k_asm); (case k2 => exact rfl); k_whole)))
  (k_with "callWith ref" => (k_here; k_dflt (first
  | (refine' callWith_K ?k1 ?k2 ?_; (case k1 => k_asm); (case k2 => k_is); k_whole)
  | (refine' callWith_KW ?k1 ?k2 ?k3 ?_; (case k1 => k_asm); (case k2 => k_is); (case k3 => exact rfl); k_whole))))
  (k_with "ct int" => (
  (try dsimp only)
  refine' Mine.ends_int ?e1 ?e2 ?_
  case e1 => k_asm
  case e2 => k_asm))
  (k_with "ct with" => (
  (case k1 => k_asm)
  (case k2 => k_asm)
  (case k3 => k_in)
  (case k4 => k_asm)
  (case k5 => k_asm)
  (case kK => first | exact rfl | assumption)
  (case kf => first | exact fun _ h => (nomatch h) | walk_at "ct facts")
  (case kd => ktr_room)
  (case ku => ktr_units)))
  (k_with "ct mul" => first | omega | (split <;> omega) | (simp only [] at *; omega) | (constructor <;> omega))
  (k_with "binaryOp Mult int int" => ((first
  | (refine mul_int ?_ (PySem.IntMulOk.of_right (PySem.intBits_le_64 (by walk_at "ct mul") (by walk_at "ct mul"))))
  | (refine mul_int ?_ (PySem.IntMulOk.of_left (PySem.intBits_le_64 (by walk_at "ct mul") (by walk_at "ct mul"))))); (try dsimp only)))
  (k_with "binaryOp FloorDiv int int" => ((with_reducible refine Mine.fdivQ (by first | omega | (simp only [] at *; omega)) (by first | omega | (simp only [] at *; omega)) ?_); (try dsimp only)))
  (k_with "binaryOp Mod int int" => ((with_reducible refine Mine.fmodQ (by first | omega | (simp only [] at *; omega)) ?_); (try dsimp only)))
  (k_with "call builtin:issubclass" => (k_here; k_dflt ((refine' Mine.issub_hdr ?F ?X ?c ?m ?_; (case F => k_asm); (case X => k_asm); (case c => first | assumption | k_is); (case m => first | assumption | k_is)))))
  (k_with "call builtin:tuple.__getitem__" => (k_here; k_dflt ((refine' Mine.call_tupitem ?F ?X ?x ?dd ?m ?l ?h ?k ?y ?_; (case F => k_asm); (case X => k_asm); (case x => assumption); (case dd => assumption); (case m => first | assumption | k_is); (case l => first | assumption | decide); (case h => first | assumption | decide); (case k => first | assumption | rfl); (case y => first | assumption | rfl)))))
  (k_with "getMethod" => (k_here; (with_reducible show wpAny _ _ (getMethod (Value.type _) _ _) _ _ _); k_dflt ((refine' method_type ?F ?X ?t ?s ?e ?h ?_; (case F => k_asm); (case X => k_asm); (case t => first | rfl | kernel_rfl); (case s => decide +kernel); (case e => k_is); (case h => k_handed)))))
  (k_with "call builtin:tuple.__new__" => (k_here; k_dflt ((refine' Mine.call_tupnew ?F ?N ?X ?Y ?c ?m ?i ?t ?z ?_; (case F => k_asm); (case N => k_asm); (case X => k_asm); (case Y => assumption); (case c => k_is); (case m => k_is); (case i => k_is); (case t => k_mem); (case z => simp)); intro x' d' h' F' N' l1 l2; (try k_lt l1); (try k_lt2 l2); (try k_sweep))))
  have hY := nt172 w
  refine Mine.fill ?_
  k_fill
  intro _ _
  refine' Mine.tell_of ?ho ?hcd ?hb ?hl ?c1 ?c2 ?c3 ?c4 (by decide) ?_
  case ho => k_is
  case hcd => k_is
  case hb => (conv in (occs := *) Mine.fArgs _ => all_goals whnf); first | exact fun _ _ _ _ => BindsTo.of_eq rfl | exact fun h₀ s X k => binds_K (X.keeps k) rfl (by k_is) rfl rfl rfl
  case hl => exact locs rfl
  case c1 => exact rfl
  case c2 => exact rfl
  case c3 => exact rfl
  case c4 => decide
  intro _ _ _ _ _ _ _ _ _ _ _ _ _ _ _ _ _ _ _ _ _ _ _ _ _ _ _ _ _ _
  (conv in (occs := *) Mine.fBody _ => all_goals whnf)
  (conv in (occs := *) Mine.fScope _ => all_goals whnf)
  (try dsimp only)
  (try k_fold)
  refine Mine.gen_post fun Q9 hQ9 => ?_
  k_steps
  all_goals (try dsimp only)
  all_goals exact ends_new (by k_asm) (by k_asm) (by omega)
set_option maxHeartbeats 4000000 in
theorem t_new246 (w : World) (v0 v1 v2 : Value) : Tell w 6 193 [.ref 246, v0, v1, v2] [] [] (RNew 246 [v0, v1, v2]) := by
  have hY := nt246 w
  refine Mine.fill ?_
  k_fill
  intro _ _
  refine' Mine.tell_of ?ho ?hcd ?hb ?hl ?c1 ?c2 ?c3 ?c4 (by decide) ?_
  case ho => k_is
  case hcd => k_is
  case hb => (conv in (occs := *) Mine.fArgs _ => all_goals whnf); first | exact fun _ _ _ _ => BindsTo.of_eq rfl | exact fun h₀ s X k => binds_K (X.keeps k) rfl (by k_is) rfl rfl rfl
  case hl => exact locs rfl
  case c1 => exact rfl
  case c2 => exact rfl
  case c3 => exact rfl
  case c4 => decide
  intro _ _ _ _ _ _ _ _ _ _ _ _ _ _ _ _ _ _ _ _ _ _ _ _ _ _ _ _ _ _
  (conv in (occs := *) Mine.fBody _ => all_goals whnf)
  (conv in (occs := *) Mine.fScope _ => all_goals whnf)
  (try dsimp only)
  (try k_fold)
  refine Mine.gen_post fun Q9 hQ9 => ?_
  k_steps
  all_goals (try dsimp only)
  all_goals exact ends_new (by k_asm) (by k_asm) (by omega)
set_option maxHeartbeats 4000000 in
theorem t_new317 (w : World) (v0 v1 : Value) : Tell w 6 267 [.ref 317, v0, v1] [] [] (RNew 317 [v0, v1]) := by
  have hY := nt317 w
  refine Mine.fill ?_
  k_fill
  intro _ _
  refine' Mine.tell_of ?ho ?hcd ?hb ?hl ?c1 ?c2 ?c3 ?c4 (by decide) ?_
  case ho => k_is
  case hcd => k_is
  case hb => (conv in (occs := *) Mine.fArgs _ => all_goals whnf); first | exact fun _ _ _ _ => BindsTo.of_eq rfl | exact fun h₀ s X k => binds_K (X.keeps k) rfl (by k_is) rfl rfl rfl
  case hl => exact locs rfl
  case c1 => exact rfl
  case c2 => exact rfl
  case c3 => exact rfl
  case c4 => decide
  intro _ _ _ _ _ _ _ _ _ _ _ _ _ _ _ _ _ _ _ _ _ _ _ _ _ _ _ _ _ _
  (conv in (occs := *) Mine.fBody _ => all_goals whnf)
  (conv in (occs := *) Mine.fScope _ => all_goals whnf)
  (try dsimp only)
  (try k_fold)
  refine Mine.gen_post fun Q9 hQ9 => ?_
  k_steps
  all_goals (try dsimp only)
  all_goals exact ends_new (by k_asm) (by k_asm) (by omega)
theorem mk172 {w : World} {v0 : Value} {v1 v2 v3 v4 v5 : Value}
    {p : Program} {loose : List Str} {mean : ExcName → Option Value} {mg mb : Str → Option Value} {dp un : Nat} {gd : Option (List Code)} {cn : Str} {cs : Scope} {a : Addr} {ccd : Value} {cl : List (Str × Addr)} {outer : List Env} {A₀ : Around} {base h₀ : Heap} {L : Addr} {m : Str → Option Value} {news : Nws} {s : Shared} {Q E : Value → Shared → Prop}
    (B : Below A₀ base outer h₀) (F : Fr h₀ L s.heap m) (X : (Mine.K w.params).In h₀) (N : News h₀ L s.heap news) (T : Top p loose mean mg mb h₀) (hk : cs.kind = .function)
    (hd : dp + 10 < recursionLimit) (hu : un + 80 < cLine)
    (ret : ∀ x d h' tk', Fr h₀ L h' m → News h₀ L h' ((x, hdrObj 172 d [v0, v1, v2, v3, v4, v5]) :: (d, dictOf [] 0) :: news) → (∀ q ∈ news, q.1 ≠ x) → (∀ q ∈ news, q.1 ≠ d) → d < x → Q (.ref x) { s with heap := h', toks := tk' }) :
    wpAny (model pw w) (ktrTop dp un gd cn cs L a ccd cl outer) (call (.ref 172) [v0, v1, v2, v3, v4, v5]) Q E s := by
  refine fill ?_
  k_fill
  intro _ _
  refine' make_nt (p := 173) (fnew := 110) F X (nt172 w) ?h1 ?h2 ?h3 ?h4 ?h5 ?h6 ?h7 ?h8 ?h9 ?_
  case h1 => k_is
  case h2 => k_is
  case h3 => k_is
  case h4 => k_is
  case h5 => k_is
  case h6 => k_is
  case h7 => k_is
  case h8 => k_is
  case h9 => k_is
  refine (t_new172 w v0 v1 v2 v3 v4 v5).tell B F X N T hk (fun _ h => nomatch h) (fun _ h => nomatch h) (fun _ h => nomatch h) (by omega) (by omega) fun r h' tk' new hP F' N' ne => ?_
  obtain ⟨x, d, rfl, rfl, l⟩ := hP
  rw [rest_nil] at N' ne
  exact ⟨x, d, h', tk', rfl, rfl, F'.keep, ⟨_, (N' _ (.head _)).1⟩, (N' _ (.tail _ (.head _))).1, ret x d h' tk' F' N' (fun q hq => ne _ (.head _) q hq) (fun q hq => ne _ (.tail _ (.head _)) q hq) l⟩
theorem mk246 {w : World} {v0 : Value} {v1 v2 : Value}
    {p : Program} {loose : List Str} {mean : ExcName → Option Value} {mg mb : Str → Option Value} {dp un : Nat} {gd : Option (List Code)} {cn : Str} {cs : Scope} {a : Addr} {ccd : Value} {cl : List (Str × Addr)} {outer : List Env} {A₀ : Around} {base h₀ : Heap} {L : Addr} {m : Str → Option Value} {news : Nws} {s : Shared} {Q E : Value → Shared → Prop}
    (B : Below A₀ base outer h₀) (F : Fr h₀ L s.heap m) (X : (Mine.K w.params).In h₀) (N : News h₀ L s.heap news) (T : Top p loose mean mg mb h₀) (hk : cs.kind = .function)
    (hd : dp + 10 < recursionLimit) (hu : un + 80 < cLine)
    (ret : ∀ x d h' tk', Fr h₀ L h' m → News h₀ L h' ((x, hdrObj 246 d [v0, v1, v2]) :: (d, dictOf [] 0) :: news) → (∀ q ∈ news, q.1 ≠ x) → (∀ q ∈ news, q.1 ≠ d) → d < x → Q (.ref x) { s with heap := h', toks := tk' }) :
    wpAny (model pw w) (ktrTop dp un gd cn cs L a ccd cl outer) (call (.ref 246) [v0, v1, v2]) Q E s := by
  refine fill ?_
  k_fill
  intro _ _
  refine' make_nt (p := 247) (fnew := 193) F X (nt246 w) ?h1 ?h2 ?h3 ?h4 ?h5 ?h6 ?h7 ?h8 ?h9 ?_
  case h1 => k_is
  case h2 => k_is
  case h3 => k_is
  case h4 => k_is
  case h5 => k_is
  case h6 => k_is
  case h7 => k_is
  case h8 => k_is
  case h9 => k_is
  refine (t_new246 w v0 v1 v2).tell B F X N T hk (fun _ h => nomatch h) (fun _ h => nomatch h) (fun _ h => nomatch h) (by omega) (by omega) fun r h' tk' new hP F' N' ne => ?_
  obtain ⟨x, d, rfl, rfl, l⟩ := hP
  rw [rest_nil] at N' ne
  exact ⟨x, d, h', tk', rfl, rfl, F'.keep, ⟨_, (N' _ (.head _)).1⟩, (N' _ (.tail _ (.head _))).1, ret x d h' tk' F' N' (fun q hq => ne _ (.head _) q hq) (fun q hq => ne _ (.tail _ (.head _)) q hq) l⟩
theorem mk317 {w : World} {v0 : Value} {v1 : Value}
    {p : Program} {loose : List Str} {mean : ExcName → Option Value} {mg mb : Str → Option Value} {dp un : Nat} {gd : Option (List Code)} {cn : Str} {cs : Scope} {a : Addr} {ccd : Value} {cl : List (Str × Addr)} {outer : List Env} {A₀ : Around} {base h₀ : Heap} {L : Addr} {m : Str → Option Value} {news : Nws} {s : Shared} {Q E : Value → Shared → Prop}
    (B : Below A₀ base outer h₀) (F : Fr h₀ L s.heap m) (X : (Mine.K w.params).In h₀) (N : News h₀ L s.heap news) (T : Top p loose mean mg mb h₀) (hk : cs.kind = .function)
    (hd : dp + 10 < recursionLimit) (hu : un + 80 < cLine)
    (ret : ∀ x d h' tk', Fr h₀ L h' m → News h₀ L h' ((x, hdrObj 317 d [v0, v1]) :: (d, dictOf [] 0) :: news) → (∀ q ∈ news, q.1 ≠ x) → (∀ q ∈ news, q.1 ≠ d) → d < x → Q (.ref x) { s with heap := h', toks := tk' }) :
    wpAny (model pw w) (ktrTop dp un gd cn cs L a ccd cl outer) (call (.ref 317) [v0, v1]) Q E s := by
  refine fill ?_
  k_fill
  intro _ _
  refine' make_nt (p := 318) (fnew := 267) F X (nt317 w) ?h1 ?h2 ?h3 ?h4 ?h5 ?h6 ?h7 ?h8 ?h9 ?_
  case h1 => k_is
  case h2 => k_is
  case h3 => k_is
  case h4 => k_is
  case h5 => k_is
  case h6 => k_is
  case h7 => k_is
  case h8 => k_is
  case h9 => k_is
  refine (t_new317 w v0 v1).tell B F X N T hk (fun _ h => nomatch h) (fun _ h => nomatch h) (fun _ h => nomatch h) (by omega) (by omega) fun r h' tk' new hP F' N' ne => ?_
  obtain ⟨x, d, rfl, rfl, l⟩ := hP
  rw [rest_nil] at N' ne
  exact ⟨x, d, h', tk', rfl, rfl, F'.keep, ⟨_, (N' _ (.head _)).1⟩, (N' _ (.tail _ (.head _))).1, ret x d h' tk' F' N' (fun q hq => ne _ (.head _) q hq) (fun q hq => ne _ (.tail _ (.head _)) q hq) l⟩
theorem tga_kind : builtinKind "tuple.__getattribute__" = some .slot := by kernel_rfl
theorem tga_split : splitId "tuple.__getattribute__" = some ("tuple", "__getattribute__") := by kernel_rfl
theorem tga_plain : plainId "tuple.__getattribute__" = true := by decide +kernel
theorem tga_args (a b : Value) : argsOk "tuple.__getattribute__" ⟨[a, b], []⟩ := by unfold argsOk; kernel_rfl
theorem tga_bind (self : Value) : bindSpecial (.builtin "tuple.__getattribute__") self = pure (.builtin "tuple.__getattribute__", [self]) := PySem.F.slot_tuple_getattribute.bind self
theorem nt_get {prog : Program} {w : World} {A : Around} {E : Value → Shared → Prop} {s : Shared} {K : Frag} {x C : Addr} {ox : Obj} {od : Option Obj} {name : Str} {expr : Bool} {Q : Value → Shared → Prop} {g a : Value} (X : K.In s.heap) (I : InstAt s.heap x ox C od) (hga : findIn K (.ref C) "__getattribute__" = some (some (.builtin "tuple.__getattribute__")))
    (hf : findObj K C od name = some (.bind g a)) (hk : findIn K (.ref C) "__getattr__" = some none) (hm : mroIn K C (.type "tuple") = some true)
    (h : wpAny (model prog w) A.in1 (call g [a, .ref x, .ref C]) (fun v s' => wpAny (model prog w) A (handedOut v) Q E s') (fun _ _ => False) { s with toks := s.toks + 1 }) :
    wpAny (model prog w) A (getAttr (.ref x) name expr) Q E s := by
  obtain ⟨hh, gg, dr, tk, os⟩ := s
  have L0 := I.type (M := model prog w)
  have L1 := looks_findIn (M := model prog w) X hga
  have L2 := looks_find (M := model prog w) X I hf
  have L3 := looks_findIn (M := model prog w) X hk
  have hi : Looks (model prog w) hh (isInstance (.ref x) (.type "tuple")) true := L0.andThen (looks_mroIn X hm)
  unfold getAttr getAttrBy
  refine wpAny_bind (wpAny_mkText (wpAny_holding (wpAny_bind (L0.at (wpAny_bind (L1.at ?_))))))
  have hne : (onTheHeap (.ref C) && (Value.builtin "tuple.__getattribute__" == .builtin "object.__getattribute__")) = false := by rw [Bool.and_eq_false_iff]; exact .inr (by decide +kernel)
  dsimp only
  rw [hne]
  show wpAny _ _ (getAttrByItsOwn _ _ _ _ _ _) _ _ _
  unfold getAttrByItsOwn
  refine wpAny_bind ?_
  show wpAny _ _ (typeLookup (.ref C) "__getattr__") _ _ _
  refine L3.at (wpAny_bind (wpAny_attempt ?_))
  show wpAny _ _ (holding [] (callGetattribute _ _ _ _)) _ _ _
  refine wpAny_holding ?_
  unfold callGetattribute
  have hne2 : (expr && onTheHeap (Value.builtin "tuple.__getattribute__")) = false := by cases expr <;> rfl
  rw [hne2]
  show wpAny _ _ (boundAndCalled _ _ _) _ _ _
  unfold boundAndCalled
  rw [tga_bind]
  refine wpAny_bind (wpAny_pure ?_)
  refine wpAny_call ?_
  refine codeAny_call_builtin tga_plain PySem.F.entry_tuple_ga (@check_slot (model prog w) _ _ _ "tuple.__getattribute__" "tuple" "__getattribute__" (.ref x) [.str name tk] [] _ tga_kind tga_split hi (tga_args _ _) ?_)
  unfold Builtin.«object.__getattribute__»
  have h2 := h
  dsimp only at h2
  repeat (first | (with_reducible refine wpAny_mono h2 ?_ ?_) | lk)
  · exact fun v s' z => wpAny_pure z
  · exact fun _ _ z => z.elim
theorem nt_miss {prog : Program} {w : World} {A : Around} {E : Value → Shared → Prop} {s : Shared} {K : Frag} {x C : Addr} {ox : Obj} {od : Option Obj} {name : Str} {Q : Value → Shared → Prop} {oc : Value} {odi : Option Addr} {cd : ClassData} {sl : Array (Option Value)} (X : K.In s.heap) (I : InstAt s.heap x ox C od) (hga : findIn K (.ref C) "__getattribute__" = some (some (.builtin "tuple.__getattribute__")))
    (hf : findObj K C od name = some .missing) (hk : findIn K (.ref C) "__getattr__" = some none) (hm : mroIn K C (.type "tuple") = some true) (hA : A.handled = none) (hC : K.lookup C = some ⟨oc, odi, .cls cd, sl⟩) (hn : cd.name.cps.foldl (fun k c => k + (Str.utf8Of c).length) 0 ≤ 50) (hl : cd.name.toString.length ≤ 50) (hsz : name.length + 100 ≤ sizeLine)
    (h : ∀ h' tk e, Heap.NewExcOf s.heap h' e "AttributeError" → E (.ref e) { s with heap := h', toks := tk }) :
    wpAny (model prog w) A (getAttr (.ref x) name true) Q E s := by
  obtain ⟨hh, gg, dr, tk, os⟩ := s
  have L0 := I.type (M := model prog w)
  have L1 := looks_findIn (M := model prog w) X hga
  have L2 := looks_find (M := model prog w) X I hf
  have L3 := looks_findIn (M := model prog w) X hk
  have hCC := X _ _ hC
  dsimp only at hCC
  have hi : Looks (model prog w) hh (isInstance (.ref x) (.type "tuple")) true := L0.andThen (looks_mroIn X hm)
  unfold getAttr getAttrBy
  refine wpAny_bind (wpAny_mkText (wpAny_holding (wpAny_bind (L0.at (wpAny_bind (L1.at ?_))))))
  have hne : (onTheHeap (.ref C) && (Value.builtin "tuple.__getattribute__" == .builtin "object.__getattribute__")) = false := by rw [Bool.and_eq_false_iff]; exact .inr (by decide +kernel)
  dsimp only
  rw [hne]
  show wpAny _ _ (getAttrByItsOwn _ _ _ _ _ _) _ _ _
  unfold getAttrByItsOwn
  refine wpAny_bind ?_
  show wpAny _ _ (typeLookup (.ref C) "__getattr__") _ _ _
  refine L3.at (wpAny_bind (wpAny_attempt ?_))
  show wpAny _ _ (holding [] (callGetattribute _ _ _ _)) _ _ _
  refine wpAny_holding ?_
  unfold callGetattribute
  have hne2 : (true && onTheHeap (Value.builtin "tuple.__getattribute__")) = false := rfl
  rw [hne2]
  show wpAny _ _ (boundAndCalled _ _ _) _ _ _
  unfold boundAndCalled
  rw [tga_bind]
  refine wpAny_bind (wpAny_pure ?_)
  refine wpAny_call ?_
  refine codeAny_call_builtin tga_plain PySem.F.entry_tuple_ga (@check_slot (model prog w) _ _ _ "tuple.__getattribute__" "tuple" "__getattribute__" (.ref x) [.str name tk] [] _ tga_kind tga_split hi (tga_args _ _) ?_)
  unfold Builtin.«object.__getattribute__»
  repeat lk
  rw [if_pos (by omega)]
  refine wpAny_pure ?_
  have f1 := sub_AttributeError
  refine wpAny_raiseAttrError hA (fun h' tk' e hx' => ?_) (attrMsg_fits (by
    simp only [toString]
    rw [String.length_append, String.length_append]
    have e1 : "'".length = 1 := by decide
    have e2 : "' object has no attribute '".length = 27 := by decide
    omega) hsz)
  obtain ⟨t', u', he⟩ := hx'.there
  show wpAny _ _ (getattributeRaised _ _ _ _ _ _ _) _ _ _
  unfold getattributeRaised
  repeat (any_goals (first | assumption | wp_step))
  exact h _ _ _ hx'.of
noncomputable def HdrAt (news : Nws) (h₀ : Heap) (x C d : Addr) (vs : List Value) : Prop := ((x, hdrObj C d vs) ∈ news ∨ h₀.get? x = some (hdrObj C d vs)) ∧ ((d, dictOf [] 0) ∈ news ∨ h₀.get? d = some (dictOf [] 0))
theorem hdr_attr {w : World} {x C d pg dg : Addr} {vs : List Value} {i : Int} {k n : Nat} {v dv : Value} {x1 x2 : Int} {t1 t2 t3 : Tok} {name : Str} {expr : Bool}
    {p : Program} {loose : List Str} {mean : ExcName → Option Value} {mg mb : Str → Option Value} {dp un : Nat} {gd : Option (List Code)} {cn : Str} {cs : Scope} {a : Addr} {ccd : Value} {cl : List (Str × Addr)} {outer : List Env} {A₀ : Around} {base h₀ : Heap} {L : Addr} {m : Str → Option Value} {news : Nws} {s : Shared} {Q E : Value → Shared → Prop}
    (B : Below A₀ base outer h₀) (F : Fr h₀ L s.heap m) (X : (Mine.K w.params).In h₀) (N : News h₀ L s.heap news) (T : Top p loose mean mg mb h₀) (hk : cs.kind = .function)
    (hx : HdrAt news h₀ x C d vs) (hg : findIn (Mine.K w.params) (.ref C) "__getattribute__" = some (some (.builtin "tuple.__getattribute__"))) (hga : findIn (Mine.K w.params) (.ref C) "__getattr__" = some none) (hc : isClsIn (Mine.K w.params) C = true) (hm : mroIn (Mine.K w.params) C (.type "tuple") = some true)
    (ha : findIn (Mine.K w.params) (.ref C) name = some (some (.ref pg))) (hget : specialIn (Mine.K w.params) (.ref pg) "__get__" = some (some (.ref 58))) (ht : takesIn (Mine.K w.params) (.ref pg) = some true)
    (hp : (Mine.K w.params).lookup pg = some ⟨.ref 75, some dg, .plain, #[]⟩) (hdp : (Mine.K w.params).lookup dg = some (dictOf [⟨x1, .str (Str.ofString "index") t1, .int i t2⟩, ⟨x2, .str (Str.ofString "__doc__") t3, dv⟩] n))
    (hlo : -2 ^ 63 ≤ i) (hhi : i < 2 ^ 63) (hki : seqIndex? i vs.length = some k) (hv : vs[k]? = some v) (hh : handedIn v = true)
    (hd : dp + 8 < recursionLimit) (hu : un + 70 < cLine)
    (ret : ∀ h' tk', Fr h₀ L h' m → News h₀ L h' news → Q v { s with heap := h', toks := tk' }) :
    wpAny (model pw w) (ktrTop dp un gd cn cs L a ccd cl outer) (getAttr (.ref x) name expr) Q E s := by
  obtain ⟨hx1, hx2⟩ := hx
  have at_ : ∀ b o, ((b, o) ∈ news ∨ h₀.get? b = some o) → s.heap.get? b = some o := fun b o z => z.elim (fun q => (N _ q).1) (F.keep b o)
  have I := inst_hdr (at_ _ _ hx1) (at_ _ _ hx2)
  refine nt_get (X.keeps F.keep) I hg (findObj_data hc ha hget ht) hga hm ?_
  refine (t_get w x C d pg dg vs i k n v dv x1 x2 t1 t2 t3 hc hm hp hdp hlo hhi hki hv).tell (dp := dp) (un := un + 1) (s := { s with toks := s.toks + 1 }) B F X N T hk (fun q hq => ?_) (fun _ h => nomatch h) (fun _ _ h => nomatch h) (by omega) (by omega) fun r h' tk' new hP F' N' ne => ?_
  · rcases List.mem_cons.mp hq with e | hq
    · rw [e]; exact hx1
    · rcases List.mem_cons.mp hq with e | hq
      · rw [e]; exact hx2
      · exact absurd hq (by simp)
  · obtain ⟨rfl, rfl⟩ := hP
    rw [rest_nil] at N'
    rw [handedOut_of hh]
    exact wpAny_pure (ret h' tk' F' N')
set_option maxHeartbeats 4000000 in
theorem t_cancun (w : World) (x d : Addr) (e u : Int) (t1 t2 : Tok) : Tell w 12 364 [.ref x] [(x, hdrObj 317 d [.int e t1, .int u t2]), (d, dictOf [] 0)] [] (RInt (mx 0 (e + u - 393216))) := by
  k_with_none
  (k_with "ite" => first | with_reducible refine Mine.pite_ff ?_ | with_reducible refine Mine.pite_tt ?_ | with_reducible refine Mine.pite_nt ?_ | with_reducible refine Mine.pite_nf ?_ | with_reducible refine Mine.pite_t ?_ | with_reducible refine Mine.pite_f ?_)
  (k_with "execs cons" => first | (k_here; k_gentoks) | ((with_reducible refine Mine.execs_gen ?_); intro Q9 hQ9))
  (k_with "execs cons" => ((with_reducible show wpAny _ _ (execs _ _) (UnrPost _ _ _ _ _ _ _) _ _); (refine Mine.gen_post ?_); intro Q9 hQ9))
  (k_with "execs cons" => ((with_reducible show wpAny _ _ (execs _ _) (UnrPostW _ _ _ _ _ _) _ _); (refine Mine.gen_post ?_); intro Q9 hQ9))
  (k_with "eval Name" => (k_here; (with_reducible show wpAny _ _ (eval (Expr.Name _ _) (envOf _ _ _ _ _)) _ _ _); name_kind "globalImplicit"; name_is_builtin; (with_reducible rename Fr _ _ _ _ => kF); k_dflt (refine' Mine.nameB ?c1 ?c2 ?c3 kF ?k1 ?k2 ?k3 ?k4 ?k5 ?_; (case c1 => kernel_rfl); (case c2 => kernel_rfl); (case c3 => kernel_rfl); (case k1 => k_asm); (case k2 => k_asm); (case k3 => k_is); (case k4 => boot_by_name); (case k5 => decide); k_whole)))
  (k_with "eval Name" => (k_here; (with_reducible show wpAny _ _ (eval (Expr.Name _ _) (envOf _ _ _ _ _)) _ _ _); name_kind "globalImplicit"; (with_reducible rename Fr _ _ _ _ => kF); k_dflt (refine' Mine.nameK ?c1 ?c2 ?c3 kF ?k1 ?k2 ?k3 ?_; (case c1 => kernel_rfl); (case c2 => kernel_rfl); (case c3 => kernel_rfl); (case k1 => k_asm); (case k2 => k_asm); (case k3 => k_is); k_whole)))
  (k_with "eval Name" => (k_here; (with_reducible show wpAny _ _ (eval (Expr.Name _ _) (envOf _ _ _ _ _)) _ _ _); name_kind "local"; k_dflt (refine' Mine.nameL ?c1 ?c2 ?c3 ?k1 ?k2 ?_; (case c1 => kernel_rfl); (case c2 => kernel_rfl); (case c3 => kernel_rfl); (case k1 => k_asm); (case k2 => exact rfl); k_whole)))
  (k_with "callWith ref" => (k_here; k_dflt (first
  | (refine' callWith_K ?k1 ?k2 ?_; (case k1 => k_asm); (case k2 => k_is); k_whole)
  | (refine' callWith_KW ?k1 ?k2 ?k3 ?_; (case k1 => k_asm); (case k2 => k_is); (case k3 => exact rfl); k_whole))))
  (k_with "ct int" => (
  (try dsimp only)
  refine' Mine.ends_int ?e1 ?e2 ?_
  case e1 => k_asm
  case e2 => k_asm))
  (k_with "ct with" => (
  (case k1 => k_asm)
  (case k2 => k_asm)
  (case k3 => k_in)
  (case k4 => k_asm)
  (case k5 => k_asm)
  (case kK => first | exact rfl | assumption)
  (case kf => first | exact fun _ h => (nomatch h) | walk_at "ct facts")
  (case kd => ktr_room)
  (case ku => ktr_units)))
  (k_with "ct mul" => first | omega | (split <;> omega) | (simp only [] at *; omega) | (constructor <;> omega))
  (k_with "binaryOp Mult int int" => ((first
  | (refine mul_int ?_ (PySem.IntMulOk.of_right (PySem.intBits_le_64 (by walk_at "ct mul") (by walk_at "ct mul"))))
  | (refine mul_int ?_ (PySem.IntMulOk.of_left (PySem.intBits_le_64 (by walk_at "ct mul") (by walk_at "ct mul"))))); (try dsimp only)))
  (k_with "binaryOp FloorDiv int int" => ((with_reducible refine Mine.fdivQ (by first | omega | (simp only [] at *; omega)) (by first | omega | (simp only [] at *; omega)) ?_); (try dsimp only)))
  (k_with "binaryOp Mod int int" => ((with_reducible refine Mine.fmodQ (by first | omega | (simp only [] at *; omega)) ?_); (try dsimp only)))
  (k_with "call builtin:issubclass" => (k_here; k_dflt ((refine' Mine.issub_hdr ?F ?X ?c ?m ?_; (case F => k_asm); (case X => k_asm); (case c => first | assumption | k_is); (case m => first | assumption | k_is)))))
  (k_with "call builtin:tuple.__getitem__" => (k_here; k_dflt ((refine' Mine.call_tupitem ?F ?X ?x ?dd ?m ?l ?h ?k ?y ?_; (case F => k_asm); (case X => k_asm); (case x => assumption); (case dd => assumption); (case m => first | assumption | k_is); (case l => first | assumption | decide); (case h => first | assumption | decide); (case k => first | assumption | rfl); (case y => first | assumption | rfl)))))
  (k_with "getMethod" => (k_here; (with_reducible show wpAny _ _ (getMethod (Value.type _) _ _) _ _ _); k_dflt ((refine' method_type ?F ?X ?t ?s ?e ?h ?_; (case F => k_asm); (case X => k_asm); (case t => first | rfl | kernel_rfl); (case s => decide +kernel); (case e => k_is); (case h => k_handed)))))
  (k_with "call builtin:tuple.__new__" => (k_here; k_dflt ((refine' Mine.call_tupnew ?F ?N ?X ?Y ?c ?m ?i ?t ?z ?_; (case F => k_asm); (case N => k_asm); (case X => k_asm); (case Y => assumption); (case c => k_is); (case m => k_is); (case i => k_is); (case t => k_mem); (case z => simp)); intro x' d' h' F' N' l1 l2; (try k_lt l1); (try k_lt2 l2); (try k_sweep))))
  (k_with "getAttr ref" => (
  k_here
  k_dflt (
  (refine' Mine.hdr_attr ?k1 ?k2 ?k3 ?k4 ?k5 ?kK ?gx ?gg ?gg2 ?gc ?gm ?ga ?gs ?gt ?gp ?gd ?gl ?gh ?gi ?gv ?go ?kd ?ku ?_)
  (case k1 => k_asm)
  (case k2 => k_asm)
  (case k3 => k_in)
  (case k4 => k_asm)
  (case k5 => k_asm)
  (case kK => first | exact rfl | assumption)
  (case gx => first | exact ⟨Or.inr (by assumption), Or.inr (by assumption)⟩ | exact ⟨Or.inl (by k_mem), Or.inl (by k_mem)⟩)
  (case gg => k_is)
  (case gg2 => k_is)
  (case gc => k_is)
  (case gm => k_is)
  (case ga => k_is)
  (case gs => k_is)
  (case gt => k_is)
  (case gp => k_is)
  (case gd => k_is)
  (case gl => decide)
  (case gh => decide)
  (case gi => rfl)
  (case gv => rfl)
  (case go => rfl)
  (case kd => ktr_room)
  (case ku => ktr_units)
  intro h9 tk9 F9 N9
  (try k_sweep))))
  refine Mine.fill ?_
  k_fill
  intro _ _
  refine' Mine.tell_of ?ho ?hcd ?hb ?hl ?c1 ?c2 ?c3 ?c4 (by decide) ?_
  case ho => k_is
  case hcd => k_is
  case hb => (conv in (occs := *) Mine.fArgs _ => all_goals whnf); first | exact fun _ _ _ _ => BindsTo.of_eq rfl | exact fun h₀ s X k => binds_K (X.keeps k) rfl (by k_is) rfl rfl rfl
  case hl => exact locs rfl
  case c1 => exact rfl
  case c2 => exact rfl
  case c3 => exact rfl
  case c4 => decide
  intro _ _ _ _ _ _ _ _ _ _ _ _ _ _ _ _ _ _ _ _ _ _ _ _ _ _ _ _ _ _
  (conv in (occs := *) Mine.fBody _ => all_goals whnf)
  (conv in (occs := *) Mine.fScope _ => all_goals whnf)
  (try dsimp only)
  (try k_fold)
  refine Mine.gen_post fun Q9 hQ9 => ?_
  rename_i hfa hsm hd hu
  have hx := hfa _ (.head _)
  have hxd := hfa _ (.tail _ (.head _))
  dsimp only at hx hxd
  k_steps
  all_goals (walk_at "ct int")
  all_goals (unfold mx; split <;> omega)
set_option maxHeartbeats 4000000 in
theorem t_prague (w : World) (x d : Addr) (e u : Int) (t1 t2 : Tok) : Tell w 12 385 [.ref x] [(x, hdrObj 317 d [.int e t1, .int u t2]), (d, dictOf [] 0)] [] (RInt (mx 0 (e + u - 786432))) := by
  refine Mine.fill ?_
  k_fill
  intro _ _
  refine' Mine.tell_of ?ho ?hcd ?hb ?hl ?c1 ?c2 ?c3 ?c4 (by decide) ?_
  case ho => k_is
  case hcd => k_is
  case hb => (conv in (occs := *) Mine.fArgs _ => all_goals whnf); first | exact fun _ _ _ _ => BindsTo.of_eq rfl | exact fun h₀ s X k => binds_K (X.keeps k) rfl (by k_is) rfl rfl rfl
  case hl => exact locs rfl
  case c1 => exact rfl
  case c2 => exact rfl
  case c3 => exact rfl
  case c4 => decide
  intro _ _ _ _ _ _ _ _ _ _ _ _ _ _ _ _ _ _ _ _ _ _ _ _ _ _ _ _ _ _
  (conv in (occs := *) Mine.fBody _ => all_goals whnf)
  (conv in (occs := *) Mine.fScope _ => all_goals whnf)
  (try dsimp only)
  (try k_fold)
  refine Mine.gen_post fun Q9 hQ9 => ?_
  rename_i hfa hsm hd hu
  have hx := hfa _ (.head _)
  have hxd := hfa _ (.tail _ (.head _))
  dsimp only at hx hxd
  k_steps
  all_goals (walk_at "ct int")
  all_goals (unfold mx; split <;> omega)
noncomputable abbrev frs (l : List Env) : List Addr := l.filterMap (·.frame)
theorem mem_frs {cn : Str} {cs : Scope} {L a b : Addr} {ccd : Value} {cl : List (Str × Addr)} {outer : List Env} (hm : b ∈ frs (envX cn cs L a ccd cl :: outer)) : b = L ∨ b ∈ frs outer := by
  obtain ⟨env, he, hf⟩ := List.mem_filterMap.mp hm
  rcases List.mem_cons.mp he with rfl | he
  · exact .inl (Option.some.inj hf).symm
  · exact .inr (List.mem_filterMap.mpr ⟨env, he, hf⟩)
/-- an exception that is raised by the def itself, and caught there -/
theorem own_N0 {prog : Program} {w : World} {A₀ : Around} {E : Value → Shared → Prop} {s' : Shared} {base g g₀ h : Heap} {outer : List Env} {L a e : Addr} {m : Str → Option Value} {name : Str} {scope : Scope} {cd : Value}
    {b₀ : Stmt} {suite : List Stmt} {pos np : Pos} {rest : List ExceptHandler} {Q : Flow → Shared → Prop} {news : Nws} {KF : Frag}
    {p : Program} {loose : List Str} {mean : ExcName → Option Value} {mg mb : Str → Option Value} {x : Str} {X T' : String}
    (hx : Heap.NewExcOf h s'.heap e X) (F : Fr g L h m) (N : News g L h news) (K : Below A₀ base outer g) (XB : KF.In base) (TB : Top p loose mean mg mb base)
    (D : KtsDicts (outer.filterMap (·.frame)) g) (T0 : KtsTurn (outer.filterMap (·.frame)) g₀ g)
    (ex : nsIn KF mainGlobals x = some none) (hv : bootBuiltins x = some (.type T')) (hn' : x ≠ "__name__")
    (hexc : isSubtype (.type T') (.type "BaseException") = pure true) (hnt : isSubtype (.type ((Manifest.find? T').elim "type" fun y => y.metatype)) (.type "tuple") = pure false) (hsub : isSubtype (.type X) (.type T') = pure true)
    (k : ∀ h' g', KtsTurn (outer.filterMap (·.frame)) g₀ g' → Fr g' L h' m → News g' L h' news → Below A₀ base outer g' → KF.In g' → Top p loose mean mg mb g' → KtsDicts (outer.filterMap (·.frame)) g' →
      wpAny (model prog w) ((A₀.deeper (envOf name scope L a cd)).mark (some (.ref e))) (execs (b₀ :: suite) (envOf name scope L a cd)) Q E { s' with heap := h' })
    (hk : scope.kind = .function := by rfl) (hxk : (envOf name scope L a cd).kindOf x = some .globalImplicit := by rfl) (hdb : (x == ("__debug__" : Str)) = false := by decide)
    (hE : PassesOwnAt (model prog w) ((A₀.deeper (envOf name scope L a cd)).mark (some (.ref e))) (A₀.deeper (envOf name scope L a cd)) (envOf name scope L a cd) E := by passes_own) :
    wpAny (model prog w) (A₀.deeper (envOf name scope L a cd)) (noteFrame (.ref e) (envOf name scope L a cd))
      (fun _ s₂ => wpAny (model prog w) (A₀.deeper (envOf name scope L a cd)) (setFlight (.ref e) none) (fun _ s₃ =>
        wpAny (model prog w) (A₀.deeper (envOf name scope L a cd)) (handleBy (.ref e) (envOf name scope L a cd) (.ExceptHandler (some (.Name x np)) none (b₀ :: suite) pos :: rest)) Q E s₃) E s₂) E s' := by
  have K' := K.push (name := name) (a := a) (cd := cd) F hk
  have hin : ∀ env ∈ (envOf name scope L a cd :: outer), ∀ b, env.frame = some b → b ∈ (envOf name scope L a cd :: outer).filterMap (·.frame) := fun env he b hb => List.mem_filterMap.mpr ⟨env, he, hb⟩
  have hBG : ∀ b o, h.get? b = some o → b ∉ (envOf name scope L a cd :: outer).filterMap (·.frame) → (hideAll h ((envOf name scope L a cd :: outer).filterMap (·.frame))).get? b = some o := fun b o q nm => hideAll_get _ q nm
  have hl : ∀ q ∈ news, (hideAll h ((envOf name scope L a cd :: outer).filterMap (·.frame))).get? q.1 = some q.2 := fun q hq => by
    refine hideAll_get _ (N q hq).1 fun hm => ?_
    rcases kts_mem hm with z | z
    · exact (N q hq).2.1 z
    · obtain ⟨_, o, ho, _⟩ := K.frames.mem z
      rw [(N q hq).2.2] at ho; cases ho
  obtain ⟨ob, vs, he, hcls, hd, h1⟩ := hx.there
  have hen : (hideAll h ((envOf name scope L a cd :: outer).filterMap (·.frame))).get? e = none := by
    cases q : (hideAll h ((envOf name scope L a cd :: outer).filterMap (·.frame))).get? e with
    | none => rfl
    | some o => have := of_hideAll _ q; rw [hx.new] at this; cases this
  have hL : (hideAll h ((envOf name scope L a cd :: outer).filterMap (·.frame))).get? L = none := hideAll_none _ (List.mem_filterMap.mpr ⟨_, .head _, rfl⟩)
  have hsz : 1 < vs.size := (Array.getElem?_eq_some_iff.mp h1).1
  have hsm : h.UpToSlots s'.heap := Heap.UpToSlots.of_keeps hx.keeps
  unfold noteFrame
  simp only [show (envOf name scope L a cd).frame = some L from rfl]
  refine wpAny_bind (wpAny_field he hd h1 ?_)
  rw [if_neg (by decide)]
  refine wpAny_entryW (a0 := vs[0]) (Around.frames_deeper K.stack) ((funFrames_hide K'.frames hin).of_keeps fun b o hb _ => ⟨o, hx.keeps b o hb, rfl⟩) rfl he (fun b o hb => hx.keeps b o (of_hideAll _ hb)) hen hd hsz (Array.getElem?_eq_getElem (by omega)) fun h₄ hN => ?_
  obtain ⟨k1, k2, k3, k4⟩ := hN
  have hsm₄ : s'.heap.UpToSlots h₄ := k4
  refine wpAny_landsW ⟨k1, hen, k2, k3⟩ fun h₅ hheld hsm₅' => ?_
  have hsm₅ := hsm₄.trans hsm₅'
  obtain ⟨g₅, T₅, F₅, K₅⟩ := kts_ground K F hBG hheld.1 (hsm.trans hsm₅)
  have X₅ : KF.In g₅ := XB.keeps K₅.stays
  have P₅ : TopRead p loose mg mb g₅ := topRead_of (TB.keeps K₅.stays)
  obtain ⟨ob', hob, hobc⟩ := hheld.there
  refine wpAny_handleBy_builtin (X := X) (T := T') (b := true) hexc hnt hsub (name_B F₅ X₅ P₅ ex hv hn' ⟨rfl, ⟨ob', hob, hobc.trans hcls⟩, ?_⟩ hk hxk hdb)
  refine lands_againW hheld fun h₆ hfl₆ hsm₆ => ?_
  obtain ⟨g₆, T₆, F₆, K₆⟩ := kts_ground K F hBG hfl₆.1 ((hsm.trans hsm₅).trans hsm₆)
  have Nl : News g₆ L h₆ news := fun q hq => ⟨hfl₆.1 _ _ (hl q hq), (N q hq).2.1, T₆.none_ _ (N q hq).2.2⟩
  have X₆ : KF.In g₆ := XB.keeps K₆.stays
  have P₆ : Top p loose mean mg mb g₆ := TB.keeps K₆.stays
  have D₆ : KtsDicts (outer.filterMap (·.frame)) g₆ := D.turn T₆
  exact wpAny_passesOwnAt hE (k h₆ g₆ (T0.trans T₆) F₆ Nl K₆ X₆ P₆ D₆)
noncomputable def BackX (fs : List Addr) (g : Heap) (P : Nws → Value → Shared → Prop) (v : Value) (s' : Shared) : Prop :=
  ∃ g' L' m' new, KtsTurn fs g g' ∧ Fr g' L' s'.heap m' ∧ News g' L' s'.heap new ∧ P new v s'
theorem call_frX {prog : Program} {w : World} {A₀ A : Around} {s : Shared} {base h₀ : Heap} {outer : List Env} {L a : Addr} {m : Str → Option Value} {cn : Str} {cs : Scope} {ccd : Value} {cl : List (Str × Addr)} {news small : Nws} {K : Frag} {p : Program} {loose : List Str} {mean : ExcName → Option Value} {mg mb : Str → Option Value}
    {R : Result → Shared → Prop} {name qual : Str} {params : Arguments} {body : List Stmt} {scope : Scope} {dV kV doc pm cdv ct oc : Value} {an od : Option Addr} {osl : Array (Option Value)} {f : Addr} {args : Args} {binds : List (Str × Value)}
    (B : Below A₀ base outer h₀) (F : Fr h₀ L s.heap m) (X₀ : K.In h₀) (N : News h₀ L s.heap news) (T : Top p loose mean mg mb h₀) (XB : K.In base) (TB : Top p loose mean mg mb base) (D : KtsDicts (frs outer) h₀) (hA : A.frames = some (envX cn cs L a ccd cl :: outer)) (hke : cs.kind = .function)
    (hs : ∀ q ∈ small, q ∈ news)
    (ho : K.lookup f = some ⟨oc, od, .func (fnOf name qual params body scope dV kV doc pm an cdv ct), osl⟩) (hcd : codeIn K cdv qual = true) (hroom : A.depth < recursionLimit)
    (hbind : BindsTo s (fnOf name qual params body scope dV kV doc pm an cdv ct) args binds) (hloc : ∀ y ∈ binds, scope.names.lookup y.1 = some .local)
    (h : ∀ g L' h₁, Fr h₀ L g m → Fr g L' h₁ (fun y => binds.reverse.lookup y) → News g L' h₁ small → Below A base (envX cn cs L a ccd cl :: outer) g → K.In g → Top p loose mean mg mb g → KtsDicts (frs (envX cn cs L a ccd cl :: outer)) g → OldIn g news small → (∀ q ∈ small, q.1 < L') →
      wpAny (model prog w) (A.deeper (envOf qual scope L' f cdv)) (execs body (envOf qual scope L' f cdv))
        (fun fl s' => BackX (frs (envX cn cs L a ccd cl :: outer)) g (fun new v s' => ∀ h₀', KtsTurn (frs outer) h₀ h₀' → Fr h₀' L s'.heap m → News h₀' L s'.heap (new ++ rest news small) → (∀ q ∈ new, ∀ q' ∈ rest news small, q'.1 ≠ q.1) → Below A₀ base outer h₀' → K.In h₀' → Top p loose mean mg mb h₀' → KtsDicts (frs outer) h₀' → R (.ok (.ret v)) s') (match fl with | .ret v => v | _ => .none) s')
        (fun e s' => wpAny (model prog w) (A.deeper (envOf qual scope L' f cdv)) (leaving (envOf qual scope L' f cdv) e) (fun _ s'' => R (.error e) s'') (fun e' s'' => R (.error e') s'') s')
        { s with heap := h₁, toks := s.toks + binds.length })
    (hco : scope.isCoroutine = false) (hgen : scope.isGenerator = false) (hk : scope.kind = .function)
    (hcell : ∀ x ∈ scope.names, x.2 ≠ .cell) : codeAny (model prog w) A (.call (.ref f) args) R s := by
  have Ns : News h₀ L s.heap small := fun q hq => N q (hs q hq)
  obtain ⟨FG, BG, st, _⟩ := groundX (R := R) (env := envX cn cs L a ccd cl) B F Ns hA rfl hke
  obtain ⟨oL, es, ep, hL, hLd, hLk, hLf⟩ := F.ns
  have nL : L ∉ small.map (·.1) := fun q => by
    obtain ⟨p, hp, e⟩ := List.mem_map.mp q
    exact (Ns p hp).2.1 e
  have hLg := hideAll_get (small.map (·.1)) hL nL
  have Xg : K.In (hideAll s.heap (small.map (·.1))) := X₀.keeps st
  have old : OldIn (hideAll s.heap (small.map (·.1))) news small := fun q hq hn => hideAll_get _ (N q hq).1 hn
  have nL₀ : h₀.get? L = none := kts_self F
  have Dg : KtsDicts (frs (envX cn cs L a ccd cl :: outer)) (hideAll s.heap (small.map (·.1))) := fun b hb => by
    rcases mem_frs hb with rfl | hb
    · exact ⟨oL, es, ep, hLg, hLd⟩
    · obtain ⟨o, es', n', ho', hd'⟩ := D b hb
      exact ⟨o, es', n', st b o ho', hd'⟩
  refine codeAny_call_def (fd := fnOf name qual params body scope dV kV doc pm an cdv ct) (body := body) (binds := binds) hroom ((X₀.keeps F.keep) _ _ ho) rfl (T.nolimit.keeps F.keep) (codeRec_of (X₀.keeps F.keep) hcd) rfl hbind hcell hloc (fun h₁ hns hk₁ => ?_) hco hgen hk
  refine wpAny_mono (h _ s.heap.objs.size h₁ FG ⟨hns, fun b o e => hk₁ b o (of_hideAll _ e), Nat.le_of_eq (hideAll_size _ _)⟩
    (fun q hq => ⟨hk₁ _ _ (Ns q hq).1, Nat.ne_of_lt (Heap.lt_size (Ns q hq).1), hideAll_none _ (List.mem_map_of_mem hq)⟩) BG Xg (T.keeps st) Dg old (fun q hq => Heap.lt_size (Ns q hq).1)) (fun fl s' hl => ?_) fun _ _ y => y
  obtain ⟨g', L', m', new, T', F', N', k⟩ := hl
  obtain ⟨sl, hsl⟩ := T'.up hLg
  have nfr : ∀ b o, h₀.get? b = some o → b ∉ frs outer → b ∉ frs (envX cn cs L a ccd cl :: outer) := fun b o e nm q => by
    rcases mem_frs q with z | z
    · rw [z, nL₀] at e; cases e
    · exact nm z
  obtain ⟨T₁, S₁⟩ := kts_turn_at (h := s'.heap) (fs := frs outer) (g := h₀)
    (fun b hb => by
      obtain ⟨_, o, ho', _⟩ := B.frames.mem hb
      exact ⟨o, ho'⟩)
    (fun b o e nmem => F'.keep b o (T'.other b o (st b o e) (nfr b o e nmem)))
    (fun b o e hm => by
      obtain ⟨sl', hs'⟩ := T'.up (st b o e)
      exact ⟨sl', F'.keep _ _ hs'⟩)
  have B₃ : Below A₀ base outer (ktsHeap s'.heap (frs outer) h₀) := ⟨B.stack, fun b o e => T₁.other b o (B.stays b o e) (fun hm => by
    rw [(B.frames.mem hm).1] at e
    cases e), B.frames.of_keeps fun b o e _ => by
    obtain ⟨sl', hs'⟩ := T₁.up e
    exact ⟨_, hs', rfl⟩⟩
  refine k _ T₁ ⟨⟨_, es, ep, F'.keep _ _ hsl, hLd, hLk, hLf⟩, S₁, by rw [T₁.size]; exact F.above⟩ (fun q hq => ?_) (fun q hq q' hq' e => ?_) B₃ (XB.keeps B₃.stays) (TB.keeps B₃.stays) (D.turn T₁)
  · rcases List.mem_append.mp hq with hq | hq
    · refine ⟨(N' q hq).1, fun e => ?_, T₁.none_ _ ?_⟩
      · have := (N' q hq).2.2; rw [e, hsl] at this; cases this
      · cases z : h₀.get? q.1 with
        | none => rfl
        | some o =>
          obtain ⟨sl', hs'⟩ := T'.up (st _ _ z)
          have := (N' q hq).2.2; rw [hs'] at this; cases this
    · obtain ⟨h1, h2⟩ := mem_rest.mp hq
      have nf : q.1 ∉ frs (envX cn cs L a ccd cl :: outer) := fun z => by
        rcases mem_frs z with z | z
        · exact (N q h1).2.1 z
        · obtain ⟨_, o, ho', _⟩ := B.frames.mem z
          rw [(N q h1).2.2] at ho'; cases ho'
      exact ⟨F'.keep _ _ (T'.other _ _ (old q h1 h2) nf), (N q h1).2.1, T₁.none_ _ (N q h1).2.2⟩
  · obtain ⟨h1, h2⟩ := mem_rest.mp hq'
    obtain ⟨sl', hs'⟩ := T'.up (old q' h1 h2)
    have a := (N' q hq).2.2
    rw [← e, hs'] at a
    cases a
/-- as Tell, for a def that catches an exception (of its own or of a called def's): the frames' objects may have turned -/
structure TellX (w : World) (k : Nat) (f : Addr) (vs : List Value) (facts small : Nws) (P : Nws → Value → Prop) : Prop where
  tell : ∀ {p : Program} {loose : List Str} {mean : ExcName → Option Value} {mg mb : Str → Option Value} {dp un : Nat} {gd : Option (List Code)} {cn : Str} {cs : Scope} {a : Addr} {ccd : Value} {cl : List (Str × Addr)} {outer : List Env} {A₀ : Around} {base h₀ : Heap} {L : Addr} {m : Str → Option Value} {news : Nws} {s : Shared} {Q E : Value → Shared → Prop},
    Below A₀ base outer h₀ → Fr h₀ L s.heap m → (Mine.K w.params).In h₀ → News h₀ L s.heap news → Top p loose mean mg mb h₀ → (Mine.K w.params).In base → Top p loose mean mg mb base → KtsDicts (frs outer) h₀ → cs.kind = .function →
    (∀ q ∈ facts, q ∈ news ∨ h₀.get? q.1 = some q.2) → (∀ q ∈ small, q ∈ news) → (∀ q ∈ facts, q.1 ∉ small.map (·.1)) → dp + k < recursionLimit → un + 8 * k < cLine →
    (∀ r h' tk' new h₀', P new r → KtsTurn (frs outer) h₀ h₀' → Fr h₀' L h' m → News h₀' L h' (new ++ rest news small) → (∀ q ∈ new, ∀ q' ∈ rest news small, q'.1 ≠ q.1) → Below A₀ base outer h₀' → (Mine.K w.params).In h₀' → Top p loose mean mg mb h₀' → KtsDicts (frs outer) h₀' → Q r { s with heap := h', toks := tk' }) →
    wpAny (model pw w) (ktrTop dp un gd cn cs L a ccd cl outer) (call (.ref f) vs) Q E s
noncomputable def EndsX (fs : List Addr) (g : Heap) (s : Shared) (P : Nws → Value → Prop) (v : Value) (s' : Shared) : Prop :=
  ∃ g' L' m' new h tk, KtsTurn fs g g' ∧ s' = { s with heap := h, toks := tk } ∧ Fr g' L' h m' ∧ News g' L' h new ∧ ∃ new', (∀ q ∈ new', q ∈ new) ∧ P new' v
theorem tellX_of {w : World} {k : Nat} {f : Addr} {vs : List Value} {facts small : Nws} {P : Nws → Value → Prop}
    {name qual : Str} {params : Arguments} {body : List Stmt} {scope : Scope} {dV kV doc pm cdv ct oc : Value} {an od : Option Addr} {osl : Array (Option Value)} {binds : List (Str × Value)}
    (ho : (Mine.K w.params).lookup f = some ⟨oc, od, .func (fnOf name qual params body scope dV kV doc pm an cdv ct), osl⟩) (hcd : codeIn (Mine.K w.params) cdv qual = true)
    (hbind : ∀ (h₀ : Heap) (s : Shared), (Mine.K w.params).In h₀ → (∀ b o, h₀.get? b = some o → s.heap.get? b = some o) → BindsTo s (fnOf name qual params body scope dV kV doc pm an cdv ct) ⟨vs, []⟩ binds) (hloc : ∀ y ∈ binds, scope.names.lookup y.1 = some .local)
    (hco : scope.isCoroutine = false) (hgen : scope.isGenerator = false) (hk : scope.kind = .function) (hcell : ∀ x ∈ scope.names, x.2 ≠ .cell) (hk0 : 0 < k)
    (hbody : ∀ {p : Program} {loose : List Str} {mean : ExcName → Option Value} {mg mb : Str → Option Value} {dp un : Nat} {gd : Option (List Code)} {cn : Str} {cs : Scope} {a : Addr} {ccd : Value} {cl : List (Str × Addr)} {outer : List Env} {base g : Heap} {L L' : Addr} {h₁ : Heap} {s : Shared},
      Fr g L' h₁ (fun y => binds.reverse.lookup y) → News g L' h₁ small → Below (ktrTop dp un gd cn cs L a ccd cl outer) base (envX cn cs L a ccd cl :: outer) g → (Mine.K w.params).In g → Top p loose mean mg mb g → (Mine.K w.params).In base → Top p loose mean mg mb base → KtsDicts (frs (envX cn cs L a ccd cl :: outer)) g → cs.kind = .function → (∀ q ∈ facts, g.get? q.1 = some q.2) → (∀ q ∈ small, q.1 < L') →
      dp + k < recursionLimit → un + 8 * k < cLine →
      wpAny (model pw w) ((ktrTop dp un gd cn cs L a ccd cl outer).deeper (envOf qual scope L' f cdv)) (execs body (envOf qual scope L' f cdv))
        (fun fl s' => EndsX (frs (envX cn cs L a ccd cl :: outer)) g s P (match fl with | .ret v => v | _ => .none) s') (fun _ _ => False) { s with heap := h₁, toks := s.toks + binds.length }) :
    TellX w k f vs facts small P := by
  constructor
  intro p loose mean mg mb dp un gd cn cs a ccd cl outer A₀ base h₀ L m news s Q E B F X N T XB TB D hck hfa hs hfs hd hu hret
  refine wpAny_call ?_
  refine call_frX B F X N T XB TB D rfl hck hs ho hcd (by show dp < _; omega) (hbind h₀ s X F.keep) hloc (fun g L' h₁ FG F' N' B' X' T' D' O' l' => ?_) hco hgen hk hcell
  refine wpAny_mono (hbody (s := s) F' N' B' X' T' XB TB D' hck (fun q hq => ?_) l' hd hu) (fun fl s' he => ?_) fun _ _ y => y.elim
  · rcases hfa q hq with z | z
    · exact O' q z (hfs q hq)
    · exact FG.keep _ _ z
  · obtain ⟨g', L₂, m₂, new, h, tk, Tg, rfl, F₂, N₂, new', hsub, hP⟩ := he
    refine ⟨g', L₂, m₂, new', Tg, F₂, fun q hq => N₂ q (hsub q hq), fun h₀' T₃ F₃ N₃ ne B₃ X₃ P₃ D₃ => ?_⟩
    exact hret _ h tk new' h₀' hP T₃ F₃ N₃ ne B₃ X₃ P₃ D₃
/-- a call that raises -/
structure TellR (w : World) (k : Nat) (f : Addr) (vs : List Value) (kws : List (Str × Value)) (facts : Nws) (cls : Value) : Prop where
  tell : ∀ {p : Program} {loose : List Str} {mean : ExcName → Option Value} {mg mb : Str → Option Value} {dp un : Nat} {gd : Option (List Code)} {cn : Str} {cs : Scope} {a : Addr} {ccd : Value} {cl : List (Str × Addr)} {outer : List Env} {A₀ : Around} {base h₀ : Heap} {L : Addr} {m : Str → Option Value} {news : Nws} {s : Shared} {Q E : Value → Shared → Prop},
    Below A₀ base outer h₀ → Fr h₀ L s.heap m → (Mine.K w.params).In h₀ → News h₀ L s.heap news → Top p loose mean mg mb h₀ → (Mine.K w.params).In base → Top p loose mean mg mb base → KtsDicts (frs outer) h₀ → cs.kind = .function →
    (∀ q ∈ facts, q ∈ news ∨ h₀.get? q.1 = some q.2) → dp + k < recursionLimit → un + 8 * k < cLine →
    (∀ e h' tk' G, Fr h₀ L G m → RaisedSN base G (envX cn cs L a ccd cl :: outer) e cls news h' → G.UpToSlots h' → E (.ref e) { s with heap := h', toks := tk' }) →
    wpAny (model pw w) (ktrTop dp un gd cn cs L a ccd cl outer) (call (.ref f) vs kws) Q E s
noncomputable def EndsR (base g : Heap) (l : List Env) (cls : Value) (s : Shared) (v : Value) (s' : Shared) : Prop :=
  ∃ e h tk, v = .ref e ∧ s' = { s with heap := h, toks := tk } ∧ RaisedSN base g l e cls [] h ∧ g.UpToSlots h
theorem tellR_of {w : World} {k : Nat} {f : Addr} {vs : List Value} {kws : List (Str × Value)} {facts : Nws} {cls : Value}
    {name qual : Str} {params : Arguments} {body : List Stmt} {scope : Scope} {dV kV doc pm cdv ct oc : Value} {an od : Option Addr} {osl : Array (Option Value)} {binds : List (Str × Value)}
    (ho : (Mine.K w.params).lookup f = some ⟨oc, od, .func (fnOf name qual params body scope dV kV doc pm an cdv ct), osl⟩) (hcd : codeIn (Mine.K w.params) cdv qual = true)
    (hbind : ∀ (h₀ : Heap) (s : Shared), (Mine.K w.params).In h₀ → (∀ b o, h₀.get? b = some o → s.heap.get? b = some o) → BindsTo s (fnOf name qual params body scope dV kV doc pm an cdv ct) ⟨vs, kws⟩ binds) (hloc : ∀ y ∈ binds, scope.names.lookup y.1 = some .local)
    (hco : scope.isCoroutine = false) (hgen : scope.isGenerator = false) (hk : scope.kind = .function) (hcell : ∀ x ∈ scope.names, x.2 ≠ .cell) (hk0 : 0 < k)
    (hbody : ∀ {p : Program} {loose : List Str} {mean : ExcName → Option Value} {mg mb : Str → Option Value} {dp un : Nat} {gd : Option (List Code)} {cn : Str} {cs : Scope} {a : Addr} {ccd : Value} {cl : List (Str × Addr)} {outer : List Env} {base g : Heap} {L L' : Addr} {h₁ : Heap} {s : Shared},
      Fr g L' h₁ (fun y => binds.reverse.lookup y) → News g L' h₁ [] → Below (ktrTop dp un gd cn cs L a ccd cl outer) base (envX cn cs L a ccd cl :: outer) g → (Mine.K w.params).In g → Top p loose mean mg mb g → (Mine.K w.params).In base → Top p loose mean mg mb base → KtsDicts (frs (envX cn cs L a ccd cl :: outer)) g → cs.kind = .function → (∀ q ∈ facts, g.get? q.1 = some q.2) →
      dp + k < recursionLimit → un + 8 * k < cLine →
      wpAny (model pw w) ((ktrTop dp un gd cn cs L a ccd cl outer).deeper (envOf qual scope L' f cdv)) (execs body (envOf qual scope L' f cdv))
        (fun _ _ => False) (fun e s' => wpAny (model pw w) ((ktrTop dp un gd cn cs L a ccd cl outer).deeper (envOf qual scope L' f cdv)) (leaving (envOf qual scope L' f cdv) e)
          (fun _ s'' => EndsR base g (envX cn cs L a ccd cl :: outer) cls s e s'') (fun _ _ => False) s') { s with heap := h₁, toks := s.toks + binds.length }) :
    TellR w k f vs kws facts cls := by
  constructor
  intro p loose mean mg mb dp un gd cn cs a ccd cl outer A₀ base h₀ L m news s Q E B F X N T XB TB D hck hfa hd hu hret
  refine wpAny_call ?_
  refine call_frX (small := []) B F X N T XB TB D rfl hck (fun _ h => (nomatch h)) ho hcd (by show dp < _; omega) (hbind h₀ s X F.keep) hloc (fun g L' h₁ FG F' N' B' X' T' D' O' l' => ?_) hco hgen hk hcell
  refine wpAny_mono (hbody (s := s) F' N' B' X' T' XB TB D' hck (fun q hq => ?_) hd hu) (fun fl s' he => he.elim) fun e s' he => wpAny_mono he (fun _ s'' hr => ?_) fun _ _ y => y.elim
  · rcases hfa q hq with z | z
    · exact O' q z (fun h => nomatch h)
    · exact FG.keep _ _ z
  · obtain ⟨e', h, tk, rfl, rfl, R, U⟩ := hr
    obtain ⟨oL, es, ep, hL, hLd, hLk, hLf⟩ := FG.ns
    have nL : L ∉ news.map (·.1) := fun q => by
      obtain ⟨p, hp, e⟩ := List.mem_map.mp q
      exact (N p hp).2.1 e
    have nf : ∀ q ∈ news, q.1 ∉ frs (envX cn cs L a ccd cl :: outer) := fun q h1 z => by
        rcases mem_frs z with z | z
        · exact (N q h1).2.1 z
        · obtain ⟨_, o, ho', _⟩ := B.frames.mem z
          rw [(N q h1).2.2] at ho'; cases ho'
    refine hret e' h tk (hideAll g (news.map (·.1))) ⟨⟨oL, es, ep, hideAll_get _ hL nL, hLd, hLk, hLf⟩, fun b o z => hideAll_get _ (FG.keep b o z) fun q => ?_, FG.above⟩ ?_ (fun b o z => U b o (of_hideAll _ z))
    · obtain ⟨p, hp, rfl⟩ := List.mem_map.mp q
      rw [(N p hp).2.2] at z; cases z
    · obtain ⟨Bh, a0, hB, hBG, hl, hfl⟩ := R
      refine ⟨Bh, a0, hB, fun b o z => hBG b o (of_hideAll _ z), fun q hq => ⟨hBG _ _ (O' q hq (fun h => nomatch h)) (nf q hq), hideAll_none _ (List.mem_map_of_mem hq), ?_⟩, hfl⟩
      exact fresh_of_stays B.stays (N q hq).2.2
/-- what a call of f with vs does from within any def: it changes small alone (to new), hands back r -/
structure TellK (w : World) (k : Nat) (f : Addr) (vs : List Value) (kws : List (Str × Value)) (facts small : Nws) (P : Nws → Value → Prop) : Prop where
  tell : ∀ {p : Program} {loose : List Str} {mean : ExcName → Option Value} {mg mb : Str → Option Value} {dp un : Nat} {gd : Option (List Code)} {cn : Str} {cs : Scope} {a : Addr} {ccd : Value} {cl : List (Str × Addr)} {outer : List Env} {A₀ : Around} {base h₀ : Heap} {L : Addr} {m : Str → Option Value} {news : Nws} {s : Shared} {Q E : Value → Shared → Prop},
    Below A₀ base outer h₀ → Fr h₀ L s.heap m → (Mine.K w.params).In h₀ → News h₀ L s.heap news → Top p loose mean mg mb h₀ → cs.kind = .function →
    (∀ q ∈ facts, q ∈ news ∨ h₀.get? q.1 = some q.2) → (∀ q ∈ small, q ∈ news) → (∀ q ∈ facts, q.1 ∉ small.map (·.1)) → dp + k < recursionLimit → un + 8 * k < cLine →
    (∀ r h' tk' new, P new r → Fr h₀ L h' m → News h₀ L h' (new ++ rest news small) → (∀ q ∈ new, ∀ q' ∈ rest news small, q'.1 ≠ q.1) → Q r { s with heap := h', toks := tk' }) →
    wpAny (model pw w) (ktrTop dp un gd cn cs L a ccd cl outer) (call (.ref f) vs kws) Q E s
theorem tellK_of {w : World} {k : Nat} {f : Addr} {vs : List Value} {kws : List (Str × Value)} {facts small : Nws} {P : Nws → Value → Prop}
    {name qual : Str} {params : Arguments} {body : List Stmt} {scope : Scope} {dV kV doc pm cdv ct oc : Value} {an od : Option Addr} {osl : Array (Option Value)} {binds : List (Str × Value)}
    (ho : (Mine.K w.params).lookup f = some ⟨oc, od, .func (fnOf name qual params body scope dV kV doc pm an cdv ct), osl⟩) (hcd : codeIn (Mine.K w.params) cdv qual = true)
    (hbind : ∀ (h₀ : Heap) (s : Shared), (Mine.K w.params).In h₀ → (∀ b o, h₀.get? b = some o → s.heap.get? b = some o) → BindsTo s (fnOf name qual params body scope dV kV doc pm an cdv ct) ⟨vs, kws⟩ binds) (hloc : ∀ y ∈ binds, scope.names.lookup y.1 = some .local)
    (hco : scope.isCoroutine = false) (hgen : scope.isGenerator = false) (hk : scope.kind = .function) (hcell : ∀ x ∈ scope.names, x.2 ≠ .cell) (hk0 : 0 < k)
    (hbody : ∀ {p : Program} {loose : List Str} {mean : ExcName → Option Value} {mg mb : Str → Option Value} {dp un : Nat} {gd : Option (List Code)} {cn : Str} {cs : Scope} {a : Addr} {ccd : Value} {cl : List (Str × Addr)} {outer : List Env} {base g : Heap} {L L' : Addr} {h₁ : Heap} {s : Shared},
      Fr g L' h₁ (fun y => binds.reverse.lookup y) → News g L' h₁ small → Below (ktrTop dp un gd cn cs L a ccd cl outer) base (envX cn cs L a ccd cl :: outer) g → (Mine.K w.params).In g → Top p loose mean mg mb g → cs.kind = .function → (∀ q ∈ facts, g.get? q.1 = some q.2) → (∀ q ∈ small, q.1 < L') →
      dp + k < recursionLimit → un + 8 * k < cLine →
      wpAny (model pw w) ((ktrTop dp un gd cn cs L a ccd cl outer).deeper (envOf qual scope L' f cdv)) (execs body (envOf qual scope L' f cdv))
        (fun fl s' => Ends g s P (match fl with | .ret v => v | _ => .none) s') (fun _ _ => False) { s with heap := h₁, toks := s.toks + binds.length }) :
    TellK w k f vs kws facts small P := by
  constructor
  intro p loose mean mg mb dp un gd cn cs a ccd cl outer A₀ base h₀ L m news s Q E B F X N T hck hfa hs hfs hd hu hret
  refine wpAny_call ?_
  refine call_fr B F X N T (env := envX cn cs L a ccd cl) rfl rfl hck hs ho hcd (by show dp < _; omega) (hbind h₀ s X F.keep) hloc (fun g L' h₁ FG F' N' B' X' T' O' l' => ?_) hco hgen hk hcell
  refine wpAny_mono (hbody (s := s) F' N' B' X' T' hck (fun q hq => ?_) l' hd hu) (fun fl s' he => ?_) fun _ _ y => y.elim
  · rcases hfa q hq with z | z
    · exact O' q z (hfs q hq)
    · exact FG.keep _ _ z
  · obtain ⟨L₂, m₂, new, h, tk, rfl, F₂, N₂, new', hsub, hP⟩ := he
    refine ⟨L₂, m₂, new', F₂, fun q hq => N₂ q (hsub q hq), fun F₃ N₃ ne => ?_⟩
    exact hret _ h tk new' hP F₃ N₃ ne
theorem use_k {w : World} {k : Nat} {f : Addr} {vs : List Value} {kws : List (Str × Value)} {facts : Nws} {y : Value}
    {p : Program} {loose : List Str} {mean : ExcName → Option Value} {mg mb : Str → Option Value} {dp un : Nat} {gd : Option (List Code)} {cn : Str} {cs : Scope} {a : Addr} {ccd : Value} {cl : List (Str × Addr)} {outer : List Env} {A₀ : Around} {base h₀ : Heap} {L : Addr} {m : Str → Option Value} {news : Nws} {s : Shared} {Q E : Value → Shared → Prop}
    (C : TellK w k f vs kws facts [] (fun new r => new = [] ∧ r = y)) (B : Below A₀ base outer h₀) (F : Fr h₀ L s.heap m) (X : (Mine.K w.params).In h₀) (N : News h₀ L s.heap news) (T : Top p loose mean mg mb h₀) (hk : cs.kind = .function)
    (hfa : ∀ q ∈ facts, q ∈ news ∨ h₀.get? q.1 = some q.2) (hd : dp + k < recursionLimit) (hu : un + 8 * k < cLine)
    (ret : ∀ h' tk', Fr h₀ L h' m → News h₀ L h' news → Q y { s with heap := h', toks := tk' }) :
    wpAny (model pw w) (ktrTop dp un gd cn cs L a ccd cl outer) (call (.ref f) vs kws) Q E s :=
  C.tell B F X N T hk hfa (fun _ h => (nomatch h)) (fun _ _ h => (nomatch h)) hd hu fun r h' tk' new hP F' N' _ => by
    obtain ⟨rfl, rfl⟩ := hP
    rw [rest_nil] at N'
    exact ret h' tk' F' N'
theorem ends_none {g : Heap} {s : Shared} {L' : Addr} {h : Heap} {m' : Str → Option Value} {new : Nws} {tk : Nat}
    (F : Fr g L' h m') (N : News g L' h new) : Ends g s (fun new r => new = [] ∧ r = Value.none) .none { s with heap := h, toks := tk } :=
  ⟨L', m', new, h, tk, rfl, F, N, [], fun _ h => (nomatch h), rfl, rfl⟩
theorem sub_attr : isSubtype (.type "AttributeError") (.type "AttributeError") = pure true := sub_AttributeError
theorem exc_attr : isSubtype (.type "AttributeError") (.type "BaseException") = pure true := by rw [isSubtype_type]; kernel_rfl
theorem notTuple_attr : isSubtype (.type ((Manifest.find? "AttributeError").elim "type" fun y => y.metatype)) (.type "tuple") = pure false := isSubtype_of_subB (by decide +kernel)
theorem findObj_missing {K : Frag} {C : Addr} {od : Obj} {name : Str} (hc : (clsIn K C).isSome = true) (ha : findIn K (.ref C) name = some none) (hl : lookIn name od = some none) (hcop : copiedNames.contains name = false) :
    findObj K C (some od) name = some .missing := by
  obtain ⟨cd, hc⟩ := Option.isSome_iff_exists.mp hc
  unfold findObj
  have ho : PySem.W.ownOf cd (some od) name = some none := by
    unfold PySem.W.ownOf
    split
    · exact hl
    · rfl
  rw [hc, Option.bind_some, ha, Option.bind_some]
  simp only [Option.bind_some, ho, hcop, Bool.false_and, Bool.false_eq_true, if_false]
theorem hdr_miss {w : World} {x C d : Addr} {vs : List Value} {name : Str} {A : Around} {oc : Value} {odi : Option Addr} {cd : ClassData} {sl : Array (Option Value)}
    {h₀ : Heap} {L : Addr} {m : Str → Option Value} {news : Nws} {s : Shared} {Q E : Value → Shared → Prop}
    (F : Fr h₀ L s.heap m) (X : (Mine.K w.params).In h₀) (N : News h₀ L s.heap news)
    (hx : HdrAt news h₀ x C d vs) (hg : findIn (Mine.K w.params) (.ref C) "__getattribute__" = some (some (.builtin "tuple.__getattribute__"))) (hga : findIn (Mine.K w.params) (.ref C) "__getattr__" = some none) (hc : isClsIn (Mine.K w.params) C = true)
    (ha : findIn (Mine.K w.params) (.ref C) name = some none) (hm : mroIn (Mine.K w.params) C (.type "tuple") = some true) (hA : A.handled = none) (hC : (Mine.K w.params).lookup C = some ⟨oc, odi, .cls cd, sl⟩)
    (hn : cd.name.cps.foldl (fun k c => k + (Str.utf8Of c).length) 0 ≤ 50) (hl : cd.name.toString.length ≤ 50) (hsz : name.length + 100 ≤ sizeLine) (hcop : copiedNames.contains name = false)
    (h : ∀ h' tk e, Heap.NewExcOf s.heap h' e "AttributeError" → E (.ref e) { s with heap := h', toks := tk }) :
    wpAny (model pw w) A (getAttr (.ref x) name true) Q E s := by
  obtain ⟨hx1, hx2⟩ := hx
  have at_ : ∀ b o, ((b, o) ∈ news ∨ h₀.get? b = some o) → s.heap.get? b = some o := fun b o z => z.elim (fun q => (N _ q).1) (F.keep b o)
  have I := inst_hdr (at_ _ _ hx1) (at_ _ _ hx2)
  exact nt_miss (X.keeps F.keep) I hg (findObj_missing hc ha rfl hcop) hga hm hA hC hn hl hsz h
theorem endsX_int {fs : List Addr} {g g' : Heap} {s : Shared} {L' : Addr} {h : Heap} {m' : Str → Option Value} {new : Nws} {x y : Int} {t : Tok} {tk : Nat}
    (T : KtsTurn fs g g') (F : Fr g' L' h m') (N : News g' L' h new) (e : x = y) : EndsX fs g s (RInt y) (.int x t) { s with heap := h, toks := tk } :=
  ⟨g', L', m', new, h, tk, T, rfl, F, N, [], fun _ h => (nomatch h), rfl, t, by rw [e]⟩
theorem len_int {a : Int} (h : -10 ^ 30 < a) (h' : a < 10 ^ 30) : (Str.ofString (toString a)).length ≤ 31 := by
  rw [PySem.ofString_length]; exact int_text_length_le10 (k := 30) (by decide) (by omega)
theorem fits_add {x y : Str} {n m : Nat} (h : x.length ≤ n) (h' : y.length ≤ m) : (x ++ y).length ≤ n + m := by
  rw [Str.length_append]; omega
theorem fits_z {x : Str} {n : Nat} {P : Prop} (h : x.length ≤ n) (h' : n ≤ sizeLine) (p : P) : x.length ≤ sizeLine ∧ P := ⟨Nat.le_trans h h', p⟩
theorem len_int' {a : Int} (h : -10 ^ 30 < a) (h' : a < 10 ^ 30) : (Str.ofString (toString a)).length ≤ 1000 := Nat.le_trans (len_int h h') (by decide)
theorem fits_add' {x y : Str} {n : Nat} (h : x.length ≤ n) (h' : y.length ≤ 1000) : (x ++ y).length ≤ n + 1000 := fits_add h h'
theorem joinNil {M : Model} {A : Around} {E : Value → Shared → Prop} {s : Shared} {env : Env} {out : Str} {n : Nat} {Q : Value → Shared → Prop} (hn : out.length ≤ n) (hz : n ≤ sizeLine) (h : Q (.str out s.toks) { s with toks := s.toks + 1 }) :
    wpAny M A (joinParts out (evalEach [] env)) Q E s := joinParts_nilE (joinParts_nil h (Nat.le_trans hn hz))
set_option maxHeartbeats 4000000 in
theorem t_cancunX (w : World) (x d : Addr) (vs : List Value) : TellX w 12 364 [.ref x] [(x, hdrObj 246 d vs), (d, dictOf [] 0)] [] (RInt 0) := by
  k_with_none
  (k_with "ite" => first | with_reducible refine Mine.pite_ff ?_ | with_reducible refine Mine.pite_tt ?_ | with_reducible refine Mine.pite_nt ?_ | with_reducible refine Mine.pite_nf ?_ | with_reducible refine Mine.pite_t ?_ | with_reducible refine Mine.pite_f ?_)
  (k_with "execs cons" => first | (k_here; k_gentoks) | ((with_reducible refine Mine.execs_gen ?_); intro Q9 hQ9))
  (k_with "execs cons" => ((with_reducible show wpAny _ _ (execs _ _) (UnrPost _ _ _ _ _ _ _) _ _); (refine Mine.gen_post ?_); intro Q9 hQ9))
  (k_with "execs cons" => ((with_reducible show wpAny _ _ (execs _ _) (UnrPostW _ _ _ _ _ _) _ _); (refine Mine.gen_post ?_); intro Q9 hQ9))
  (k_with "eval Name" => (k_here; (with_reducible show wpAny _ _ (eval (Expr.Name _ _) (envOf _ _ _ _ _)) _ _ _); name_kind "globalImplicit"; name_is_builtin; (with_reducible rename Fr _ _ _ _ => kF); k_dflt (refine' Mine.nameB ?c1 ?c2 ?c3 kF ?k1 ?k2 ?k3 ?k4 ?k5 ?_; (case c1 => kernel_rfl); (case c2 => kernel_rfl); (case c3 => kernel_rfl); (case k1 => k_asm); (case k2 => k_asm); (case k3 => k_is); (case k4 => boot_by_name); (case k5 => decide); k_whole)))
  (k_with "eval Name" => (k_here; (with_reducible show wpAny _ _ (eval (Expr.Name _ _) (envOf _ _ _ _ _)) _ _ _); name_kind "globalImplicit"; (with_reducible rename Fr _ _ _ _ => kF); k_dflt (refine' Mine.nameK ?c1 ?c2 ?c3 kF ?k1 ?k2 ?k3 ?_; (case c1 => kernel_rfl); (case c2 => kernel_rfl); (case c3 => kernel_rfl); (case k1 => k_asm); (case k2 => k_asm); (case k3 => k_is); k_whole)))
  (k_with "eval Name" => (k_here; (with_reducible show wpAny _ _ (eval (Expr.Name _ _) (envOf _ _ _ _ _)) _ _ _); name_kind "local"; k_dflt (refine' Mine.nameL ?c1 ?c2 ?c3 ?k1 ?k2 ?_; (case c1 => kernel_rfl); (case c2 => kernel_rfl); (case c3 => kernel_rfl); (case k1 => k_asm); (case k2 => exact rfl); k_whole)))
  (k_with "callWith ref" => (k_here; k_dflt (first
  | (refine' callWith_K ?k1 ?k2 ?_; (case k1 => k_asm); (case k2 => k_is); k_whole)
  | (refine' callWith_KW ?k1 ?k2 ?k3 ?_; (case k1 => k_asm); (case k2 => k_is); (case k3 => exact rfl); k_whole))))
  (k_with "ct int" => (
  (try dsimp only)
  refine' Mine.ends_int ?e1 ?e2 ?_
  case e1 => k_asm
  case e2 => k_asm))
  (k_with "ct with" => (
  (case k1 => k_asm)
  (case k2 => k_asm)
  (case k3 => k_in)
  (case k4 => k_asm)
  (case k5 => k_asm)
  (case kK => first | exact rfl | assumption)
  (case kf => first | exact fun _ h => (nomatch h) | walk_at "ct facts")
  (case kd => ktr_room)
  (case ku => ktr_units)))
  (k_with "ct mul" => first | omega | (split <;> omega) | (simp only [] at *; omega) | (constructor <;> omega))
  (k_with "binaryOp Mult int int" => ((first
  | (refine mul_int ?_ (PySem.IntMulOk.of_right (PySem.intBits_le_64 (by walk_at "ct mul") (by walk_at "ct mul"))))
  | (refine mul_int ?_ (PySem.IntMulOk.of_left (PySem.intBits_le_64 (by walk_at "ct mul") (by walk_at "ct mul"))))); (try dsimp only)))
  (k_with "binaryOp FloorDiv int int" => ((with_reducible refine Mine.fdivQ (by first | omega | (simp only [] at *; omega)) (by first | omega | (simp only [] at *; omega)) ?_); (try dsimp only)))
  (k_with "binaryOp Mod int int" => ((with_reducible refine Mine.fmodQ (by first | omega | (simp only [] at *; omega)) ?_); (try dsimp only)))
  (k_with "call builtin:issubclass" => (k_here; k_dflt ((refine' Mine.issub_hdr ?F ?X ?c ?m ?_; (case F => k_asm); (case X => k_asm); (case c => first | assumption | k_is); (case m => first | assumption | k_is)))))
  (k_with "call builtin:tuple.__getitem__" => (k_here; k_dflt ((refine' Mine.call_tupitem ?F ?X ?x ?dd ?m ?l ?h ?k ?y ?_; (case F => k_asm); (case X => k_asm); (case x => assumption); (case dd => assumption); (case m => first | assumption | k_is); (case l => first | assumption | decide); (case h => first | assumption | decide); (case k => first | assumption | rfl); (case y => first | assumption | rfl)))))
  (k_with "getMethod" => (k_here; (with_reducible show wpAny _ _ (getMethod (Value.type _) _ _) _ _ _); k_dflt ((refine' method_type ?F ?X ?t ?s ?e ?h ?_; (case F => k_asm); (case X => k_asm); (case t => first | rfl | kernel_rfl); (case s => decide +kernel); (case e => k_is); (case h => k_handed)))))
  (k_with "call builtin:tuple.__new__" => (k_here; k_dflt ((refine' Mine.call_tupnew ?F ?N ?X ?Y ?c ?m ?i ?t ?z ?_; (case F => k_asm); (case N => k_asm); (case X => k_asm); (case Y => assumption); (case c => k_is); (case m => k_is); (case i => k_is); (case t => k_mem); (case z => simp)); intro x' d' h' F' N' l1 l2; (try k_lt l1); (try k_lt2 l2); (try k_sweep))))
  (k_with "getAttr ref" => (
  k_here
  k_dflt (
  (refine' Mine.hdr_miss ?k2 ?k3 ?k4 ?gx ?gg ?gk ?gc ?ga ?gm ?hA ?hC ?hn ?hl ?hz ?cp ?_)
  (case k2 => k_asm)
  (case k3 => k_in)
  (case k4 => k_asm)
  (case gx => first | exact ⟨Or.inr (by assumption), Or.inr (by assumption)⟩ | exact ⟨Or.inl (by k_mem), Or.inl (by k_mem)⟩)
  (case gg => k_is)
  (case gk => k_is)
  (case gc => k_is)
  (case ga => k_is)
  (case gm => k_is)
  (case hA => exact rfl)
  (case hC => k_is)
  (case hn => decide +kernel)
  (case hl => decide +kernel)
  (case hz => decide +kernel)
  (case cp => decide +kernel)
  intro h9 tk9 e9 NX9)))
  (k_with "getAttr ref" => (
  k_here
  k_dflt (
  (refine' Mine.hdr_attr ?k1 ?k2 ?k3 ?k4 ?k5 ?kK ?gx ?gg ?gg2 ?gc ?gm ?ga ?gs ?gt ?gp ?gd ?gl ?gh ?gi ?gv ?go ?kd ?ku ?_)
  (case k1 => k_asm)
  (case k2 => k_asm)
  (case k3 => k_in)
  (case k4 => k_asm)
  (case k5 => k_asm)
  (case kK => first | exact rfl | assumption)
  (case gx => first | exact ⟨Or.inr (by assumption), Or.inr (by assumption)⟩ | exact ⟨Or.inl (by k_mem), Or.inl (by k_mem)⟩)
  (case gg => k_is)
  (case gg2 => k_is)
  (case gc => k_is)
  (case gm => k_is)
  (case ga => k_is)
  (case gs => k_is)
  (case gt => k_is)
  (case gp => k_is)
  (case gd => k_is)
  (case gl => decide)
  (case gh => decide)
  (case gi => rfl)
  (case gv => rfl)
  (case go => rfl)
  (case kd => ktr_room)
  (case ku => ktr_units)
  intro h9 tk9 F9 N9
  (try k_sweep))))
  (k_with "ct intx" => (
  (try dsimp only)
  (show Mine.EndsX _ _ _ _ _ _)
  refine' Mine.endsX_int ?e0 ?e1 ?e2 ?e3
  case e0 => first | assumption | exact KtsTurn.refl
  case e1 => k_asm
  case e2 => k_asm))
  (k_with "noteFrame ref" => (
  k_here
  (rename Heap.NewExcOf _ _ _ _ => nxX)
  k_dflt (
  (refine' Mine.own_N0 (T' := "AttributeError") ?hx ?F ?N ?K ?XB ?TB ?D ?T0 ?ex PyProof.Rows.Boot.«AttributeError» ?hn Mine.exc_attr Mine.notTuple_attr Mine.sub_attr ?_; (case hx => exact nxX); (case F => k_asm); (case N => k_asm); (case K => assumption); (case XB => assumption); (case TB => assumption); (case D => assumption); (case T0 => first | assumption | exact KtsTurn.refl); (case ex => k_is); (case hn => decide); k_whole)
  intro h' g' T' F' N' K' X' P' D'; (try k_lift K'); (try k_sweep))))
  refine Mine.fill ?_
  k_fill
  intro _ _
  refine' Mine.tellX_of ?ho ?hcd ?hb ?hl ?c1 ?c2 ?c3 ?c4 (by decide) ?_
  case ho => k_is
  case hcd => k_is
  case hb => (conv in (occs := *) Mine.fArgs _ => all_goals whnf); first | exact fun _ _ _ _ => BindsTo.of_eq rfl | exact fun h₀ s X k => binds_K (X.keeps k) rfl (by k_is) rfl rfl rfl
  case hl => exact locs rfl
  case c1 => exact rfl
  case c2 => exact rfl
  case c3 => exact rfl
  case c4 => decide
  intro _ _ _ _ _ _ _ _ _ _ _ _ _ _ _ _ _ _ _ _ _ _ _ _ _ _ _ _ _ _ _ _ _
  (conv in (occs := *) Mine.fBody _ => all_goals whnf)
  (conv in (occs := *) Mine.fScope _ => all_goals whnf)
  (try dsimp only)
  (try k_fold)
  refine Mine.gen_post fun Q9 hQ9 => ?_
  rename_i hfa hsm hd hu
  have hx := hfa _ (.head _)
  have hxd := hfa _ (.tail _ (.head _))
  dsimp only at hx hxd
  k_steps
  all_goals (walk_at "ct intx")
  all_goals rfl
set_option maxHeartbeats 4000000 in
theorem t_pragueX (w : World) (x d : Addr) (vs : List Value) : TellX w 12 385 [.ref x] [(x, hdrObj 246 d vs), (d, dictOf [] 0)] [] (RInt 0) := by
  refine Mine.fill ?_
  k_fill
  intro _ _
  refine' Mine.tellX_of ?ho ?hcd ?hb ?hl ?c1 ?c2 ?c3 ?c4 (by decide) ?_
  case ho => k_is
  case hcd => k_is
  case hb => (conv in (occs := *) Mine.fArgs _ => all_goals whnf); first | exact fun _ _ _ _ => BindsTo.of_eq rfl | exact fun h₀ s X k => binds_K (X.keeps k) rfl (by k_is) rfl rfl rfl
  case hl => exact locs rfl
  case c1 => exact rfl
  case c2 => exact rfl
  case c3 => exact rfl
  case c4 => decide
  intro _ _ _ _ _ _ _ _ _ _ _ _ _ _ _ _ _ _ _ _ _ _ _ _ _ _ _ _ _ _ _ _ _
  (conv in (occs := *) Mine.fBody _ => all_goals whnf)
  (conv in (occs := *) Mine.fScope _ => all_goals whnf)
  (try dsimp only)
  (try k_fold)
  refine Mine.gen_post fun Q9 hQ9 => ?_
  rename_i hfa hsm hd hu
  have hx := hfa _ (.head _)
  have hxd := hfa _ (.tail _ (.head _))
  dsimp only at hx hxd
  k_steps
  all_goals (walk_at "ct intx")
  all_goals rfl
set_option maxHeartbeats 4000000 in
theorem t_baseX (w : World) (x d : Addr) (vs : List Value) : TellX w 12 28 [.ref x] [(x, hdrObj 172 d vs), (d, dictOf [] 0)] [] (RInt 1000000000) := by
  refine Mine.fill ?_
  k_fill
  intro _ _
  refine' Mine.tellX_of ?ho ?hcd ?hb ?hl ?c1 ?c2 ?c3 ?c4 (by decide) ?_
  case ho => k_is
  case hcd => k_is
  case hb => (conv in (occs := *) Mine.fArgs _ => all_goals whnf); first | exact fun _ _ _ _ => BindsTo.of_eq rfl | exact fun h₀ s X k => binds_K (X.keeps k) rfl (by k_is) rfl rfl rfl
  case hl => exact locs rfl
  case c1 => exact rfl
  case c2 => exact rfl
  case c3 => exact rfl
  case c4 => decide
  intro _ _ _ _ _ _ _ _ _ _ _ _ _ _ _ _ _ _ _ _ _ _ _ _ _ _ _ _ _ _ _ _ _
  (conv in (occs := *) Mine.fBody _ => all_goals whnf)
  (conv in (occs := *) Mine.fScope _ => all_goals whnf)
  (try dsimp only)
  (try k_fold)
  refine Mine.gen_post fun Q9 hQ9 => ?_
  rename_i hfa hsm hd hu
  have hx := hfa _ (.head _)
  have hxd := hfa _ (.tail _ (.head _))
  dsimp only at hx hxd
  k_steps
  all_goals (walk_at "ct intx")
  all_goals rfl
set_option maxHeartbeats 4000000 in
theorem t_baseN (w : World) : Tell w 12 28 [.none] [] [] (RInt 1000000000) := by
  refine Mine.fill ?_
  k_fill
  intro _ _
  refine' Mine.tell_of ?ho ?hcd ?hb ?hl ?c1 ?c2 ?c3 ?c4 (by decide) ?_
  case ho => k_is
  case hcd => k_is
  case hb => (conv in (occs := *) Mine.fArgs _ => all_goals whnf); first | exact fun _ _ _ _ => BindsTo.of_eq rfl | exact fun h₀ s X k => binds_K (X.keeps k) rfl (by k_is) rfl rfl rfl
  case hl => exact locs rfl
  case c1 => exact rfl
  case c2 => exact rfl
  case c3 => exact rfl
  case c4 => decide
  intro _ _ _ _ _ _ _ _ _ _ _ _ _ _ _ _ _ _ _ _ _ _ _ _ _ _ _ _ _ _
  (conv in (occs := *) Mine.fBody _ => all_goals whnf)
  (conv in (occs := *) Mine.fScope _ => all_goals whnf)
  (try dsimp only)
  (try k_fold)
  refine Mine.gen_post fun Q9 hQ9 => ?_
  rename_i hfa hsm hd hu
  k_steps
  all_goals (walk_at "ct int")
  all_goals rfl
set_option maxHeartbeats 8000000 in
theorem t_base (w : World) (x d : Addr) (limit used fee : Int) (t1 t2 t3 : Tok) (hl : 5120 ≤ limit) (hl2 : limit < 2 ^ 63) (hu0 : 0 ≤ used) (hul : used ≤ limit) (hf : 0 ≤ fee)
   : Tell w 12 28 [.ref x] [(x, hdrObj 246 d [.int limit t1, .int used t2, .int fee t3]), (d, dictOf [] 0)] [] (RInt (feeV limit used fee)) := by
  k_with_none
  (k_with "ite" => first | with_reducible refine Mine.pite_ff ?_ | with_reducible refine Mine.pite_tt ?_ | with_reducible refine Mine.pite_nt ?_ | with_reducible refine Mine.pite_nf ?_ | with_reducible refine Mine.pite_t ?_ | with_reducible refine Mine.pite_f ?_)
  (k_with "execs cons" => first | (k_here; k_gentoks) | ((with_reducible refine Mine.execs_gen ?_); intro Q9 hQ9))
  (k_with "execs cons" => ((with_reducible show wpAny _ _ (execs _ _) (UnrPost _ _ _ _ _ _ _) _ _); (refine Mine.gen_post ?_); intro Q9 hQ9))
  (k_with "execs cons" => ((with_reducible show wpAny _ _ (execs _ _) (UnrPostW _ _ _ _ _ _) _ _); (refine Mine.gen_post ?_); intro Q9 hQ9))
  (k_with "eval Name" => (k_here; (with_reducible show wpAny _ _ (eval (Expr.Name _ _) (envOf _ _ _ _ _)) _ _ _); name_kind "globalImplicit"; name_is_builtin; (with_reducible rename Fr _ _ _ _ => kF); k_dflt (refine' Mine.nameB ?c1 ?c2 ?c3 kF ?k1 ?k2 ?k3 ?k4 ?k5 ?_; (case c1 => kernel_rfl); (case c2 => kernel_rfl); (case c3 => kernel_rfl); (case k1 => k_asm); (case k2 => k_asm); (case k3 => k_is); (case k4 => boot_by_name); (case k5 => decide); k_whole)))
  (k_with "eval Name" => (k_here; (with_reducible show wpAny _ _ (eval (Expr.Name _ _) (envOf _ _ _ _ _)) _ _ _); name_kind "globalImplicit"; (with_reducible rename Fr _ _ _ _ => kF); k_dflt (refine' Mine.nameK ?c1 ?c2 ?c3 kF ?k1 ?k2 ?k3 ?_; (case c1 => kernel_rfl); (case c2 => kernel_rfl); (case c3 => kernel_rfl); (case k1 => k_asm); (case k2 => k_asm); (case k3 => k_is); k_whole)))
  (k_with "eval Name" => (k_here; (with_reducible show wpAny _ _ (eval (Expr.Name _ _) (envOf _ _ _ _ _)) _ _ _); name_kind "local"; k_dflt (refine' Mine.nameL ?c1 ?c2 ?c3 ?k1 ?k2 ?_; (case c1 => kernel_rfl); (case c2 => kernel_rfl); (case c3 => kernel_rfl); (case k1 => k_asm); (case k2 => exact rfl); k_whole)))
  (k_with "callWith ref" => (k_here; k_dflt (first
  | (refine' callWith_K ?k1 ?k2 ?_; (case k1 => k_asm); (case k2 => k_is); k_whole)
  | (refine' callWith_KW ?k1 ?k2 ?k3 ?_; (case k1 => k_asm); (case k2 => k_is); (case k3 => exact rfl); k_whole))))
  (k_with "ct int" => (
  (try dsimp only)
  refine' Mine.ends_int ?e1 ?e2 ?_
  case e1 => k_asm
  case e2 => k_asm))
  (k_with "ct with" => (
  (case k1 => k_asm)
  (case k2 => k_asm)
  (case k3 => k_in)
  (case k4 => k_asm)
  (case k5 => k_asm)
  (case kK => first | exact rfl | assumption)
  (case kf => first | exact fun _ h => (nomatch h) | walk_at "ct facts")
  (case kd => ktr_room)
  (case ku => ktr_units)))
  (k_with "ct mul" => first | omega | (split <;> omega) | (simp only [] at *; omega) | (constructor <;> omega))
  (k_with "binaryOp Mult int int" => ((first
  | (refine mul_int ?_ (PySem.IntMulOk.of_right (PySem.intBits_le_64 (by walk_at "ct mul") (by walk_at "ct mul"))))
  | (refine mul_int ?_ (PySem.IntMulOk.of_left (PySem.intBits_le_64 (by walk_at "ct mul") (by walk_at "ct mul"))))); (try dsimp only)))
  (k_with "binaryOp FloorDiv int int" => ((with_reducible refine Mine.fdivQ (by first | omega | (simp only [] at *; omega)) (by first | omega | (simp only [] at *; omega)) ?_); (try dsimp only)))
  (k_with "binaryOp Mod int int" => ((with_reducible refine Mine.fmodQ (by first | omega | (simp only [] at *; omega)) ?_); (try dsimp only)))
  (k_with "call builtin:issubclass" => (k_here; k_dflt ((refine' Mine.issub_hdr ?F ?X ?c ?m ?_; (case F => k_asm); (case X => k_asm); (case c => first | assumption | k_is); (case m => first | assumption | k_is)))))
  (k_with "call builtin:tuple.__getitem__" => (k_here; k_dflt ((refine' Mine.call_tupitem ?F ?X ?x ?dd ?m ?l ?h ?k ?y ?_; (case F => k_asm); (case X => k_asm); (case x => assumption); (case dd => assumption); (case m => first | assumption | k_is); (case l => first | assumption | decide); (case h => first | assumption | decide); (case k => first | assumption | rfl); (case y => first | assumption | rfl)))))
  (k_with "getMethod" => (k_here; (with_reducible show wpAny _ _ (getMethod (Value.type _) _ _) _ _ _); k_dflt ((refine' method_type ?F ?X ?t ?s ?e ?h ?_; (case F => k_asm); (case X => k_asm); (case t => first | rfl | kernel_rfl); (case s => decide +kernel); (case e => k_is); (case h => k_handed)))))
  (k_with "call builtin:tuple.__new__" => (k_here; k_dflt ((refine' Mine.call_tupnew ?F ?N ?X ?Y ?c ?m ?i ?t ?z ?_; (case F => k_asm); (case N => k_asm); (case X => k_asm); (case Y => assumption); (case c => k_is); (case m => k_is); (case i => k_is); (case t => k_mem); (case z => simp)); intro x' d' h' F' N' l1 l2; (try k_lt l1); (try k_lt2 l2); (try k_sweep))))
  (k_with "getAttr ref" => (
  k_here
  k_dflt (
  (refine' Mine.hdr_miss ?k2 ?k3 ?k4 ?gx ?gg ?gk ?gc ?ga ?gm ?hA ?hC ?hn ?hl ?hz ?cp ?_)
  (case k2 => k_asm)
  (case k3 => k_in)
  (case k4 => k_asm)
  (case gx => first | exact ⟨Or.inr (by assumption), Or.inr (by assumption)⟩ | exact ⟨Or.inl (by k_mem), Or.inl (by k_mem)⟩)
  (case gg => k_is)
  (case gk => k_is)
  (case gc => k_is)
  (case ga => k_is)
  (case gm => k_is)
  (case hA => exact rfl)
  (case hC => k_is)
  (case hn => decide +kernel)
  (case hl => decide +kernel)
  (case hz => decide +kernel)
  (case cp => decide +kernel)
  intro h9 tk9 e9 NX9)))
  (k_with "getAttr ref" => (
  k_here
  k_dflt (
  (refine' Mine.hdr_attr ?k1 ?k2 ?k3 ?k4 ?k5 ?kK ?gx ?gg ?gg2 ?gc ?gm ?ga ?gs ?gt ?gp ?gd ?gl ?gh ?gi ?gv ?go ?kd ?ku ?_)
  (case k1 => k_asm)
  (case k2 => k_asm)
  (case k3 => k_in)
  (case k4 => k_asm)
  (case k5 => k_asm)
  (case kK => first | exact rfl | assumption)
  (case gx => first | exact ⟨Or.inr (by assumption), Or.inr (by assumption)⟩ | exact ⟨Or.inl (by k_mem), Or.inl (by k_mem)⟩)
  (case gg => k_is)
  (case gg2 => k_is)
  (case gc => k_is)
  (case gm => k_is)
  (case ga => k_is)
  (case gs => k_is)
  (case gt => k_is)
  (case gp => k_is)
  (case gd => k_is)
  (case gl => decide)
  (case gh => decide)
  (case gi => rfl)
  (case gv => rfl)
  (case go => rfl)
  (case kd => ktr_room)
  (case ku => ktr_units)
  intro h9 tk9 F9 N9
  (try k_sweep))))
  (k_with "ct intx" => (
  (try dsimp only)
  (show Mine.EndsX _ _ _ _ _ _)
  refine' Mine.endsX_int ?e0 ?e1 ?e2 ?e3
  case e0 => first | assumption | exact KtsTurn.refl
  case e1 => k_asm
  case e2 => k_asm))
  (k_with "noteFrame ref" => (
  k_here
  (rename Heap.NewExcOf _ _ _ _ => nxX)
  k_dflt (
  (refine' Mine.own_N0 (T' := "AttributeError") ?hx ?F ?N ?K ?XB ?TB ?D ?T0 ?ex PyProof.Rows.Boot.«AttributeError» ?hn Mine.exc_attr Mine.notTuple_attr Mine.sub_attr ?_; (case hx => exact nxX); (case F => k_asm); (case N => k_asm); (case K => assumption); (case XB => assumption); (case TB => assumption); (case D => assumption); (case T0 => first | assumption | exact KtsTurn.refl); (case ex => k_is); (case hn => decide); k_whole)
  intro h' g' T' F' N' K' X' P' D'; (try k_lift K'); (try k_sweep))))
  have hhalf : 0 < Int.fdiv limit 2 := by rw [Int.fdiv_eq_ediv_of_nonneg _ (by omega)]; omega
  have hhalf2 : Int.fdiv limit 2 < 2 ^ 100 := by rw [Int.fdiv_eq_ediv_of_nonneg _ (by omega)]; omega
  obtain ⟨h9, h10⟩ : -2 ^ 64 < used - Int.fdiv limit 2 ∧ used - Int.fdiv limit 2 < 2 ^ 64 := by rw [Int.fdiv_eq_ediv_of_nonneg _ (by omega)]; omega
  refine Mine.fill ?_
  k_fill
  intro _ _
  refine' Mine.tell_of ?ho ?hcd ?hb ?hl ?c1 ?c2 ?c3 ?c4 (by decide) ?_
  case ho => k_is
  case hcd => k_is
  case hb => (conv in (occs := *) Mine.fArgs _ => all_goals whnf); first | exact fun _ _ _ _ => BindsTo.of_eq rfl | exact fun h₀ s X k => binds_K (X.keeps k) rfl (by k_is) rfl rfl rfl
  case hl => exact locs rfl
  case c1 => exact rfl
  case c2 => exact rfl
  case c3 => exact rfl
  case c4 => decide
  intro _ _ _ _ _ _ _ _ _ _ _ _ _ _ _ _ _ _ _ _ _ _ _ _ _ _ _ _ _ _
  (conv in (occs := *) Mine.fBody _ => all_goals whnf)
  (conv in (occs := *) Mine.fScope _ => all_goals whnf)
  (try dsimp only)
  (try k_fold)
  refine Mine.gen_post fun Q9 hQ9 => ?_
  rename_i hfa hsm hd hu
  have hx := hfa _ (.head _)
  have hxd := hfa _ (.tail _ (.head _))
  dsimp only at hx hxd
  k_steps
  all_goals (walk_at "ct int")
  all_goals (first | exact Mine.fee1 (by assumption) | exact Mine.fee2 hhalf (by assumption) (by assumption) | exact Mine.fee3 hf hu0 hhalf (by assumption) (by assumption))
noncomputable abbrev tupOf (vs : List Value) : Obj := { cls := Value.type "tuple", data := Data.seq vs.toArray }
noncomputable abbrev RTup2 (x y : Int) : Nws → Value → Prop := fun new r => ∃ a t u, r = .ref a ∧ new = [(a, tupOf [.int x t, .int y u])]
theorem ends_tup2 {g : Heap} {s : Shared} {L' a : Addr} {h : Heap} {m' : Str → Option Value} {new : Nws} {x y x' y' : Int} {t u : Tok} {tk : Nat}
    (F : Fr g L' h m') (N : News g L' h new) (hm : (a, tupOf [.int x' t, .int y' u]) ∈ new) (e : x' = x) (e' : y' = y) : Ends g s (RTup2 x y) (.ref a) { s with heap := h, toks := tk } :=
  ⟨L', m', new, h, tk, rfl, F, N, [(a, tupOf [.int x' t, .int y' u])], fun q hq => by (rw [List.mem_singleton.mp hq]; exact hm), a, t, u, rfl, by rw [e, e']⟩
theorem bd1 (limit : Int) : (if limit - limit.fdiv 1024 + 1 > 5000 then limit - limit.fdiv 1024 + 1 else 5000) = mx 5000 (limit - limit.fdiv 1024 + 1) := rfl
theorem bd2 (limit : Int) : (if limit + limit.fdiv 1024 - 1 < 9223372036854775807 then limit + limit.fdiv 1024 - 1 else 9223372036854775807) = mn 9223372036854775807 (limit + limit.fdiv 1024 - 1) := rfl
set_option maxHeartbeats 8000000 in
theorem t_bounds (w : World) (limit : Int) (t1 : Tok) : Tell w 12 327 [.int limit t1] [] [] (RTup2 (mx 5000 (limit - limit.fdiv 1024 + 1)) (mn 9223372036854775807 (limit + limit.fdiv 1024 - 1))) := by
  k_with_none
  (k_with "ite" => first | with_reducible refine Mine.pite_ff ?_ | with_reducible refine Mine.pite_tt ?_ | with_reducible refine Mine.pite_nt ?_ | with_reducible refine Mine.pite_nf ?_ | with_reducible refine Mine.pite_t ?_ | with_reducible refine Mine.pite_f ?_)
  (k_with "execs cons" => first | (k_here; k_gentoks) | ((with_reducible refine Mine.execs_gen ?_); intro Q9 hQ9))
  (k_with "execs cons" => ((with_reducible show wpAny _ _ (execs _ _) (UnrPost _ _ _ _ _ _ _) _ _); (refine Mine.gen_post ?_); intro Q9 hQ9))
  (k_with "execs cons" => ((with_reducible show wpAny _ _ (execs _ _) (UnrPostW _ _ _ _ _ _) _ _); (refine Mine.gen_post ?_); intro Q9 hQ9))
  (k_with "eval Name" => (k_here; (with_reducible show wpAny _ _ (eval (Expr.Name _ _) (envOf _ _ _ _ _)) _ _ _); name_kind "globalImplicit"; name_is_builtin; (with_reducible rename Fr _ _ _ _ => kF); k_dflt (refine' Mine.nameB ?c1 ?c2 ?c3 kF ?k1 ?k2 ?k3 ?k4 ?k5 ?_; (case c1 => kernel_rfl); (case c2 => kernel_rfl); (case c3 => kernel_rfl); (case k1 => k_asm); (case k2 => k_asm); (case k3 => k_is); (case k4 => boot_by_name); (case k5 => decide); k_whole)))
  (k_with "eval Name" => (k_here; (with_reducible show wpAny _ _ (eval (Expr.Name _ _) (envOf _ _ _ _ _)) _ _ _); name_kind "globalImplicit"; (with_reducible rename Fr _ _ _ _ => kF); k_dflt (refine' Mine.nameK ?c1 ?c2 ?c3 kF ?k1 ?k2 ?k3 ?_; (case c1 => kernel_rfl); (case c2 => kernel_rfl); (case c3 => kernel_rfl); (case k1 => k_asm); (case k2 => k_asm); (case k3 => k_is); k_whole)))
  (k_with "eval Name" => (k_here; (with_reducible show wpAny _ _ (eval (Expr.Name _ _) (envOf _ _ _ _ _)) _ _ _); name_kind "local"; k_dflt (refine' Mine.nameL ?c1 ?c2 ?c3 ?k1 ?k2 ?_; (case c1 => kernel_rfl); (case c2 => kernel_rfl); (case c3 => kernel_rfl); (case k1 => k_asm); (case k2 => exact rfl); k_whole)))
  (k_with "callWith ref" => (k_here; k_dflt (first
  | (refine' callWith_K ?k1 ?k2 ?_; (case k1 => k_asm); (case k2 => k_is); k_whole)
  | (refine' callWith_KW ?k1 ?k2 ?k3 ?_; (case k1 => k_asm); (case k2 => k_is); (case k3 => exact rfl); k_whole))))
  (k_with "ct int" => (
  (try dsimp only)
  refine' Mine.ends_int ?e1 ?e2 ?_
  case e1 => k_asm
  case e2 => k_asm))
  (k_with "ct with" => (
  (case k1 => k_asm)
  (case k2 => k_asm)
  (case k3 => k_in)
  (case k4 => k_asm)
  (case k5 => k_asm)
  (case kK => first | exact rfl | assumption)
  (case kf => first | exact fun _ h => (nomatch h) | walk_at "ct facts")
  (case kd => ktr_room)
  (case ku => ktr_units)))
  (k_with "ct mul" => first | omega | (split <;> omega) | (simp only [] at *; omega) | (constructor <;> omega))
  (k_with "binaryOp Mult int int" => ((first
  | (refine mul_int ?_ (PySem.IntMulOk.of_right (PySem.intBits_le_64 (by walk_at "ct mul") (by walk_at "ct mul"))))
  | (refine mul_int ?_ (PySem.IntMulOk.of_left (PySem.intBits_le_64 (by walk_at "ct mul") (by walk_at "ct mul"))))); (try dsimp only)))
  (k_with "binaryOp FloorDiv int int" => ((with_reducible refine Mine.fdivQ (by first | omega | (simp only [] at *; omega)) (by first | omega | (simp only [] at *; omega)) ?_); (try dsimp only)))
  (k_with "binaryOp Mod int int" => ((with_reducible refine Mine.fmodQ (by first | omega | (simp only [] at *; omega)) ?_); (try dsimp only)))
  (k_with "call builtin:issubclass" => (k_here; k_dflt ((refine' Mine.issub_hdr ?F ?X ?c ?m ?_; (case F => k_asm); (case X => k_asm); (case c => first | assumption | k_is); (case m => first | assumption | k_is)))))
  (k_with "call builtin:tuple.__getitem__" => (k_here; k_dflt ((refine' Mine.call_tupitem ?F ?X ?x ?dd ?m ?l ?h ?k ?y ?_; (case F => k_asm); (case X => k_asm); (case x => assumption); (case dd => assumption); (case m => first | assumption | k_is); (case l => first | assumption | decide); (case h => first | assumption | decide); (case k => first | assumption | rfl); (case y => first | assumption | rfl)))))
  (k_with "getMethod" => (k_here; (with_reducible show wpAny _ _ (getMethod (Value.type _) _ _) _ _ _); k_dflt ((refine' method_type ?F ?X ?t ?s ?e ?h ?_; (case F => k_asm); (case X => k_asm); (case t => first | rfl | kernel_rfl); (case s => decide +kernel); (case e => k_is); (case h => k_handed)))))
  (k_with "call builtin:tuple.__new__" => (k_here; k_dflt ((refine' Mine.call_tupnew ?F ?N ?X ?Y ?c ?m ?i ?t ?z ?_; (case F => k_asm); (case N => k_asm); (case X => k_asm); (case Y => assumption); (case c => k_is); (case m => k_is); (case i => k_is); (case t => k_mem); (case z => simp)); intro x' d' h' F' N' l1 l2; (try k_lt l1); (try k_lt2 l2); (try k_sweep))))
  (k_with "getAttr ref" => (
  k_here
  k_dflt (
  (refine' Mine.hdr_miss ?k2 ?k3 ?k4 ?gx ?gg ?gk ?gc ?ga ?gm ?hA ?hC ?hn ?hl ?hz ?cp ?_)
  (case k2 => k_asm)
  (case k3 => k_in)
  (case k4 => k_asm)
  (case gx => first | exact ⟨Or.inr (by assumption), Or.inr (by assumption)⟩ | exact ⟨Or.inl (by k_mem), Or.inl (by k_mem)⟩)
  (case gg => k_is)
  (case gk => k_is)
  (case gc => k_is)
  (case ga => k_is)
  (case gm => k_is)
  (case hA => exact rfl)
  (case hC => k_is)
  (case hn => decide +kernel)
  (case hl => decide +kernel)
  (case hz => decide +kernel)
  (case cp => decide +kernel)
  intro h9 tk9 e9 NX9)))
  (k_with "getAttr ref" => (
  k_here
  k_dflt (
  (refine' Mine.hdr_attr ?k1 ?k2 ?k3 ?k4 ?k5 ?kK ?gx ?gg ?gg2 ?gc ?gm ?ga ?gs ?gt ?gp ?gd ?gl ?gh ?gi ?gv ?go ?kd ?ku ?_)
  (case k1 => k_asm)
  (case k2 => k_asm)
  (case k3 => k_in)
  (case k4 => k_asm)
  (case k5 => k_asm)
  (case kK => first | exact rfl | assumption)
  (case gx => first | exact ⟨Or.inr (by assumption), Or.inr (by assumption)⟩ | exact ⟨Or.inl (by k_mem), Or.inl (by k_mem)⟩)
  (case gg => k_is)
  (case gg2 => k_is)
  (case gc => k_is)
  (case gm => k_is)
  (case ga => k_is)
  (case gs => k_is)
  (case gt => k_is)
  (case gp => k_is)
  (case gd => k_is)
  (case gl => decide)
  (case gh => decide)
  (case gi => rfl)
  (case gv => rfl)
  (case go => rfl)
  (case kd => ktr_room)
  (case ku => ktr_units)
  intro h9 tk9 F9 N9
  (try k_sweep))))
  (k_with "ct intx" => (
  (try dsimp only)
  (show Mine.EndsX _ _ _ _ _ _)
  refine' Mine.endsX_int ?e0 ?e1 ?e2 ?e3
  case e0 => first | assumption | exact KtsTurn.refl
  case e1 => k_asm
  case e2 => k_asm))
  (k_with "noteFrame ref" => (
  k_here
  (rename Heap.NewExcOf _ _ _ _ => nxX)
  k_dflt (
  (refine' Mine.own_N0 (T' := "AttributeError") ?hx ?F ?N ?K ?XB ?TB ?D ?T0 ?ex PyProof.Rows.Boot.«AttributeError» ?hn Mine.exc_attr Mine.notTuple_attr Mine.sub_attr ?_; (case hx => exact nxX); (case F => k_asm); (case N => k_asm); (case K => assumption); (case XB => assumption); (case TB => assumption); (case D => assumption); (case T0 => first | assumption | exact KtsTurn.refl); (case ex => k_is); (case hn => decide); k_whole)
  intro h' g' T' F' N' K' X' P' D'; (try k_lift K'); (try k_sweep))))
  refine Mine.fill ?_
  k_fill
  intro _ _
  refine' Mine.tell_of ?ho ?hcd ?hb ?hl ?c1 ?c2 ?c3 ?c4 (by decide) ?_
  case ho => k_is
  case hcd => k_is
  case hb => (conv in (occs := *) Mine.fArgs _ => all_goals whnf); first | exact fun _ _ _ _ => BindsTo.of_eq rfl | exact fun h₀ s X k => binds_K (X.keeps k) rfl (by k_is) rfl rfl rfl
  case hl => exact locs rfl
  case c1 => exact rfl
  case c2 => exact rfl
  case c3 => exact rfl
  case c4 => decide
  intro _ _ _ _ _ _ _ _ _ _ _ _ _ _ _ _ _ _ _ _ _ _ _ _ _ _ _ _ _ _
  (conv in (occs := *) Mine.fBody _ => all_goals whnf)
  (conv in (occs := *) Mine.fScope _ => all_goals whnf)
  (try dsimp only)
  (try k_fold)
  refine Mine.gen_post fun Q9 hQ9 => ?_
  k_steps
  all_goals (try dsimp only)
  all_goals (show Mine.Ends _ _ _ _ _)
  all_goals exact Mine.ends_tup2 (by k_asm) (by k_asm) (.head _) rfl rfl
set_option maxHeartbeats 8000000 in
theorem t_glN (w : World) (least : Int) (t2 : Tok) (h5 : 5000 ≤ least) : Tell w 12 334 [.none, .int least t2] [] [] (RInt least) := by
  refine Mine.fill ?_
  k_fill
  intro _ _
  refine' Mine.tell_of ?ho ?hcd ?hb ?hl ?c1 ?c2 ?c3 ?c4 (by decide) ?_
  case ho => k_is
  case hcd => k_is
  case hb => (conv in (occs := *) Mine.fArgs _ => all_goals whnf); first | exact fun _ _ _ _ => BindsTo.of_eq rfl | exact fun h₀ s X k => binds_K (X.keeps k) rfl (by k_is) rfl rfl rfl
  case hl => exact locs rfl
  case c1 => exact rfl
  case c2 => exact rfl
  case c3 => exact rfl
  case c4 => decide
  intro _ _ _ _ _ _ _ _ _ _ _ _ _ _ _ _ _ _ _ _ _ _ _ _ _ _ _ _ _ _
  (conv in (occs := *) Mine.fBody _ => all_goals whnf)
  (conv in (occs := *) Mine.fScope _ => all_goals whnf)
  (try dsimp only)
  (try k_fold)
  refine Mine.gen_post fun Q9 hQ9 => ?_
  k_steps
  all_goals (walk_at "ct int")
  all_goals rfl
set_option maxHeartbeats 8000000 in
theorem t_gl (w : World) (x d : Addr) (limit used fee least : Int) (t1 t2 t3 t4 : Tok) (hu0 : 0 ≤ used) (hul : used < 2 ^ 63) (h5 : 5000 ≤ least)
   : Tell w 12 334 [.ref x, .int least t4] [(x, hdrObj 246 d [.int limit t1, .int used t2, .int fee t3]), (d, dictOf [] 0)] [] (RInt (limitV limit used least)) := by
  refine Mine.fill ?_
  k_fill
  intro _ _
  refine' Mine.tell_of ?ho ?hcd ?hb ?hl ?c1 ?c2 ?c3 ?c4 (by decide) ?_
  case ho => k_is
  case hcd => k_is
  case hb => (conv in (occs := *) Mine.fArgs _ => all_goals whnf); first | exact fun _ _ _ _ => BindsTo.of_eq rfl | exact fun h₀ s X k => binds_K (X.keeps k) rfl (by k_is) rfl rfl rfl
  case hl => exact locs rfl
  case c1 => exact rfl
  case c2 => exact rfl
  case c3 => exact rfl
  case c4 => decide
  intro _ _ _ _ _ _ _ _ _ _ _ _ _ _ _ _ _ _ _ _ _ _ _ _ _ _ _ _ _ _
  (conv in (occs := *) Mine.fBody _ => all_goals whnf)
  (conv in (occs := *) Mine.fScope _ => all_goals whnf)
  (try dsimp only)
  (try k_fold)
  refine Mine.gen_post fun Q9 hQ9 => ?_
  rename_i hfa hsm hd hu
  have hx := hfa _ (.head _)
  have hxd := hfa _ (.tail _ (.head _))
  dsimp only at hx hxd
  k_steps
  all_goals (walk_at "ct int")
  all_goals (first | exact Mine.gl1 (by assumption) | exact Mine.gl2 (by assumption) | exact Mine.gl3 (by assumption) (by assumption) | exact Mine.gl4 (by assumption) (by assumption))
set_option maxHeartbeats 1000000 in
theorem t_glR (w : World) (r : Value) (least : Int) (t4 : Tok) (h5 : least < 5000) (h6 : 0 ≤ least)
   : TellR w 12 334 [r, .int least t4] [] [] (.type "ValueError") := by
  k_with_none
  (k_with "ite" => first | with_reducible refine Mine.pite_ff ?_ | with_reducible refine Mine.pite_tt ?_ | with_reducible refine Mine.pite_nt ?_ | with_reducible refine Mine.pite_nf ?_ | with_reducible refine Mine.pite_t ?_ | with_reducible refine Mine.pite_f ?_)
  (k_with "execs cons" => first | (k_here; k_gentoks) | ((with_reducible refine Mine.execs_gen ?_); intro Q9 hQ9))
  (k_with "execs cons" => ((with_reducible show wpAny _ _ (execs _ _) (UnrPost _ _ _ _ _ _ _) _ _); (refine Mine.gen_post ?_); intro Q9 hQ9))
  (k_with "execs cons" => ((with_reducible show wpAny _ _ (execs _ _) (UnrPostW _ _ _ _ _ _) _ _); (refine Mine.gen_post ?_); intro Q9 hQ9))
  (k_with "eval Name" => (k_here; (with_reducible show wpAny _ _ (eval (Expr.Name _ _) (envOf _ _ _ _ _)) _ _ _); name_kind "globalImplicit"; name_is_builtin; (with_reducible rename Fr _ _ _ _ => kF); k_dflt (refine' Mine.nameB ?c1 ?c2 ?c3 kF ?k1 ?k2 ?k3 ?k4 ?k5 ?_; (case c1 => kernel_rfl); (case c2 => kernel_rfl); (case c3 => kernel_rfl); (case k1 => k_asm); (case k2 => k_asm); (case k3 => k_is); (case k4 => boot_by_name); (case k5 => decide); k_whole)))
  (k_with "eval Name" => (k_here; (with_reducible show wpAny _ _ (eval (Expr.Name _ _) (envOf _ _ _ _ _)) _ _ _); name_kind "globalImplicit"; (with_reducible rename Fr _ _ _ _ => kF); k_dflt (refine' Mine.nameK ?c1 ?c2 ?c3 kF ?k1 ?k2 ?k3 ?_; (case c1 => kernel_rfl); (case c2 => kernel_rfl); (case c3 => kernel_rfl); (case k1 => k_asm); (case k2 => k_asm); (case k3 => k_is); k_whole)))
  (k_with "eval Name" => (k_here; (with_reducible show wpAny _ _ (eval (Expr.Name _ _) (envOf _ _ _ _ _)) _ _ _); name_kind "local"; k_dflt (refine' Mine.nameL ?c1 ?c2 ?c3 ?k1 ?k2 ?_; (case c1 => kernel_rfl); (case c2 => kernel_rfl); (case c3 => kernel_rfl); (case k1 => k_asm); (case k2 => exact rfl); k_whole)))
  (k_with "callWith ref" => (k_here; k_dflt (first
  | (refine' callWith_K ?k1 ?k2 ?_; (case k1 => k_asm); (case k2 => k_is); k_whole)
  | (refine' callWith_KW ?k1 ?k2 ?k3 ?_; (case k1 => k_asm); (case k2 => k_is); (case k3 => exact rfl); k_whole))))
  (k_with "ct int" => (
  (try dsimp only)
  refine' Mine.ends_int ?e1 ?e2 ?_
  case e1 => k_asm
  case e2 => k_asm))
  (k_with "ct with" => (
  (case k1 => k_asm)
  (case k2 => k_asm)
  (case k3 => k_in)
  (case k4 => k_asm)
  (case k5 => k_asm)
  (case kK => first | exact rfl | assumption)
  (case kf => first | exact fun _ h => (nomatch h) | walk_at "ct facts")
  (case kd => ktr_room)
  (case ku => ktr_units)))
  (k_with "ct mul" => first | omega | (split <;> omega) | (simp only [] at *; omega) | (constructor <;> omega))
  (k_with "binaryOp Mult int int" => ((first
  | (refine mul_int ?_ (PySem.IntMulOk.of_right (PySem.intBits_le_64 (by walk_at "ct mul") (by walk_at "ct mul"))))
  | (refine mul_int ?_ (PySem.IntMulOk.of_left (PySem.intBits_le_64 (by walk_at "ct mul") (by walk_at "ct mul"))))); (try dsimp only)))
  (k_with "binaryOp FloorDiv int int" => ((with_reducible refine Mine.fdivQ (by first | omega | (simp only [] at *; omega)) (by first | omega | (simp only [] at *; omega)) ?_); (try dsimp only)))
  (k_with "binaryOp Mod int int" => ((with_reducible refine Mine.fmodQ (by first | omega | (simp only [] at *; omega)) ?_); (try dsimp only)))
  (k_with "call builtin:issubclass" => (k_here; k_dflt ((refine' Mine.issub_hdr ?F ?X ?c ?m ?_; (case F => k_asm); (case X => k_asm); (case c => first | assumption | k_is); (case m => first | assumption | k_is)))))
  (k_with "call builtin:tuple.__getitem__" => (k_here; k_dflt ((refine' Mine.call_tupitem ?F ?X ?x ?dd ?m ?l ?h ?k ?y ?_; (case F => k_asm); (case X => k_asm); (case x => assumption); (case dd => assumption); (case m => first | assumption | k_is); (case l => first | assumption | decide); (case h => first | assumption | decide); (case k => first | assumption | rfl); (case y => first | assumption | rfl)))))
  (k_with "getMethod" => (k_here; (with_reducible show wpAny _ _ (getMethod (Value.type _) _ _) _ _ _); k_dflt ((refine' method_type ?F ?X ?t ?s ?e ?h ?_; (case F => k_asm); (case X => k_asm); (case t => first | rfl | kernel_rfl); (case s => decide +kernel); (case e => k_is); (case h => k_handed)))))
  (k_with "call builtin:tuple.__new__" => (k_here; k_dflt ((refine' Mine.call_tupnew ?F ?N ?X ?Y ?c ?m ?i ?t ?z ?_; (case F => k_asm); (case N => k_asm); (case X => k_asm); (case Y => assumption); (case c => k_is); (case m => k_is); (case i => k_is); (case t => k_mem); (case z => simp)); intro x' d' h' F' N' l1 l2; (try k_lt l1); (try k_lt2 l2); (try k_sweep))))
  (k_with "getAttr ref" => (
  k_here
  k_dflt (
  (refine' Mine.hdr_miss ?k2 ?k3 ?k4 ?gx ?gg ?gk ?gc ?ga ?gm ?hA ?hC ?hn ?hl ?hz ?cp ?_)
  (case k2 => k_asm)
  (case k3 => k_in)
  (case k4 => k_asm)
  (case gx => first | exact ⟨Or.inr (by assumption), Or.inr (by assumption)⟩ | exact ⟨Or.inl (by k_mem), Or.inl (by k_mem)⟩)
  (case gg => k_is)
  (case gk => k_is)
  (case gc => k_is)
  (case ga => k_is)
  (case gm => k_is)
  (case hA => exact rfl)
  (case hC => k_is)
  (case hn => decide +kernel)
  (case hl => decide +kernel)
  (case hz => decide +kernel)
  (case cp => decide +kernel)
  intro h9 tk9 e9 NX9)))
  (k_with "getAttr ref" => (
  k_here
  k_dflt (
  (refine' Mine.hdr_attr ?k1 ?k2 ?k3 ?k4 ?k5 ?kK ?gx ?gg ?gg2 ?gc ?gm ?ga ?gs ?gt ?gp ?gd ?gl ?gh ?gi ?gv ?go ?kd ?ku ?_)
  (case k1 => k_asm)
  (case k2 => k_asm)
  (case k3 => k_in)
  (case k4 => k_asm)
  (case k5 => k_asm)
  (case kK => first | exact rfl | assumption)
  (case gx => first | exact ⟨Or.inr (by assumption), Or.inr (by assumption)⟩ | exact ⟨Or.inl (by k_mem), Or.inl (by k_mem)⟩)
  (case gg => k_is)
  (case gg2 => k_is)
  (case gc => k_is)
  (case gm => k_is)
  (case ga => k_is)
  (case gs => k_is)
  (case gt => k_is)
  (case gp => k_is)
  (case gd => k_is)
  (case gl => decide)
  (case gh => decide)
  (case gi => rfl)
  (case gv => rfl)
  (case go => rfl)
  (case kd => ktr_room)
  (case ku => ktr_units)
  intro h9 tk9 F9 N9
  (try k_sweep))))
  (k_with "ct intx" => (
  (try dsimp only)
  (show Mine.EndsX _ _ _ _ _ _)
  refine' Mine.endsX_int ?e0 ?e1 ?e2 ?e3
  case e0 => first | assumption | exact KtsTurn.refl
  case e1 => k_asm
  case e2 => k_asm))
  (k_with "noteFrame ref" => (
  k_here
  (rename Heap.NewExcOf _ _ _ _ => nxX)
  k_dflt (
  (refine' Mine.own_N0 (T' := "AttributeError") ?hx ?F ?N ?K ?XB ?TB ?D ?T0 ?ex PyProof.Rows.Boot.«AttributeError» ?hn Mine.exc_attr Mine.notTuple_attr Mine.sub_attr ?_; (case hx => exact nxX); (case F => k_asm); (case N => k_asm); (case K => assumption); (case XB => assumption); (case TB => assumption); (case D => assumption); (case T0 => first | assumption | exact KtsTurn.refl); (case ex => k_is); (case hn => decide); k_whole)
  intro h' g' T' F' N' K' X' P' D'; (try k_lift K'); (try k_sweep))))
  (k_with "And" => (
  (with_reducible show PySem.Str.length _ ≤ sizeLine ∧ _)
  (with_reducible refine' Mine.fits_z ?fa ?fb ?_)
  (case fa => repeat' (first | (with_reducible refine' Mine.fits_add' ?_ ?_) | ((show _ ≤ 1000); (first | assumption | decide +kernel | (with_reducible exact Mine.len_int' (by omega) (by omega))))))
  (case fb => decide +kernel)))
  (k_with "joinParts" => (
  (with_reducible show wpAny _ _ (joinParts _ (evalEach [] _)) _ _ _)
  (with_reducible refine' Mine.joinNil ?fa ?fb ?_)
  (case fa => repeat' (first | (with_reducible refine' Mine.fits_add' ?_ ?_) | ((show _ ≤ 1000); (first | assumption | decide +kernel | (with_reducible exact Mine.len_int' (by omega) (by omega))))))
  (case fb => decide +kernel)))
  (k_with "ct steps" => repeat' (first | (k_unfold; (try dsimp only)) | walk1 | (dsimp only; walk1) | (leave1; walk_say "STEP leave1"; try dsimp only) | (refine Mine.Gen.to (by with_reducible assumption) _ _ ?_; try dsimp only) | fail "no step"))
  (k_with "ct raised" => first
  | exact ⟨_, _, _, rfl, rfl, by assumption, by assumption⟩
  | exact ⟨_, _, _, rfl, rfl, RaisedS.toSN (by assumption), by assumption⟩)
  refine Mine.fill ?_
  k_fill
  intro _ _
  refine' Mine.tellR_of ?ho ?hcd ?hb ?hl ?c1 ?c2 ?c3 ?c4 (by decide) ?_
  case ho => k_is
  case hcd => k_is
  case hb => (conv in (occs := *) Mine.fArgs _ => all_goals whnf); first | exact fun _ _ _ _ => BindsTo.of_eq rfl | exact fun h₀ s X k => binds_K (X.keeps k) rfl (by k_is) rfl rfl rfl
  case hl => exact locs rfl
  case c1 => exact rfl
  case c2 => exact rfl
  case c3 => exact rfl
  case c4 => decide
  intro _ _ _ _ _ _ _ _ _ _ _ _ _ _ _ _ _ _ _ _ _ _ _ _ _ _ _ _ _ _ _ _
  (conv in (occs := *) Mine.fBody _ => all_goals whnf)
  (conv in (occs := *) Mine.fScope _ => all_goals whnf)
  (try dsimp only)
  (try k_fold)
  refine Mine.gen_post fun Q9 hQ9 => ?_
  walk_at "ct steps"
  all_goals (walk_at "ct raised")
set_option maxHeartbeats 4000000 in
theorem t_isint (w : World) (v : Int) (t1 t2 : Tok) (title : Str) : TellK w 6 342 [.int v t1] [(Str.ofString "title", .str title t2)] [] [] (fun new r => new = [] ∧ r = Value.none) := by
  refine Mine.fill ?_
  k_fill
  intro _ _
  refine' Mine.tellK_of ?ho ?hcd ?hb ?hl ?c1 ?c2 ?c3 ?c4 (by decide) ?_
  case ho => k_is
  case hcd => k_is
  case hb => (conv in (occs := *) Mine.fArgs _ => all_goals whnf); first | exact fun _ _ _ _ => BindsTo.of_eq rfl | exact fun h₀ s X k => binds_K (X.keeps k) rfl (by k_is) rfl rfl rfl
  case hl => exact locs rfl
  case c1 => exact rfl
  case c2 => exact rfl
  case c3 => exact rfl
  case c4 => decide
  intro _ _ _ _ _ _ _ _ _ _ _ _ _ _ _ _ _ _ _ _ _ _ _ _ _ _ _ _ _ _
  (conv in (occs := *) Mine.fBody _ => all_goals whnf)
  (conv in (occs := *) Mine.fScope _ => all_goals whnf)
  (try dsimp only)
  (try k_fold)
  refine Mine.gen_post fun Q9 hQ9 => ?_
  walk_at "ct steps"
  all_goals (try dsimp only)
  all_goals exact ends_none (by k_asm) (by k_asm)
set_option maxHeartbeats 4000000 in
theorem t_gt (w : World) (v m : Int) (t1 t2 t3 : Tok) (title : Str) (h : m < v) : TellK w 12 350 [.int v t1, .int m t2] [(Str.ofString "title", .str title t3)] [] [] (fun new r => new = [] ∧ r = Value.none) := by
  (k_with "call ref" => (
  (with_reducible show wpAny _ _ (call (Value.ref 342) _ _) _ _ _)
  k_dflt (
  (refine' Mine.use_k (Mine.t_isint _ _ _ _ _) ?k1 ?k2 ?k3 ?k4 ?k5 ?kK ?kf ?kd ?ku ?_)
  walk_at "ct with"
  intro h9 tk9 F9 N9
  (try k_sweep))))
  refine Mine.fill ?_
  k_fill
  intro _ _
  refine' Mine.tellK_of ?ho ?hcd ?hb ?hl ?c1 ?c2 ?c3 ?c4 (by decide) ?_
  case ho => k_is
  case hcd => k_is
  case hb => (conv in (occs := *) Mine.fArgs _ => all_goals whnf); first | exact fun _ _ _ _ => BindsTo.of_eq rfl | exact fun h₀ s X k => binds_K (X.keeps k) rfl (by k_is) rfl rfl rfl
  case hl => exact locs rfl
  case c1 => exact rfl
  case c2 => exact rfl
  case c3 => exact rfl
  case c4 => decide
  intro _ _ _ _ _ _ _ _ _ _ _ _ _ _ _ _ _ _ _ _ _ _ _ _ _ _ _ _ _ _
  (conv in (occs := *) Mine.fBody _ => all_goals whnf)
  (conv in (occs := *) Mine.fScope _ => all_goals whnf)
  (try dsimp only)
  (try k_fold)
  refine Mine.gen_post fun Q9 hQ9 => ?_
  walk_at "ct steps"
  all_goals (try dsimp only)
  all_goals exact ends_none (by k_asm) (by k_asm)
set_option maxHeartbeats 4000000 in
theorem t_gtR (w : World) (v m : Int) (t1 t2 t3 : Tok) (title : Str) (ht : title.length ≤ 1000) (h : v ≤ m) (h1 : -2 ^ 50 < v) (h2 : m < 2 ^ 50) : TellR w 12 350 [.int v t1, .int m t2] [(Str.ofString "title", .str title t3)] [] (.ref 89) := by
  refine Mine.fill ?_
  k_fill
  intro _ _
  refine' Mine.tellR_of ?ho ?hcd ?hb ?hl ?c1 ?c2 ?c3 ?c4 (by decide) ?_
  case ho => k_is
  case hcd => k_is
  case hb => (conv in (occs := *) Mine.fArgs _ => all_goals whnf); first | exact fun _ _ _ _ => BindsTo.of_eq rfl | exact fun h₀ s X k => binds_K (X.keeps k) rfl (by k_is) rfl rfl rfl
  case hl => exact locs rfl
  case c1 => exact rfl
  case c2 => exact rfl
  case c3 => exact rfl
  case c4 => decide
  intro _ _ _ _ _ _ _ _ _ _ _ _ _ _ _ _ _ _ _ _ _ _ _ _ _ _ _ _ _ _ _ _
  (conv in (occs := *) Mine.fBody _ => all_goals whnf)
  (conv in (occs := *) Mine.fScope _ => all_goals whnf)
  (try dsimp only)
  (try k_fold)
  refine Mine.gen_post fun Q9 hQ9 => ?_
  walk_at "ct steps"
  all_goals (walk_at "ct raised")
noncomputable abbrev hdr172 (time weight place : Int) (uv : Value) (limit used : Int) (t1 t2 t3 t5 t6 : Tok) : List Value := [.int time t1, .int weight t2, .int place t3, uv, .int limit t5, .int used t6]
set_option maxHeartbeats 4000000 in
theorem t_371R (w : World) (x d : Addr) (time weight place limit used dt : Int) (t1 t2 t3 t5 t6 t7 : Tok) (uv : Value) (h0 : 0 ≤ time) (h1 : time < 2 ^ 40) (h2 : dt ≤ time) (h3 : -2 ^ 40 < dt)
   : TellR w 20 371 [.ref x, .int dt t7] [] [(x, hdrObj 172 d (hdr172 time weight place uv limit used t1 t2 t3 t5 t6)), (d, dictOf [] 0)] (.ref 89) := by
  k_with_none
  (k_with "ite" => first | with_reducible refine Mine.pite_ff ?_ | with_reducible refine Mine.pite_tt ?_ | with_reducible refine Mine.pite_nt ?_ | with_reducible refine Mine.pite_nf ?_ | with_reducible refine Mine.pite_t ?_ | with_reducible refine Mine.pite_f ?_)
  (k_with "execs cons" => first | (k_here; k_gentoks) | ((with_reducible refine Mine.execs_gen ?_); intro Q9 hQ9))
  (k_with "execs cons" => ((with_reducible show wpAny _ _ (execs _ _) (UnrPost _ _ _ _ _ _ _) _ _); (refine Mine.gen_post ?_); intro Q9 hQ9))
  (k_with "execs cons" => ((with_reducible show wpAny _ _ (execs _ _) (UnrPostW _ _ _ _ _ _) _ _); (refine Mine.gen_post ?_); intro Q9 hQ9))
  (k_with "eval Name" => (k_here; (with_reducible show wpAny _ _ (eval (Expr.Name _ _) (envOf _ _ _ _ _)) _ _ _); name_kind "globalImplicit"; name_is_builtin; (with_reducible rename Fr _ _ _ _ => kF); k_dflt (refine' Mine.nameB ?c1 ?c2 ?c3 kF ?k1 ?k2 ?k3 ?k4 ?k5 ?_; (case c1 => kernel_rfl); (case c2 => kernel_rfl); (case c3 => kernel_rfl); (case k1 => k_asm); (case k2 => k_asm); (case k3 => k_is); (case k4 => boot_by_name); (case k5 => decide); k_whole)))
  (k_with "eval Name" => (k_here; (with_reducible show wpAny _ _ (eval (Expr.Name _ _) (envOf _ _ _ _ _)) _ _ _); name_kind "globalImplicit"; (with_reducible rename Fr _ _ _ _ => kF); k_dflt (refine' Mine.nameK ?c1 ?c2 ?c3 kF ?k1 ?k2 ?k3 ?_; (case c1 => kernel_rfl); (case c2 => kernel_rfl); (case c3 => kernel_rfl); (case k1 => k_asm); (case k2 => k_asm); (case k3 => k_is); k_whole)))
  (k_with "eval Name" => (k_here; (with_reducible show wpAny _ _ (eval (Expr.Name _ _) (envOf _ _ _ _ _)) _ _ _); name_kind "local"; k_dflt (refine' Mine.nameL ?c1 ?c2 ?c3 ?k1 ?k2 ?_; (case c1 => kernel_rfl); (case c2 => kernel_rfl); (case c3 => kernel_rfl); (case k1 => k_asm); (case k2 => exact rfl); k_whole)))
  (k_with "callWith ref" => (k_here; k_dflt (first
  | (refine' callWith_K ?k1 ?k2 ?_; (case k1 => k_asm); (case k2 => k_is); k_whole)
  | (refine' callWith_KW ?k1 ?k2 ?k3 ?_; (case k1 => k_asm); (case k2 => k_is); (case k3 => exact rfl); k_whole))))
  (k_with "ct int" => (
  (try dsimp only)
  refine' Mine.ends_int ?e1 ?e2 ?_
  case e1 => k_asm
  case e2 => k_asm))
  (k_with "ct with" => (
  (case k1 => k_asm)
  (case k2 => k_asm)
  (case k3 => k_in)
  (case k4 => k_asm)
  (case k5 => k_asm)
  (case kK => first | exact rfl | assumption)
  (case kf => first | exact fun _ h => (nomatch h) | walk_at "ct facts")
  (case kd => ktr_room)
  (case ku => ktr_units)))
  (k_with "ct mul" => first | omega | (split <;> omega) | (simp only [] at *; omega) | (constructor <;> omega))
  (k_with "binaryOp Mult int int" => ((first
  | (refine mul_int ?_ (PySem.IntMulOk.of_right (PySem.intBits_le_64 (by walk_at "ct mul") (by walk_at "ct mul"))))
  | (refine mul_int ?_ (PySem.IntMulOk.of_left (PySem.intBits_le_64 (by walk_at "ct mul") (by walk_at "ct mul"))))); (try dsimp only)))
  (k_with "binaryOp FloorDiv int int" => ((with_reducible refine Mine.fdivQ (by first | omega | (simp only [] at *; omega)) (by first | omega | (simp only [] at *; omega)) ?_); (try dsimp only)))
  (k_with "binaryOp Mod int int" => ((with_reducible refine Mine.fmodQ (by first | omega | (simp only [] at *; omega)) ?_); (try dsimp only)))
  (k_with "call builtin:issubclass" => (k_here; k_dflt ((refine' Mine.issub_hdr ?F ?X ?c ?m ?_; (case F => k_asm); (case X => k_asm); (case c => first | assumption | k_is); (case m => first | assumption | k_is)))))
  (k_with "call builtin:tuple.__getitem__" => (k_here; k_dflt ((refine' Mine.call_tupitem ?F ?X ?x ?dd ?m ?l ?h ?k ?y ?_; (case F => k_asm); (case X => k_asm); (case x => assumption); (case dd => assumption); (case m => first | assumption | k_is); (case l => first | assumption | decide); (case h => first | assumption | decide); (case k => first | assumption | rfl); (case y => first | assumption | rfl)))))
  (k_with "getMethod" => (k_here; (with_reducible show wpAny _ _ (getMethod (Value.type _) _ _) _ _ _); k_dflt ((refine' method_type ?F ?X ?t ?s ?e ?h ?_; (case F => k_asm); (case X => k_asm); (case t => first | rfl | kernel_rfl); (case s => decide +kernel); (case e => k_is); (case h => k_handed)))))
  (k_with "call builtin:tuple.__new__" => (k_here; k_dflt ((refine' Mine.call_tupnew ?F ?N ?X ?Y ?c ?m ?i ?t ?z ?_; (case F => k_asm); (case N => k_asm); (case X => k_asm); (case Y => assumption); (case c => k_is); (case m => k_is); (case i => k_is); (case t => k_mem); (case z => simp)); intro x' d' h' F' N' l1 l2; (try k_lt l1); (try k_lt2 l2); (try k_sweep))))
  (k_with "getAttr ref" => (
  k_here
  k_dflt (
  (refine' Mine.hdr_miss ?k2 ?k3 ?k4 ?gx ?gg ?gk ?gc ?ga ?gm ?hA ?hC ?hn ?hl ?hz ?cp ?_)
  (case k2 => k_asm)
  (case k3 => k_in)
  (case k4 => k_asm)
  (case gx => first | exact ⟨Or.inr (by assumption), Or.inr (by assumption)⟩ | exact ⟨Or.inl (by k_mem), Or.inl (by k_mem)⟩)
  (case gg => k_is)
  (case gk => k_is)
  (case gc => k_is)
  (case ga => k_is)
  (case gm => k_is)
  (case hA => exact rfl)
  (case hC => k_is)
  (case hn => decide +kernel)
  (case hl => decide +kernel)
  (case hz => decide +kernel)
  (case cp => decide +kernel)
  intro h9 tk9 e9 NX9)))
  (k_with "getAttr ref" => (
  k_here
  k_dflt (
  (refine' Mine.hdr_attr ?k1 ?k2 ?k3 ?k4 ?k5 ?kK ?gx ?gg ?gg2 ?gc ?gm ?ga ?gs ?gt ?gp ?gd ?gl ?gh ?gi ?gv ?go ?kd ?ku ?_)
  (case k1 => k_asm)
  (case k2 => k_asm)
  (case k3 => k_in)
  (case k4 => k_asm)
  (case k5 => k_asm)
  (case kK => first | exact rfl | assumption)
  (case gx => first | exact ⟨Or.inr (by assumption), Or.inr (by assumption)⟩ | exact ⟨Or.inl (by k_mem), Or.inl (by k_mem)⟩)
  (case gg => k_is)
  (case gg2 => k_is)
  (case gc => k_is)
  (case gm => k_is)
  (case ga => k_is)
  (case gs => k_is)
  (case gt => k_is)
  (case gp => k_is)
  (case gd => k_is)
  (case gl => decide)
  (case gh => decide)
  (case gi => rfl)
  (case gv => rfl)
  (case go => rfl)
  (case kd => ktr_room)
  (case ku => ktr_units)
  intro h9 tk9 F9 N9
  (try k_sweep))))
  (k_with "ct intx" => (
  (try dsimp only)
  (show Mine.EndsX _ _ _ _ _ _)
  refine' Mine.endsX_int ?e0 ?e1 ?e2 ?e3
  case e0 => first | assumption | exact KtsTurn.refl
  case e1 => k_asm
  case e2 => k_asm))
  (k_with "noteFrame ref" => (
  k_here
  (rename Heap.NewExcOf _ _ _ _ => nxX)
  k_dflt (
  (refine' Mine.own_N0 (T' := "AttributeError") ?hx ?F ?N ?K ?XB ?TB ?D ?T0 ?ex PyProof.Rows.Boot.«AttributeError» ?hn Mine.exc_attr Mine.notTuple_attr Mine.sub_attr ?_; (case hx => exact nxX); (case F => k_asm); (case N => k_asm); (case K => assumption); (case XB => assumption); (case TB => assumption); (case D => assumption); (case T0 => first | assumption | exact KtsTurn.refl); (case ex => k_is); (case hn => decide); k_whole)
  intro h' g' T' F' N' K' X' P' D'; (try k_lift K'); (try k_sweep))))
  (k_with "And" => (
  (with_reducible show PySem.Str.length _ ≤ sizeLine ∧ _)
  (with_reducible refine' Mine.fits_z ?fa ?fb ?_)
  (case fa => repeat' (first | (with_reducible refine' Mine.fits_add' ?_ ?_) | ((show _ ≤ 1000); (first | assumption | decide +kernel | (with_reducible exact Mine.len_int' (by omega) (by omega))))))
  (case fb => decide +kernel)))
  (k_with "joinParts" => (
  (with_reducible show wpAny _ _ (joinParts _ (evalEach [] _)) _ _ _)
  (with_reducible refine' Mine.joinNil ?fa ?fb ?_)
  (case fa => repeat' (first | (with_reducible refine' Mine.fits_add' ?_ ?_) | ((show _ ≤ 1000); (first | assumption | decide +kernel | (with_reducible exact Mine.len_int' (by omega) (by omega))))))
  (case fb => decide +kernel)))
  (k_with "ct steps" => repeat' (first | (k_unfold; (try dsimp only)) | walk1 | (dsimp only; walk1) | (leave1; walk_say "STEP leave1"; try dsimp only) | (refine Mine.Gen.to (by with_reducible assumption) _ _ ?_; try dsimp only) | fail "no step"))
  (k_with "ct raised" => first
  | exact ⟨_, _, _, rfl, rfl, by assumption, by assumption⟩
  | exact ⟨_, _, _, rfl, rfl, RaisedS.toSN (by assumption), by assumption⟩)
  (k_with "ct rwith" => (
  (case k1 => k_asm)
  (case k2 => k_asm)
  (case k3 => k_in)
  (case k4 => k_asm)
  (case k5 => k_asm)
  (case kXB => assumption)
  (case kTB => assumption)
  (case kD => assumption)
  (case kK => first | exact rfl | assumption)
  (case kf => first | exact fun _ h => (nomatch h) | walk_at "ct facts")
  (case kd => ktr_room)
  (case ku => ktr_units)))
  (k_with "call ref" => (
  (with_reducible show wpAny _ _ (call (Value.ref 350) _ _) _ _ _)
  k_dflt (
  (refine' (Mine.t_gtR _ _ _ _ _ _ _ ?ht ?hv ?hm ?hM).tell ?k1 ?k2 ?k3 ?k4 ?k5 ?kXB ?kTB ?kD ?kK ?kf ?kd ?ku ?_)
  (case hv => first | assumption | omega)
  (case hm => omega)
  (case hM => omega)
  (case ht => decide +kernel)
  walk_at "ct rwith"
  intro e9 h9 tk9 G9 FG9 R9 U9)))
  (k_with "call ref" => (
  (with_reducible show wpAny _ _ (call (Value.ref 350) _ _) _ _ _)
  k_dflt (
  (refine' Mine.use_k (Mine.t_gt _ _ _ _ _ _ _ ?hg) ?k1 ?k2 ?k3 ?k4 ?k5 ?kK ?kf ?kd ?ku ?_)
  (case hg => first | assumption | omega)
  walk_at "ct with"
  intro h9 tk9 F9 N9
  (try k_sweep))))
  refine Mine.fill ?_
  k_fill
  intro _ _
  refine' Mine.tellR_of ?ho ?hcd ?hb ?hl ?c1 ?c2 ?c3 ?c4 (by decide) ?_
  case ho => k_is
  case hcd => k_is
  case hb => (conv in (occs := *) Mine.fArgs _ => all_goals whnf); first | exact fun _ _ _ _ => BindsTo.of_eq rfl | exact fun h₀ s X k => binds_K (X.keeps k) rfl (by k_is) rfl rfl rfl
  case hl => exact locs rfl
  case c1 => exact rfl
  case c2 => exact rfl
  case c3 => exact rfl
  case c4 => decide
  intro _ _ _ _ _ _ _ _ _ _ _ _ _ _ _ _ _ _ _ _ _ _ _ _ _ _ _ _ _ _ _ _
  (conv in (occs := *) Mine.fBody _ => all_goals whnf)
  (conv in (occs := *) Mine.fScope _ => all_goals whnf)
  (try dsimp only)
  (try k_fold)
  refine Mine.gen_post fun Q9 hQ9 => ?_
  rename_i hfa hd hu
  have hx := hfa _ (.head _)
  have hxd := hfa _ (.tail _ (.head _))
  dsimp only at hx hxd
  walk_at "ct steps"
  all_goals (walk_at "ct raised")
set_option maxHeartbeats 4000000 in
theorem t_378R (w : World) (x d : Addr) (time weight place limit used dt : Int) (t1 t2 t3 t5 t6 t7 : Tok) (uv : Value) (h0 : 0 ≤ time) (h1 : time < 2 ^ 40) (h2 : dt ≤ time) (h3 : -2 ^ 40 < dt)
   : TellR w 20 378 [.ref x, .int dt t7] [] [(x, hdrObj 172 d (hdr172 time weight place uv limit used t1 t2 t3 t5 t6)), (d, dictOf [] 0)] (.ref 89) := by
  refine Mine.fill ?_
  k_fill
  intro _ _
  refine' Mine.tellR_of ?ho ?hcd ?hb ?hl ?c1 ?c2 ?c3 ?c4 (by decide) ?_
  case ho => k_is
  case hcd => k_is
  case hb => (conv in (occs := *) Mine.fArgs _ => all_goals whnf); first | exact fun _ _ _ _ => BindsTo.of_eq rfl | exact fun h₀ s X k => binds_K (X.keeps k) rfl (by k_is) rfl rfl rfl
  case hl => exact locs rfl
  case c1 => exact rfl
  case c2 => exact rfl
  case c3 => exact rfl
  case c4 => decide
  intro _ _ _ _ _ _ _ _ _ _ _ _ _ _ _ _ _ _ _ _ _ _ _ _ _ _ _ _ _ _ _ _
  (conv in (occs := *) Mine.fBody _ => all_goals whnf)
  (conv in (occs := *) Mine.fScope _ => all_goals whnf)
  (try dsimp only)
  (try k_fold)
  refine Mine.gen_post fun Q9 hQ9 => ?_
  rename_i hfa hd hu
  have hx := hfa _ (.head _)
  have hxd := hfa _ (.tail _ (.head _))
  dsimp only at hx hxd
  walk_at "ct steps"
  all_goals (walk_at "ct raised")
set_option maxHeartbeats 4000000 in
theorem t_357R (w : World) (x d : Addr) (time weight place limit used dt : Int) (t1 t2 t3 t5 t6 t7 : Tok) (uv : Value) (delay : Int) (t8 : Tok) (h0 : 0 ≤ time) (h1 : time < 2 ^ 40) (h2 : dt ≤ time) (h3 : -2 ^ 40 < dt)
   : TellR w 20 357 [.int delay t8, .ref x, .int dt t7] [] [(x, hdrObj 172 d (hdr172 time weight place uv limit used t1 t2 t3 t5 t6)), (d, dictOf [] 0)] (.ref 89) := by
  refine Mine.fill ?_
  k_fill
  intro _ _
  refine' Mine.tellR_of ?ho ?hcd ?hb ?hl ?c1 ?c2 ?c3 ?c4 (by decide) ?_
  case ho => k_is
  case hcd => k_is
  case hb => (conv in (occs := *) Mine.fArgs _ => all_goals whnf); first | exact fun _ _ _ _ => BindsTo.of_eq rfl | exact fun h₀ s X k => binds_K (X.keeps k) rfl (by k_is) rfl rfl rfl
  case hl => exact locs rfl
  case c1 => exact rfl
  case c2 => exact rfl
  case c3 => exact rfl
  case c4 => decide
  intro _ _ _ _ _ _ _ _ _ _ _ _ _ _ _ _ _ _ _ _ _ _ _ _ _ _ _ _ _ _ _ _
  (conv in (occs := *) Mine.fBody _ => all_goals whnf)
  (conv in (occs := *) Mine.fScope _ => all_goals whnf)
  (try dsimp only)
  (try k_fold)
  refine Mine.gen_post fun Q9 hQ9 => ?_
  rename_i hfa hd hu
  have hx := hfa _ (.head _)
  have hxd := hfa _ (.tail _ (.head _))
  dsimp only at hx hxd
  walk_at "ct steps"
  all_goals (walk_at "ct raised")
set_option maxHeartbeats 8000000 in
theorem t_371 (w : World) (x d : Addr) (time weight place limit used dt : Int) (t1 t2 t3 t5 t6 t7 : Tok) (uv : Value) (h0 : 0 ≤ time) (h1 : dt < 2 ^ 40) (h2 : time < dt) (h3 : 0 ≤ place) (h4 : place < 2 ^ 27) (h5 : 0 ≤ weight)
   : Tell w 20 371 [.ref x, .int dt t7] [(x, hdrObj 172 d (hdr172 time weight place uv limit used t1 t2 t3 t5 t6)), (d, dictOf [] 0)] [] (RInt (frontV weight (dt - time) (place + 1))) := by
  k_with_none
  (k_with "ite" => first | with_reducible refine Mine.pite_ff ?_ | with_reducible refine Mine.pite_tt ?_ | with_reducible refine Mine.pite_nt ?_ | with_reducible refine Mine.pite_nf ?_ | with_reducible refine Mine.pite_t ?_ | with_reducible refine Mine.pite_f ?_)
  (k_with "execs cons" => first | (k_here; k_gentoks) | ((with_reducible refine Mine.execs_gen ?_); intro Q9 hQ9))
  (k_with "execs cons" => ((with_reducible show wpAny _ _ (execs _ _) (UnrPost _ _ _ _ _ _ _) _ _); (refine Mine.gen_post ?_); intro Q9 hQ9))
  (k_with "execs cons" => ((with_reducible show wpAny _ _ (execs _ _) (UnrPostW _ _ _ _ _ _) _ _); (refine Mine.gen_post ?_); intro Q9 hQ9))
  (k_with "eval Name" => (k_here; (with_reducible show wpAny _ _ (eval (Expr.Name _ _) (envOf _ _ _ _ _)) _ _ _); name_kind "globalImplicit"; name_is_builtin; (with_reducible rename Fr _ _ _ _ => kF); k_dflt (refine' Mine.nameB ?c1 ?c2 ?c3 kF ?k1 ?k2 ?k3 ?k4 ?k5 ?_; (case c1 => kernel_rfl); (case c2 => kernel_rfl); (case c3 => kernel_rfl); (case k1 => k_asm); (case k2 => k_asm); (case k3 => k_is); (case k4 => boot_by_name); (case k5 => decide); k_whole)))
  (k_with "eval Name" => (k_here; (with_reducible show wpAny _ _ (eval (Expr.Name _ _) (envOf _ _ _ _ _)) _ _ _); name_kind "globalImplicit"; (with_reducible rename Fr _ _ _ _ => kF); k_dflt (refine' Mine.nameK ?c1 ?c2 ?c3 kF ?k1 ?k2 ?k3 ?_; (case c1 => kernel_rfl); (case c2 => kernel_rfl); (case c3 => kernel_rfl); (case k1 => k_asm); (case k2 => k_asm); (case k3 => k_is); k_whole)))
  (k_with "eval Name" => (k_here; (with_reducible show wpAny _ _ (eval (Expr.Name _ _) (envOf _ _ _ _ _)) _ _ _); name_kind "local"; k_dflt (refine' Mine.nameL ?c1 ?c2 ?c3 ?k1 ?k2 ?_; (case c1 => kernel_rfl); (case c2 => kernel_rfl); (case c3 => kernel_rfl); (case k1 => k_asm); (case k2 => exact rfl); k_whole)))
  (k_with "callWith ref" => (k_here; k_dflt (first
  | (refine' callWith_K ?k1 ?k2 ?_; (case k1 => k_asm); (case k2 => k_is); k_whole)
  | (refine' callWith_KW ?k1 ?k2 ?k3 ?_; (case k1 => k_asm); (case k2 => k_is); (case k3 => exact rfl); k_whole))))
  (k_with "ct int" => (
  (try dsimp only)
  refine' Mine.ends_int ?e1 ?e2 ?_
  case e1 => k_asm
  case e2 => k_asm))
  (k_with "ct with" => (
  (case k1 => k_asm)
  (case k2 => k_asm)
  (case k3 => k_in)
  (case k4 => k_asm)
  (case k5 => k_asm)
  (case kK => first | exact rfl | assumption)
  (case kf => first | exact fun _ h => (nomatch h) | walk_at "ct facts")
  (case kd => ktr_room)
  (case ku => ktr_units)))
  (k_with "ct mul" => first | omega | (split <;> omega) | (simp only [] at *; omega) | (constructor <;> omega))
  (k_with "binaryOp Mult int int" => ((first
  | (refine mul_int ?_ (PySem.IntMulOk.of_right (PySem.intBits_le_64 (by walk_at "ct mul") (by walk_at "ct mul"))))
  | (refine mul_int ?_ (PySem.IntMulOk.of_left (PySem.intBits_le_64 (by walk_at "ct mul") (by walk_at "ct mul"))))); (try dsimp only)))
  (k_with "binaryOp FloorDiv int int" => ((with_reducible refine Mine.fdivQ (by first | omega | (simp only [] at *; omega)) (by first | omega | (simp only [] at *; omega)) ?_); (try dsimp only)))
  (k_with "binaryOp Mod int int" => ((with_reducible refine Mine.fmodQ (by first | omega | (simp only [] at *; omega)) ?_); (try dsimp only)))
  (k_with "call builtin:issubclass" => (k_here; k_dflt ((refine' Mine.issub_hdr ?F ?X ?c ?m ?_; (case F => k_asm); (case X => k_asm); (case c => first | assumption | k_is); (case m => first | assumption | k_is)))))
  (k_with "call builtin:tuple.__getitem__" => (k_here; k_dflt ((refine' Mine.call_tupitem ?F ?X ?x ?dd ?m ?l ?h ?k ?y ?_; (case F => k_asm); (case X => k_asm); (case x => assumption); (case dd => assumption); (case m => first | assumption | k_is); (case l => first | assumption | decide); (case h => first | assumption | decide); (case k => first | assumption | rfl); (case y => first | assumption | rfl)))))
  (k_with "getMethod" => (k_here; (with_reducible show wpAny _ _ (getMethod (Value.type _) _ _) _ _ _); k_dflt ((refine' method_type ?F ?X ?t ?s ?e ?h ?_; (case F => k_asm); (case X => k_asm); (case t => first | rfl | kernel_rfl); (case s => decide +kernel); (case e => k_is); (case h => k_handed)))))
  (k_with "call builtin:tuple.__new__" => (k_here; k_dflt ((refine' Mine.call_tupnew ?F ?N ?X ?Y ?c ?m ?i ?t ?z ?_; (case F => k_asm); (case N => k_asm); (case X => k_asm); (case Y => assumption); (case c => k_is); (case m => k_is); (case i => k_is); (case t => k_mem); (case z => simp)); intro x' d' h' F' N' l1 l2; (try k_lt l1); (try k_lt2 l2); (try k_sweep))))
  (k_with "getAttr ref" => (
  k_here
  k_dflt (
  (refine' Mine.hdr_miss ?k2 ?k3 ?k4 ?gx ?gg ?gk ?gc ?ga ?gm ?hA ?hC ?hn ?hl ?hz ?cp ?_)
  (case k2 => k_asm)
  (case k3 => k_in)
  (case k4 => k_asm)
  (case gx => first | exact ⟨Or.inr (by assumption), Or.inr (by assumption)⟩ | exact ⟨Or.inl (by k_mem), Or.inl (by k_mem)⟩)
  (case gg => k_is)
  (case gk => k_is)
  (case gc => k_is)
  (case ga => k_is)
  (case gm => k_is)
  (case hA => exact rfl)
  (case hC => k_is)
  (case hn => decide +kernel)
  (case hl => decide +kernel)
  (case hz => decide +kernel)
  (case cp => decide +kernel)
  intro h9 tk9 e9 NX9)))
  (k_with "getAttr ref" => (
  k_here
  k_dflt (
  (refine' Mine.hdr_attr ?k1 ?k2 ?k3 ?k4 ?k5 ?kK ?gx ?gg ?gg2 ?gc ?gm ?ga ?gs ?gt ?gp ?gd ?gl ?gh ?gi ?gv ?go ?kd ?ku ?_)
  (case k1 => k_asm)
  (case k2 => k_asm)
  (case k3 => k_in)
  (case k4 => k_asm)
  (case k5 => k_asm)
  (case kK => first | exact rfl | assumption)
  (case gx => first | exact ⟨Or.inr (by assumption), Or.inr (by assumption)⟩ | exact ⟨Or.inl (by k_mem), Or.inl (by k_mem)⟩)
  (case gg => k_is)
  (case gg2 => k_is)
  (case gc => k_is)
  (case gm => k_is)
  (case ga => k_is)
  (case gs => k_is)
  (case gt => k_is)
  (case gp => k_is)
  (case gd => k_is)
  (case gl => decide)
  (case gh => decide)
  (case gi => rfl)
  (case gv => rfl)
  (case go => rfl)
  (case kd => ktr_room)
  (case ku => ktr_units)
  intro h9 tk9 F9 N9
  (try k_sweep))))
  (k_with "ct intx" => (
  (try dsimp only)
  (show Mine.EndsX _ _ _ _ _ _)
  refine' Mine.endsX_int ?e0 ?e1 ?e2 ?e3
  case e0 => first | assumption | exact KtsTurn.refl
  case e1 => k_asm
  case e2 => k_asm))
  (k_with "noteFrame ref" => (
  k_here
  (rename Heap.NewExcOf _ _ _ _ => nxX)
  k_dflt (
  (refine' Mine.own_N0 (T' := "AttributeError") ?hx ?F ?N ?K ?XB ?TB ?D ?T0 ?ex PyProof.Rows.Boot.«AttributeError» ?hn Mine.exc_attr Mine.notTuple_attr Mine.sub_attr ?_; (case hx => exact nxX); (case F => k_asm); (case N => k_asm); (case K => assumption); (case XB => assumption); (case TB => assumption); (case D => assumption); (case T0 => first | assumption | exact KtsTurn.refl); (case ex => k_is); (case hn => decide); k_whole)
  intro h' g' T' F' N' K' X' P' D'; (try k_lift K'); (try k_sweep))))
  (k_with "And" => (
  (with_reducible show PySem.Str.length _ ≤ sizeLine ∧ _)
  (with_reducible refine' Mine.fits_z ?fa ?fb ?_)
  (case fa => repeat' (first | (with_reducible refine' Mine.fits_add' ?_ ?_) | ((show _ ≤ 1000); (first | assumption | decide +kernel | (with_reducible exact Mine.len_int' (by omega) (by omega))))))
  (case fb => decide +kernel)))
  (k_with "joinParts" => (
  (with_reducible show wpAny _ _ (joinParts _ (evalEach [] _)) _ _ _)
  (with_reducible refine' Mine.joinNil ?fa ?fb ?_)
  (case fa => repeat' (first | (with_reducible refine' Mine.fits_add' ?_ ?_) | ((show _ ≤ 1000); (first | assumption | decide +kernel | (with_reducible exact Mine.len_int' (by omega) (by omega))))))
  (case fb => decide +kernel)))
  (k_with "ct steps" => repeat' (first | (k_unfold; (try dsimp only)) | walk1 | (dsimp only; walk1) | (leave1; walk_say "STEP leave1"; try dsimp only) | (refine Mine.Gen.to (by with_reducible assumption) _ _ ?_; try dsimp only) | fail "no step"))
  (k_with "ct raised" => first
  | exact ⟨_, _, _, rfl, rfl, by assumption, by assumption⟩
  | exact ⟨_, _, _, rfl, rfl, RaisedS.toSN (by assumption), by assumption⟩)
  (k_with "ct rwith" => (
  (case k1 => k_asm)
  (case k2 => k_asm)
  (case k3 => k_in)
  (case k4 => k_asm)
  (case k5 => k_asm)
  (case kXB => assumption)
  (case kTB => assumption)
  (case kD => assumption)
  (case kK => first | exact rfl | assumption)
  (case kf => first | exact fun _ h => (nomatch h) | walk_at "ct facts")
  (case kd => ktr_room)
  (case ku => ktr_units)))
  (k_with "call ref" => (
  (with_reducible show wpAny _ _ (call (Value.ref 350) _ _) _ _ _)
  k_dflt (
  (refine' (Mine.t_gtR _ _ _ _ _ _ _ ?ht ?hv ?hm ?hM).tell ?k1 ?k2 ?k3 ?k4 ?k5 ?kXB ?kTB ?kD ?kK ?kf ?kd ?ku ?_)
  (case hv => first | assumption | omega)
  (case hm => omega)
  (case hM => omega)
  (case ht => decide +kernel)
  walk_at "ct rwith"
  intro e9 h9 tk9 G9 FG9 R9 U9)))
  (k_with "call ref" => (
  (with_reducible show wpAny _ _ (call (Value.ref 350) _ _) _ _ _)
  k_dflt (
  (refine' Mine.use_k (Mine.t_gt _ _ _ _ _ _ _ ?hg) ?k1 ?k2 ?k3 ?k4 ?k5 ?kK ?kf ?kd ?ku ?_)
  (case hg => first | assumption | omega)
  walk_at "ct with"
  intro h9 tk9 F9 N9
  (try k_sweep))))
  have hq9 : -2 ^ 41 < Int.fdiv (dt - time) 9 ∧ Int.fdiv (dt - time) 9 < 2 ^ 41 := by rw [Mine.fd _ (by omega)]; omega
  have hq10 : -2 ^ 41 < Int.fdiv (dt - time) 10 ∧ Int.fdiv (dt - time) 10 < 2 ^ 41 := by rw [Mine.fd _ (by omega)]; omega
  obtain ⟨hq1, hq2⟩ := hq9
  obtain ⟨hq3, hq4⟩ := hq10
  refine Mine.fill ?_
  k_fill
  intro _ _
  refine' Mine.tell_of ?ho ?hcd ?hb ?hl ?c1 ?c2 ?c3 ?c4 (by decide) ?_
  case ho => k_is
  case hcd => k_is
  case hb => (conv in (occs := *) Mine.fArgs _ => all_goals whnf); first | exact fun _ _ _ _ => BindsTo.of_eq rfl | exact fun h₀ s X k => binds_K (X.keeps k) rfl (by k_is) rfl rfl rfl
  case hl => exact locs rfl
  case c1 => exact rfl
  case c2 => exact rfl
  case c3 => exact rfl
  case c4 => decide
  intro _ _ _ _ _ _ _ _ _ _ _ _ _ _ _ _ _ _ _ _ _ _ _ _ _ _ _ _ _ _
  (conv in (occs := *) Mine.fBody _ => all_goals whnf)
  (conv in (occs := *) Mine.fScope _ => all_goals whnf)
  (try dsimp only)
  (try k_fold)
  refine Mine.gen_post fun Q9 hQ9 => ?_
  rename_i hfa hsm hd hu
  have hx := hfa _ (.head _)
  have hxd := hfa _ (.tail _ (.head _))
  dsimp only at hx hxd
  walk_at "ct steps"
  all_goals (walk_at "ct int")
  all_goals (first | with_reducible exact Mine.fr1 (by assumption) (by assumption) | with_reducible exact Mine.fr2 (by assumption) (by assumption) | with_reducible exact Mine.fr3 (by assumption) (by assumption) | with_reducible exact Mine.fr4 (by assumption) (by assumption))
set_option maxHeartbeats 8000000 in
theorem t_378 (w : World) (x d : Addr) (time weight place limit used dt : Int) (t1 t2 t3 t5 t6 t7 : Tok) (uv : Value) (h0 : 0 ≤ time) (h1 : dt < 2 ^ 40) (h2 : time < dt) (h3 : 0 ≤ place) (h4 : place < 2 ^ 27) (h5 : 0 ≤ weight)
   : Tell w 20 378 [.ref x, .int dt t7] [(x, hdrObj 172 d (hdr172 time weight place uv limit used t1 t2 t3 t5 t6)), (d, dictOf [] 0)] [] (RInt (stepV weight (1 - Int.fdiv (dt - time) 10) (place + 1))) := by
  have hq9 : -2 ^ 41 < Int.fdiv (dt - time) 9 ∧ Int.fdiv (dt - time) 9 < 2 ^ 41 := by rw [Mine.fd _ (by omega)]; omega
  have hq10 : -2 ^ 41 < Int.fdiv (dt - time) 10 ∧ Int.fdiv (dt - time) 10 < 2 ^ 41 := by rw [Mine.fd _ (by omega)]; omega
  obtain ⟨hq1, hq2⟩ := hq9
  obtain ⟨hq3, hq4⟩ := hq10
  refine Mine.fill ?_
  k_fill
  intro _ _
  refine' Mine.tell_of ?ho ?hcd ?hb ?hl ?c1 ?c2 ?c3 ?c4 (by decide) ?_
  case ho => k_is
  case hcd => k_is
  case hb => (conv in (occs := *) Mine.fArgs _ => all_goals whnf); first | exact fun _ _ _ _ => BindsTo.of_eq rfl | exact fun h₀ s X k => binds_K (X.keeps k) rfl (by k_is) rfl rfl rfl
  case hl => exact locs rfl
  case c1 => exact rfl
  case c2 => exact rfl
  case c3 => exact rfl
  case c4 => decide
  intro _ _ _ _ _ _ _ _ _ _ _ _ _ _ _ _ _ _ _ _ _ _ _ _ _ _ _ _ _ _
  (conv in (occs := *) Mine.fBody _ => all_goals whnf)
  (conv in (occs := *) Mine.fScope _ => all_goals whnf)
  (try dsimp only)
  (try k_fold)
  refine Mine.gen_post fun Q9 hQ9 => ?_
  rename_i hfa hsm hd hu
  have hx := hfa _ (.head _)
  have hxd := hfa _ (.tail _ (.head _))
  dsimp only at hx hxd
  walk_at "ct steps"
  all_goals (walk_at "ct int")
  all_goals (first | with_reducible exact Mine.st1 (by assumption) | with_reducible exact Mine.st2 (by assumption))
noncomputable abbrev emptyB : Array UInt8 := #[29, 204, 77, 232, 222, 199, 93, 122, 171, 133, 181, 103, 182, 204, 212, 26, 211, 18, 69, 27, 148, 138, 116, 19, 240, 161, 66, 253, 64, 212, 147, 71]
noncomputable abbrev nineB : Array UInt8 := #[9, 9, 9, 9, 9, 9, 9, 9, 9, 9, 9, 9, 9, 9, 9, 9, 9, 9, 9, 9, 9, 9, 9, 9, 9, 9, 9, 9, 9, 9, 9, 9]
set_option maxHeartbeats 8000000 in
theorem t_357e (w : World) (x d : Addr) (time weight place limit used dt : Int) (t1 t2 t3 t5 t6 t7 : Tok) (t4 t8 : Tok) (delay : Int) (h0 : 0 ≤ time) (h1 : dt < 2 ^ 40) (h2 : time < dt) (h3 : 0 ≤ place) (h4 : place < 2 ^ 27) (h5 : 0 ≤ weight) (h6 : 0 ≤ delay) (h7 : delay < 2 ^ 27)
   : Tell w 20 357 [.int delay t8, .ref x, .int dt t7] [(x, hdrObj 172 d (hdr172 time weight place (.bytes emptyB t4) limit used t1 t2 t3 t5 t6)), (d, dictOf [] 0)] [] (RInt (stepV weight (1 - Int.fdiv (dt - time) 9) (mx 0 (place + 1 - delay)))) := by
  k_with_none
  (k_with "ite" => first | with_reducible refine Mine.pite_ff ?_ | with_reducible refine Mine.pite_tt ?_ | with_reducible refine Mine.pite_nt ?_ | with_reducible refine Mine.pite_nf ?_ | with_reducible refine Mine.pite_t ?_ | with_reducible refine Mine.pite_f ?_)
  (k_with "execs cons" => first | (k_here; k_gentoks) | ((with_reducible refine Mine.execs_gen ?_); intro Q9 hQ9))
  (k_with "execs cons" => ((with_reducible show wpAny _ _ (execs _ _) (UnrPost _ _ _ _ _ _ _) _ _); (refine Mine.gen_post ?_); intro Q9 hQ9))
  (k_with "execs cons" => ((with_reducible show wpAny _ _ (execs _ _) (UnrPostW _ _ _ _ _ _) _ _); (refine Mine.gen_post ?_); intro Q9 hQ9))
  (k_with "eval Name" => (k_here; (with_reducible show wpAny _ _ (eval (Expr.Name _ _) (envOf _ _ _ _ _)) _ _ _); name_kind "globalImplicit"; name_is_builtin; (with_reducible rename Fr _ _ _ _ => kF); k_dflt (refine' Mine.nameB ?c1 ?c2 ?c3 kF ?k1 ?k2 ?k3 ?k4 ?k5 ?_; (case c1 => kernel_rfl); (case c2 => kernel_rfl); (case c3 => kernel_rfl); (case k1 => k_asm); (case k2 => k_asm); (case k3 => k_is); (case k4 => boot_by_name); (case k5 => decide); k_whole)))
  (k_with "eval Name" => (k_here; (with_reducible show wpAny _ _ (eval (Expr.Name _ _) (envOf _ _ _ _ _)) _ _ _); name_kind "globalImplicit"; (with_reducible rename Fr _ _ _ _ => kF); k_dflt (refine' Mine.nameK ?c1 ?c2 ?c3 kF ?k1 ?k2 ?k3 ?_; (case c1 => kernel_rfl); (case c2 => kernel_rfl); (case c3 => kernel_rfl); (case k1 => k_asm); (case k2 => k_asm); (case k3 => k_is); k_whole)))
  (k_with "eval Name" => (k_here; (with_reducible show wpAny _ _ (eval (Expr.Name _ _) (envOf _ _ _ _ _)) _ _ _); name_kind "local"; k_dflt (refine' Mine.nameL ?c1 ?c2 ?c3 ?k1 ?k2 ?_; (case c1 => kernel_rfl); (case c2 => kernel_rfl); (case c3 => kernel_rfl); (case k1 => k_asm); (case k2 => exact rfl); k_whole)))
  (k_with "callWith ref" => (k_here; k_dflt (first
  | (refine' callWith_K ?k1 ?k2 ?_; (case k1 => k_asm); (case k2 => k_is); k_whole)
  | (refine' callWith_KW ?k1 ?k2 ?k3 ?_; (case k1 => k_asm); (case k2 => k_is); (case k3 => exact rfl); k_whole))))
  (k_with "ct int" => (
  (try dsimp only)
  refine' Mine.ends_int ?e1 ?e2 ?_
  case e1 => k_asm
  case e2 => k_asm))
  (k_with "ct with" => (
  (case k1 => k_asm)
  (case k2 => k_asm)
  (case k3 => k_in)
  (case k4 => k_asm)
  (case k5 => k_asm)
  (case kK => first | exact rfl | assumption)
  (case kf => first | exact fun _ h => (nomatch h) | walk_at "ct facts")
  (case kd => ktr_room)
  (case ku => ktr_units)))
  (k_with "ct mul" => first | omega | (split <;> omega) | (simp only [] at *; omega) | (constructor <;> omega))
  (k_with "binaryOp Mult int int" => ((first
  | (refine mul_int ?_ (PySem.IntMulOk.of_right (PySem.intBits_le_64 (by walk_at "ct mul") (by walk_at "ct mul"))))
  | (refine mul_int ?_ (PySem.IntMulOk.of_left (PySem.intBits_le_64 (by walk_at "ct mul") (by walk_at "ct mul"))))); (try dsimp only)))
  (k_with "binaryOp FloorDiv int int" => ((with_reducible refine Mine.fdivQ (by first | omega | (simp only [] at *; omega)) (by first | omega | (simp only [] at *; omega)) ?_); (try dsimp only)))
  (k_with "binaryOp Mod int int" => ((with_reducible refine Mine.fmodQ (by first | omega | (simp only [] at *; omega)) ?_); (try dsimp only)))
  (k_with "call builtin:issubclass" => (k_here; k_dflt ((refine' Mine.issub_hdr ?F ?X ?c ?m ?_; (case F => k_asm); (case X => k_asm); (case c => first | assumption | k_is); (case m => first | assumption | k_is)))))
  (k_with "call builtin:tuple.__getitem__" => (k_here; k_dflt ((refine' Mine.call_tupitem ?F ?X ?x ?dd ?m ?l ?h ?k ?y ?_; (case F => k_asm); (case X => k_asm); (case x => assumption); (case dd => assumption); (case m => first | assumption | k_is); (case l => first | assumption | decide); (case h => first | assumption | decide); (case k => first | assumption | rfl); (case y => first | assumption | rfl)))))
  (k_with "getMethod" => (k_here; (with_reducible show wpAny _ _ (getMethod (Value.type _) _ _) _ _ _); k_dflt ((refine' method_type ?F ?X ?t ?s ?e ?h ?_; (case F => k_asm); (case X => k_asm); (case t => first | rfl | kernel_rfl); (case s => decide +kernel); (case e => k_is); (case h => k_handed)))))
  (k_with "call builtin:tuple.__new__" => (k_here; k_dflt ((refine' Mine.call_tupnew ?F ?N ?X ?Y ?c ?m ?i ?t ?z ?_; (case F => k_asm); (case N => k_asm); (case X => k_asm); (case Y => assumption); (case c => k_is); (case m => k_is); (case i => k_is); (case t => k_mem); (case z => simp)); intro x' d' h' F' N' l1 l2; (try k_lt l1); (try k_lt2 l2); (try k_sweep))))
  (k_with "getAttr ref" => (
  k_here
  k_dflt (
  (refine' Mine.hdr_miss ?k2 ?k3 ?k4 ?gx ?gg ?gk ?gc ?ga ?gm ?hA ?hC ?hn ?hl ?hz ?cp ?_)
  (case k2 => k_asm)
  (case k3 => k_in)
  (case k4 => k_asm)
  (case gx => first | exact ⟨Or.inr (by assumption), Or.inr (by assumption)⟩ | exact ⟨Or.inl (by k_mem), Or.inl (by k_mem)⟩)
  (case gg => k_is)
  (case gk => k_is)
  (case gc => k_is)
  (case ga => k_is)
  (case gm => k_is)
  (case hA => exact rfl)
  (case hC => k_is)
  (case hn => decide +kernel)
  (case hl => decide +kernel)
  (case hz => decide +kernel)
  (case cp => decide +kernel)
  intro h9 tk9 e9 NX9)))
  (k_with "getAttr ref" => (
  k_here
  k_dflt (
  (refine' Mine.hdr_attr ?k1 ?k2 ?k3 ?k4 ?k5 ?kK ?gx ?gg ?gg2 ?gc ?gm ?ga ?gs ?gt ?gp ?gd ?gl ?gh ?gi ?gv ?go ?kd ?ku ?_)
  (case k1 => k_asm)
  (case k2 => k_asm)
  (case k3 => k_in)
  (case k4 => k_asm)
  (case k5 => k_asm)
  (case kK => first | exact rfl | assumption)
  (case gx => first | exact ⟨Or.inr (by assumption), Or.inr (by assumption)⟩ | exact ⟨Or.inl (by k_mem), Or.inl (by k_mem)⟩)
  (case gg => k_is)
  (case gg2 => k_is)
  (case gc => k_is)
  (case gm => k_is)
  (case ga => k_is)
  (case gs => k_is)
  (case gt => k_is)
  (case gp => k_is)
  (case gd => k_is)
  (case gl => decide)
  (case gh => decide)
  (case gi => rfl)
  (case gv => rfl)
  (case go => rfl)
  (case kd => ktr_room)
  (case ku => ktr_units)
  intro h9 tk9 F9 N9
  (try k_sweep))))
  (k_with "ct intx" => (
  (try dsimp only)
  (show Mine.EndsX _ _ _ _ _ _)
  refine' Mine.endsX_int ?e0 ?e1 ?e2 ?e3
  case e0 => first | assumption | exact KtsTurn.refl
  case e1 => k_asm
  case e2 => k_asm))
  (k_with "noteFrame ref" => (
  k_here
  (rename Heap.NewExcOf _ _ _ _ => nxX)
  k_dflt (
  (refine' Mine.own_N0 (T' := "AttributeError") ?hx ?F ?N ?K ?XB ?TB ?D ?T0 ?ex PyProof.Rows.Boot.«AttributeError» ?hn Mine.exc_attr Mine.notTuple_attr Mine.sub_attr ?_; (case hx => exact nxX); (case F => k_asm); (case N => k_asm); (case K => assumption); (case XB => assumption); (case TB => assumption); (case D => assumption); (case T0 => first | assumption | exact KtsTurn.refl); (case ex => k_is); (case hn => decide); k_whole)
  intro h' g' T' F' N' K' X' P' D'; (try k_lift K'); (try k_sweep))))
  (k_with "And" => (
  (with_reducible show PySem.Str.length _ ≤ sizeLine ∧ _)
  (with_reducible refine' Mine.fits_z ?fa ?fb ?_)
  (case fa => repeat' (first | (with_reducible refine' Mine.fits_add' ?_ ?_) | ((show _ ≤ 1000); (first | assumption | decide +kernel | (with_reducible exact Mine.len_int' (by omega) (by omega))))))
  (case fb => decide +kernel)))
  (k_with "joinParts" => (
  (with_reducible show wpAny _ _ (joinParts _ (evalEach [] _)) _ _ _)
  (with_reducible refine' Mine.joinNil ?fa ?fb ?_)
  (case fa => repeat' (first | (with_reducible refine' Mine.fits_add' ?_ ?_) | ((show _ ≤ 1000); (first | assumption | decide +kernel | (with_reducible exact Mine.len_int' (by omega) (by omega))))))
  (case fb => decide +kernel)))
  (k_with "ct steps" => repeat' (first | (k_unfold; (try dsimp only)) | walk1 | (dsimp only; walk1) | (leave1; walk_say "STEP leave1"; try dsimp only) | (refine Mine.Gen.to (by with_reducible assumption) _ _ ?_; try dsimp only) | fail "no step"))
  (k_with "ct raised" => first
  | exact ⟨_, _, _, rfl, rfl, by assumption, by assumption⟩
  | exact ⟨_, _, _, rfl, rfl, RaisedS.toSN (by assumption), by assumption⟩)
  (k_with "ct rwith" => (
  (case k1 => k_asm)
  (case k2 => k_asm)
  (case k3 => k_in)
  (case k4 => k_asm)
  (case k5 => k_asm)
  (case kXB => assumption)
  (case kTB => assumption)
  (case kD => assumption)
  (case kK => first | exact rfl | assumption)
  (case kf => first | exact fun _ h => (nomatch h) | walk_at "ct facts")
  (case kd => ktr_room)
  (case ku => ktr_units)))
  (k_with "call ref" => (
  (with_reducible show wpAny _ _ (call (Value.ref 350) _ _) _ _ _)
  k_dflt (
  (refine' (Mine.t_gtR _ _ _ _ _ _ _ ?ht ?hv ?hm ?hM).tell ?k1 ?k2 ?k3 ?k4 ?k5 ?kXB ?kTB ?kD ?kK ?kf ?kd ?ku ?_)
  (case hv => first | assumption | omega)
  (case hm => omega)
  (case hM => omega)
  (case ht => decide +kernel)
  walk_at "ct rwith"
  intro e9 h9 tk9 G9 FG9 R9 U9)))
  (k_with "call ref" => (
  (with_reducible show wpAny _ _ (call (Value.ref 350) _ _) _ _ _)
  k_dflt (
  (refine' Mine.use_k (Mine.t_gt _ _ _ _ _ _ _ ?hg) ?k1 ?k2 ?k3 ?k4 ?k5 ?kK ?kf ?kd ?ku ?_)
  (case hg => first | assumption | omega)
  walk_at "ct with"
  intro h9 tk9 F9 N9
  (try k_sweep))))
  have hq9 : -2 ^ 41 < Int.fdiv (dt - time) 9 ∧ Int.fdiv (dt - time) 9 < 2 ^ 41 := by rw [Mine.fd _ (by omega)]; omega
  have hq10 : -2 ^ 41 < Int.fdiv (dt - time) 10 ∧ Int.fdiv (dt - time) 10 < 2 ^ 41 := by rw [Mine.fd _ (by omega)]; omega
  obtain ⟨hq1, hq2⟩ := hq9
  obtain ⟨hq3, hq4⟩ := hq10
  refine Mine.fill ?_
  k_fill
  intro _ _
  refine' Mine.tell_of ?ho ?hcd ?hb ?hl ?c1 ?c2 ?c3 ?c4 (by decide) ?_
  case ho => k_is
  case hcd => k_is
  case hb => (conv in (occs := *) Mine.fArgs _ => all_goals whnf); first | exact fun _ _ _ _ => BindsTo.of_eq rfl | exact fun h₀ s X k => binds_K (X.keeps k) rfl (by k_is) rfl rfl rfl
  case hl => exact locs rfl
  case c1 => exact rfl
  case c2 => exact rfl
  case c3 => exact rfl
  case c4 => decide
  intro _ _ _ _ _ _ _ _ _ _ _ _ _ _ _ _ _ _ _ _ _ _ _ _ _ _ _ _ _ _
  (conv in (occs := *) Mine.fBody _ => all_goals whnf)
  (conv in (occs := *) Mine.fScope _ => all_goals whnf)
  (try dsimp only)
  (try k_fold)
  refine Mine.gen_post fun Q9 hQ9 => ?_
  rename_i hfa hsm hd hu
  have hx := hfa _ (.head _)
  have hxd := hfa _ (.tail _ (.head _))
  dsimp only at hx hxd
  walk_at "ct steps"
  all_goals (walk_at "ct int")
  all_goals (first | exact Mine.st1 (by assumption) | exact Mine.st2 (by assumption))
set_option maxHeartbeats 8000000 in
theorem t_357n (w : World) (x d : Addr) (time weight place limit used dt : Int) (t1 t2 t3 t5 t6 t7 : Tok) (t4 t8 : Tok) (delay : Int) (h0 : 0 ≤ time) (h1 : dt < 2 ^ 40) (h2 : time < dt) (h3 : 0 ≤ place) (h4 : place < 2 ^ 27) (h5 : 0 ≤ weight) (h6 : 0 ≤ delay) (h7 : delay < 2 ^ 27)
   : Tell w 20 357 [.int delay t8, .ref x, .int dt t7] [(x, hdrObj 172 d (hdr172 time weight place (.bytes nineB t4) limit used t1 t2 t3 t5 t6)), (d, dictOf [] 0)] [] (RInt (stepV weight (2 - Int.fdiv (dt - time) 9) (mx 0 (place + 1 - delay)))) := by
  have hq9 : -2 ^ 41 < Int.fdiv (dt - time) 9 ∧ Int.fdiv (dt - time) 9 < 2 ^ 41 := by rw [Mine.fd _ (by omega)]; omega
  have hq10 : -2 ^ 41 < Int.fdiv (dt - time) 10 ∧ Int.fdiv (dt - time) 10 < 2 ^ 41 := by rw [Mine.fd _ (by omega)]; omega
  obtain ⟨hq1, hq2⟩ := hq9
  obtain ⟨hq3, hq4⟩ := hq10
  refine Mine.fill ?_
  k_fill
  intro _ _
  refine' Mine.tell_of ?ho ?hcd ?hb ?hl ?c1 ?c2 ?c3 ?c4 (by decide) ?_
  case ho => k_is
  case hcd => k_is
  case hb => (conv in (occs := *) Mine.fArgs _ => all_goals whnf); first | exact fun _ _ _ _ => BindsTo.of_eq rfl | exact fun h₀ s X k => binds_K (X.keeps k) rfl (by k_is) rfl rfl rfl
  case hl => exact locs rfl
  case c1 => exact rfl
  case c2 => exact rfl
  case c3 => exact rfl
  case c4 => decide
  intro _ _ _ _ _ _ _ _ _ _ _ _ _ _ _ _ _ _ _ _ _ _ _ _ _ _ _ _ _ _
  (conv in (occs := *) Mine.fBody _ => all_goals whnf)
  (conv in (occs := *) Mine.fScope _ => all_goals whnf)
  (try dsimp only)
  (try k_fold)
  refine Mine.gen_post fun Q9 hQ9 => ?_
  rename_i hfa hsm hd hu
  have hx := hfa _ (.head _)
  have hxd := hfa _ (.tail _ (.head _))
  dsimp only at hx hxd
  walk_at "ct steps"
  all_goals (walk_at "ct int")
  all_goals (first | exact Mine.st1 (by assumption) | exact Mine.st2 (by assumption))
noncomputable def AllNe (d : Addr) : List (Addr × Obj) → Prop
  | [] => True
  | p :: r => @Ne Nat p.1 d ∧ AllNe d r
theorem allNe_of {d : Addr} : ∀ {l : List (Addr × Obj)}, (∀ p ∈ l, p.1 ≠ d) → AllNe d l
  | [], _ => trivial
  | p :: _, h => ⟨h p (.head _), allNe_of fun q hq => h q (.tail _ hq)⟩
noncomputable abbrev RInts (vs : List Int) : Nws → Value → Prop := fun new r => ∃ l ws n, new = [(l, PySem.W.listOf (List.toArray ws) n)] ∧ r = .ref l ∧ IntsAre ws vs
theorem ends_ints {g : Heap} {s : Shared} {L' l : Addr} {h : Heap} {m' : Str → Option Value} {new : Nws} {ws : List Value} {n : Nat} {vs : List Int} {tk : Nat}
    (F : Fr g L' h m') (N : News g L' h new) (hm : (l, PySem.W.listOf (List.toArray ws) n) ∈ new) (hI : IntsAre ws vs) : Ends g s (RInts vs) (.ref l) { s with heap := h, toks := tk } :=
  ⟨L', m', new, h, tk, rfl, F, N, [(l, PySem.W.listOf (List.toArray ws) n)], fun q hq => by (rw [List.mem_singleton.mp hq]; exact hm), l, ws, n, rfl, rfl, hI⟩
theorem use_ints {w : World} {k : Nat} {f : Addr} {vs : List Value} {facts : Nws} {ys : List Int}
    {p : Program} {loose : List Str} {mean : ExcName → Option Value} {mg mb : Str → Option Value} {dp un : Nat} {gd : Option (List Code)} {cn : Str} {cs : Scope} {a : Addr} {ccd : Value} {cl : List (Str × Addr)} {outer : List Env} {A₀ : Around} {base h₀ : Heap} {L : Addr} {m : Str → Option Value} {news : Nws} {s : Shared} {Q E : Value → Shared → Prop}
    (C : Tell w k f vs facts [] (RInts ys)) (B : Below A₀ base outer h₀) (F : Fr h₀ L s.heap m) (X : (Mine.K w.params).In h₀) (N : News h₀ L s.heap news) (T : Top p loose mean mg mb h₀) (hk : cs.kind = .function)
    (hfa : ∀ q ∈ facts, q ∈ news ∨ h₀.get? q.1 = some q.2) (hd : dp + k < recursionLimit) (hu : un + 8 * k < cLine)
    (ret : ∀ l ws n h' tk', IntsAre ws ys → Fr h₀ L h' m → News h₀ L h' ((l, PySem.W.listOf (List.toArray ws) n) :: news) → AllNe l news → Q (.ref l) { s with heap := h', toks := tk' }) :
    wpAny (model pw w) (ktrTop dp un gd cn cs L a ccd cl outer) (call (.ref f) vs) Q E s :=
  C.tell B F X N T hk hfa (fun _ h => (nomatch h)) (fun _ _ h => (nomatch h)) hd hu fun r h' tk' new hP F' N' ne => by
    obtain ⟨l, ws, n, rfl, rfl, hI⟩ := hP
    rw [rest_nil] at N' ne
    exact ret l ws n h' tk' hI F' N' (allNe_of fun q hq => ne _ (.head _) q hq)
set_option maxHeartbeats 4000000 in
theorem t_delays (w : World) : Tell w 4 413 [] [] [] (RInts [3000000, 5000000, 9000000, 9700000]) := by
  k_with_none
  (k_with "ite" => first | with_reducible refine Mine.pite_ff ?_ | with_reducible refine Mine.pite_tt ?_ | with_reducible refine Mine.pite_nt ?_ | with_reducible refine Mine.pite_nf ?_ | with_reducible refine Mine.pite_t ?_ | with_reducible refine Mine.pite_f ?_)
  (k_with "eval Name" => (k_here; (with_reducible show wpAny _ _ (eval (Expr.Name _ _) (envOf _ _ _ _ _)) _ _ _); name_kind "globalImplicit"; name_is_builtin; (with_reducible rename Fr _ _ _ _ => kF); k_dflt (refine' Mine.nameB ?c1 ?c2 ?c3 kF ?k1 ?k2 ?k3 ?k4 ?k5 ?_; (case c1 => kernel_rfl); (case c2 => kernel_rfl); (case c3 => kernel_rfl); (case k1 => k_asm); (case k2 => k_asm); (case k3 => k_is); (case k4 => boot_by_name); (case k5 => decide); k_whole)))
  (k_with "eval Name" => (k_here; (with_reducible show wpAny _ _ (eval (Expr.Name _ _) (envOf _ _ _ _ _)) _ _ _); name_kind "globalImplicit"; (with_reducible rename Fr _ _ _ _ => kF); k_dflt (refine' Mine.nameK ?c1 ?c2 ?c3 kF ?k1 ?k2 ?k3 ?_; (case c1 => kernel_rfl); (case c2 => kernel_rfl); (case c3 => kernel_rfl); (case k1 => k_asm); (case k2 => k_asm); (case k3 => k_is); k_whole)))
  (k_with "eval Name" => (k_here; (with_reducible show wpAny _ _ (eval (Expr.Name _ _) (envOf _ _ _ _ _)) _ _ _); name_kind "local"; k_dflt (refine' Mine.nameL ?c1 ?c2 ?c3 ?k1 ?k2 ?_; (case c1 => kernel_rfl); (case c2 => kernel_rfl); (case c3 => kernel_rfl); (case k1 => k_asm); (case k2 => exact rfl); k_whole)))
  (k_with "callWith ref" => (k_here; k_dflt (first
  | (refine' callWith_K ?k1 ?k2 ?_; (case k1 => k_asm); (case k2 => k_is); k_whole)
  | (refine' callWith_KW ?k1 ?k2 ?k3 ?_; (case k1 => k_asm); (case k2 => k_is); (case k3 => exact rfl); k_whole))))
  (k_with "ct int" => (
  (try dsimp only)
  refine' Mine.ends_int ?e1 ?e2 ?_
  case e1 => k_asm
  case e2 => k_asm))
  (k_with "ct with" => (
  (case k1 => k_asm)
  (case k2 => k_asm)
  (case k3 => k_in)
  (case k4 => k_asm)
  (case k5 => k_asm)
  (case kK => first | exact rfl | assumption)
  (case kf => first | exact fun _ h => (nomatch h) | walk_at "ct facts")
  (case kd => ktr_room)
  (case ku => ktr_units)))
  (k_with "ct mul" => first | omega | (split <;> omega) | (simp only [] at *; omega) | (constructor <;> omega))
  (k_with "binaryOp Mult int int" => ((first
  | (refine mul_int ?_ (PySem.IntMulOk.of_right (PySem.intBits_le_64 (by walk_at "ct mul") (by walk_at "ct mul"))))
  | (refine mul_int ?_ (PySem.IntMulOk.of_left (PySem.intBits_le_64 (by walk_at "ct mul") (by walk_at "ct mul"))))); (try dsimp only)))
  (k_with "binaryOp FloorDiv int int" => ((with_reducible refine Mine.fdivQ (by first | omega | (simp only [] at *; omega)) (by first | omega | (simp only [] at *; omega)) ?_); (try dsimp only)))
  (k_with "binaryOp Mod int int" => ((with_reducible refine Mine.fmodQ (by first | omega | (simp only [] at *; omega)) ?_); (try dsimp only)))
  (k_with "call ref" => ((with_reducible show wpAny _ _ (call (Value.ref 427) _) _ _ _); k_dflt ((refine' Mine.use_int (Mine.t_frontier _ _ _ _ _ _ _ ?p0 ?p1) ?k1 ?k2 ?k3 ?k4 ?k5 ?kK ?kf ?kd ?ku ?_); walk_at "ct with"; (case p0 => first | assumption | omega); (case p1 => first | assumption | omega); intro t9 h9 tk9 F9 N9; (try k_sweep))))
  (k_with "call ref" => ((with_reducible show wpAny _ _ (call (Value.ref 434) _) _ _ _); k_dflt ((refine' Mine.use_int (Mine.t_stepped _ _ _ _ _ _ _ ?p0 ?p1 ?p2 ?p3) ?k1 ?k2 ?k3 ?k4 ?k5 ?kK ?kf ?kd ?ku ?_); walk_at "ct with"; (case p0 => walk_at "ct dp"); (case p1 => walk_at "ct dp");  (case p2 => walk_at "ct dp"); (case p3 => walk_at "ct dp"); intro t9 h9 tk9 F9 N9; (try k_sweep))))
  (k_with "ct dp" => first | assumption | omega | (split <;> omega))
  refine Mine.fill ?_
  k_fill
  intro _ _
  refine' Mine.tell_of ?ho ?hcd ?hb ?hl ?c1 ?c2 ?c3 ?c4 (by decide) ?_
  case ho => k_is
  case hcd => k_is
  case hb => (conv in (occs := *) Mine.fArgs _ => all_goals whnf); first | exact fun _ _ _ _ => BindsTo.of_eq rfl | exact fun h₀ s X k => binds_K (X.keeps k) rfl (by k_is) rfl rfl rfl
  case hl => exact locs rfl
  case c1 => exact rfl
  case c2 => exact rfl
  case c3 => exact rfl
  case c4 => decide
  intro _ _ _ _ _ _ _ _ _ _ _ _ _ _ _ _ _ _ _ _ _ _ _ _ _ _ _ _ _ _
  (conv in (occs := *) Mine.fBody _ => all_goals whnf)
  (conv in (occs := *) Mine.fScope _ => all_goals whnf)
  (try dsimp only)
  (try k_fold)
  k_steps
  all_goals (try dsimp only)
  all_goals exact ends_ints (by k_asm) (by k_asm) (.head _) (by repeat constructor)
noncomputable abbrev dueV (t went place : Int) (uncles : Bool) : List Int := [frontV t went place, stepV t (1 - Int.fdiv went 10) place, stepV t ((if uncles then 2 else 1) - Int.fdiv went 9) (mx 0 (place - 3000000)), stepV t ((if uncles then 2 else 1) - Int.fdiv went 9) (mx 0 (place - 5000000)), stepV t ((if uncles then 2 else 1) - Int.fdiv went 9) (mx 0 (place - 9000000)), stepV t ((if uncles then 2 else 1) - Int.fdiv went 9) (mx 0 (place - 9700000))]
theorem use_delays {w : World} 
    {p : Program} {loose : List Str} {mean : ExcName → Option Value} {mg mb : Str → Option Value} {dp un : Nat} {gd : Option (List Code)} {cn : Str} {cs : Scope} {a : Addr} {ccd : Value} {cl : List (Str × Addr)} {outer : List Env} {A₀ : Around} {base h₀ : Heap} {L : Addr} {m : Str → Option Value} {news : Nws} {s : Shared} {Q E : Value → Shared → Prop}
    (B : Below A₀ base outer h₀) (F : Fr h₀ L s.heap m) (X : (Mine.K w.params).In h₀) (N : News h₀ L s.heap news) (T : Top p loose mean mg mb h₀) (hk : cs.kind = .function)
    (hd : dp + 4 < recursionLimit) (hu : un + 8 * 4 < cLine)
    (ret : ∀ l t1 t2 t3 t4 n h' tk', Fr h₀ L h' m → News h₀ L h' ((l, PySem.W.listOf #[.int 3000000 t1, .int 5000000 t2, .int 9000000 t3, .int 9700000 t4] n) :: news) → AllNe l news → Q (.ref l) { s with heap := h', toks := tk' }) :
    wpAny (model pw w) (ktrTop dp un gd cn cs L a ccd cl outer) (call (.ref 413) []) Q E s :=
  use_ints (t_delays w) B F X N T hk (fun _ h => nomatch h) hd hu fun l ws n h' tk' hI F' N' ne => by
    cases hI with | cons _ t1 hI => cases hI with | cons _ t2 hI => cases hI with | cons _ t3 hI => cases hI with | cons _ t4 hI => cases hI with | nil =>
    exact ret _ _ _ _ _ _ _ _ F' N' ne
theorem ints_cons {a b : Int} {t : Tok} {vs : List Value} {ns : List Int} (e : a = b) (h : IntsAre vs ns) : IntsAre (.int a t :: vs) (b :: ns) := by
  subst e; exact .cons _ _ h
theorem due_times {u : Bool} {r x t p : Int} (h : u = true ∧ r = 1 - x + 1 ∨ u = false ∧ r = 1 - x) : stepV t r p = stepV t ((if u then 2 else 1) - x) p := by
  rcases h with ⟨rfl, rfl⟩ | ⟨rfl, rfl⟩
  · rw [show (1 - x + 1) = (if true = true then 2 else 1) - x by simp; omega]
  · rfl
theorem fd_small {x d : Int} (h0 : -2 ^ 30 < x) (h1 : x < 2 ^ 30) (hd : 1 < d) : -2 ^ 31 < Int.fdiv x d ∧ Int.fdiv x d < 2 ^ 31 := by
  rw [Int.fdiv_eq_ediv_of_nonneg _ (by omega)]
  have a := Int.ediv_mul_le x (show d ≠ 0 by omega)
  have b := Int.lt_ediv_add_one_mul_self x (show 0 < d by omega)
  constructor
  · refine Int.lt_of_not_ge fun h => ?_
    have : (x / d + 1) * d ≤ (x / d + 1) * 1 := Int.mul_le_mul_of_nonpos_left (by omega) (by omega)
    omega
  · refine Int.lt_of_not_ge fun h => ?_
    have : (x / d) * 1 ≤ (x / d) * d := Int.mul_le_mul_of_nonneg_left (by omega) (by omega)
    omega
set_option maxHeartbeats 4000000 in
theorem t_diff (w : World) (t went place : Int) (uncles : Bool) (t1 t2 t3 : Tok) (h0 : 0 ≤ place) (h1 : place < 2 ^ 40) (hw0 : -2 ^ 30 < went) (hw1 : went < 2 ^ 30)
   : Tell w 30 441 [.int t t1, .int went t2, .int place t3, .bool uncles] [] [] (RInts (dueV t went place uncles)) := by
  (k_with "call ref" => (
  (with_reducible show wpAny _ _ (call (Value.ref 413) _) _ _ _)
  k_dflt (
  (refine' Mine.use_delays ?k1 ?k2 ?k3 ?k4 ?k5 ?kK ?kd ?ku ?_)
  (case k1 => k_asm)
  (case k2 => k_asm)
  (case k3 => k_in)
  (case k4 => k_asm)
  (case k5 => k_asm)
  (case kK => first | exact rfl | assumption)
  (case kd => ktr_room)
  (case ku => ktr_units)
  intro l9 ta9 tb9 tc9 td9 n9 h9 tk9 F9 N9 ne9
  (try simp only [Mine.AllNe, and_true] at ne9)
  (try k_sweep))))
  obtain ⟨hq1, hq2⟩ := fd_small hw0 hw1 (show (1 : Int) < 10 by decide)
  obtain ⟨hq3, hq4⟩ := fd_small hw0 hw1 (show (1 : Int) < 9 by decide)
  refine Mine.fill ?_
  k_fill
  intro _ _
  refine' Mine.tell_of ?ho ?hcd ?hb ?hl ?c1 ?c2 ?c3 ?c4 (by decide) ?_
  case ho => k_is
  case hcd => k_is
  case hb => (conv in (occs := *) Mine.fArgs _ => all_goals whnf); first | exact fun _ _ _ _ => BindsTo.of_eq rfl | exact fun h₀ s X k => binds_K (X.keeps k) rfl (by k_is) rfl rfl rfl
  case hl => exact locs rfl
  case c1 => exact rfl
  case c2 => exact rfl
  case c3 => exact rfl
  case c4 => decide
  intro _ _ _ _ _ _ _ _ _ _ _ _ _ _ _ _ _ _ _ _ _ _ _ _ _ _ _ _ _ _
  (conv in (occs := *) Mine.fBody _ => all_goals whnf)
  (conv in (occs := *) Mine.fScope _ => all_goals whnf)
  (try dsimp only)
  (try k_fold)
  k_steps
  all_goals (try dsimp only)
  all_goals exact ends_ints (by k_asm) (by k_asm) (by k_mem) (by repeat' (first | exact IntsAre.nil | refine ints_cons ?_ ?_ | rfl | exact due_times (by assumption)))
theorem callWithK0 {M : Model} {A : Around} {E : Value → Shared → Prop} {s : Shared} {K : Frag} {env : Env} {pos : Pos} {f : Value} {first : List Value} {Q : Value → Shared → Prop} {h₀ : Heap} {L : Addr} {m : Str → Option Value} (F : Fr h₀ L s.heap m) (X : K.In h₀) (hk : keepIn K f = true) (h : wpAny M A (call f (first ++ [])) Q E s) : wpAny M A (callWith pos f first (backTo pos (starEach [] env)) []) Q E s :=
  callWith_K0 (X.keeps F.keep) hk h
theorem facts_hdr {news : Nws} {h₀ : Heap} {x C d : Addr} {vs : List Value} (h : HdrAt news h₀ x C d vs) : ∀ q ∈ ([(x, hdrObj C d vs), (d, dictOf [] 0)] : Nws), q ∈ news ∨ h₀.get? q.1 = some q.2 := by
  intro q hq
  rcases List.mem_cons.mp hq with e | hq
  · rw [e]; exact h.1
  · rcases List.mem_cons.mp hq with e | hq
    · rw [e]; exact h.2
    · exact absurd hq (by simp)
noncomputable abbrev ub (u : Bool) : Array UInt8 := if u then nineB else emptyB
theorem t_357 (w : World) (uncles : Bool) (x d : Addr) (time weight place limit used dt : Int) (t1 t2 t3 t5 t6 t7 : Tok) (t4 t8 : Tok) (delay : Int) (h0 : 0 ≤ time) (h1 : dt < 2 ^ 40) (h2 : time < dt) (h3 : 0 ≤ place) (h4 : place < 2 ^ 27) (h5 : 0 ≤ weight) (h6 : 0 ≤ delay) (h7 : delay < 2 ^ 27)
   : Tell w 20 357 [.int delay t8, .ref x, .int dt t7] [(x, hdrObj 172 d (hdr172 time weight place (.bytes (ub uncles) t4) limit used t1 t2 t3 t5 t6)), (d, dictOf [] 0)] [] (RInt (stepV weight ((if uncles then 2 else 1) - Int.fdiv (dt - time) 9) (mx 0 (place + 1 - delay)))) := by
  cases uncles
  · exact t_357e w x d time weight place limit used dt t1 t2 t3 t5 t6 t7 t4 t8 delay h0 h1 h2 h3 h4 h5 h6 h7
  · exact t_357n w x d time weight place limit used dt t1 t2 t3 t5 t6 t7 t4 t8 delay h0 h1 h2 h3 h4 h5 h6 h7
end Mine
local macro_rules | `(tactic| k_ne) => `(tactic| (refine neN ?_; (try dsimp only); first | assumption | exact Ne.symm (by assumption) | exact Nat.ne_of_lt (by assumption) | exact Nat.ne_of_gt (by assumption)))
namespace Mine
set_option maxHeartbeats 8000000 in
theorem t_told (w : World) (uncles : Bool) (x d : Addr) (time weight place limit used dt : Int) (t1 t2 t3 t4 t5 t6 t7 : Tok) (h0 : 0 ≤ time) (h1 : dt < 2 ^ 40) (h2 : time < dt) (h3 : 0 ≤ place) (h4 : place < 2 ^ 27) (h5 : 0 ≤ weight)
   : Tell w 40 448 [.ref x, .int dt t7] [(x, hdrObj 172 d (hdr172 time weight place (.bytes (ub uncles) t4) limit used t1 t2 t3 t5 t6)), (d, dictOf [] 0)] [] (RInts (dueV weight (dt - time) (place + 1) uncles)) := by
  k_with_none
  (k_with "ite" => first | with_reducible refine Mine.pite_ff ?_ | with_reducible refine Mine.pite_tt ?_ | with_reducible refine Mine.pite_nt ?_ | with_reducible refine Mine.pite_nf ?_ | with_reducible refine Mine.pite_t ?_ | with_reducible refine Mine.pite_f ?_)
  (k_with "execs cons" => first | (k_here; k_gentoks) | ((with_reducible refine Mine.execs_gen ?_); intro Q9 hQ9))
  (k_with "execs cons" => ((with_reducible show wpAny _ _ (execs _ _) (UnrPost _ _ _ _ _ _ _) _ _); (refine Mine.gen_post ?_); intro Q9 hQ9))
  (k_with "execs cons" => ((with_reducible show wpAny _ _ (execs _ _) (UnrPostW _ _ _ _ _ _) _ _); (refine Mine.gen_post ?_); intro Q9 hQ9))
  (k_with "callWith ref" => (k_here; (with_reducible show wpAny _ _ (callWith _ _ _ (backTo _ (starEach [] _)) []) _ _ _); k_dflt (refine' Mine.callWithK0 ?kF ?k1 ?k2 ?_; (case kF => k_asm); (case k1 => k_asm); (case k2 => k_is); k_whole)))
  (k_with "eval Name" => (k_here; (with_reducible show wpAny _ _ (eval (Expr.Name _ _) (envOf _ _ _ _ _)) _ _ _); name_kind "globalImplicit"; name_is_builtin; (with_reducible rename Fr _ _ _ _ => kF); k_dflt (refine' Mine.nameB ?c1 ?c2 ?c3 kF ?k1 ?k2 ?k3 ?k4 ?k5 ?_; (case c1 => kernel_rfl); (case c2 => kernel_rfl); (case c3 => kernel_rfl); (case k1 => k_asm); (case k2 => k_asm); (case k3 => k_is); (case k4 => boot_by_name); (case k5 => decide); k_whole)))
  (k_with "eval Name" => (k_here; (with_reducible show wpAny _ _ (eval (Expr.Name _ _) (envOf _ _ _ _ _)) _ _ _); name_kind "globalImplicit"; (with_reducible rename Fr _ _ _ _ => kF); k_dflt (refine' Mine.nameK ?c1 ?c2 ?c3 kF ?k1 ?k2 ?k3 ?_; (case c1 => kernel_rfl); (case c2 => kernel_rfl); (case c3 => kernel_rfl); (case k1 => k_asm); (case k2 => k_asm); (case k3 => k_is); k_whole)))
  (k_with "eval Name" => (k_here; (with_reducible show wpAny _ _ (eval (Expr.Name _ _) (envOf _ _ _ _ _)) _ _ _); name_kind "local"; k_dflt (refine' Mine.nameL ?c1 ?c2 ?c3 ?k1 ?k2 ?_; (case c1 => kernel_rfl); (case c2 => kernel_rfl); (case c3 => kernel_rfl); (case k1 => k_asm); (case k2 => exact rfl); k_whole)))
  (k_with "callWith ref" => (k_here; k_dflt (first
  | (refine' callWith_K ?k1 ?k2 ?_; (case k1 => k_asm); (case k2 => k_is); k_whole)
  | (refine' callWith_KW ?k1 ?k2 ?k3 ?_; (case k1 => k_asm); (case k2 => k_is); (case k3 => exact rfl); k_whole))))
  (k_with "ct int" => (
  (try dsimp only)
  refine' Mine.ends_int ?e1 ?e2 ?_
  case e1 => k_asm
  case e2 => k_asm))
  (k_with "ct with" => (
  (case k1 => k_asm)
  (case k2 => k_asm)
  (case k3 => k_in)
  (case k4 => k_asm)
  (case k5 => k_asm)
  (case kK => first | exact rfl | assumption)
  (case kf => first | exact fun _ h => (nomatch h) | walk_at "ct facts")
  (case kd => ktr_room)
  (case ku => ktr_units)))
  (k_with "ct mul" => first | omega | (split <;> omega) | (simp only [] at *; omega) | (constructor <;> omega))
  (k_with "binaryOp Mult int int" => ((first
  | (refine mul_int ?_ (PySem.IntMulOk.of_right (PySem.intBits_le_64 (by walk_at "ct mul") (by walk_at "ct mul"))))
  | (refine mul_int ?_ (PySem.IntMulOk.of_left (PySem.intBits_le_64 (by walk_at "ct mul") (by walk_at "ct mul"))))); (try dsimp only)))
  (k_with "binaryOp FloorDiv int int" => ((with_reducible refine Mine.fdivQ (by first | omega | (simp only [] at *; omega)) (by first | omega | (simp only [] at *; omega)) ?_); (try dsimp only)))
  (k_with "binaryOp Mod int int" => ((with_reducible refine Mine.fmodQ (by first | omega | (simp only [] at *; omega)) ?_); (try dsimp only)))
  (k_with "call builtin:issubclass" => (k_here; k_dflt ((refine' Mine.issub_hdr ?F ?X ?c ?m ?_; (case F => k_asm); (case X => k_asm); (case c => first | assumption | k_is); (case m => first | assumption | k_is)))))
  (k_with "call builtin:tuple.__getitem__" => (k_here; k_dflt ((refine' Mine.call_tupitem ?F ?X ?x ?dd ?m ?l ?h ?k ?y ?_; (case F => k_asm); (case X => k_asm); (case x => assumption); (case dd => assumption); (case m => first | assumption | k_is); (case l => first | assumption | decide); (case h => first | assumption | decide); (case k => first | assumption | rfl); (case y => first | assumption | rfl)))))
  (k_with "getMethod" => (k_here; (with_reducible show wpAny _ _ (getMethod (Value.type _) _ _) _ _ _); k_dflt ((refine' method_type ?F ?X ?t ?s ?e ?h ?_; (case F => k_asm); (case X => k_asm); (case t => first | rfl | kernel_rfl); (case s => decide +kernel); (case e => k_is); (case h => k_handed)))))
  (k_with "call builtin:tuple.__new__" => (k_here; k_dflt ((refine' Mine.call_tupnew ?F ?N ?X ?Y ?c ?m ?i ?t ?z ?_; (case F => k_asm); (case N => k_asm); (case X => k_asm); (case Y => assumption); (case c => k_is); (case m => k_is); (case i => k_is); (case t => k_mem); (case z => simp)); intro x' d' h' F' N' l1 l2; (try k_lt l1); (try k_lt2 l2); (try k_sweep))))
  (k_with "getAttr ref" => (
  k_here
  k_dflt (
  (refine' Mine.hdr_miss ?k2 ?k3 ?k4 ?gx ?gg ?gk ?gc ?ga ?gm ?hA ?hC ?hn ?hl ?hz ?cp ?_)
  (case k2 => k_asm)
  (case k3 => k_in)
  (case k4 => k_asm)
  (case gx => first | exact ⟨Or.inr (by assumption), Or.inr (by assumption)⟩ | exact ⟨Or.inl (by k_mem), Or.inl (by k_mem)⟩)
  (case gg => k_is)
  (case gk => k_is)
  (case gc => k_is)
  (case ga => k_is)
  (case gm => k_is)
  (case hA => exact rfl)
  (case hC => k_is)
  (case hn => decide +kernel)
  (case hl => decide +kernel)
  (case hz => decide +kernel)
  (case cp => decide +kernel)
  intro h9 tk9 e9 NX9)))
  (k_with "getAttr ref" => (
  k_here
  k_dflt (
  (refine' Mine.hdr_attr ?k1 ?k2 ?k3 ?k4 ?k5 ?kK ?gx ?gg ?gg2 ?gc ?gm ?ga ?gs ?gt ?gp ?gd ?gl ?gh ?gi ?gv ?go ?kd ?ku ?_)
  (case k1 => k_asm)
  (case k2 => k_asm)
  (case k3 => k_in)
  (case k4 => k_asm)
  (case k5 => k_asm)
  (case kK => first | exact rfl | assumption)
  (case gx => first | exact ⟨Or.inr (by assumption), Or.inr (by assumption)⟩ | exact ⟨Or.inl (by k_mem), Or.inl (by k_mem)⟩)
  (case gg => k_is)
  (case gg2 => k_is)
  (case gc => k_is)
  (case gm => k_is)
  (case ga => k_is)
  (case gs => k_is)
  (case gt => k_is)
  (case gp => k_is)
  (case gd => k_is)
  (case gl => decide)
  (case gh => decide)
  (case gi => rfl)
  (case gv => rfl)
  (case go => rfl)
  (case kd => ktr_room)
  (case ku => ktr_units)
  intro h9 tk9 F9 N9
  (try k_sweep))))
  (k_with "ct intx" => (
  (try dsimp only)
  (show Mine.EndsX _ _ _ _ _ _)
  refine' Mine.endsX_int ?e0 ?e1 ?e2 ?e3
  case e0 => first | assumption | exact KtsTurn.refl
  case e1 => k_asm
  case e2 => k_asm))
  (k_with "noteFrame ref" => (
  k_here
  (rename Heap.NewExcOf _ _ _ _ => nxX)
  k_dflt (
  (refine' Mine.own_N0 (T' := "AttributeError") ?hx ?F ?N ?K ?XB ?TB ?D ?T0 ?ex PyProof.Rows.Boot.«AttributeError» ?hn Mine.exc_attr Mine.notTuple_attr Mine.sub_attr ?_; (case hx => exact nxX); (case F => k_asm); (case N => k_asm); (case K => assumption); (case XB => assumption); (case TB => assumption); (case D => assumption); (case T0 => first | assumption | exact KtsTurn.refl); (case ex => k_is); (case hn => decide); k_whole)
  intro h' g' T' F' N' K' X' P' D'; (try k_lift K'); (try k_sweep))))
  (k_with "And" => (
  (with_reducible show PySem.Str.length _ ≤ sizeLine ∧ _)
  (with_reducible refine' Mine.fits_z ?fa ?fb ?_)
  (case fa => repeat' (first | (with_reducible refine' Mine.fits_add' ?_ ?_) | ((show _ ≤ 1000); (first | assumption | decide +kernel | (with_reducible exact Mine.len_int' (by omega) (by omega))))))
  (case fb => decide +kernel)))
  (k_with "joinParts" => (
  (with_reducible show wpAny _ _ (joinParts _ (evalEach [] _)) _ _ _)
  (with_reducible refine' Mine.joinNil ?fa ?fb ?_)
  (case fa => repeat' (first | (with_reducible refine' Mine.fits_add' ?_ ?_) | ((show _ ≤ 1000); (first | assumption | decide +kernel | (with_reducible exact Mine.len_int' (by omega) (by omega))))))
  (case fb => decide +kernel)))
  (k_with "ct steps" => repeat' (first | (k_unfold; (try dsimp only)) | walk1 | (dsimp only; walk1) | (leave1; walk_say "STEP leave1"; try dsimp only) | (refine Mine.Gen.to (by with_reducible assumption) _ _ ?_; try dsimp only) | fail "no step"))
  (k_with "ct raised" => first
  | exact ⟨_, _, _, rfl, rfl, by assumption, by assumption⟩
  | exact ⟨_, _, _, rfl, rfl, RaisedS.toSN (by assumption), by assumption⟩)
  (k_with "ct ne" => repeat ((with_reducible rename (@Ne Nat _ _ ∧ _) => hx9); obtain ⟨hy9, hz9⟩ := hx9))
  (k_with "call ref" => (
  (with_reducible show wpAny _ _ (call (Value.ref 413) _) _ _ _)
  k_dflt (
  (refine' Mine.use_delays ?k1 ?k2 ?k3 ?k4 ?k5 ?kK ?kd ?ku ?_)
  (case k1 => k_asm)
  (case k2 => k_asm)
  (case k3 => k_in)
  (case k4 => k_asm)
  (case k5 => k_asm)
  (case kK => first | exact rfl | assumption)
  (case kd => ktr_room)
  (case ku => ktr_units)
  intro l9 ta9 tb9 tc9 td9 n9 h9 tk9 F9 N9 ne9
  (try simp only [Mine.AllNe, and_true] at ne9)
  walk_at "ct ne"
  (try k_sweep))))
  (k_with "ct with2" => (
  (case k1 => k_asm)
  (case k2 => k_asm)
  (case k3 => k_in)
  (case k4 => k_asm)
  (case k5 => k_asm)
  (case kK => first | exact rfl | assumption)
  (case kf => refine' Mine.facts_hdr ?gx; (case gx => first | exact ⟨Or.inr (by assumption), Or.inr (by assumption)⟩ | exact ⟨Or.inl (by k_mem), Or.inl (by k_mem)⟩))
  (case kd => ktr_room)
  (case ku => ktr_units)))
  (k_with "call ref" => ((with_reducible show wpAny _ _ (call (Value.ref 371) _) _ _ _); k_dflt ((refine' Mine.use_int (Mine.t_371 _ _ _ _ _ _ _ _ _ _ _ _ _ _ _ _ ?p0 ?p1 ?p2 ?p3 ?p4 ?p5) ?k1 ?k2 ?k3 ?k4 ?k5 ?kK ?kf ?kd ?ku ?_); walk_at "ct with2"; (case p0 => assumption); (case p1 => assumption); (case p2 => assumption); (case p3 => assumption); (case p4 => assumption); (case p5 => assumption); intro t9 h9 tk9 F9 N9; (try k_sweep))))
  (k_with "call ref" => ((with_reducible show wpAny _ _ (call (Value.ref 378) _) _ _ _); k_dflt ((refine' Mine.use_int (Mine.t_378 _ _ _ _ _ _ _ _ _ _ _ _ _ _ _ _ ?p0 ?p1 ?p2 ?p3 ?p4 ?p5) ?k1 ?k2 ?k3 ?k4 ?k5 ?kK ?kf ?kd ?ku ?_); walk_at "ct with2"; (case p0 => assumption); (case p1 => assumption); (case p2 => assumption); (case p3 => assumption); (case p4 => assumption); (case p5 => assumption); intro t9 h9 tk9 F9 N9; (try k_sweep))))
  (k_with "call ref" => ((with_reducible show wpAny _ _ (call (Value.ref 357) _) _ _ _); k_dflt ((refine' Mine.use_int (Mine.t_357 _ _ _ _ _ _ _ _ _ _ _ _ _ _ _ _ _ _ _ ?p0 ?p1 ?p2 ?p3 ?p4 ?p5 ?p6 ?p7) ?k1 ?k2 ?k3 ?k4 ?k5 ?kK ?kf ?kd ?ku ?_; walk_at "ct with2"); (case p0 => assumption); (case p1 => assumption); (case p2 => assumption); (case p3 => assumption); (case p4 => assumption); (case p5 => assumption); (case p6 => decide); (case p7 => decide); intro t9 h9 tk9 F9 N9; (try k_sweep))))
  refine Mine.fill ?_
  k_fill
  intro _ _
  refine' Mine.tell_of ?ho ?hcd ?hb ?hl ?c1 ?c2 ?c3 ?c4 (by decide) ?_
  case ho => k_is
  case hcd => k_is
  case hb => (conv in (occs := *) Mine.fArgs _ => all_goals whnf); first | exact fun _ _ _ _ => BindsTo.of_eq rfl | exact fun h₀ s X k => binds_K (X.keeps k) rfl (by k_is) rfl rfl rfl
  case hl => exact locs rfl
  case c1 => exact rfl
  case c2 => exact rfl
  case c3 => exact rfl
  case c4 => decide
  intro _ _ _ _ _ _ _ _ _ _ _ _ _ _ _ _ _ _ _ _ _ _ _ _ _ _ _ _ _ _
  (conv in (occs := *) Mine.fBody _ => all_goals whnf)
  (conv in (occs := *) Mine.fScope _ => all_goals whnf)
  (try dsimp only)
  (try k_fold)
  refine Mine.gen_post fun Q9 hQ9 => ?_
  rename_i hfa hsm hd hu
  have hx := hfa _ (.head _)
  have hxd := hfa _ (.tail _ (.head _))
  dsimp only at hx hxd
  k_steps
  all_goals (try dsimp only)
  all_goals exact ends_ints (by k_asm) (by k_asm) (by k_mem) (by repeat' (first | exact IntsAre.nil | refine ints_cons ?_ ?_ | rfl))
/-- a for over a written range, whose turns may turn the frames' objects: Gd says which grounds may follow -/
noncomputable def EndT (Gd : Heap → Prop) (L : Addr) (s₁ : Shared) (I : Addr) (it : Obj) (rest : (Str → Option Value) → Nws → Prop) (s₂ : Shared) : Prop :=
  ∃ g h' tk m' news', Gd g ∧ s₂ = { s₁ with heap := h', toks := tk } ∧ Fr g L h' m' ∧ News g L h' ((I, it) :: news') ∧ (∀ p ∈ news', p.1 ≠ I) ∧ rest m' news'
noncomputable def PostT (Gd : Heap → Prop) (L : Addr) (s₁ : Shared) (I : Addr) (it : Obj) (rest : (Str → Option Value) → Nws → Prop) (Q : Flow → Shared → Prop) (f : Flow) (s₂ : Shared) : Prop :=
  match f with
  | .ret v => Q (.ret v) s₂
  | .brk => Q .next s₂
  | _ => EndT Gd L s₁ I it rest s₂
noncomputable def RestT (prog : Program) (w : World) (A : Around) (E : Value → Shared → Prop) (Gd : Heap → Prop) (env : Env) (x : Str) (body : List Stmt) (Q : Flow → Shared → Prop) (s : Shared) (I : Addr) (n : Nat) : Nat → Nat → (Str → Option Value) → Nws → Prop
  | 0, _, m, news => ∀ g h tk, Gd g → Fr g env.locals h m → News g env.locals h news → Q .next { s with heap := h, toks := tk }
  | k + 1, i, m, news => ∀ g t h tk, Gd g → Fr g env.locals h (fun y => if y = x then some (.int (i : Int) t) else m y) →
      News g env.locals h ((I, itR ((i + 1 : Nat) : Int) ((n : Int) - ((i + 1 : Nat) : Int))) :: news) →
      wpAny (model prog w) A (execs body env) (PostT Gd env.locals { s with heap := h, toks := tk } I (itR ((i + 1 : Nat) : Int) ((n : Int) - ((i + 1 : Nat) : Int))) (RestT prog w A E Gd env x body Q s I n k (i + 1)) Q) E { s with heap := h, toks := tk }
noncomputable def LoopT (prog : Program) (w : World) (A : Around) (Gd : Heap → Prop) (env : Env) (x : Str) (body : List Stmt) (Q : Flow → Shared → Prop) (E : Value → Shared → Prop) (it : Value) (s : Shared) : Prop :=
  ∃ (I : Addr) (n : Nat) (m : Str → Option Value) (news : Nws) (g : Heap), it = .ref I ∧ A.handled = none ∧ Gd g ∧ Fr g env.locals s.heap m ∧ News g env.locals s.heap ((I, itR 0 (n : Int)) :: news) ∧ (∀ p ∈ news, p.1 ≠ I) ∧ RestT prog w A E Gd env x body Q s I n n 0 m news
theorem for_T {prog : Program} {w : World} {A : Around} {E : Value → Shared → Prop} {s : Shared} {env : Env} {x : Str} {px pos : Pos} {iter : Expr} {body : List Stmt} {Q : Flow → Shared → Prop} (Gd : Heap → Prop) (hx : env.kindOf x = some .local)
    (hp : (env.scope.kind == .class || (env.scope.kind == .module && env.locals != env.globals)) = false)
    (h : wpAny (model prog w) A (eval iter env) (fun xv s₁ => wpAny (model prog w) A (pyIter xv) (fun it s₂ => LoopT prog w A Gd env x body Q E it s₂) E s₁) E s)
    (hs : ∀ x, foldedSetIterable iter env x = pure x := by intro _; rfl)
    (hE : PassesOwn (model prog w) A env E := by passes_own) :
    wpAny (model prog w) A (exec (.For (.Name x px) iter body [] pos) env) Q E s := by
  refine wpAny_For (wpAny_mono h (fun xv s₁ h₁ => wpAny_mono h₁ (fun it s₂ h₂ => ?_) fun _ _ e => e) fun _ _ e => e) hs
  obtain ⟨I, n, m, news, g, rfl, hh, hG, F, N, off, hR⟩ := h₂
  have W := Walks.range (prog := prog) (w := w) hh I 0 1 n
  refine codeAny_forLoop
    (fun k s' => ∃ g h tk m news i, s' = { s₂ with heap := h, toks := tk } ∧ Gd g ∧ Fr g env.locals h m ∧ News g env.locals h ((I, itR (i : Nat) ((n : Int) - (i : Nat))) :: news) ∧ (∀ p ∈ news, p.1 ≠ I) ∧ RestT prog w A E Gd env x body Q s₂ I n (n - i) i m news ∧ i ≤ n ∧ k = n + 1 - i) ?_ (n + 1)
    ⟨g, s₂.heap, s₂.toks, m, news, 0, rfl, hG, F, by simpa using N, off, hR, Nat.zero_le _, rfl⟩
  rintro k s' ⟨g', h', tk', m', news', i, rfl, hG', F', N', off', hR', hi, rfl⟩
  have hI := (N' _ (.head _)).1
  have hIL : I ≠ env.locals := (N' _ (.head _)).2.1
  have hIg : g'.get? I = none := (N' _ (.head _)).2.2
  have st : IsRangeIter h' I (0 + (i : Nat) * 1) ((n : Int) - (i : Nat)) 1 := by
    show h'.get? I = _
    rw [hI]
    simp [itR]
  have next : ∀ h₁ : Heap, (∀ b o, b ∉ [I] → h'.get? b = some o → h₁.get? b = some o) → Fr g' env.locals h₁ m' ∧ News g' env.locals h₁ news' := fun h₁ hk₁ =>
    ⟨⟨F'.ns.at' fun o e => hk₁ _ o (by simpa using Ne.symm hIL) e, fun b o e => hk₁ b o (fun q => by rw [List.mem_singleton.mp q, hIg] at e; cases e) (F'.keep b o e), F'.above⟩, fun p hp => ⟨hk₁ _ _ (by simpa using off' p hp) (N' p (.tail _ hp)).1, (N' p (.tail _ hp)).2⟩⟩
  by_cases hlt : i < n
  · refine W.item i _ _ _ hlt st fun v h₁ tk₁ hP hst₁ hk₁ => ?_
    obtain ⟨t, rfl⟩ := hP
    obtain ⟨F₁, N₁⟩ := next h₁ hk₁
    refine wpAny_assign_Name (wpAny_storeName_local hx F₁.ns (fun h₂ hn₂ hs₂ => ?_) hp)
    have F₂ := F₁.set hn₂ hs₂
    have e1 : (0 + (i : Int) * 1) = (i : Int) := by omega
    rw [e1] at F₂
    have hI₂ : h₂.get? I = some (itR ((i + 1 : Nat) : Int) ((n : Int) - ((i + 1 : Nat) : Int))) := by
      have q : h₁.get? I = _ := hst₁
      rw [hs₂.2 I hIL, q]
      simp [itR]
    have N₂ : News g' env.locals h₂ ((I, itR ((i + 1 : Nat) : Int) ((n : Int) - ((i + 1 : Nat) : Int))) :: news') := fun p hp => by
      rcases List.mem_cons.mp hp with rfl | hp
      · exact ⟨hI₂, hIL, hIg⟩
      · exact (N₁.set hs₂) p hp
    have hk : n - i = (n - (i + 1)) + 1 := by omega
    rw [hk] at hR'
    refine wpAny_mono (wpAny_passesOwn hE (hR' g' t h₂ (tk₁ + 1) hG' F₂ N₂)) (fun f s₃ h₃ => ?_) fun _ _ e => e
    have fin : EndT Gd env.locals { s₂ with heap := h₂, toks := tk₁ + 1 } I (itR ((i + 1 : Nat) : Int) ((n : Int) - ((i + 1 : Nat) : Int))) (RestT prog w A E Gd env x body Q s₂ I n (n - (i + 1)) (i + 1)) s₃ →
        ∃ k', k' < n + 1 - i ∧ ∃ g h tk m news i, s₃ = { s₂ with heap := h, toks := tk } ∧ Gd g ∧ Fr g env.locals h m ∧ News g env.locals h ((I, itR (i : Nat) ((n : Int) - (i : Nat))) :: news) ∧ (∀ p ∈ news, p.1 ≠ I) ∧ RestT prog w A E Gd env x body Q s₂ I n (n - i) i m news ∧ i ≤ n ∧ k' = n + 1 - i := by
      rintro ⟨g₃, h₄, tk₃, m₃, news₃, hG₃, rfl, F₃, N₃, off₃, hR₃⟩
      exact ⟨n + 1 - (i + 1), by omega, g₃, h₄, tk₃, m₃, news₃, i + 1, rfl, hG₃, F₃, N₃, off₃, hR₃, hlt, rfl⟩
    cases f with
    | ret v => exact h₃
    | brk => exact h₃
    | cont => exact fin h₃
    | next => exact fin h₃
  · have hin : i = n := by omega
    subst hin
    refine W.done _ _ _ st fun h₁ tk₁ hk₁ => wpAny_execs_nil ?_
    obtain ⟨F₁, N₁⟩ := next h₁ hk₁
    rw [Nat.sub_self] at hR'
    exact hR' g' h₁ tk₁ hG' F₁ N₁
theorem iter_T {prog : Program} {w : World} {A : Around} {E : Value → Shared → Prop} {s : Shared} {env : Env} {x : Str} {body : List Stmt} {Q : Flow → Shared → Prop} {Gd : Heap → Prop} {g : Heap} {r : Addr} {b₀ : Int} {t₀ u₀ v₀ : Tok} {n : Nat} {m₀ : Str → Option Value} {news : Nws}
    (hh : A.handled = none) (hr : IsRange s.heap r 0 b₀ 1 t₀ u₀ v₀) (hsmall : Builtin.Range.small 0 b₀ 1 = true) (hn : Builtin.Range.rangeSize 0 b₀ 1 = (n : Int)) (F : Fr g env.locals s.heap m₀) (N : News g env.locals s.heap news) (hG : Gd g)
    (rest₀ : ∀ (I : Addr) (h₁ : Heap), (∀ p ∈ news, p.1 < I) → RestT prog w A E Gd env x body Q { s with heap := h₁ } I n n 0 m₀ news) :
    wpAny (model prog w) A (pyIter (.ref r)) (fun it s₂ => LoopT prog w A Gd env x body Q E it s₂) E s := by
  refine wpAny_pyIter_range hr hsmall ?_
  rw [hn]
  have lt : ∀ p ∈ news, p.1 < s.heap.objs.size := fun p hp => Heap.lt_size (N p hp).1
  refine ⟨_, n, m₀, news, g, rfl, hh, hG, F.push _, fun p hp => ?_, fun p hp => Nat.ne_of_lt (lt p hp), rest₀ _ _ lt⟩
  rcases List.mem_cons.mp hp with rfl | hp
  · exact ⟨Heap.get?_push_size _ rfl, fun q => absurd F.ns.lt (q ▸ Nat.lt_irrefl _), next_is_new F⟩
  · exact ⟨Heap.get?_push_of_some _ (N p hp).1, (N p hp).2⟩
/-- the grounds that may follow where a def catches what it calls -/
noncomputable def GdX (w : World) (fs : List Addr) (A₀ : Around) (base : Heap) (outer : List Env) (p : Program) (loose : List Str) (mean : ExcName → Option Value) (mg mb : Str → Option Value) (g₀ g : Heap) : Prop :=
  KtsTurn fs g₀ g ∧ Below A₀ base outer g ∧ (Mine.K w.params).In g ∧ Top p loose mean mg mb g ∧ KtsDicts fs g
/-- as TellX, where the facts are of the caller's own ledger -/
structure TellY (w : World) (k : Nat) (f : Addr) (vs : List Value) (facts small : Nws) (P : Nws → Value → Prop) : Prop where
  tell : ∀ {p : Program} {loose : List Str} {mean : ExcName → Option Value} {mg mb : Str → Option Value} {dp un : Nat} {gd : Option (List Code)} {cn : Str} {cs : Scope} {a : Addr} {ccd : Value} {cl : List (Str × Addr)} {outer : List Env} {A₀ : Around} {base h₀ : Heap} {L : Addr} {m : Str → Option Value} {news : Nws} {s : Shared} {Q E : Value → Shared → Prop},
    Below A₀ base outer h₀ → Fr h₀ L s.heap m → (Mine.K w.params).In h₀ → News h₀ L s.heap news → Top p loose mean mg mb h₀ → (Mine.K w.params).In base → Top p loose mean mg mb base → KtsDicts (frs outer) h₀ → cs.kind = .function →
    (∀ q ∈ facts, q ∈ news) → (∀ q ∈ small, q ∈ news) → (∀ q ∈ facts, q.1 ∉ small.map (·.1)) → dp + k < recursionLimit → un + 8 * k < cLine →
    (∀ r h' tk' new h₀', P new r → KtsTurn (frs outer) h₀ h₀' → Fr h₀' L h' m → News h₀' L h' (new ++ rest news small) → (∀ q ∈ new, ∀ q' ∈ rest news small, q'.1 ≠ q.1) → Below A₀ base outer h₀' → (Mine.K w.params).In h₀' → Top p loose mean mg mb h₀' → KtsDicts (frs outer) h₀' → Q r { s with heap := h', toks := tk' }) →
    wpAny (model pw w) (ktrTop dp un gd cn cs L a ccd cl outer) (call (.ref f) vs) Q E s
theorem tellY_of {w : World} {k : Nat} {f : Addr} {vs : List Value} {facts small : Nws} {P : Nws → Value → Prop}
    {name qual : Str} {params : Arguments} {body : List Stmt} {scope : Scope} {dV kV doc pm cdv ct oc : Value} {an od : Option Addr} {osl : Array (Option Value)} {binds : List (Str × Value)}
    (ho : (Mine.K w.params).lookup f = some ⟨oc, od, .func (fnOf name qual params body scope dV kV doc pm an cdv ct), osl⟩) (hcd : codeIn (Mine.K w.params) cdv qual = true)
    (hbind : ∀ (h₀ : Heap) (s : Shared), (Mine.K w.params).In h₀ → (∀ b o, h₀.get? b = some o → s.heap.get? b = some o) → BindsTo s (fnOf name qual params body scope dV kV doc pm an cdv ct) ⟨vs, []⟩ binds) (hloc : ∀ y ∈ binds, scope.names.lookup y.1 = some .local)
    (hco : scope.isCoroutine = false) (hgen : scope.isGenerator = false) (hk : scope.kind = .function) (hcell : ∀ x ∈ scope.names, x.2 ≠ .cell) (hk0 : 0 < k)
    (hbody : ∀ {p : Program} {loose : List Str} {mean : ExcName → Option Value} {mg mb : Str → Option Value} {dp un : Nat} {gd : Option (List Code)} {cn : Str} {cs : Scope} {a : Addr} {ccd : Value} {cl : List (Str × Addr)} {outer : List Env} {base g : Heap} {L L' : Addr} {h₁ : Heap} {s : Shared},
      Fr g L' h₁ (fun y => binds.reverse.lookup y) → News g L' h₁ small → Below (ktrTop dp un gd cn cs L a ccd cl outer) base (envX cn cs L a ccd cl :: outer) g → (Mine.K w.params).In g → Top p loose mean mg mb g → (Mine.K w.params).In base → Top p loose mean mg mb base → KtsDicts (frs (envX cn cs L a ccd cl :: outer)) g → cs.kind = .function → (∀ q ∈ facts, g.get? q.1 = some q.2 ∧ q.1 ∉ frs (envX cn cs L a ccd cl :: outer)) → (∀ q ∈ small, q.1 < L') →
      dp + k < recursionLimit → un + 8 * k < cLine →
      wpAny (model pw w) ((ktrTop dp un gd cn cs L a ccd cl outer).deeper (envOf qual scope L' f cdv)) (execs body (envOf qual scope L' f cdv))
        (fun fl s' => EndsX (frs (envX cn cs L a ccd cl :: outer)) g s P (match fl with | .ret v => v | _ => .none) s') (fun _ _ => False) { s with heap := h₁, toks := s.toks + binds.length }) :
    TellY w k f vs facts small P := by
  constructor
  intro p loose mean mg mb dp un gd cn cs a ccd cl outer A₀ base h₀ L m news s Q E B F X N T XB TB D hck hfa hs hfs hd hu hret
  refine wpAny_call ?_
  refine call_frX B F X N T XB TB D rfl hck hs ho hcd (by show dp < _; omega) (hbind h₀ s X F.keep) hloc (fun g L' h₁ FG F' N' B' X' T' D' O' l' => ?_) hco hgen hk hcell
  refine wpAny_mono (hbody (s := s) F' N' B' X' T' XB TB D' hck (fun q hq => ?_) l' hd hu) (fun fl s' he => ?_) fun _ _ y => y.elim
  · refine ⟨O' q (hfa q hq) (hfs q hq), fun z => ?_⟩
    obtain ⟨_, n1, n2⟩ := N q (hfa q hq)
    rcases mem_frs z with z | z
    · exact n1 z
    · obtain ⟨_, o, ho', _⟩ := B.frames.mem z
      rw [n2] at ho'; cases ho'
  · obtain ⟨g', L₂, m₂, new, h, tk, Tg, rfl, F₂, N₂, new', hsub, hP⟩ := he
    refine ⟨g', L₂, m₂, new', Tg, F₂, fun q hq => N₂ q (hsub q hq), fun h₀' T₃ F₃ N₃ ne B₃ X₃ P₃ D₃ => ?_⟩
    exact hret _ h tk new' h₀' hP T₃ F₃ N₃ ne B₃ X₃ P₃ D₃
theorem GdX.at {w : World} {fs : List Addr} {A₀ : Around} {base : Heap} {outer : List Env} {p : Program} {loose : List Str} {mean : ExcName → Option Value} {mg mb : Str → Option Value} {g₀ g : Heap} (h : GdX w fs A₀ base outer p loose mean mg mb g₀ g) {b : Addr} {o : Obj} (e : g₀.get? b = some o) (n : b ∉ fs) : g.get? b = some o := h.1.other b o e n
noncomputable abbrev refS : Str := Str.ofString "refused"
noncomputable abbrev RRef : Nws → Value → Prop := fun new r => ∃ l t1 t2 t3 t4 t5 t6 n, new = [(l, PySem.W.listOf #[.str refS t1, .str refS t2, .str refS t3, .str refS t4, .str refS t5, .str refS t6] n)] ∧ r = .ref l
theorem endsX_ref {fs : List Addr} {g g' : Heap} {s : Shared} {L' l : Addr} {h : Heap} {m' : Str → Option Value} {new : Nws} {t1 t2 t3 t4 t5 t6 n : Nat} {tk : Nat}
    (T : KtsTurn fs g g') (F : Fr g' L' h m') (N : News g' L' h new) (hm : (l, PySem.W.listOf #[.str refS t1, .str refS t2, .str refS t3, .str refS t4, .str refS t5, .str refS t6] n) ∈ new) : EndsX fs g s RRef (.ref l) { s with heap := h, toks := tk } :=
  ⟨g', L', m', new, h, tk, T, rfl, F, N, [(l, _)], fun q hq => by (rw [List.mem_singleton.mp hq]; exact hm), l, t1, t2, t3, t4, t5, t6, n, rfl, rfl⟩
theorem RestT.succ {prog : Program} {w : World} {A : Around} {E : Value → Shared → Prop} {Gd : Heap → Prop} {env : Env} {x : Str} {body : List Stmt} {Q : Flow → Shared → Prop} {s : Shared} {I : Addr} {n k i : Nat} {m : Str → Option Value} {news : Nws}
    (h : ∀ g t h tk, Gd g → Fr g env.locals h (fun y => if y = x then some (.int (i : Int) t) else m y) →
      News g env.locals h ((I, itR ((i + 1 : Nat) : Int) ((n : Int) - ((i + 1 : Nat) : Int))) :: news) →
      wpAny (model prog w) A (execs body env) (PostT Gd env.locals { s with heap := h, toks := tk } I (itR ((i + 1 : Nat) : Int) ((n : Int) - ((i + 1 : Nat) : Int))) (RestT prog w A E Gd env x body Q s I n k (i + 1)) Q) E { s with heap := h, toks := tk }) :
    RestT prog w A E Gd env x body Q s I n (k + 1) i m news := h
theorem RestT.zero {prog : Program} {w : World} {A : Around} {E : Value → Shared → Prop} {Gd : Heap → Prop} {env : Env} {x : Str} {body : List Stmt} {Q : Flow → Shared → Prop} {s : Shared} {I : Addr} {n i : Nat} {m : Str → Option Value} {news : Nws}
    (h : ∀ g h tk, Gd g → Fr g env.locals h m → News g env.locals h news → Q .next { s with heap := h, toks := tk }) : RestT prog w A E Gd env x body Q s I n 0 i m news := h
theorem endT {Gd : Heap → Prop} {L l I : Addr} {s₁ : Shared} {it ol : Obj} {rest : (Str → Option Value) → Nws → Prop} {Q : Flow → Shared → Prop} {g h' : Heap} {tk : Nat} {m' : Str → Option Value} {all : Nws} (hG : Gd g) (F : Fr g L h' m') (N : News g L h' all) (hI : (I, it) ∈ all) (hl : (l, ol) ∈ all) (ne : l ≠ I) (r : rest m' [(l, ol)]) :
    PostT Gd L s₁ I it rest Q .next { s₁ with heap := h', toks := tk } := by
  refine ⟨g, h', tk, m', [(l, ol)], hG, rfl, F, fun q hq => ?_, fun q hq => ?_, r⟩
  · rcases List.mem_cons.mp hq with e | hq
    · rw [e]; exact N _ hI
    · rw [List.mem_singleton.mp hq]; exact N _ hl
  · rw [List.mem_singleton.mp hq]; exact ne
set_option maxHeartbeats 8000000 in
theorem t_toldR (w : World) (uncles : Bool) (x d : Addr) (time weight place limit used dt : Int) (t1 t2 t3 t4 t5 t6 t7 : Tok) (h0 : 0 ≤ time) (h1 : time < 2 ^ 40) (h2 : dt ≤ time) (h3 : -2 ^ 40 < dt)
   : TellY w 40 448 [.ref x, .int dt t7] [(x, hdrObj 172 d (hdr172 time weight place (.bytes (ub uncles) t4) limit used t1 t2 t3 t5 t6)), (d, dictOf [] 0)] [] RRef := by
  k_with_none
  (k_with "ite" => first | with_reducible refine Mine.pite_ff ?_ | with_reducible refine Mine.pite_tt ?_ | with_reducible refine Mine.pite_nt ?_ | with_reducible refine Mine.pite_nf ?_ | with_reducible refine Mine.pite_t ?_ | with_reducible refine Mine.pite_f ?_)
  (k_with "execs cons" => first | (k_here; k_gentoks) | ((with_reducible refine Mine.execs_gen ?_); intro Q9 hQ9))
  (k_with "execs cons" => ((with_reducible show wpAny _ _ (execs _ _) (UnrPost _ _ _ _ _ _ _) _ _); (refine Mine.gen_post ?_); intro Q9 hQ9))
  (k_with "execs cons" => ((with_reducible show wpAny _ _ (execs _ _) (UnrPostW _ _ _ _ _ _) _ _); (refine Mine.gen_post ?_); intro Q9 hQ9))
  (k_with "callWith ref" => (k_here; (with_reducible show wpAny _ _ (callWith _ _ _ (backTo _ (starEach [] _)) []) _ _ _); k_dflt (refine' Mine.callWithK0 ?kF ?k1 ?k2 ?_; (case kF => k_asm); (case k1 => k_asm); (case k2 => k_is); k_whole)))
  (k_with "eval Name" => (k_here; (with_reducible show wpAny _ _ (eval (Expr.Name _ _) (envOf _ _ _ _ _)) _ _ _); name_kind "globalImplicit"; name_is_builtin; (with_reducible rename Fr _ _ _ _ => kF); k_dflt (refine' Mine.nameB ?c1 ?c2 ?c3 kF ?k1 ?k2 ?k3 ?k4 ?k5 ?_; (case c1 => kernel_rfl); (case c2 => kernel_rfl); (case c3 => kernel_rfl); (case k1 => k_asm); (case k2 => k_asm); (case k3 => k_is); (case k4 => boot_by_name); (case k5 => decide); k_whole)))
  (k_with "eval Name" => (k_here; (with_reducible show wpAny _ _ (eval (Expr.Name _ _) (envOf _ _ _ _ _)) _ _ _); name_kind "globalImplicit"; (with_reducible rename Fr _ _ _ _ => kF); k_dflt (refine' Mine.nameK ?c1 ?c2 ?c3 kF ?k1 ?k2 ?k3 ?_; (case c1 => kernel_rfl); (case c2 => kernel_rfl); (case c3 => kernel_rfl); (case k1 => k_asm); (case k2 => k_asm); (case k3 => k_is); k_whole)))
  (k_with "eval Name" => (k_here; (with_reducible show wpAny _ _ (eval (Expr.Name _ _) (envOf _ _ _ _ _)) _ _ _); name_kind "local"; k_dflt (refine' Mine.nameL ?c1 ?c2 ?c3 ?k1 ?k2 ?_; (case c1 => kernel_rfl); (case c2 => kernel_rfl); (case c3 => kernel_rfl); (case k1 => k_asm); (case k2 => exact rfl); k_whole)))
  (k_with "callWith ref" => (k_here; k_dflt (first
  | (refine' callWith_K ?k1 ?k2 ?_; (case k1 => k_asm); (case k2 => k_is); k_whole)
  | (refine' callWith_KW ?k1 ?k2 ?k3 ?_; (case k1 => k_asm); (case k2 => k_is); (case k3 => exact rfl); k_whole))))
  (k_with "ct int" => (
  (try dsimp only)
  refine' Mine.ends_int ?e1 ?e2 ?_
  case e1 => k_asm
  case e2 => k_asm))
  (k_with "ct with" => (
  (case k1 => k_asm)
  (case k2 => k_asm)
  (case k3 => k_in)
  (case k4 => k_asm)
  (case k5 => k_asm)
  (case kK => first | exact rfl | assumption)
  (case kf => first | exact fun _ h => (nomatch h) | walk_at "ct facts")
  (case kd => ktr_room)
  (case ku => ktr_units)))
  (k_with "ct mul" => first | omega | (split <;> omega) | (simp only [] at *; omega) | (constructor <;> omega))
  (k_with "binaryOp Mult int int" => ((first
  | (refine mul_int ?_ (PySem.IntMulOk.of_right (PySem.intBits_le_64 (by walk_at "ct mul") (by walk_at "ct mul"))))
  | (refine mul_int ?_ (PySem.IntMulOk.of_left (PySem.intBits_le_64 (by walk_at "ct mul") (by walk_at "ct mul"))))); (try dsimp only)))
  (k_with "binaryOp FloorDiv int int" => ((with_reducible refine Mine.fdivQ (by first | omega | (simp only [] at *; omega)) (by first | omega | (simp only [] at *; omega)) ?_); (try dsimp only)))
  (k_with "binaryOp Mod int int" => ((with_reducible refine Mine.fmodQ (by first | omega | (simp only [] at *; omega)) ?_); (try dsimp only)))
  (k_with "call builtin:issubclass" => (k_here; k_dflt ((refine' Mine.issub_hdr ?F ?X ?c ?m ?_; (case F => k_asm); (case X => k_asm); (case c => first | assumption | k_is); (case m => first | assumption | k_is)))))
  (k_with "call builtin:tuple.__getitem__" => (k_here; k_dflt ((refine' Mine.call_tupitem ?F ?X ?x ?dd ?m ?l ?h ?k ?y ?_; (case F => k_asm); (case X => k_asm); (case x => assumption); (case dd => assumption); (case m => first | assumption | k_is); (case l => first | assumption | decide); (case h => first | assumption | decide); (case k => first | assumption | rfl); (case y => first | assumption | rfl)))))
  (k_with "getMethod" => (k_here; (with_reducible show wpAny _ _ (getMethod (Value.type _) _ _) _ _ _); k_dflt ((refine' method_type ?F ?X ?t ?s ?e ?h ?_; (case F => k_asm); (case X => k_asm); (case t => first | rfl | kernel_rfl); (case s => decide +kernel); (case e => k_is); (case h => k_handed)))))
  (k_with "call builtin:tuple.__new__" => (k_here; k_dflt ((refine' Mine.call_tupnew ?F ?N ?X ?Y ?c ?m ?i ?t ?z ?_; (case F => k_asm); (case N => k_asm); (case X => k_asm); (case Y => assumption); (case c => k_is); (case m => k_is); (case i => k_is); (case t => k_mem); (case z => simp)); intro x' d' h' F' N' l1 l2; (try k_lt l1); (try k_lt2 l2); (try k_sweep))))
  (k_with "getAttr ref" => (
  k_here
  k_dflt (
  (refine' Mine.hdr_miss ?k2 ?k3 ?k4 ?gx ?gg ?gk ?gc ?ga ?gm ?hA ?hC ?hn ?hl ?hz ?cp ?_)
  (case k2 => k_asm)
  (case k3 => k_in)
  (case k4 => k_asm)
  (case gx => first | exact ⟨Or.inr (by assumption), Or.inr (by assumption)⟩ | exact ⟨Or.inl (by k_mem), Or.inl (by k_mem)⟩)
  (case gg => k_is)
  (case gk => k_is)
  (case gc => k_is)
  (case ga => k_is)
  (case gm => k_is)
  (case hA => exact rfl)
  (case hC => k_is)
  (case hn => decide +kernel)
  (case hl => decide +kernel)
  (case hz => decide +kernel)
  (case cp => decide +kernel)
  intro h9 tk9 e9 NX9)))
  (k_with "getAttr ref" => (
  k_here
  k_dflt (
  (refine' Mine.hdr_attr ?k1 ?k2 ?k3 ?k4 ?k5 ?kK ?gx ?gg ?gg2 ?gc ?gm ?ga ?gs ?gt ?gp ?gd ?gl ?gh ?gi ?gv ?go ?kd ?ku ?_)
  (case k1 => k_asm)
  (case k2 => k_asm)
  (case k3 => k_in)
  (case k4 => k_asm)
  (case k5 => k_asm)
  (case kK => first | exact rfl | assumption)
  (case gx => first | exact ⟨Or.inr (by assumption), Or.inr (by assumption)⟩ | exact ⟨Or.inl (by k_mem), Or.inl (by k_mem)⟩)
  (case gg => k_is)
  (case gg2 => k_is)
  (case gc => k_is)
  (case gm => k_is)
  (case ga => k_is)
  (case gs => k_is)
  (case gt => k_is)
  (case gp => k_is)
  (case gd => k_is)
  (case gl => decide)
  (case gh => decide)
  (case gi => rfl)
  (case gv => rfl)
  (case go => rfl)
  (case kd => ktr_room)
  (case ku => ktr_units)
  intro h9 tk9 F9 N9
  (try k_sweep))))
  (k_with "ct intx" => (
  (try dsimp only)
  (show Mine.EndsX _ _ _ _ _ _)
  refine' Mine.endsX_int ?e0 ?e1 ?e2 ?e3
  case e0 => first | assumption | exact KtsTurn.refl
  case e1 => k_asm
  case e2 => k_asm))
  (k_with "noteFrame ref" => (
  k_here
  (rename Heap.NewExcOf _ _ _ _ => nxX)
  k_dflt (
  (refine' Mine.own_N0 (T' := "AttributeError") ?hx ?F ?N ?K ?XB ?TB ?D ?T0 ?ex PyProof.Rows.Boot.«AttributeError» ?hn Mine.exc_attr Mine.notTuple_attr Mine.sub_attr ?_; (case hx => exact nxX); (case F => k_asm); (case N => k_asm); (case K => assumption); (case XB => assumption); (case TB => assumption); (case D => assumption); (case T0 => first | assumption | exact KtsTurn.refl); (case ex => k_is); (case hn => decide); k_whole)
  intro h' g' T' F' N' K' X' P' D'; (try k_lift K'); (try k_sweep))))
  (k_with "And" => (
  (with_reducible show PySem.Str.length _ ≤ sizeLine ∧ _)
  (with_reducible refine' Mine.fits_z ?fa ?fb ?_)
  (case fa => repeat' (first | (with_reducible refine' Mine.fits_add' ?_ ?_) | ((show _ ≤ 1000); (first | assumption | decide +kernel | (with_reducible exact Mine.len_int' (by omega) (by omega))))))
  (case fb => decide +kernel)))
  (k_with "joinParts" => (
  (with_reducible show wpAny _ _ (joinParts _ (evalEach [] _)) _ _ _)
  (with_reducible refine' Mine.joinNil ?fa ?fb ?_)
  (case fa => repeat' (first | (with_reducible refine' Mine.fits_add' ?_ ?_) | ((show _ ≤ 1000); (first | assumption | decide +kernel | (with_reducible exact Mine.len_int' (by omega) (by omega))))))
  (case fb => decide +kernel)))
  (k_with "ct steps" => repeat' (first | (k_unfold; (try dsimp only)) | walk1 | (dsimp only; walk1) | (leave1; walk_say "STEP leave1"; try dsimp only) | (refine Mine.Gen.to (by with_reducible assumption) _ _ ?_; try dsimp only) | fail "no step"))
  (k_with "ct raised" => first
  | exact ⟨_, _, _, rfl, rfl, by assumption, by assumption⟩
  | exact ⟨_, _, _, rfl, rfl, RaisedS.toSN (by assumption), by assumption⟩)
  (k_with "ct ne" => repeat ((with_reducible rename (@Ne Nat _ _ ∧ _) => hx9); obtain ⟨hy9, hz9⟩ := hx9))
  (k_with "call ref" => (
  (with_reducible show wpAny _ _ (call (Value.ref 413) _) _ _ _)
  k_dflt (
  (refine' Mine.use_delays ?k1 ?k2 ?k3 ?k4 ?k5 ?kK ?kd ?ku ?_)
  (case k1 => k_asm)
  (case k2 => k_asm)
  (case k3 => k_in)
  (case k4 => k_asm)
  (case k5 => k_asm)
  (case kK => first | exact rfl | assumption)
  (case kd => ktr_room)
  (case ku => ktr_units)
  intro l9 ta9 tb9 tc9 td9 n9 h9 tk9 F9 N9 ne9
  (try simp only [Mine.AllNe, and_true] at ne9)
  walk_at "ct ne"
  (try k_sweep))))
  (k_with "ct with2" => (
  (case k1 => k_asm)
  (case k2 => k_asm)
  (case k3 => k_in)
  (case k4 => k_asm)
  (case k5 => k_asm)
  (case kK => first | exact rfl | assumption)
  (case kf => refine' Mine.facts_hdr ?gx; (case gx => first | exact ⟨Or.inr (by assumption), Or.inr (by assumption)⟩ | exact ⟨Or.inl (by k_mem), Or.inl (by k_mem)⟩))
  (case kd => ktr_room)
  (case ku => ktr_units)))
  (k_with "ct rwith2" => (
  (case k1 => k_asm)
  (case k2 => k_asm)
  (case k3 => k_in)
  (case k4 => k_asm)
  (case k5 => k_asm)
  (case kXB => assumption)
  (case kTB => assumption)
  (case kD => assumption)
  (case kK => first | exact rfl | assumption)
  (case kf => refine' Mine.facts_hdr ?gx; (case gx => first | exact ⟨Or.inr (by assumption), Or.inr (by assumption)⟩ | exact ⟨Or.inl (by k_mem), Or.inl (by k_mem)⟩))
  (case kd => ktr_room)
  (case ku => ktr_units)))
  (k_with "call ref" => (
  (with_reducible show wpAny _ _ (call (Value.ref 371) _ _) _ _ _)
  k_dflt (
  (refine' (Mine.t_371R _ _ _ _ _ _ _ _ _ _ _ _ _ _ _ _  ?p0 ?p1 ?p2 ?p3).tell ?k1 ?k2 ?k3 ?k4 ?k5 ?kXB ?kTB ?kD ?kK ?kf ?kd ?ku ?_)
  walk_at "ct rwith2"
  (case p0 => assumption)
  (case p1 => assumption)
  (case p2 => assumption)
  (case p3 => assumption)
  intro e9 h9 tk9 G9 FG9 R9 U9)))
  (k_with "call ref" => (
  (with_reducible show wpAny _ _ (call (Value.ref 378) _ _) _ _ _)
  k_dflt (
  (refine' (Mine.t_378R _ _ _ _ _ _ _ _ _ _ _ _ _ _ _ _  ?p0 ?p1 ?p2 ?p3).tell ?k1 ?k2 ?k3 ?k4 ?k5 ?kXB ?kTB ?kD ?kK ?kf ?kd ?ku ?_)
  walk_at "ct rwith2"
  (case p0 => assumption)
  (case p1 => assumption)
  (case p2 => assumption)
  (case p3 => assumption)
  intro e9 h9 tk9 G9 FG9 R9 U9)))
  (k_with "call ref" => (
  (with_reducible show wpAny _ _ (call (Value.ref 357) _ _) _ _ _)
  k_dflt (
  (refine' (Mine.t_357R _ _ _ _ _ _ _ _ _ _ _ _ _ _ _ _ _ _  ?p0 ?p1 ?p2 ?p3).tell ?k1 ?k2 ?k3 ?k4 ?k5 ?kXB ?kTB ?kD ?kK ?kf ?kd ?ku ?_)
  walk_at "ct rwith2"
  (case p0 => assumption)
  (case p1 => assumption)
  (case p2 => assumption)
  (case p3 => assumption)
  intro e9 h9 tk9 G9 FG9 R9 U9)))
  (k_with "ct last" => first | exact .tail _ (.tail _ (.tail _ (.tail _ (.head _)))) | exact .tail _ (.tail _ (.tail _ (.head _))) | exact .tail _ (.tail _ (.head _)) | exact .tail _ (.head _) | exact .head _)
  refine Mine.fill ?_
  k_fill
  intro _ _
  refine' Mine.tellY_of ?ho ?hcd ?hb ?hl ?c1 ?c2 ?c3 ?c4 (by decide) ?_
  case ho => k_is
  case hcd => k_is
  case hb => (conv in (occs := *) Mine.fArgs _ => all_goals whnf); first | exact fun _ _ _ _ => BindsTo.of_eq rfl | exact fun h₀ s X k => binds_K (X.keeps k) rfl (by k_is) rfl rfl rfl
  case hl => exact locs rfl
  case c1 => exact rfl
  case c2 => exact rfl
  case c3 => exact rfl
  case c4 => decide
  intro _ _ _ _ _ _ _ _ _ _ _ _ _ _ _ _ _ _ _ _ _ _ _ _ _ _ _ _ _ _ _ _ _
  (conv in (occs := *) Mine.fBody _ => all_goals whnf)
  (conv in (occs := *) Mine.fScope _ => all_goals whnf)
  (try dsimp only)
  (try k_fold)
  refine Mine.gen_post fun Q9 hQ9 => ?_
  rename_i p loose mean mg mb dp un gd cn cs a ccd cl outer base g L L' h₁ s F' N' B' X' T' XB' TB' D' hck hfa hsm hd hu
  obtain ⟨hx, nx⟩ := hfa _ (.head _)
  obtain ⟨hxd, nd⟩ := hfa _ (.tail _ (.head _))
  dsimp only at hx hxd nx nd
  have kx : ∀ g', KtsTurn (frs (envX cn cs L a ccd cl :: outer)) g g' → g'.get? x = some (hdrObj 172 d (hdr172 time weight place (.bytes (ub uncles) t4) limit used t1 t2 t3 t5 t6)) ∧ g'.get? d = some (dictOf [] 0) := fun g' T => ⟨T.other _ _ hx nx, T.other _ _ hxd nd⟩
  clear hfa nx nd
  (k_with "exec For Name Call cons nil" => refine stop ?_)
  k_steps
  unfold Stop
  refine for_T (GdX w (frs (envX cn cs L a ccd cl :: outer)) (ktrTop dp un gd cn cs L a ccd cl outer) base (envX cn cs L a ccd cl :: outer) p loose mean mg mb g) rfl rfl ?_
  (k_with "pyIter ref" => refine stop ?_)
  k_steps
  unfold Stop
  (rename Fr _ _ _ _ => lF')
  (rename News _ _ _ _ => lN')
  (rename IsRange _ _ _ _ _ _ _ _ => rg)
  refine iter_T (n := 6) rfl rg (by decide) (by decide) lF' lN' ⟨KtsTurn.refl, B', X', T', D'⟩ ?_
  clear lF' lN' rg hx hxd
  intro I h₁ l1
  k_lt l1
  refine RestT.succ (k := 5) ?_
  rintro g1 ta ha tka ⟨Ta, Ba, Xa, Pa, Da⟩ Fa Na
  obtain ⟨hxa, hda⟩ := kx _ Ta
  refine gen_post fun Q8 hQ8 => ?_
  clear B' X' T' D'
  k_steps
  (try dsimp only)
  (try refine Gen.to hQ8 _ _ ?_)
  (try dsimp only)
  (rename Fr _ _ _ _ => fE)
  (rename News _ _ _ _ => nE)
  (try simp only [List.push_toArray] at nE)
  refine endT ⟨by assumption, by assumption, by assumption, by assumption, by assumption⟩ fE nE (by k_mem) (by walk_at "ct last") (Nat.ne_of_lt (by assumption)) ?_
  clear fE nE hxa hda
  (try clear hQ8)
  (try clear Q8)
  refine RestT.succ (k := 4) ?_
  rintro g1 ta ha tka ⟨Ta, Ba, Xa, Pa, Da⟩ Fa Na
  obtain ⟨hxa, hda⟩ := kx _ Ta
  refine gen_post fun Q8 hQ8 => ?_
  k_steps
  (try dsimp only)
  (try refine Gen.to hQ8 _ _ ?_)
  (try dsimp only)
  (rename Fr _ _ _ _ => fE)
  (rename News _ _ _ _ => nE)
  (try simp only [List.push_toArray] at nE)
  refine endT ⟨by assumption, by assumption, by assumption, by assumption, by assumption⟩ fE nE (by k_mem) (by walk_at "ct last") (Nat.ne_of_lt (by assumption)) ?_
  clear fE nE hxa hda
  (try clear hQ8)
  (try clear Q8)
  refine RestT.succ (k := 3) ?_
  rintro g1 ta ha tka ⟨Ta, Ba, Xa, Pa, Da⟩ Fa Na
  obtain ⟨hxa, hda⟩ := kx _ Ta
  refine gen_post fun Q8 hQ8 => ?_
  k_steps
  (try dsimp only)
  (try refine Gen.to hQ8 _ _ ?_)
  (try dsimp only)
  (rename Fr _ _ _ _ => fE)
  (rename News _ _ _ _ => nE)
  (try simp only [List.push_toArray] at nE)
  refine endT ⟨by assumption, by assumption, by assumption, by assumption, by assumption⟩ fE nE (by k_mem) (by walk_at "ct last") (Nat.ne_of_lt (by assumption)) ?_
  clear fE nE hxa hda
  (try clear hQ8)
  (try clear Q8)
  refine RestT.succ (k := 2) ?_
  rintro g1 ta ha tka ⟨Ta, Ba, Xa, Pa, Da⟩ Fa Na
  obtain ⟨hxa, hda⟩ := kx _ Ta
  refine gen_post fun Q8 hQ8 => ?_
  k_steps
  (try dsimp only)
  (try refine Gen.to hQ8 _ _ ?_)
  (try dsimp only)
  (rename Fr _ _ _ _ => fE)
  (rename News _ _ _ _ => nE)
  (try simp only [List.push_toArray] at nE)
  refine endT ⟨by assumption, by assumption, by assumption, by assumption, by assumption⟩ fE nE (by k_mem) (by walk_at "ct last") (Nat.ne_of_lt (by assumption)) ?_
  clear fE nE hxa hda
  (try clear hQ8)
  (try clear Q8)
  refine RestT.succ (k := 1) ?_
  rintro g1 ta ha tka ⟨Ta, Ba, Xa, Pa, Da⟩ Fa Na
  obtain ⟨hxa, hda⟩ := kx _ Ta
  refine gen_post fun Q8 hQ8 => ?_
  k_steps
  (try dsimp only)
  (try refine Gen.to hQ8 _ _ ?_)
  (try dsimp only)
  (rename Fr _ _ _ _ => fE)
  (rename News _ _ _ _ => nE)
  (try simp only [List.push_toArray] at nE)
  refine endT ⟨by assumption, by assumption, by assumption, by assumption, by assumption⟩ fE nE (by k_mem) (by walk_at "ct last") (Nat.ne_of_lt (by assumption)) ?_
  clear fE nE hxa hda
  (try clear hQ8)
  (try clear Q8)
  refine RestT.succ (k := 0) ?_
  rintro g1 ta ha tka ⟨Ta, Ba, Xa, Pa, Da⟩ Fa Na
  obtain ⟨hxa, hda⟩ := kx _ Ta
  refine gen_post fun Q8 hQ8 => ?_
  k_steps
  (try dsimp only)
  (try refine Gen.to hQ8 _ _ ?_)
  (try dsimp only)
  (rename Fr _ _ _ _ => fE)
  (rename News _ _ _ _ => nE)
  (try simp only [List.push_toArray] at nE)
  refine endT ⟨by assumption, by assumption, by assumption, by assumption, by assumption⟩ fE nE (by k_mem) (by walk_at "ct last") (Nat.ne_of_lt (by assumption)) ?_
  clear fE nE hxa hda
  (try clear hQ8)
  (try clear Q8)
  refine RestT.zero ?_
  rintro g1 ha tka ⟨Ta, Ba, Xa, Pa, Da⟩ Fa Na
  k_steps
  all_goals (try dsimp only)
  (show EndsX _ _ _ _ _ _)
  exact endsX_ref (by assumption) Fa Na (.head _)
noncomputable abbrev RBool (b : Bool) : Nws → Value → Prop := fun new r => new = [] ∧ r = .bool b
theorem ends_bool {g : Heap} {s : Shared} {L' : Addr} {h : Heap} {m' : Str → Option Value} {new : Nws} {x y : Bool} {tk : Nat}
    (F : Fr g L' h m') (N : News g L' h new) (e : x = y) : Ends g s (RBool y) (.bool x) { s with heap := h, toks := tk } :=
  ⟨L', m', new, h, tk, rfl, F, N, [], fun _ h => (nomatch h), rfl, by rw [e]⟩
theorem fr_up {h₀ h h' : Heap} {L D : Addr} {m : Str → Option Value} {o : Obj} (F : Fr h₀ L h m) (k : ∀ b o, h.get? b = some o → h'.get? b = some o) (hD : h.get? D = none) (e : h'.get? D = some o) : Fr h₀ L h' m ∧ News h₀ L h' [(D, o)] := by
  refine ⟨⟨F.ns.keeps k, fun b o e => k b o (F.keep b o e), F.above⟩, fun q hq => ?_⟩
  rw [List.mem_singleton.mp hq]
  refine ⟨e, fun z => ?_, ?_⟩
  · obtain ⟨oL, _, _, hL, _⟩ := F.ns
    have z' : D = L := z
    rw [← z', hD] at hL; cases hL
  · show h₀.get? D = none
    cases z : h₀.get? D with
    | none => rfl
    | some o => have := F.keep _ _ z; rw [hD] at this; cases this
theorem ints_mem : ∀ {vs : List Value} {ns : List Int}, IntsAre vs ns → ∀ {v : Value}, v ∈ vs → ∃ i t, v = .int i t
  | _, _, .cons n t _, v, hv => by
    rcases List.mem_cons.mp hv with rfl | hv
    · exact ⟨n, t, rfl⟩
    · exact ints_mem (by assumption) hv
theorem nil_of_paired {l : List Value} {ys : Array Value} (h : Paired (fun _ _ => False) (l.filter fun _ => false) ys.toList) : ys = #[] := by
  have e : (l.filter fun _ => false) = [] := by simp
  rw [e] at h
  obtain ⟨y⟩ := ys
  cases y with
  | nil => rfl
  | cons a b => cases h
theorem name_cmp {M : Model} {A : Around} {E : Value → Shared → Prop} {s : Shared} {K : Frag} {h h₀ : Heap} {L a C : Addr} {m mg mb : Str → Option Value} {cn : Str} {cs sc : Scope} {ccd : Value} {p : Program} {loose : List Str} {mean : ExcName → Option Value}
    {x : Str} {pos : Pos} {v : Value} {Q : Value → Shared → Prop} (F : Fr h₀ L h m) (hk : ∀ b o, h.get? b = some o → s.heap.get? b = some o) (X : K.In h₀) (T : Top p loose mean mg mb h₀) (e : nsIn K mainGlobals x = some none) (hv : bootBuiltins x = some v) (hn : x ≠ "__name__") (h : Q v s)
    (hkk : sc.kind = .function := by rfl) (hx : (compEnv sc C (envOf cn cs L a ccd)).kindOf x = some .globalImplicit := by rfl) (hd : (x == ("__debug__" : Str)) = false := by decide) :
    wpAny M A (eval (.Name x pos) (compEnv sc C (envOf cn cs L a ccd))) Q E s :=
  Calls.Name_function_global hkk hx (Calls.loadGlobal_builtin (env := compEnv sc C (envOf cn cs L a ccd)) ((topRead_of T).g.keeps fun b o e => hk b o (F.keep b o e)) (mg_none_of X (topRead_of T).g e) ((topRead_of T).b.keeps fun b o e => hk b o (F.keep b o e)) (((topRead_of T).builtins x hn).trans hv) h) hd
set_option maxHeartbeats 8000000 in
theorem t_nums (w : World) (l : Addr) (ws : List Value) (vs : List Int) (n : Nat) (hI : IntsAre ws vs) (hl : vs.length < 1000)
   : Tell w 20 481 [.ref l] [(l, PySem.W.listOf ws.toArray n)] [] (RBool true) := by
  k_with_none
  (k_with "ite" => first | with_reducible refine Mine.pite_ff ?_ | with_reducible refine Mine.pite_tt ?_ | with_reducible refine Mine.pite_nt ?_ | with_reducible refine Mine.pite_nf ?_ | with_reducible refine Mine.pite_t ?_ | with_reducible refine Mine.pite_f ?_)
  (k_with "eval Name" => (k_here; (with_reducible show wpAny _ _ (eval (Expr.Name _ _) (envOf _ _ _ _ _)) _ _ _); name_kind "globalImplicit"; name_is_builtin; (with_reducible rename Fr _ _ _ _ => kF); k_dflt (refine' Mine.nameB ?c1 ?c2 ?c3 kF ?k1 ?k2 ?k3 ?k4 ?k5 ?_; (case c1 => kernel_rfl); (case c2 => kernel_rfl); (case c3 => kernel_rfl); (case k1 => k_asm); (case k2 => k_asm); (case k3 => k_is); (case k4 => boot_by_name); (case k5 => decide); k_whole)))
  (k_with "eval Name" => (k_here; (with_reducible show wpAny _ _ (eval (Expr.Name _ _) (envOf _ _ _ _ _)) _ _ _); name_kind "globalImplicit"; (with_reducible rename Fr _ _ _ _ => kF); k_dflt (refine' Mine.nameK ?c1 ?c2 ?c3 kF ?k1 ?k2 ?k3 ?_; (case c1 => kernel_rfl); (case c2 => kernel_rfl); (case c3 => kernel_rfl); (case k1 => k_asm); (case k2 => k_asm); (case k3 => k_is); k_whole)))
  (k_with "eval Name" => (k_here; (with_reducible show wpAny _ _ (eval (Expr.Name _ _) (envOf _ _ _ _ _)) _ _ _); name_kind "local"; k_dflt (refine' Mine.nameL ?c1 ?c2 ?c3 ?k1 ?k2 ?_; (case c1 => kernel_rfl); (case c2 => kernel_rfl); (case c3 => kernel_rfl); (case k1 => k_asm); (case k2 => exact rfl); k_whole)))
  (k_with "callWith ref" => (k_here; k_dflt (first
  | (refine' callWith_K ?k1 ?k2 ?_; (case k1 => k_asm); (case k2 => k_is); k_whole)
  | (refine' callWith_KW ?k1 ?k2 ?k3 ?_; (case k1 => k_asm); (case k2 => k_is); (case k3 => exact rfl); k_whole))))
  (k_with "ct int" => (
  (try dsimp only)
  refine' Mine.ends_int ?e1 ?e2 ?_
  case e1 => k_asm
  case e2 => k_asm))
  (k_with "ct with" => (
  (case k1 => k_asm)
  (case k2 => k_asm)
  (case k3 => k_in)
  (case k4 => k_asm)
  (case k5 => k_asm)
  (case kK => first | exact rfl | assumption)
  (case kf => first | exact fun _ h => (nomatch h) | walk_at "ct facts")
  (case kd => ktr_room)
  (case ku => ktr_units)))
  (k_with "ct mul" => first | omega | (split <;> omega) | (simp only [] at *; omega) | (constructor <;> omega))
  (k_with "binaryOp Mult int int" => ((first
  | (refine mul_int ?_ (PySem.IntMulOk.of_right (PySem.intBits_le_64 (by walk_at "ct mul") (by walk_at "ct mul"))))
  | (refine mul_int ?_ (PySem.IntMulOk.of_left (PySem.intBits_le_64 (by walk_at "ct mul") (by walk_at "ct mul"))))); (try dsimp only)))
  (k_with "binaryOp FloorDiv int int" => ((with_reducible refine Mine.fdivQ (by first | omega | (simp only [] at *; omega)) (by first | omega | (simp only [] at *; omega)) ?_); (try dsimp only)))
  (k_with "binaryOp Mod int int" => ((with_reducible refine Mine.fmodQ (by first | omega | (simp only [] at *; omega)) ?_); (try dsimp only)))
  (k_with "call builtin:issubclass" => (k_here; k_dflt ((refine' Mine.issub_hdr ?F ?X ?c ?m ?_; (case F => k_asm); (case X => k_asm); (case c => first | assumption | k_is); (case m => first | assumption | k_is)))))
  (k_with "call builtin:tuple.__getitem__" => (k_here; k_dflt ((refine' Mine.call_tupitem ?F ?X ?x ?dd ?m ?l ?h ?k ?y ?_; (case F => k_asm); (case X => k_asm); (case x => assumption); (case dd => assumption); (case m => first | assumption | k_is); (case l => first | assumption | decide); (case h => first | assumption | decide); (case k => first | assumption | rfl); (case y => first | assumption | rfl)))))
  (k_with "getMethod" => (k_here; (with_reducible show wpAny _ _ (getMethod (Value.type _) _ _) _ _ _); k_dflt ((refine' method_type ?F ?X ?t ?s ?e ?h ?_; (case F => k_asm); (case X => k_asm); (case t => first | rfl | kernel_rfl); (case s => decide +kernel); (case e => k_is); (case h => k_handed)))))
  (k_with "eval Name" => (k_here; (with_reducible show wpAny _ _ (eval (Expr.Name _ _) (compEnv _ _ _)) _ _ _); (rename Fr _ _ _ _ => kF); k_dflt (refine' Mine.name_cmp kF ?k0 ?k1 ?k2 ?k3 ?k4 ?k5 ?_; (case k0 => assumption); (case k1 => k_asm); (case k2 => k_asm); (case k3 => k_is); (case k4 => boot_by_name); (case k5 => decide); k_whole)))
  refine Mine.fill ?_
  k_fill
  intro _ _
  refine' Mine.tell_of ?ho ?hcd ?hb ?hl ?c1 ?c2 ?c3 ?c4 (by decide) ?_
  case ho => k_is
  case hcd => k_is
  case hb => (conv in (occs := *) Mine.fArgs _ => all_goals whnf); first | exact fun _ _ _ _ => BindsTo.of_eq rfl | exact fun h₀ s X k => binds_K (X.keeps k) rfl (by k_is) rfl rfl rfl
  case hl => exact locs rfl
  case c1 => exact rfl
  case c2 => exact rfl
  case c3 => exact rfl
  case c4 => decide
  intro _ _ _ _ _ _ _ _ _ _ _ _ _ _ _ _ _ _ _ _ _ _ _ _ _ _ _ _ _ _
  (conv in (occs := *) Mine.fBody _ => all_goals whnf)
  (conv in (occs := *) Mine.fScope _ => all_goals whnf)
  (try dsimp only)
  (try k_fold)
  rename_i hfa hsm hd hu
  have hR := hfa _ (.head _)
  dsimp only at hR
  have hL := isList_of hR
  (k_with "eval ListComp" => refine stop ?_)
  k_steps
  unfold Stop
  refine wpAny_ListComp_map (fun _ => false) (fun _ _ => False) rfl (by decide) (by decide) rfl (by decide) rfl ?_
  (k_with "Exists" => refine stop ?_)
  k_steps
  unfold Stop
  (rename Fr _ _ _ _ => F9)
  refine ⟨_, _, rfl, hL.at (Fr.keep (by k_asm) _), by have := hI.length; rw [sizeLine_eq]; simp; omega, fun C v s₂ m₂ E' hv hn hm hk => ?_, fun C v s₂ m₂ E' hv hp => by simp at hp, fun D h' tk ys hD hys hP hkeep => ?_⟩
  · refine wpAny_tests_one ?_
    obtain ⟨i, t, rfl⟩ : ∃ i t, v = .int i t := ints_mem hI (by simpa using hv)
    k_steps
    all_goals exact ⟨_, _, rfl, fun _ _ e => e⟩
  · obtain rfl : ys = #[] := nil_of_paired hP
    obtain ⟨oD, eD, hc, nD, hdat⟩ := hys
    obtain ⟨F', N'⟩ := fr_up F9 hkeep hD eD
    clear F9
    (k_with "compareOp Eq ref ref" => refine stop ?_)
    k_steps
    unfold Stop
    (rename Fr _ _ _ _ => F8)
    (rename News _ _ _ _ => N8)
    refine eq_intsK (vs := []) (us := []) ⟨oD, (N8 (D, oD) (by k_mem)).1, hc, nD, hdat⟩ .nil (isList_of (N8 _ (by k_mem)).1) .nil (by ktr_units) ?_
    exact ends_bool F8 N8 (by decide)
set_option maxHeartbeats 8000000 in
theorem t_numsR (w : World) (l : Addr) (ws : List Value) (n : Nat) (hI : ∀ v ∈ ws, ∃ t, v = .str (Str.ofString "refused") t) (hl : ws.length < 1000)
   : Tell w 20 481 [.ref l] [(l, PySem.W.listOf ws.toArray n)] [] (RBool true) := by
  k_with_none
  (k_with "ite" => first | with_reducible refine Mine.pite_ff ?_ | with_reducible refine Mine.pite_tt ?_ | with_reducible refine Mine.pite_nt ?_ | with_reducible refine Mine.pite_nf ?_ | with_reducible refine Mine.pite_t ?_ | with_reducible refine Mine.pite_f ?_)
  (k_with "eval Name" => (k_here; (with_reducible show wpAny _ _ (eval (Expr.Name _ _) (envOf _ _ _ _ _)) _ _ _); name_kind "globalImplicit"; name_is_builtin; (with_reducible rename Fr _ _ _ _ => kF); k_dflt (refine' Mine.nameB ?c1 ?c2 ?c3 kF ?k1 ?k2 ?k3 ?k4 ?k5 ?_; (case c1 => kernel_rfl); (case c2 => kernel_rfl); (case c3 => kernel_rfl); (case k1 => k_asm); (case k2 => k_asm); (case k3 => k_is); (case k4 => boot_by_name); (case k5 => decide); k_whole)))
  (k_with "eval Name" => (k_here; (with_reducible show wpAny _ _ (eval (Expr.Name _ _) (envOf _ _ _ _ _)) _ _ _); name_kind "globalImplicit"; (with_reducible rename Fr _ _ _ _ => kF); k_dflt (refine' Mine.nameK ?c1 ?c2 ?c3 kF ?k1 ?k2 ?k3 ?_; (case c1 => kernel_rfl); (case c2 => kernel_rfl); (case c3 => kernel_rfl); (case k1 => k_asm); (case k2 => k_asm); (case k3 => k_is); k_whole)))
  (k_with "eval Name" => (k_here; (with_reducible show wpAny _ _ (eval (Expr.Name _ _) (envOf _ _ _ _ _)) _ _ _); name_kind "local"; k_dflt (refine' Mine.nameL ?c1 ?c2 ?c3 ?k1 ?k2 ?_; (case c1 => kernel_rfl); (case c2 => kernel_rfl); (case c3 => kernel_rfl); (case k1 => k_asm); (case k2 => exact rfl); k_whole)))
  (k_with "callWith ref" => (k_here; k_dflt (first
  | (refine' callWith_K ?k1 ?k2 ?_; (case k1 => k_asm); (case k2 => k_is); k_whole)
  | (refine' callWith_KW ?k1 ?k2 ?k3 ?_; (case k1 => k_asm); (case k2 => k_is); (case k3 => exact rfl); k_whole))))
  (k_with "ct int" => (
  (try dsimp only)
  refine' Mine.ends_int ?e1 ?e2 ?_
  case e1 => k_asm
  case e2 => k_asm))
  (k_with "ct with" => (
  (case k1 => k_asm)
  (case k2 => k_asm)
  (case k3 => k_in)
  (case k4 => k_asm)
  (case k5 => k_asm)
  (case kK => first | exact rfl | assumption)
  (case kf => first | exact fun _ h => (nomatch h) | walk_at "ct facts")
  (case kd => ktr_room)
  (case ku => ktr_units)))
  (k_with "ct mul" => first | omega | (split <;> omega) | (simp only [] at *; omega) | (constructor <;> omega))
  (k_with "binaryOp Mult int int" => ((first
  | (refine mul_int ?_ (PySem.IntMulOk.of_right (PySem.intBits_le_64 (by walk_at "ct mul") (by walk_at "ct mul"))))
  | (refine mul_int ?_ (PySem.IntMulOk.of_left (PySem.intBits_le_64 (by walk_at "ct mul") (by walk_at "ct mul"))))); (try dsimp only)))
  (k_with "binaryOp FloorDiv int int" => ((with_reducible refine Mine.fdivQ (by first | omega | (simp only [] at *; omega)) (by first | omega | (simp only [] at *; omega)) ?_); (try dsimp only)))
  (k_with "binaryOp Mod int int" => ((with_reducible refine Mine.fmodQ (by first | omega | (simp only [] at *; omega)) ?_); (try dsimp only)))
  (k_with "call builtin:issubclass" => (k_here; k_dflt ((refine' Mine.issub_hdr ?F ?X ?c ?m ?_; (case F => k_asm); (case X => k_asm); (case c => first | assumption | k_is); (case m => first | assumption | k_is)))))
  (k_with "call builtin:tuple.__getitem__" => (k_here; k_dflt ((refine' Mine.call_tupitem ?F ?X ?x ?dd ?m ?l ?h ?k ?y ?_; (case F => k_asm); (case X => k_asm); (case x => assumption); (case dd => assumption); (case m => first | assumption | k_is); (case l => first | assumption | decide); (case h => first | assumption | decide); (case k => first | assumption | rfl); (case y => first | assumption | rfl)))))
  (k_with "getMethod" => (k_here; (with_reducible show wpAny _ _ (getMethod (Value.type _) _ _) _ _ _); k_dflt ((refine' method_type ?F ?X ?t ?s ?e ?h ?_; (case F => k_asm); (case X => k_asm); (case t => first | rfl | kernel_rfl); (case s => decide +kernel); (case e => k_is); (case h => k_handed)))))
  (k_with "eval Name" => (k_here; (with_reducible show wpAny _ _ (eval (Expr.Name _ _) (compEnv _ _ _)) _ _ _); (rename Fr _ _ _ _ => kF); k_dflt (refine' Mine.name_cmp kF ?k0 ?k1 ?k2 ?k3 ?k4 ?k5 ?_; (case k0 => assumption); (case k1 => k_asm); (case k2 => k_asm); (case k3 => k_is); (case k4 => boot_by_name); (case k5 => decide); k_whole)))
  refine Mine.fill ?_
  k_fill
  intro _ _
  refine' Mine.tell_of ?ho ?hcd ?hb ?hl ?c1 ?c2 ?c3 ?c4 (by decide) ?_
  case ho => k_is
  case hcd => k_is
  case hb => (conv in (occs := *) Mine.fArgs _ => all_goals whnf); first | exact fun _ _ _ _ => BindsTo.of_eq rfl | exact fun h₀ s X k => binds_K (X.keeps k) rfl (by k_is) rfl rfl rfl
  case hl => exact locs rfl
  case c1 => exact rfl
  case c2 => exact rfl
  case c3 => exact rfl
  case c4 => decide
  intro _ _ _ _ _ _ _ _ _ _ _ _ _ _ _ _ _ _ _ _ _ _ _ _ _ _ _ _ _ _
  (conv in (occs := *) Mine.fBody _ => all_goals whnf)
  (conv in (occs := *) Mine.fScope _ => all_goals whnf)
  (try dsimp only)
  (try k_fold)
  rename_i hfa hsm hd hu
  have hR := hfa _ (.head _)
  dsimp only at hR
  have hL := isList_of hR
  (k_with "eval ListComp" => refine stop ?_)
  k_steps
  unfold Stop
  refine wpAny_ListComp_map (fun _ => false) (fun _ _ => False) rfl (by decide) (by decide) rfl (by decide) rfl ?_
  (k_with "Exists" => refine stop ?_)
  k_steps
  unfold Stop
  (rename Fr _ _ _ _ => F9)
  refine ⟨_, _, rfl, hL.at (Fr.keep (by k_asm) _), by rw [sizeLine_eq]; simp; omega, fun C v s₂ m₂ E' hv hn hm hk => ?_, fun C v s₂ m₂ E' hv hp => by simp at hp, fun D h' tk ys hD hys hP hkeep => ?_⟩
  · refine wpAny_tests_one ?_
    obtain ⟨t, rfl⟩ := hI v (by simpa using hv)
    k_steps
    all_goals exact ⟨_, _, rfl, fun _ _ e => e⟩
  · obtain rfl : ys = #[] := nil_of_paired hP
    obtain ⟨oD, eD, hc, nD, hdat⟩ := hys
    obtain ⟨F', N'⟩ := fr_up F9 hkeep hD eD
    clear F9
    (k_with "compareOp Eq ref ref" => refine stop ?_)
    k_steps
    unfold Stop
    (rename Fr _ _ _ _ => F8)
    (rename News _ _ _ _ => N8)
    refine eq_intsK (vs := []) (us := []) ⟨oD, (N8 (D, oD) (by k_mem)).1, hc, nD, hdat⟩ .nil (isList_of (N8 _ (by k_mem)).1) .nil (by ktr_units) ?_
    exact ends_bool F8 N8 (by decide)
theorem use_intX {w : World} {k : Nat} {f : Addr} {vs : List Value} {facts : Nws} {y : Int}
    {p : Program} {loose : List Str} {mean : ExcName → Option Value} {mg mb : Str → Option Value} {dp un : Nat} {gd : Option (List Code)} {cn : Str} {cs : Scope} {a : Addr} {ccd : Value} {cl : List (Str × Addr)} {outer : List Env} {A₀ : Around} {base g₀ h₀ : Heap} {L : Addr} {m : Str → Option Value} {news : Nws} {s : Shared} {Q E : Value → Shared → Prop}
    (C : TellX w k f vs facts [] (RInt y)) (B : Below A₀ base outer h₀) (F : Fr h₀ L s.heap m) (X : (Mine.K w.params).In h₀) (N : News h₀ L s.heap news) (T : Top p loose mean mg mb h₀) (XB : (Mine.K w.params).In base) (TB : Top p loose mean mg mb base) (D : KtsDicts (frs outer) h₀) (hk : cs.kind = .function)
    (hfa : ∀ q ∈ facts, q ∈ news ∨ h₀.get? q.1 = some q.2) (hd : dp + k < recursionLimit) (hu : un + 8 * k < cLine) (T0 : KtsTurn (frs outer) g₀ h₀)
    (ret : ∀ t h' tk' h₀', KtsTurn (frs outer) g₀ h₀' → Fr h₀' L h' m → News h₀' L h' news → Below A₀ base outer h₀' → (Mine.K w.params).In h₀' → Top p loose mean mg mb h₀' → KtsDicts (frs outer) h₀' → Q (.int y t) { s with heap := h', toks := tk' }) :
    wpAny (model pw w) (ktrTop dp un gd cn cs L a ccd cl outer) (call (.ref f) vs) Q E s :=
  C.tell B F X N T XB TB D hk hfa (fun _ h => (nomatch h)) (fun _ _ h => (nomatch h)) hd hu fun r h' tk' new h₀' hP T' F' N' _ B' X' P' D' => by
    obtain ⟨rfl, t, rfl⟩ := hP
    rw [rest_nil] at N'
    exact ret t h' tk' h₀' (T0.trans T') F' N' B' X' P' D'
theorem use_bool {w : World} {k : Nat} {f : Addr} {vs : List Value} {facts : Nws} {y : Bool}
    {p : Program} {loose : List Str} {mean : ExcName → Option Value} {mg mb : Str → Option Value} {dp un : Nat} {gd : Option (List Code)} {cn : Str} {cs : Scope} {a : Addr} {ccd : Value} {cl : List (Str × Addr)} {outer : List Env} {A₀ : Around} {base h₀ : Heap} {L : Addr} {m : Str → Option Value} {news : Nws} {s : Shared} {Q E : Value → Shared → Prop}
    (C : Tell w k f vs facts [] (RBool y)) (B : Below A₀ base outer h₀) (F : Fr h₀ L s.heap m) (X : (Mine.K w.params).In h₀) (N : News h₀ L s.heap news) (T : Top p loose mean mg mb h₀) (hk : cs.kind = .function)
    (hfa : ∀ q ∈ facts, q ∈ news ∨ h₀.get? q.1 = some q.2) (hd : dp + k < recursionLimit) (hu : un + 8 * k < cLine)
    (ret : ∀ h' tk', Fr h₀ L h' m → News h₀ L h' news → Q (.bool y) { s with heap := h', toks := tk' }) :
    wpAny (model pw w) (ktrTop dp un gd cn cs L a ccd cl outer) (call (.ref f) vs) Q E s :=
  C.tell B F X N T hk hfa (fun _ h => (nomatch h)) (fun _ _ h => (nomatch h)) hd hu fun r h' tk' new hP F' N' _ => by
    obtain ⟨rfl, rfl⟩ := hP
    rw [rest_nil] at N'
    exact ret h' tk' F' N'
theorem fact_one {news : Nws} {h₀ : Heap} {l : Addr} {o : Obj} (h : (l, o) ∈ news ∨ h₀.get? l = some o) : ∀ q ∈ ([(l, o)] : Nws), q ∈ news ∨ h₀.get? q.1 = some q.2 := by
  intro q hq
  rw [List.mem_singleton.mp hq]; exact h
theorem endsX_bool {fs : List Addr} {g g' : Heap} {s : Shared} {L' : Addr} {h : Heap} {m' : Str → Option Value} {new : Nws} {x y : Bool} {tk : Nat}
    (T : KtsTurn fs g g') (F : Fr g' L' h m') (N : News g' L' h new) (e : x = y) : EndsX fs g s (RBool y) (.bool x) { s with heap := h, toks := tk } :=
  ⟨g', L', m', new, h, tk, T, rfl, F, N, [], fun _ h => (nomatch h), rfl, by rw [e]⟩
noncomputable def isInts : List Value → Bool
  | [] => true
  | .int _ _ :: r => isInts r
  | _ => false
theorem isInts_mem : ∀ {ws : List Value}, isInts ws = true → ∃ vs, IntsAre ws vs
  | [], _ => ⟨[], .nil⟩
  | .int i t :: r, h => by
    obtain ⟨vs, hv⟩ := isInts_mem (ws := r) h
    exact ⟨i :: vs, .cons i t hv⟩
theorem isInts_of {ws : List Value} {vs : List Int} (h : IntsAre ws vs) : isInts ws = true := by
  induction h with
  | nil => rfl
  | cons n t _ ih => exact ih
theorem t_numsB (w : World) (l : Addr) (ws : List Value) (n : Nat) (hI : isInts ws = true) (hl : ws.length < 1000) : Tell w 20 481 [.ref l] [(l, PySem.W.listOf ws.toArray n)] [] (RBool true) := by
  obtain ⟨vs, hv⟩ := isInts_mem hI
  exact t_nums w l ws vs n hv (by rw [← hv.length]; exact hl)
set_option maxHeartbeats 8000000 in
theorem t_blobs (w : World) (vd : Value) (excess used : Int) (t1 t2 : Tok) (h0 : 0 ≤ excess) (h1 : excess ≤ 7 * 3338477) : TellX w 60 500 [vd, .int excess t1, .int used t2] [] [] (RBool true) := by
  k_with_none
  (k_with "ite" => first | with_reducible refine Mine.pite_ff ?_ | with_reducible refine Mine.pite_tt ?_ | with_reducible refine Mine.pite_nt ?_ | with_reducible refine Mine.pite_nf ?_ | with_reducible refine Mine.pite_t ?_ | with_reducible refine Mine.pite_f ?_)
  (k_with "execs cons" => first | (k_here; k_gentoks) | ((with_reducible refine Mine.execs_gen ?_); intro Q9 hQ9))
  (k_with "execs cons" => ((with_reducible show wpAny _ _ (execs _ _) (UnrPost _ _ _ _ _ _ _) _ _); (refine Mine.gen_post ?_); intro Q9 hQ9))
  (k_with "execs cons" => ((with_reducible show wpAny _ _ (execs _ _) (UnrPostW _ _ _ _ _ _) _ _); (refine Mine.gen_post ?_); intro Q9 hQ9))
  (k_with "callWith ref" => (k_here; (with_reducible show wpAny _ _ (callWith _ _ _ (backTo _ (starEach [] _)) []) _ _ _); k_dflt (refine' Mine.callWithK0 ?kF ?k1 ?k2 ?_; (case kF => k_asm); (case k1 => k_asm); (case k2 => k_is); k_whole)))
  (k_with "eval Name" => (k_here; (with_reducible show wpAny _ _ (eval (Expr.Name _ _) (envOf _ _ _ _ _)) _ _ _); name_kind "globalImplicit"; name_is_builtin; (with_reducible rename Fr _ _ _ _ => kF); k_dflt (refine' Mine.nameB ?c1 ?c2 ?c3 kF ?k1 ?k2 ?k3 ?k4 ?k5 ?_; (case c1 => kernel_rfl); (case c2 => kernel_rfl); (case c3 => kernel_rfl); (case k1 => k_asm); (case k2 => k_asm); (case k3 => k_is); (case k4 => boot_by_name); (case k5 => decide); k_whole)))
  (k_with "eval Name" => (k_here; (with_reducible show wpAny _ _ (eval (Expr.Name _ _) (envOf _ _ _ _ _)) _ _ _); name_kind "globalImplicit"; (with_reducible rename Fr _ _ _ _ => kF); k_dflt (refine' Mine.nameK ?c1 ?c2 ?c3 kF ?k1 ?k2 ?k3 ?_; (case c1 => kernel_rfl); (case c2 => kernel_rfl); (case c3 => kernel_rfl); (case k1 => k_asm); (case k2 => k_asm); (case k3 => k_is); k_whole)))
  (k_with "eval Name" => (k_here; (with_reducible show wpAny _ _ (eval (Expr.Name _ _) (envOf _ _ _ _ _)) _ _ _); name_kind "local"; k_dflt (refine' Mine.nameL ?c1 ?c2 ?c3 ?k1 ?k2 ?_; (case c1 => kernel_rfl); (case c2 => kernel_rfl); (case c3 => kernel_rfl); (case k1 => k_asm); (case k2 => exact rfl); k_whole)))
  (k_with "callWith ref" => (k_here; k_dflt (first
  | (refine' callWith_K ?k1 ?k2 ?_; (case k1 => k_asm); (case k2 => k_is); k_whole)
  | (refine' callWith_KW ?k1 ?k2 ?k3 ?_; (case k1 => k_asm); (case k2 => k_is); (case k3 => exact rfl); k_whole))))
  (k_with "ct int" => (
  (try dsimp only)
  refine' Mine.ends_int ?e1 ?e2 ?_
  case e1 => k_asm
  case e2 => k_asm))
  (k_with "ct with" => (
  (case k1 => k_asm)
  (case k2 => k_asm)
  (case k3 => k_in)
  (case k4 => k_asm)
  (case k5 => k_asm)
  (case kK => first | exact rfl | assumption)
  (case kf => first | exact fun _ h => (nomatch h) | walk_at "ct facts")
  (case kd => ktr_room)
  (case ku => ktr_units)))
  (k_with "ct mul" => first | omega | (split <;> omega) | (simp only [] at *; omega) | (constructor <;> omega))
  (k_with "binaryOp Mult int int" => ((first
  | (refine mul_int ?_ (PySem.IntMulOk.of_right (PySem.intBits_le_64 (by walk_at "ct mul") (by walk_at "ct mul"))))
  | (refine mul_int ?_ (PySem.IntMulOk.of_left (PySem.intBits_le_64 (by walk_at "ct mul") (by walk_at "ct mul"))))); (try dsimp only)))
  (k_with "binaryOp FloorDiv int int" => ((with_reducible refine Mine.fdivQ (by first | omega | (simp only [] at *; omega)) (by first | omega | (simp only [] at *; omega)) ?_); (try dsimp only)))
  (k_with "binaryOp Mod int int" => ((with_reducible refine Mine.fmodQ (by first | omega | (simp only [] at *; omega)) ?_); (try dsimp only)))
  (k_with "call builtin:issubclass" => (k_here; k_dflt ((refine' Mine.issub_hdr ?F ?X ?c ?m ?_; (case F => k_asm); (case X => k_asm); (case c => first | assumption | k_is); (case m => first | assumption | k_is)))))
  (k_with "call builtin:tuple.__getitem__" => (k_here; k_dflt ((refine' Mine.call_tupitem ?F ?X ?x ?dd ?m ?l ?h ?k ?y ?_; (case F => k_asm); (case X => k_asm); (case x => assumption); (case dd => assumption); (case m => first | assumption | k_is); (case l => first | assumption | decide); (case h => first | assumption | decide); (case k => first | assumption | rfl); (case y => first | assumption | rfl)))))
  (k_with "getMethod" => (k_here; (with_reducible show wpAny _ _ (getMethod (Value.type _) _ _) _ _ _); k_dflt ((refine' method_type ?F ?X ?t ?s ?e ?h ?_; (case F => k_asm); (case X => k_asm); (case t => first | rfl | kernel_rfl); (case s => decide +kernel); (case e => k_is); (case h => k_handed)))))
  (k_with "call builtin:tuple.__new__" => (k_here; k_dflt ((refine' Mine.call_tupnew ?F ?N ?X ?Y ?c ?m ?i ?t ?z ?_; (case F => k_asm); (case N => k_asm); (case X => k_asm); (case Y => assumption); (case c => k_is); (case m => k_is); (case i => k_is); (case t => k_mem); (case z => simp)); intro x' d' h' F' N' l1 l2; (try k_lt l1); (try k_lt2 l2); (try k_sweep))))
  (k_with "getAttr ref" => (
  k_here
  k_dflt (
  (refine' Mine.hdr_miss ?k2 ?k3 ?k4 ?gx ?gg ?gk ?gc ?ga ?gm ?hA ?hC ?hn ?hl ?hz ?cp ?_)
  (case k2 => k_asm)
  (case k3 => k_in)
  (case k4 => k_asm)
  (case gx => first | exact ⟨Or.inr (by assumption), Or.inr (by assumption)⟩ | exact ⟨Or.inl (by k_mem), Or.inl (by k_mem)⟩)
  (case gg => k_is)
  (case gk => k_is)
  (case gc => k_is)
  (case ga => k_is)
  (case gm => k_is)
  (case hA => exact rfl)
  (case hC => k_is)
  (case hn => decide +kernel)
  (case hl => decide +kernel)
  (case hz => decide +kernel)
  (case cp => decide +kernel)
  intro h9 tk9 e9 NX9)))
  (k_with "getAttr ref" => (
  k_here
  k_dflt (
  (refine' Mine.hdr_attr ?k1 ?k2 ?k3 ?k4 ?k5 ?kK ?gx ?gg ?gg2 ?gc ?gm ?ga ?gs ?gt ?gp ?gd ?gl ?gh ?gi ?gv ?go ?kd ?ku ?_)
  (case k1 => k_asm)
  (case k2 => k_asm)
  (case k3 => k_in)
  (case k4 => k_asm)
  (case k5 => k_asm)
  (case kK => first | exact rfl | assumption)
  (case gx => first | exact ⟨Or.inr (by assumption), Or.inr (by assumption)⟩ | exact ⟨Or.inl (by k_mem), Or.inl (by k_mem)⟩)
  (case gg => k_is)
  (case gg2 => k_is)
  (case gc => k_is)
  (case gm => k_is)
  (case ga => k_is)
  (case gs => k_is)
  (case gt => k_is)
  (case gp => k_is)
  (case gd => k_is)
  (case gl => decide)
  (case gh => decide)
  (case gi => rfl)
  (case gv => rfl)
  (case go => rfl)
  (case kd => ktr_room)
  (case ku => ktr_units)
  intro h9 tk9 F9 N9
  (try k_sweep))))
  (k_with "ct intx" => (
  (try dsimp only)
  (show Mine.EndsX _ _ _ _ _ _)
  refine' Mine.endsX_int ?e0 ?e1 ?e2 ?e3
  case e0 => first | assumption | exact KtsTurn.refl
  case e1 => k_asm
  case e2 => k_asm))
  (k_with "noteFrame ref" => (
  k_here
  (rename Heap.NewExcOf _ _ _ _ => nxX)
  k_dflt (
  (refine' Mine.own_N0 (T' := "AttributeError") ?hx ?F ?N ?K ?XB ?TB ?D ?T0 ?ex PyProof.Rows.Boot.«AttributeError» ?hn Mine.exc_attr Mine.notTuple_attr Mine.sub_attr ?_; (case hx => exact nxX); (case F => k_asm); (case N => k_asm); (case K => assumption); (case XB => assumption); (case TB => assumption); (case D => assumption); (case T0 => first | assumption | exact KtsTurn.refl); (case ex => k_is); (case hn => decide); k_whole)
  intro h' g' T' F' N' K' X' P' D'; (try k_lift K'); (try k_sweep))))
  (k_with "And" => (
  (with_reducible show PySem.Str.length _ ≤ sizeLine ∧ _)
  (with_reducible refine' Mine.fits_z ?fa ?fb ?_)
  (case fa => repeat' (first | (with_reducible refine' Mine.fits_add' ?_ ?_) | ((show _ ≤ 1000); (first | assumption | decide +kernel | (with_reducible exact Mine.len_int' (by omega) (by omega))))))
  (case fb => decide +kernel)))
  (k_with "joinParts" => (
  (with_reducible show wpAny _ _ (joinParts _ (evalEach [] _)) _ _ _)
  (with_reducible refine' Mine.joinNil ?fa ?fb ?_)
  (case fa => repeat' (first | (with_reducible refine' Mine.fits_add' ?_ ?_) | ((show _ ≤ 1000); (first | assumption | decide +kernel | (with_reducible exact Mine.len_int' (by omega) (by omega))))))
  (case fb => decide +kernel)))
  (k_with "ct steps" => repeat' (first | (k_unfold; (try dsimp only)) | walk1 | (dsimp only; walk1) | (leave1; walk_say "STEP leave1"; try dsimp only) | (refine Mine.Gen.to (by with_reducible assumption) _ _ ?_; try dsimp only) | fail "no step"))
  (k_with "ct raised" => first
  | exact ⟨_, _, _, rfl, rfl, by assumption, by assumption⟩
  | exact ⟨_, _, _, rfl, rfl, RaisedS.toSN (by assumption), by assumption⟩)
  (k_with "ct ne" => repeat ((with_reducible rename (@Ne Nat _ _ ∧ _) => hx9); obtain ⟨hy9, hz9⟩ := hx9))
  (k_with "call ref" => (
  (with_reducible show wpAny _ _ (call (Value.ref 413) _) _ _ _)
  k_dflt (
  (refine' Mine.use_delays ?k1 ?k2 ?k3 ?k4 ?k5 ?kK ?kd ?ku ?_)
  (case k1 => k_asm)
  (case k2 => k_asm)
  (case k3 => k_in)
  (case k4 => k_asm)
  (case k5 => k_asm)
  (case kK => first | exact rfl | assumption)
  (case kd => ktr_room)
  (case ku => ktr_units)
  intro l9 ta9 tb9 tc9 td9 n9 h9 tk9 F9 N9 ne9
  (try simp only [Mine.AllNe, and_true] at ne9)
  walk_at "ct ne"
  (try k_sweep))))
  (k_with "ct with2" => (
  (case k1 => k_asm)
  (case k2 => k_asm)
  (case k3 => k_in)
  (case k4 => k_asm)
  (case k5 => k_asm)
  (case kK => first | exact rfl | assumption)
  (case kf => refine' Mine.facts_hdr ?gx; (case gx => first | exact ⟨Or.inr (by assumption), Or.inr (by assumption)⟩ | exact ⟨Or.inl (by k_mem), Or.inl (by k_mem)⟩))
  (case kd => ktr_room)
  (case ku => ktr_units)))
  (k_with "ct rwith2" => (
  (case k1 => k_asm)
  (case k2 => k_asm)
  (case k3 => k_in)
  (case k4 => k_asm)
  (case k5 => k_asm)
  (case kXB => assumption)
  (case kTB => assumption)
  (case kD => assumption)
  (case kK => first | exact rfl | assumption)
  (case kf => refine' Mine.facts_hdr ?gx; (case gx => first | exact ⟨Or.inr (by assumption), Or.inr (by assumption)⟩ | exact ⟨Or.inl (by k_mem), Or.inl (by k_mem)⟩))
  (case kd => ktr_room)
  (case ku => ktr_units)))
  (k_with "ct rwith3" => (
  (case k1 => k_asm)
  (case k2 => k_asm)
  (case k3 => k_in)
  (case k4 => k_asm)
  (case k5 => k_asm)
  (case kXB => assumption)
  (case kTB => assumption)
  (case kD => assumption)
  (case kK => first | exact rfl | assumption)
  (case kf => refine' Mine.facts_hdr ?gx; (case gx => first | exact ⟨Or.inr (by assumption), Or.inr (by assumption)⟩ | exact ⟨Or.inl (by k_mem), Or.inl (by k_mem)⟩))
  (case kd => ktr_room)
  (case ku => ktr_units)
  (case kT => first | assumption | exact KtsTurn.refl)))
  (k_with "call ref" => (
  (with_reducible show wpAny _ _ (call (Value.ref 172) _) _ _ _)
  k_dflt (
  (refine' Mine.mk172 ?k1 ?k2 ?k3 ?k4 ?k5 ?kK ?kd ?ku ?_)
  (case k1 => k_asm)
  (case k2 => k_asm)
  (case k3 => k_in)
  (case k4 => k_asm)
  (case k5 => k_asm)
  (case kK => first | exact rfl | assumption)
  (case kd => ktr_room)
  (case ku => ktr_units)
  intro x9 d9 h9 tk9 F9 N9 nx9 nd9 ld9
  replace nx9 := Mine.allNe_of nx9
  replace nd9 := Mine.allNe_of nd9
  (try simp only [Mine.AllNe, and_true] at nx9 nd9)
  walk_at "ct ne"
  (try k_sweep))))
  (k_with "call ref" => (
  (with_reducible show wpAny _ _ (call (Value.ref 246) _) _ _ _)
  k_dflt (
  (refine' Mine.mk246 ?k1 ?k2 ?k3 ?k4 ?k5 ?kK ?kd ?ku ?_)
  (case k1 => k_asm)
  (case k2 => k_asm)
  (case k3 => k_in)
  (case k4 => k_asm)
  (case k5 => k_asm)
  (case kK => first | exact rfl | assumption)
  (case kd => ktr_room)
  (case ku => ktr_units)
  intro x9 d9 h9 tk9 F9 N9 nx9 nd9 ld9
  replace nx9 := Mine.allNe_of nx9
  replace nd9 := Mine.allNe_of nd9
  (try simp only [Mine.AllNe, and_true] at nx9 nd9)
  walk_at "ct ne"
  (try k_sweep))))
  (k_with "call ref" => (
  (with_reducible show wpAny _ _ (call (Value.ref 317) _) _ _ _)
  k_dflt (
  (refine' Mine.mk317 ?k1 ?k2 ?k3 ?k4 ?k5 ?kK ?kd ?ku ?_)
  (case k1 => k_asm)
  (case k2 => k_asm)
  (case k3 => k_in)
  (case k4 => k_asm)
  (case k5 => k_asm)
  (case kK => first | exact rfl | assumption)
  (case kd => ktr_room)
  (case ku => ktr_units)
  intro x9 d9 h9 tk9 F9 N9 nx9 nd9 ld9
  replace nx9 := Mine.allNe_of nx9
  replace nd9 := Mine.allNe_of nd9
  (try simp only [Mine.AllNe, and_true] at nx9 nd9)
  walk_at "ct ne"
  (try k_sweep))))
  (k_with "call ref" => (
  (with_reducible show wpAny _ _ (call (Value.ref 364) _) _ _ _)
  k_dflt (first
  | ((refine' Mine.use_int (Mine.t_cancun _ _ _ _ _ _ _) ?k1 ?k2 ?k3 ?k4 ?k5 ?kK ?kf ?kd ?ku ?_); walk_at "ct with2"; intro t9 h9 tk9 F9 N9; (try replace N9 := Mine.news_hdr N9); (try k_sweep))
  | ((refine' Mine.use_intX (Mine.t_cancunX _ _ _ _) ?k1 ?k2 ?k3 ?k4 ?k5 ?kXB ?kTB ?kD ?kK ?kf ?kd ?ku ?kT ?_); walk_at "ct rwith3"; intro t9 h9 tk9 h₀9 T9 F9 N9 B9 X9 P9 D9; (try k_lift B9); (try k_sweep)))))
  (k_with "call ref" => (
  (with_reducible show wpAny _ _ (call (Value.ref 385) _) _ _ _)
  k_dflt (first
  | ((refine' Mine.use_int (Mine.t_prague _ _ _ _ _ _ _) ?k1 ?k2 ?k3 ?k4 ?k5 ?kK ?kf ?kd ?ku ?_); walk_at "ct with2"; intro t9 h9 tk9 F9 N9; (try replace N9 := Mine.news_hdr N9); (try k_sweep))
  | ((refine' Mine.use_intX (Mine.t_pragueX _ _ _ _) ?k1 ?k2 ?k3 ?k4 ?k5 ?kXB ?kTB ?kD ?kK ?kf ?kd ?ku ?kT ?_); walk_at "ct rwith3"; intro t9 h9 tk9 h₀9 T9 F9 N9 B9 X9 P9 D9; (try k_lift B9); (try k_sweep)))))
  (k_with "call ref" => ((with_reducible show wpAny _ _ (call (Value.ref 476) _) _ _ _); k_dflt ((refine' Mine.use_int (Mine.t_excess _ _ _ _ _ _ _) ?k1 ?k2 ?k3 ?k4 ?k5 ?kK ?kf ?kd ?ku ?_); walk_at "ct with"; intro t9 h9 tk9 F9 N9; (try k_sweep))))
  (k_with "call ref" => ((with_reducible show wpAny _ _ (call (Value.ref 36) _) _ _ _); k_dflt ((refine' Mine.use_int (Mine.t_fake _ _ _ _ _ _ ?p0 ?p1 ?p2 ?p3) ?k1 ?k2 ?k3 ?k4 ?k5 ?kK ?kf ?kd ?ku ?_); walk_at "ct with"; (case p0 => assumption); (case p1 => omega); (case p2 => omega); (case p3 => omega); intro t9 h9 tk9 F9 N9; (try k_sweep))))
  (k_with "call ref" => ((with_reducible show wpAny _ _ (call (Value.ref 469) _) _ _ _); k_dflt ((refine' Mine.use_int (Mine.t_price _ _ _ _ _ ?p0 ?p1 ?p2 ?p3) ?k1 ?k2 ?k3 ?k4 ?k5 ?kK ?kf ?kd ?ku ?_); walk_at "ct with"; (case p0 => assumption); (case p1 => omega); (case p2 => omega); (case p3 => omega); intro t9 h9 tk9 F9 N9; (try k_sweep))))
  (k_with "call ref" => (
  (with_reducible show wpAny _ _ (call (Value.ref 481) _) _ _ _)
  k_dflt (
  (refine' Mine.use_bool (Mine.t_numsB _ _ _ _ ?p0 ?p1) ?k1 ?k2 ?k3 ?k4 ?k5 ?kK ?kf ?kd ?ku ?_)
  (case k1 => k_asm)
  (case k2 => k_asm)
  (case k3 => k_in)
  (case k4 => k_asm)
  (case k5 => k_asm)
  (case kK => first | exact rfl | assumption)
  (case kf => refine' Mine.fact_one ?gx; (case gx => first | exact Or.inl (by k_mem) | exact Or.inr (by assumption)))
  (case kd => ktr_room)
  (case ku => ktr_units)
  (case p0 => first | exact rfl | exact Mine.isInts_of (by assumption))
  (case p1 => first | exact Nat.lt_of_le_of_lt (Nat.le_refl _) (by decide) | (simp; done) | exact Mine.ints_len (by assumption))
  intro h9 tk9 F9 N9
  (try replace N9 := Mine.news_tl N9)
  (try k_sweep))))
  refine Mine.fill ?_
  k_fill
  intro _ _
  refine' Mine.tellX_of ?ho ?hcd ?hb ?hl ?c1 ?c2 ?c3 ?c4 (by decide) ?_
  case ho => k_is
  case hcd => k_is
  case hb => (conv in (occs := *) Mine.fArgs _ => all_goals whnf); first | exact fun _ _ _ _ => BindsTo.of_eq rfl | exact fun h₀ s X k => binds_K (X.keeps k) rfl (by k_is) rfl rfl rfl
  case hl => exact locs rfl
  case c1 => exact rfl
  case c2 => exact rfl
  case c3 => exact rfl
  case c4 => decide
  intro _ _ _ _ _ _ _ _ _ _ _ _ _ _ _ _ _ _ _ _ _ _ _ _ _ _ _ _ _ _ _ _ _
  (conv in (occs := *) Mine.fBody _ => all_goals whnf)
  (conv in (occs := *) Mine.fScope _ => all_goals whnf)
  (try dsimp only)
  (try k_fold)
  refine Mine.gen_post fun Q9 hQ9 => ?_
  k_steps
  all_goals (try dsimp only)
  all_goals first
    | exact absurd rfl (by assumption)
    | ((show EndsX _ _ _ _ _ _); exact endsX_bool (by first | assumption | exact KtsTurn.refl) (by k_asm) (by k_asm) rfl)
/-- one item of a comprehension: its element may turn the ground -/
noncomputable def EltT (prog : Program) (w : World) (A : Around) (elt : Expr) (scope : Scope) (env : Env) (x : Str) (s₁ : Shared) (Gd : Heap → Prop) (m : Str → Option Value) (news : Nws) (v : Value) (R : Value → Prop) : Prop :=
  ∀ (g h : Heap) (tk : Nat) (C : Addr) (mc : Str → Option Value) (nw : Nws) (E' : Value → Shared → Prop), Gd g → Fr g env.locals h m → News g env.locals h nw → h.Ns C mc → mc x = some v → (∀ q ∈ news, q ∈ nw) →
    wpAny (model prog w) A (eval elt (compEnv scope C env)) (fun y s₃ => ∃ g' h' tk', s₃ = { s₁ with heap := h', toks := tk' } ∧ Gd g' ∧ Fr g' env.locals h' m ∧ News g' env.locals h' nw ∧ R y) E' { s₁ with heap := h, toks := tk }
theorem led_up {g h h' : Heap} {L b : Addr} {m : Str → Option Value} {nw : Nws} (F : Fr g L h m) (N : News g L h nw) (hs : Heap.ExtBut b h h') (hg : g.get? b = none) (hb : b ≠ L) (off : ∀ q ∈ nw, q.1 ≠ b) : Fr g L h' m ∧ News g L h' nw :=
  ⟨⟨F.ns.extBut hs (Ne.symm hb), fun a o e => hs a o (fun q => by rw [q, hg] at e; cases e) (F.keep a o e), F.above⟩, fun q hq => ⟨hs _ _ (off q hq) (N q hq).1, (N q hq).2⟩⟩
theorem compT {prog : Program} {w : World} {A : Around} {E : Value → Shared → Prop} {s₁ : Shared} {env : Env} {elt iter : Expr} {x : Str} {px : Pos} {scope : Scope} {pos : Pos} {Gd : Heap → Prop} {g₀ : Heap} {m : Str → Option Value} {news : Nws} {ax : Addr} {oT : Obj} {items : Array Value} {R : Nat → Value → Prop} {RR : Value → Env → Result → Shared → Prop}
    (hh : A.handled = none) (hcell : ∀ y ∈ scope.names, y.2 ≠ .cell) (hkind : scope.kind = .function) (hx : scope.names.lookup x = some .local)
    (F : Fr g₀ env.locals s₁.heap m) (N : News g₀ env.locals s₁.heap ((ax, oT) :: news)) (hG : Gd g₀) (hc : oT.cls = .type "tuple") (hd : ∃ n, oT.data = .seq items n)
    (hsz : items.size ≤ 1000)
    (elts : ∀ i v, items[i]? = some v → EltT prog w A elt scope env x s₁ Gd m news v (R i))
    (hRR : ∀ D C ys g h tk oD mc, Gd g → Fr g env.locals h m → News g env.locals h ((D, oD) :: news) → h.IsList D ys → ys.size = items.size → (∀ i y, ys[i]? = some y → R i y) → (∀ q ∈ news, q.1 ≠ D) →
      h.Ns C mc → C ≠ env.locals → D ≠ C → g.get? C = none → (∀ q ∈ news, q.1 ≠ C) → RR (.ref D) (compEnv scope C env) (.ok .next) { s₁ with heap := h, toks := tk }) :
    wpAny (model prog w) A (pyIter (.ref ax)) (fun it s₂ => wpAny (model prog w) A (newList []) (fun acc s₃ =>
      wpAny (model prog w) A (newFunctionEnv scope env.globals [] [] env.qual none .none (some env)) (fun cenv s₄ =>
        codeAny (model prog w) A (.compStart (.ListComp elt [⟨.Name x px, iter, [], 0⟩] scope pos) 0 it acc { cenv with scope := scope }) (RR acc { cenv with scope := scope }) s₄) E s₃) E s₂) E s₁ := by
  have hT₁ := N _ (.head _)
  have hT : s₁.heap.IsTuple ax items := ⟨oT, hT₁.1, hc, hd⟩
  refine wpAny_pyIter_tuple hT (wpAny_newObj_type (hd := by size_fits) (wpAny_newFunctionEnv hcell (by intro y hy; simp at hy) (fun h₁ hns₁ hsb₁ => ?_) hkind))
  dsimp only at hns₁ hsb₁ ⊢
  have hax : ax < s₁.heap.objs.size := Heap.lt_size hT₁.1
  generalize hH1 : s₁.heap.push { cls := .type "tuple_iterator", data := .fields #[.ref ax, .int 0 0] } = H1 at hns₁ hsb₁ ⊢
  have hD : H1.objs.size = s₁.heap.objs.size + 1 := by rw [← hH1, Heap.size_push]
  generalize hH2 : H1.push { cls := .type "list", dict := none, data := .seq ([] : List Value).toArray } = H2 at hns₁ hsb₁ ⊢
  have hC : H2.objs.size = s₁.heap.objs.size + 2 := by rw [← hH2, Heap.size_push, hD]
  have hDI : H1.objs.size ≠ s₁.heap.objs.size := by rw [hD]; exact Nat.succ_ne_self _
  have hDC : H1.objs.size ≠ H2.objs.size := by rw [hD, hC]; exact Nat.ne_of_lt (Nat.lt_succ_self _)
  have hIC : s₁.heap.objs.size ≠ H2.objs.size := by rw [hC]; exact Nat.ne_of_lt (Nat.lt_succ_of_lt (Nat.lt_succ_self _))
  have below : ∀ b, b < s₁.heap.objs.size → b ≠ H2.objs.size ∧ b ≠ s₁.heap.objs.size ∧ b ≠ H1.objs.size := fun b hb =>
    ⟨by rw [hC]; exact Nat.ne_of_lt (Nat.lt_succ_of_lt (Nat.lt_succ_of_lt hb)), Nat.ne_of_lt hb, by rw [hD]; exact Nat.ne_of_lt (Nat.lt_succ_of_lt hb)⟩
  have old : ∀ b o, s₁.heap.get? b = some o → h₁.get? b = some o := fun b o e =>
    hsb₁.extBut b o (below b (Heap.lt_size e)).1 (Heap.get?_push_of_some _ (hH2 ▸ Heap.get?_push_of_some _ (hH1 ▸ Heap.get?_push_of_some _ e)))
  have hit : h₁.IsTupleIter s₁.heap.objs.size ax 0 :=
    ⟨_, hsb₁.extBut _ _ hIC (Heap.get?_push_of_some _ (hH2 ▸ Heap.get?_push_of_some _ (hH1 ▸ Heap.get?_push_size _ rfl))), rfl, rfl⟩
  have hacc : h₁.IsList H1.objs.size #[] := ⟨_, hsb₁.extBut _ _ hDC (Heap.get?_push_of_some _ (hH2 ▸ Heap.get?_push_size _ rfl)), rfl, _, rfl⟩
  have hT' : h₁.IsTuple ax items := ⟨oT, old _ _ hT₁.1, hc, hd⟩
  have hLs : env.locals < s₁.heap.objs.size := F.ns.lt
  obtain ⟨lC, lI, lD⟩ := below _ hLs
  have g0 : ∀ b, s₁.heap.objs.size ≤ b → g₀.get? b = none := fun b hb => Heap.get?_none_of_le (Nat.le_trans (Nat.le_of_lt (Nat.lt_of_le_of_lt F.above hLs)) hb)
  have nws : ∀ q ∈ news, q.1 < s₁.heap.objs.size := fun q hq => Heap.lt_size (N q (.tail _ hq)).1
  have F₁ : Fr g₀ env.locals h₁ m := ⟨F.ns.at' fun o e => old _ o e, fun b o e => old b o (F.keep b o e), F.above⟩
  have N₁ : News g₀ env.locals h₁ news := fun q hq => ⟨old _ _ (N q (.tail _ hq)).1, (N q (.tail _ hq)).2⟩
  generalize hI : s₁.heap.objs.size = I at *
  generalize hDd : H1.objs.size = D at *
  generalize hCc : H2.objs.size = C at *
  have gI := g0 I (Nat.le_refl _)
  have gD := g0 D (by omega)
  have gC := g0 C (by omega)
  have loop : ∀ s₂ : Shared, s₂ = { s₁ with heap := h₁, toks := s₁.toks + ([] : List (Str × Value)).length } →
      codeAny (model prog w) A (.compLoop (.ListComp elt [⟨.Name x px, iter, [], 0⟩] scope pos) 0 (.ref I) (.ref D) (compEnv scope C env))
        (RR (.ref D) (compEnv scope C env)) s₂ := by
    rintro s₂ rfl
    refine codeAny_compLoop_tests
      (fun k s' => ∃ g h tk mc ys i, s' = { s₁ with heap := h, toks := tk } ∧ Gd g ∧ Fr g env.locals h m ∧ News g env.locals h news ∧ h.Ns C mc ∧ h.IsList D ys ∧ h.IsTupleIter I ax i ∧ h.IsTuple ax items ∧
        (g.get? C = none ∧ g.get? D = none ∧ g.get? I = none ∧ g.get? ax = none) ∧ ys.size = i ∧ (∀ j y, ys[j]? = some y → R j y) ∧ i ≤ items.size ∧ k = items.size + 1 - i) ?_ (items.size + 1)
      ⟨g₀, h₁, _, _, #[], 0, rfl, hG, F₁, N₁, hns₁, hacc, hit, hT', ⟨gC, gD, gI, hT₁.2.2⟩, rfl, by simp, Nat.zero_le _, rfl⟩
    rintro k s' ⟨g, h, tk, mc, ys, i, rfl, hG', F', N', hns, hl, hti, htu, ⟨zC, zD, zI, zT⟩, hys, hR, hi, rfl⟩
    cases hv : items[i]? with
    | none =>
      have hin : i = items.size := by
        have := Array.getElem?_eq_none_iff.mp hv
        omega
      refine wpAny_pyNext_tuple_end hh hti htu hv fun h₂ he => ?_
      obtain ⟨F₂, N₂⟩ := led_up F' N' he zI (Ne.symm lI) fun q hq => Nat.ne_of_lt (nws q hq)
      have hl₂ : h₂.IsList D ys := hl.extBut he hDI
      obtain ⟨oD, eD, _⟩ := id hl₂
      refine hRR D C ys g h₂ tk oD mc hG' F₂ (fun q hq => ?_) hl₂ (by omega) hR (fun q hq => (below _ (nws q hq)).2.2) (hns.extBut he (Ne.symm hIC)) (Ne.symm lC) hDC zC fun q hq => (below _ (nws q hq)).1
      rcases List.mem_cons.mp hq with rfl | hq
      · exact ⟨eD, Ne.symm lD, zD⟩
      · exact N₂ q hq
    | some v =>
      have hlt : i < items.size := (Array.getElem?_eq_some_iff.mp hv).1
      refine wpAny_pyNext_tuple_item hti htu hv fun h₂ hti₂ hs₂ => ?_
      obtain ⟨F₂, N₂⟩ := led_up F' N' hs₂.extBut zI (Ne.symm lI) fun q hq => Nat.ne_of_lt (nws q hq)
      refine wpAny_assign_Name (wpAny_storeName_local (by show (compEnv scope C env).kindOf x = _; exact hx) (hns.sameBut hs₂ (Ne.symm hIC)) (fun h₃ hn₃ hs₃ => ?_) (by simp [compEnv, hkind]))
      obtain ⟨F₃, N₃⟩ := led_up F₂ N₂ hs₃.extBut zC (Ne.symm lC) fun q hq => (below _ (nws q hq)).1
      have hl₃ : h₃.IsList D ys := (hl.extBut hs₂.extBut hDI).extBut hs₃.extBut hDC
      have hti₃ : h₃.IsTupleIter I ax (i + 1) := by
        obtain ⟨o, e, r⟩ := hti₂
        exact ⟨o, hs₃.extBut _ _ hIC e, r⟩
      have htu₃ : h₃.IsTuple ax items := (htu.extBut hs₂.extBut (below _ hax).2.1).extBut hs₃.extBut (below _ hax).1
      refine wpAny_tests_nil ?_
      simp only [if_true]
      obtain ⟨oC, esC, epC, eC, rC⟩ := id hn₃
      obtain ⟨oD, eD, rD⟩ := id hl₃
      obtain ⟨oI, eI, rI⟩ := id hti₃
      obtain ⟨oX, eX, rX⟩ := id htu₃
      have Nall : News g env.locals h₃ ((C, oC) :: (D, oD) :: (I, oI) :: (ax, oX) :: news) := by
        intro q hq
        rcases List.mem_cons.mp hq with rfl | hq
        · exact ⟨eC, Ne.symm lC, zC⟩
        rcases List.mem_cons.mp hq with rfl | hq
        · exact ⟨eD, Ne.symm lD, zD⟩
        rcases List.mem_cons.mp hq with rfl | hq
        · exact ⟨eI, Ne.symm lI, zI⟩
        rcases List.mem_cons.mp hq with rfl | hq
        · exact ⟨eX, hT₁.2.1, zT⟩
        · exact N₃ q hq
      refine wpAny_mono (elts i v hv g h₃ _ C _ _ _ hG' F₃ Nall hn₃ (by simp) fun q hq => .tail _ (.tail _ (.tail _ (.tail _ hq)))) (fun y s₄ h₄ => ?_) fun _ _ e => e
      obtain ⟨g', h₄, tk₄, rfl, hG₄, F₄, N₄, hRy⟩ := h₄
      have nC := N₄ _ (.head _)
      have nD := N₄ _ (.tail _ (.head _))
      have nI := N₄ _ (.tail _ (.tail _ (.head _)))
      have nX := N₄ _ (.tail _ (.tail _ (.tail _ (.head _))))
      have N₄' : News g' env.locals h₄ news := fun q hq => N₄ q (.tail _ (.tail _ (.tail _ (.tail _ hq))))
      refine wpAny_list_append (hsz := by rw [sizeLine_eq]; omega) (⟨oD, nD.1, rD⟩ : h₄.IsList D ys) fun h₅ hl₅ hs₅ => ?_
      obtain ⟨F₅, N₅⟩ := led_up F₄ N₄' hs₅.extBut nD.2.2 (Ne.symm lD) fun q hq => (below _ (nws q hq)).2.2
      refine ⟨items.size + 1 - (i + 1), by omega, g', h₅, tk₄, _, ys.push y, i + 1, rfl, hG₄, F₅, N₅, Heap.Ns.sameBut (show h₄.Ns C _ from ⟨oC, esC, epC, nC.1, rC⟩) hs₅ (Ne.symm hDC), hl₅, ?_, ?_, ⟨nC.2.2, nD.2.2, nI.2.2, nX.2.2⟩, by simp [hys], fun j z hz => ?_, hlt, rfl⟩
      · exact ⟨oI, hs₅.extBut _ _ (Ne.symm hDI) nI.1, rI⟩
      · exact ⟨oX, hs₅.extBut _ _ (below _ hax).2.2 nX.1, rX⟩
      · rw [Array.getElem?_push] at hz
        by_cases e : j = ys.size
        · rw [if_pos e] at hz
          rw [e, hys, ← Option.some.inj hz]; exact hRy
        · rw [if_neg e] at hz
          exact hR j z hz
  exact codeAny_compStart_list (loop _ rfl) (wpAny_pyIter_tupleiter hit (loop _ rfl))
theorem assign_compT {prog : Program} {w : World} {A : Around} {E : Value → Shared → Prop} {s : Shared} {env : Env} {elt iter : Expr} {x y : Str} {px py : Pos} {scope : Scope} {pos spos : Pos} {Q : Flow → Shared → Prop} (Gd : Heap → Prop) (R : Nat → Value → Prop)
    (hsw : swapsWith (.ListComp elt [⟨.Name x px, iter, [], 0⟩] scope pos) (some (.Name y py)) spos.line env = pure true)
    (hh : A.handled = none) (hfree : ∀ z ∈ scope.names, z.2 ≠ .free) (hcell : ∀ z ∈ scope.names, z.2 ≠ .cell) (hkind : scope.kind = .function)
    (hnames : ∀ z ∈ scope.names, z.2 = .local → scope.names.lookup z.1 = some .local) (hx : scope.names.lookup x = some .local)
    (hy : env.kindOf y = some .local) (hp : (env.scope.kind == .class || (env.scope.kind == .module && env.locals != env.globals)) = false)
    (h : wpAny (model prog w) A (eval iter env) (fun xv s₁ => ∃ (ax : Addr) (oT : Obj) (items : Array Value) (g₀ : Heap) (m : Str → Option Value) (news : Nws), xv = .ref ax ∧ Fr g₀ env.locals s₁.heap m ∧ News g₀ env.locals s₁.heap ((ax, oT) :: news) ∧ Gd g₀ ∧ oT.cls = .type "tuple" ∧ (∃ n, oT.data = .seq items n) ∧ items.size ≤ 1000 ∧
      (∀ i v, items[i]? = some v → EltT prog w A elt scope env x s₁ Gd m news v (R i)) ∧
      (∀ D ys g h tk oD, Gd g → Fr g env.locals h (fun z => if z = y then some (.ref D) else m z) → News g env.locals h ((D, oD) :: news) → h.IsList D ys → ys.size = items.size → (∀ i y, ys[i]? = some y → R i y) → (∀ q ∈ news, q.1 ≠ D) → Q .next { s₁ with heap := h, toks := tk })) E s)
    (hs : ∀ x, foldedSetIterable iter env x = pure x := by intro _; rfl) :
    wpAny (model prog w) A (exec (.Assign [.Name y py] (.ListComp elt [⟨.Name x px, iter, [], 0⟩] scope pos) spos) env) Q E s := by
  rw [exec_Assign_Name_used _ _ _ _ hsw]
  refine wpAny_bind (wpAny_standAt (wpAny_bind ?_))
  show wpAny _ A (do let _ ← comprehension (.ListComp elt [⟨.Name x px, iter, [], 0⟩] scope pos) scope env _ (newList []) false (eval iter env) (some (assign (.Name y py) env))) _ _ s
  refine wpAny_bind (wpAny_mono (wpAny_comprehension_use (Q := fun _ s' => Q .next s') rfl hs hfree hkind hnames (wpAny_mono h (fun xv s₁ h₁ => ?_) fun _ _ e => e))
    (fun _ s' hq => wpAny_pure (wpAny_pure hq)) fun _ _ e => e)
  obtain ⟨ax, oT, items, g₀, m, news, rfl, F, N, hG, hc, hd, hsz, elts, hQ⟩ := h₁
  refine compT (RR := fun acc cenv r s' => match r with
      | .ok _ => wpAny (model prog w) A (assign (.Name y py) env acc) (fun _ s'' => ∃ m, s''.heap.Ns cenv.locals m ∧ ∀ h', Heap.SameBut cenv.locals s''.heap h' → Q .next { s'' with heap := h' }) E s'
      | .error x => ∃ m, s'.heap.Ns cenv.locals m ∧ ∀ h', Heap.SameBut cenv.locals s'.heap h' → wpAny (model prog w) A (passOn "comprehension.variables-let-go" x cenv) (fun _ s' => Q .next s') E { s' with heap := h' }) hh hcell hkind hx F N hG hc hd hsz elts ?_
  intro D C ys g h tk oD mc hG' F' N' hl hsz' hR ne hns hCL hDC zC offC
  refine wpAny_assign_Name (wpAny_storeName_local hy F'.ns (fun h₂ hn₂ hs₂ => ?_) hp)
  have F₂ := F'.set hn₂ hs₂
  have N₂ := N'.set hs₂
  refine ⟨mc, hns.sameBut hs₂ hCL, fun h₃ hs₃ => ?_⟩
  obtain ⟨F₃, N₃⟩ := led_up F₂ N₂ hs₃.extBut zC hCL fun q hq => by
    rcases List.mem_cons.mp hq with rfl | hq
    · exact hDC
    · exact offC q hq
  exact hQ D ys g h₃ _ oD hG' F₃ N₃ ((hl.extBut hs₂.extBut (N' _ (.head _)).2.1).extBut hs₃.extBut hDC) hsz' hR ne
theorem fee_part {fee a h : Int} (hf : 0 ≤ fee) (ha : 0 ≤ a) (hah : a ≤ h) (hh : 0 < h) : Int.fdiv (fee * a) (8 * h) ≤ Int.fdiv fee 8 := by
  rw [fd _ (by omega), fd _ (by omega)]
  have h1 : fee * a ≤ fee * h := Int.mul_le_mul_of_nonneg_left hah hf
  have h2 : fee * a / (8 * h) ≤ fee * h / (8 * h) := Int.ediv_le_ediv (by omega) h1
  have h3 : fee * h / (8 * h) = fee / 8 := Int.mul_ediv_mul_of_pos_left _ _ hh
  omega
theorem fee_bounds {limit used fee : Int} (hl : 5120 ≤ limit) (hu : 0 ≤ used) (hf : 0 ≤ fee) :
    (used ≤ 2 * Int.fdiv limit 2 → feeV limit used fee ≤ fee + mx 1 (Int.fdiv fee 8)) ∧ fee - Int.fdiv fee 8 ≤ feeV limit used fee ∧ 0 ≤ feeV limit used fee := by
  have hq : 0 < Int.fdiv limit 2 := by rw [fd _ (by omega)]; omega
  have h8 : 0 ≤ Int.fdiv fee 8 ∧ Int.fdiv fee 8 ≤ fee := by rw [fd _ (by omega)]; omega
  unfold feeV
  simp only []
  generalize Int.fdiv limit 2 = q at *
  by_cases e : used = q
  · rw [if_pos e]
    refine ⟨fun _ => ?_, by omega, hf⟩
    unfold mx; split <;> omega
  · rw [if_neg e]
    by_cases g : used > q
    · rw [if_pos g]
      have hab : ab (used - q) = used - q := if_neg (by omega)
      rw [hab]
      have p0 : 0 ≤ Int.fdiv (fee * (used - q)) (8 * q) := by rw [fd _ (by omega)]; exact Int.ediv_nonneg (Int.mul_nonneg hf (by omega)) (by omega)
      refine ⟨fun h => ?_, ?_, ?_⟩
      · have p := fee_part hf (show 0 ≤ used - q by omega) (show used - q ≤ q by omega) hq
        generalize Int.fdiv (fee * (used - q)) (8 * q) = r at *
        unfold mx; split <;> split <;> omega
      · generalize Int.fdiv (fee * (used - q)) (8 * q) = r at *
        unfold mx; split <;> omega
      · generalize Int.fdiv (fee * (used - q)) (8 * q) = r at *
        unfold mx; split <;> omega
    · rw [if_neg g]
      have hab : ab (used - q) = q - used := by unfold ab; rw [if_pos (by omega)]; omega
      rw [hab]
      have p := fee_part hf (show 0 ≤ q - used by omega) (show q - used ≤ q by omega) hq
      have p0 : 0 ≤ Int.fdiv (fee * (q - used)) (8 * q) := by rw [fd _ (by omega)]; exact Int.ediv_nonneg (Int.mul_nonneg hf (by omega)) (by omega)
      generalize Int.fdiv (fee * (q - used)) (8 * q) = r at *
      refine ⟨fun _ => ?_, by omega, by omega⟩
      unfold mx; split <;> omega
theorem name_cmpK {M : Model} {A : Around} {E : Value → Shared → Prop} {s : Shared} {K : Frag} {h₀ : Heap} {L a C : Addr} {m mg mb : Str → Option Value} {cn : Str} {cs sc : Scope} {ccd : Value} {p : Program} {loose : List Str} {mean : ExcName → Option Value}
    {x : Str} {pos : Pos} {v : Value} {Q : Value → Shared → Prop} (F : Fr h₀ L s.heap m) (X : K.In h₀) (T : Top p loose mean mg mb h₀) (e : nsIn K mainGlobals x = some (some v)) (h : Q v s)
    (hkk : sc.kind = .function := by rfl) (hx : (compEnv sc C (envOf cn cs L a ccd)).kindOf x = some .globalImplicit := by rfl) (hd : (x == ("__debug__" : Str)) = false := by decide) :
    wpAny M A (eval (.Name x pos) (compEnv sc C (envOf cn cs L a ccd))) Q E s :=
  Calls.Name_function_global hkk hx (Calls.loadGlobal_global (env := compEnv sc C (envOf cn cs L a ccd)) ((topRead_of T).g.keeps F.keep) (mg_of X (topRead_of T).g e) h) hd
noncomputable abbrev billion (y : Value) : Prop := ∃ t, y = .int 1000000000 t
theorem two_of {ys : Array Value} (hs : ys.size = 2) (h : ∀ (i : Nat) y, ys[i]? = some y → billion y) : ∃ a b, ys = #[.int 1000000000 a, .int 1000000000 b] := by
  obtain ⟨l⟩ := ys
  match l, hs with
  | [u, v], _ =>
    obtain ⟨a, ha⟩ := h 0 u rfl
    obtain ⟨b, hb⟩ := h 1 v rfl
    exact ⟨a, b, by rw [ha, hb]⟩
theorem list_facts {h : Heap} {D : Addr} {oD : Obj} {ys : Array Value} (e : h.get? D = some oD) (hl : h.IsList D ys) : oD.cls = .type "list" ∧ ∃ n, oD.data = .seq ys n := by
  obtain ⟨o, e', r⟩ := hl
  rw [e] at e'
  obtain rfl := Option.some.inj e'
  exact r
set_option maxHeartbeats 8000000 in
theorem t_fees (w : World) (vd : Value) (limit used fee : Int) (t1 t2 t3 : Tok) (h0 : 5120 ≤ limit) (h1 : limit < 2 ^ 63) (h2 : 0 ≤ used) (h3 : used ≤ limit) (h4 : 0 ≤ fee) : TellX w 60 486 [vd, .int limit t1, .int used t2, .int fee t3] [] [] (RBool true) := by
  k_with_none
  (k_with "ite" => first | with_reducible refine Mine.pite_ff ?_ | with_reducible refine Mine.pite_tt ?_ | with_reducible refine Mine.pite_nt ?_ | with_reducible refine Mine.pite_nf ?_ | with_reducible refine Mine.pite_t ?_ | with_reducible refine Mine.pite_f ?_)
  (k_with "callWith ref" => (k_here; (with_reducible show wpAny _ _ (callWith _ _ _ (backTo _ (starEach [] _)) []) _ _ _); k_dflt (refine' Mine.callWithK0 ?kF ?k1 ?k2 ?_; (case kF => k_asm); (case k1 => k_asm); (case k2 => k_is); k_whole)))
  (k_with "eval Name" => (k_here; (with_reducible show wpAny _ _ (eval (Expr.Name _ _) (envOf _ _ _ _ _)) _ _ _); name_kind "globalImplicit"; name_is_builtin; (with_reducible rename Fr _ _ _ _ => kF); k_dflt (refine' Mine.nameB ?c1 ?c2 ?c3 kF ?k1 ?k2 ?k3 ?k4 ?k5 ?_; (case c1 => kernel_rfl); (case c2 => kernel_rfl); (case c3 => kernel_rfl); (case k1 => k_asm); (case k2 => k_asm); (case k3 => k_is); (case k4 => boot_by_name); (case k5 => decide); k_whole)))
  (k_with "eval Name" => (k_here; (with_reducible show wpAny _ _ (eval (Expr.Name _ _) (envOf _ _ _ _ _)) _ _ _); name_kind "globalImplicit"; (with_reducible rename Fr _ _ _ _ => kF); k_dflt (refine' Mine.nameK ?c1 ?c2 ?c3 kF ?k1 ?k2 ?k3 ?_; (case c1 => kernel_rfl); (case c2 => kernel_rfl); (case c3 => kernel_rfl); (case k1 => k_asm); (case k2 => k_asm); (case k3 => k_is); k_whole)))
  (k_with "eval Name" => (k_here; (with_reducible show wpAny _ _ (eval (Expr.Name _ _) (envOf _ _ _ _ _)) _ _ _); name_kind "local"; k_dflt (refine' Mine.nameL ?c1 ?c2 ?c3 ?k1 ?k2 ?_; (case c1 => kernel_rfl); (case c2 => kernel_rfl); (case c3 => kernel_rfl); (case k1 => k_asm); (case k2 => exact rfl); k_whole)))
  (k_with "callWith ref" => (k_here; k_dflt (first
  | (refine' callWith_K ?k1 ?k2 ?_; (case k1 => k_asm); (case k2 => k_is); k_whole)
  | (refine' callWith_KW ?k1 ?k2 ?k3 ?_; (case k1 => k_asm); (case k2 => k_is); (case k3 => exact rfl); k_whole))))
  (k_with "ct int" => (
  (try dsimp only)
  refine' Mine.ends_int ?e1 ?e2 ?_
  case e1 => k_asm
  case e2 => k_asm))
  (k_with "ct with" => (
  (case k1 => k_asm)
  (case k2 => k_asm)
  (case k3 => k_in)
  (case k4 => k_asm)
  (case k5 => k_asm)
  (case kK => first | exact rfl | assumption)
  (case kf => first | exact fun _ h => (nomatch h) | walk_at "ct facts")
  (case kd => ktr_room)
  (case ku => ktr_units)))
  (k_with "ct mul" => first | omega | (split <;> omega) | (simp only [] at *; omega) | (constructor <;> omega))
  (k_with "binaryOp Mult int int" => ((first
  | (refine mul_int ?_ (PySem.IntMulOk.of_right (PySem.intBits_le_64 (by walk_at "ct mul") (by walk_at "ct mul"))))
  | (refine mul_int ?_ (PySem.IntMulOk.of_left (PySem.intBits_le_64 (by walk_at "ct mul") (by walk_at "ct mul"))))); (try dsimp only)))
  (k_with "binaryOp FloorDiv int int" => ((with_reducible refine Mine.fdivQ (by first | omega | (simp only [] at *; omega)) (by first | omega | (simp only [] at *; omega)) ?_); (try dsimp only)))
  (k_with "binaryOp Mod int int" => ((with_reducible refine Mine.fmodQ (by first | omega | (simp only [] at *; omega)) ?_); (try dsimp only)))
  (k_with "call builtin:issubclass" => (k_here; k_dflt ((refine' Mine.issub_hdr ?F ?X ?c ?m ?_; (case F => k_asm); (case X => k_asm); (case c => first | assumption | k_is); (case m => first | assumption | k_is)))))
  (k_with "call builtin:tuple.__getitem__" => (k_here; k_dflt ((refine' Mine.call_tupitem ?F ?X ?x ?dd ?m ?l ?h ?k ?y ?_; (case F => k_asm); (case X => k_asm); (case x => assumption); (case dd => assumption); (case m => first | assumption | k_is); (case l => first | assumption | decide); (case h => first | assumption | decide); (case k => first | assumption | rfl); (case y => first | assumption | rfl)))))
  (k_with "getMethod" => (k_here; (with_reducible show wpAny _ _ (getMethod (Value.type _) _ _) _ _ _); k_dflt ((refine' method_type ?F ?X ?t ?s ?e ?h ?_; (case F => k_asm); (case X => k_asm); (case t => first | rfl | kernel_rfl); (case s => decide +kernel); (case e => k_is); (case h => k_handed)))))
  (k_with "call builtin:tuple.__new__" => (k_here; k_dflt ((refine' Mine.call_tupnew ?F ?N ?X ?Y ?c ?m ?i ?t ?z ?_; (case F => k_asm); (case N => k_asm); (case X => k_asm); (case Y => assumption); (case c => k_is); (case m => k_is); (case i => k_is); (case t => k_mem); (case z => simp)); intro x' d' h' F' N' l1 l2; (try k_lt l1); (try k_lt2 l2); (try k_sweep))))
  (k_with "getAttr ref" => (
  k_here
  k_dflt (
  (refine' Mine.hdr_miss ?k2 ?k3 ?k4 ?gx ?gg ?gk ?gc ?ga ?gm ?hA ?hC ?hn ?hl ?hz ?cp ?_)
  (case k2 => k_asm)
  (case k3 => k_in)
  (case k4 => k_asm)
  (case gx => first | exact ⟨Or.inr (by assumption), Or.inr (by assumption)⟩ | exact ⟨Or.inl (by k_mem), Or.inl (by k_mem)⟩)
  (case gg => k_is)
  (case gk => k_is)
  (case gc => k_is)
  (case ga => k_is)
  (case gm => k_is)
  (case hA => exact rfl)
  (case hC => k_is)
  (case hn => decide +kernel)
  (case hl => decide +kernel)
  (case hz => decide +kernel)
  (case cp => decide +kernel)
  intro h9 tk9 e9 NX9)))
  (k_with "getAttr ref" => (
  k_here
  k_dflt (
  (refine' Mine.hdr_attr ?k1 ?k2 ?k3 ?k4 ?k5 ?kK ?gx ?gg ?gg2 ?gc ?gm ?ga ?gs ?gt ?gp ?gd ?gl ?gh ?gi ?gv ?go ?kd ?ku ?_)
  (case k1 => k_asm)
  (case k2 => k_asm)
  (case k3 => k_in)
  (case k4 => k_asm)
  (case k5 => k_asm)
  (case kK => first | exact rfl | assumption)
  (case gx => first | exact ⟨Or.inr (by assumption), Or.inr (by assumption)⟩ | exact ⟨Or.inl (by k_mem), Or.inl (by k_mem)⟩)
  (case gg => k_is)
  (case gg2 => k_is)
  (case gc => k_is)
  (case gm => k_is)
  (case ga => k_is)
  (case gs => k_is)
  (case gt => k_is)
  (case gp => k_is)
  (case gd => k_is)
  (case gl => decide)
  (case gh => decide)
  (case gi => rfl)
  (case gv => rfl)
  (case go => rfl)
  (case kd => ktr_room)
  (case ku => ktr_units)
  intro h9 tk9 F9 N9
  (try k_sweep))))
  (k_with "ct intx" => (
  (try dsimp only)
  (show Mine.EndsX _ _ _ _ _ _)
  refine' Mine.endsX_int ?e0 ?e1 ?e2 ?e3
  case e0 => first | assumption | exact KtsTurn.refl
  case e1 => k_asm
  case e2 => k_asm))
  (k_with "noteFrame ref" => (
  k_here
  (rename Heap.NewExcOf _ _ _ _ => nxX)
  k_dflt (
  (refine' Mine.own_N0 (T' := "AttributeError") ?hx ?F ?N ?K ?XB ?TB ?D ?T0 ?ex PyProof.Rows.Boot.«AttributeError» ?hn Mine.exc_attr Mine.notTuple_attr Mine.sub_attr ?_; (case hx => exact nxX); (case F => k_asm); (case N => k_asm); (case K => assumption); (case XB => assumption); (case TB => assumption); (case D => assumption); (case T0 => first | assumption | exact KtsTurn.refl); (case ex => k_is); (case hn => decide); k_whole)
  intro h' g' T' F' N' K' X' P' D'; (try k_lift K'); (try k_sweep))))
  (k_with "And" => (
  (with_reducible show PySem.Str.length _ ≤ sizeLine ∧ _)
  (with_reducible refine' Mine.fits_z ?fa ?fb ?_)
  (case fa => repeat' (first | (with_reducible refine' Mine.fits_add' ?_ ?_) | ((show _ ≤ 1000); (first | assumption | decide +kernel | (with_reducible exact Mine.len_int' (by omega) (by omega))))))
  (case fb => decide +kernel)))
  (k_with "joinParts" => (
  (with_reducible show wpAny _ _ (joinParts _ (evalEach [] _)) _ _ _)
  (with_reducible refine' Mine.joinNil ?fa ?fb ?_)
  (case fa => repeat' (first | (with_reducible refine' Mine.fits_add' ?_ ?_) | ((show _ ≤ 1000); (first | assumption | decide +kernel | (with_reducible exact Mine.len_int' (by omega) (by omega))))))
  (case fb => decide +kernel)))
  (k_with "ct steps" => repeat' (first | (k_unfold; (try dsimp only)) | walk1 | (dsimp only; walk1) | (leave1; walk_say "STEP leave1"; try dsimp only) | (refine Mine.Gen.to (by with_reducible assumption) _ _ ?_; try dsimp only) | fail "no step"))
  (k_with "ct raised" => first
  | exact ⟨_, _, _, rfl, rfl, by assumption, by assumption⟩
  | exact ⟨_, _, _, rfl, rfl, RaisedS.toSN (by assumption), by assumption⟩)
  (k_with "ct ne" => repeat ((with_reducible rename (@Ne Nat _ _ ∧ _) => hx9); obtain ⟨hy9, hz9⟩ := hx9))
  (k_with "call ref" => (
  (with_reducible show wpAny _ _ (call (Value.ref 413) _) _ _ _)
  k_dflt (
  (refine' Mine.use_delays ?k1 ?k2 ?k3 ?k4 ?k5 ?kK ?kd ?ku ?_)
  (case k1 => k_asm)
  (case k2 => k_asm)
  (case k3 => k_in)
  (case k4 => k_asm)
  (case k5 => k_asm)
  (case kK => first | exact rfl | assumption)
  (case kd => ktr_room)
  (case ku => ktr_units)
  intro l9 ta9 tb9 tc9 td9 n9 h9 tk9 F9 N9 ne9
  (try simp only [Mine.AllNe, and_true] at ne9)
  walk_at "ct ne"
  (try k_sweep))))
  (k_with "ct with2" => (
  (case k1 => k_asm)
  (case k2 => k_asm)
  (case k3 => k_in)
  (case k4 => k_asm)
  (case k5 => k_asm)
  (case kK => first | exact rfl | assumption)
  (case kf => refine' Mine.facts_hdr ?gx; (case gx => first | exact ⟨Or.inr (by assumption), Or.inr (by assumption)⟩ | exact ⟨Or.inl (by k_mem), Or.inl (by k_mem)⟩))
  (case kd => ktr_room)
  (case ku => ktr_units)))
  (k_with "ct rwith2" => (
  (case k1 => k_asm)
  (case k2 => k_asm)
  (case k3 => k_in)
  (case k4 => k_asm)
  (case k5 => k_asm)
  (case kXB => assumption)
  (case kTB => assumption)
  (case kD => assumption)
  (case kK => first | exact rfl | assumption)
  (case kf => refine' Mine.facts_hdr ?gx; (case gx => first | exact ⟨Or.inr (by assumption), Or.inr (by assumption)⟩ | exact ⟨Or.inl (by k_mem), Or.inl (by k_mem)⟩))
  (case kd => ktr_room)
  (case ku => ktr_units)))
  (k_with "ct rwith3" => (
  (case k1 => k_asm)
  (case k2 => k_asm)
  (case k3 => k_in)
  (case k4 => k_asm)
  (case k5 => k_asm)
  (case kXB => assumption)
  (case kTB => assumption)
  (case kD => assumption)
  (case kK => first | exact rfl | assumption)
  (case kf => refine' Mine.facts_hdr ?gx; (case gx => first | exact ⟨Or.inr (by assumption), Or.inr (by assumption)⟩ | exact ⟨Or.inl (by k_mem), Or.inl (by k_mem)⟩))
  (case kd => ktr_room)
  (case ku => ktr_units)
  (case kT => first | assumption | exact KtsTurn.refl)))
  (k_with "call ref" => (
  (with_reducible show wpAny _ _ (call (Value.ref 172) _) _ _ _)
  k_dflt (
  (refine' Mine.mk172 ?k1 ?k2 ?k3 ?k4 ?k5 ?kK ?kd ?ku ?_)
  (case k1 => k_asm)
  (case k2 => k_asm)
  (case k3 => k_in)
  (case k4 => k_asm)
  (case k5 => k_asm)
  (case kK => first | exact rfl | assumption)
  (case kd => ktr_room)
  (case ku => ktr_units)
  intro x9 d9 h9 tk9 F9 N9 nx9 nd9 ld9
  replace nx9 := Mine.allNe_of nx9
  replace nd9 := Mine.allNe_of nd9
  (try simp only [Mine.AllNe, and_true] at nx9 nd9)
  walk_at "ct ne"
  (try k_sweep))))
  (k_with "call ref" => (
  (with_reducible show wpAny _ _ (call (Value.ref 246) _) _ _ _)
  k_dflt (
  (refine' Mine.mk246 ?k1 ?k2 ?k3 ?k4 ?k5 ?kK ?kd ?ku ?_)
  (case k1 => k_asm)
  (case k2 => k_asm)
  (case k3 => k_in)
  (case k4 => k_asm)
  (case k5 => k_asm)
  (case kK => first | exact rfl | assumption)
  (case kd => ktr_room)
  (case ku => ktr_units)
  intro x9 d9 h9 tk9 F9 N9 nx9 nd9 ld9
  replace nx9 := Mine.allNe_of nx9
  replace nd9 := Mine.allNe_of nd9
  (try simp only [Mine.AllNe, and_true] at nx9 nd9)
  walk_at "ct ne"
  (try k_sweep))))
  (k_with "call ref" => (
  (with_reducible show wpAny _ _ (call (Value.ref 317) _) _ _ _)
  k_dflt (
  (refine' Mine.mk317 ?k1 ?k2 ?k3 ?k4 ?k5 ?kK ?kd ?ku ?_)
  (case k1 => k_asm)
  (case k2 => k_asm)
  (case k3 => k_in)
  (case k4 => k_asm)
  (case k5 => k_asm)
  (case kK => first | exact rfl | assumption)
  (case kd => ktr_room)
  (case ku => ktr_units)
  intro x9 d9 h9 tk9 F9 N9 nx9 nd9 ld9
  replace nx9 := Mine.allNe_of nx9
  replace nd9 := Mine.allNe_of nd9
  (try simp only [Mine.AllNe, and_true] at nx9 nd9)
  walk_at "ct ne"
  (try k_sweep))))
  (k_with "call ref" => (
  (with_reducible show wpAny _ _ (call (Value.ref 364) _) _ _ _)
  k_dflt (first
  | ((refine' Mine.use_int (Mine.t_cancun _ _ _ _ _ _ _) ?k1 ?k2 ?k3 ?k4 ?k5 ?kK ?kf ?kd ?ku ?_); walk_at "ct with2"; intro t9 h9 tk9 F9 N9; (try replace N9 := Mine.news_hdr N9); (try k_sweep))
  | ((refine' Mine.use_intX (Mine.t_cancunX _ _ _ _) ?k1 ?k2 ?k3 ?k4 ?k5 ?kXB ?kTB ?kD ?kK ?kf ?kd ?ku ?kT ?_); walk_at "ct rwith3"; intro t9 h9 tk9 h₀9 T9 F9 N9 B9 X9 P9 D9; (try k_lift B9); (try k_sweep)))))
  (k_with "call ref" => (
  (with_reducible show wpAny _ _ (call (Value.ref 385) _) _ _ _)
  k_dflt (first
  | ((refine' Mine.use_int (Mine.t_prague _ _ _ _ _ _ _) ?k1 ?k2 ?k3 ?k4 ?k5 ?kK ?kf ?kd ?ku ?_); walk_at "ct with2"; intro t9 h9 tk9 F9 N9; (try replace N9 := Mine.news_hdr N9); (try k_sweep))
  | ((refine' Mine.use_intX (Mine.t_pragueX _ _ _ _) ?k1 ?k2 ?k3 ?k4 ?k5 ?kXB ?kTB ?kD ?kK ?kf ?kd ?ku ?kT ?_); walk_at "ct rwith3"; intro t9 h9 tk9 h₀9 T9 F9 N9 B9 X9 P9 D9; (try k_lift B9); (try k_sweep)))))
  (k_with "call ref" => ((with_reducible show wpAny _ _ (call (Value.ref 476) _) _ _ _); k_dflt ((refine' Mine.use_int (Mine.t_excess _ _ _ _ _ _ _) ?k1 ?k2 ?k3 ?k4 ?k5 ?kK ?kf ?kd ?ku ?_); walk_at "ct with"; intro t9 h9 tk9 F9 N9; (try k_sweep))))
  (k_with "call ref" => ((with_reducible show wpAny _ _ (call (Value.ref 36) _) _ _ _); k_dflt ((refine' Mine.use_int (Mine.t_fake _ _ _ _ _ _ ?p0 ?p1 ?p2 ?p3) ?k1 ?k2 ?k3 ?k4 ?k5 ?kK ?kf ?kd ?ku ?_); walk_at "ct with"; (case p0 => assumption); (case p1 => omega); (case p2 => omega); (case p3 => omega); intro t9 h9 tk9 F9 N9; (try k_sweep))))
  (k_with "call ref" => ((with_reducible show wpAny _ _ (call (Value.ref 469) _) _ _ _); k_dflt ((refine' Mine.use_int (Mine.t_price _ _ _ _ _ ?p0 ?p1 ?p2 ?p3) ?k1 ?k2 ?k3 ?k4 ?k5 ?kK ?kf ?kd ?ku ?_); walk_at "ct with"; (case p0 => assumption); (case p1 => omega); (case p2 => omega); (case p3 => omega); intro t9 h9 tk9 F9 N9; (try k_sweep))))
  (k_with "call ref" => (
  (with_reducible show wpAny _ _ (call (Value.ref 481) _) _ _ _)
  k_dflt (
  (refine' Mine.use_bool (Mine.t_numsB _ _ _ _ ?p0 ?p1) ?k1 ?k2 ?k3 ?k4 ?k5 ?kK ?kf ?kd ?ku ?_)
  (case k1 => k_asm)
  (case k2 => k_asm)
  (case k3 => k_in)
  (case k4 => k_asm)
  (case k5 => k_asm)
  (case kK => first | exact rfl | assumption)
  (case kf => refine' Mine.fact_one ?gx; (case gx => first | exact Or.inl (by k_mem) | exact Or.inr (by assumption)))
  (case kd => ktr_room)
  (case ku => ktr_units)
  (case p0 => first | exact rfl | exact Mine.isInts_of (by assumption))
  (case p1 => first | exact Nat.lt_of_le_of_lt (Nat.le_refl _) (by decide) | (simp; done) | exact Mine.ints_len (by assumption))
  intro h9 tk9 F9 N9
  (try replace N9 := Mine.news_tl N9)
  (try k_sweep))))
  (k_with "call ref" => ((with_reducible show wpAny _ _ (call (Value.ref 455) _) _ _ _); k_dflt ((refine' Mine.use_int (Mine.t_fee _ _ _ _ _ _ _ ?p0 ?p1 ?p2 ?p3) ?k1 ?k2 ?k3 ?k4 ?k5 ?kK ?kf ?kd ?ku ?_); walk_at "ct with"; (case p0 => assumption); (case p1 => assumption); (case p2 => assumption); (case p3 => assumption); intro t9 h9 tk9 F9 N9; (try k_sweep))))
  (k_with "ct gx" => first | exact ⟨Or.inr (by assumption), Or.inr (by assumption)⟩ | exact ⟨Or.inl (by k_mem), Or.inl (by k_mem)⟩ | exact ⟨Or.inl (by assumption), Or.inl (by assumption)⟩)
  (k_with "call ref" => (
  (with_reducible show wpAny _ _ (call (Value.ref 28) _) _ _ _)
  k_dflt (first
  | ((refine' Mine.use_int (Mine.t_baseN _) ?k1 ?k2 ?k3 ?k4 ?k5 ?kK ?kf ?kd ?ku ?_); walk_at "ct with"; intro t9 h9 tk9 F9 N9; (try k_sweep))
  | ((refine' Mine.use_int (Mine.t_base _ _ _ _ _ _ _ _ _ ?p0 ?p1 ?p2 ?p3 ?p4) ?k1 ?k2 ?k3 ?k4 ?k5 ?kK ?kf ?kd ?ku ?_); walk_at "ct with4"; (case kf => refine' Mine.facts_hdr ?gx; (case gx => walk_at "ct gx")); (case p0 => assumption); (case p1 => assumption); (case p2 => assumption); (case p3 => assumption); (case p4 => assumption); intro t9 h9 tk9 F9 N9; (try replace N9 := Mine.news_hdr N9); (try k_sweep))
  | ((refine' Mine.use_intX (Mine.t_baseX _ _ _ _) ?k1 ?k2 ?k3 ?k4 ?k5 ?kXB ?kTB ?kD ?kK ?kf ?kd ?ku ?kT ?_); walk_at "ct with4"; (case kf => refine' Mine.facts_hdr ?gx; (case gx => walk_at "ct gx")); (case kXB => assumption); (case kTB => assumption); (case kD => assumption); (case kT => first | assumption | exact KtsTurn.refl); intro t9 h9 tk9 h₀9 T9 F9 N9 B9 X9 P9 D9; (try k_lift B9); (try k_sweep)))))
  (k_with "ct with4" => (
  (case k1 => k_asm)
  (case k2 => k_asm)
  (case k3 => k_in)
  (case k4 => k_asm)
  (case k5 => k_asm)
  (case kK => first | exact rfl | assumption)
  (case kd => ktr_room)
  (case ku => ktr_units)))
  (k_with "eval Name" => (k_here; (with_reducible show wpAny _ _ (eval (Expr.Name _ _) (compEnv _ _ _)) _ _ _); k_dflt (refine' Mine.name_cmpK ?k0 ?k1 ?k2 ?k3 ?_; (case k0 => k_asm); (case k1 => k_asm); (case k2 => k_asm); (case k3 => k_is); k_whole)))
  (k_with "ct elt" => (
  (k_with "Exists" => refine Mine.stop ?_)
  k_steps
  unfold Mine.Stop
  exact ⟨_, _, _, rfl, ⟨by assumption, by assumption, by assumption, by assumption, by assumption⟩, by k_asm, by k_asm, _, rfl⟩))
  obtain ⟨hA, hB, hC⟩ := fee_bounds (used := used) h0 h2 h4
  refine Mine.fill ?_
  k_fill
  intro _ _
  refine' Mine.tellX_of ?ho ?hcd ?hb ?hl ?c1 ?c2 ?c3 ?c4 (by decide) ?_
  case ho => k_is
  case hcd => k_is
  case hb => (conv in (occs := *) Mine.fArgs _ => all_goals whnf); first | exact fun _ _ _ _ => BindsTo.of_eq rfl | exact fun h₀ s X k => binds_K (X.keeps k) rfl (by k_is) rfl rfl rfl
  case hl => exact locs rfl
  case c1 => exact rfl
  case c2 => exact rfl
  case c3 => exact rfl
  case c4 => decide
  intro _ _ _ _ _ _ _ _ _ _ _ _ _ _ _ _ _ _ _ _ _ _ _ _ _ _ _ _ _ _ _ _ _
  (conv in (occs := *) Mine.fBody _ => all_goals whnf)
  (conv in (occs := *) Mine.fScope _ => all_goals whnf)
  (try dsimp only)
  (try k_fold)
  rename_i p loose mean mg mb dp un gd cn cs a ccd cl outer base g L L' h₁ s F' N' B' X' T' XB' TB' D' hck hfa hsm hd hu
  (k_with "exec Assign cons ListComp" => refine stop ?_)
  k_steps
  · exact absurd rfl (by assumption)
  · exact absurd (hA (by assumption)) (Int.not_le.mpr (by assumption))
  all_goals
    unfold Stop
    refine assign_compT (GdX w (frs (envX cn cs L a ccd cl :: outer)) (ktrTop dp un gd cn cs L a ccd cl outer) base (envX cn cs L a ccd cl :: outer) p loose mean mg mb g) (fun _ => billion) (by with_unfolding_all rfl) rfl (by decide) (by decide) rfl (by decide) rfl rfl rfl ?_
    (k_with "Exists" => refine stop ?_)
    k_steps
    unfold Stop
    (rename Fr _ _ _ _ => lF')
    (rename News _ _ _ _ => lN')
    refine ⟨_, _, _, _, _, _, rfl, lF', lN', ⟨KtsTurn.refl, B', X', T', D'⟩, rfl, ⟨_, rfl⟩, by simp, ?_, ?_⟩
    · intro i v hv
      rcases i with _ | _ | i
      · obtain rfl := Option.some.inj hv
        rintro g1 h tk C mc nw E' ⟨T1, B1, X1, P1, D1⟩ F1 N1 hns hx hsub
        clear lF' lN' B' X' T' D' hsub
        walk_at "ct elt"
      · obtain rfl := Option.some.inj hv
        rintro g1 h tk C mc nw E' ⟨T1, B1, X1, P1, D1⟩ F1 N1 hns hx hsub
        have e1 := hsub _ (.head _)
        have e2 := hsub _ (.tail _ (.head _))
        clear lF' lN' B' X' T' D' hsub
        walk_at "ct elt"
      · simp at hv
    · rintro D ys g2 h tk oD ⟨T1, B1, X1, P1, D1⟩ F1 N1 hl hsz hR ne
      obtain ⟨a0, b0, rfl⟩ := two_of hsz hR
      obtain ⟨hc, nD, hdat⟩ := list_facts (N1 _ (.head _)).1 hl
      clear lF' lN' B' X' T' D' hl hR
      replace ne := allNe_of ne
      simp only [AllNe, and_true] at ne
      walk_at "ct ne"
      (k_with "compareOp Eq ref ref" => refine stop ?_)
      k_steps
      unfold Stop
      (rename Fr _ _ _ _ => F8)
      (rename News _ _ _ _ => N8)
      refine eq_intsK (vs := [.int 1000000000 a0, .int 1000000000 b0]) ⟨oD, (N8 (D, oD) (by k_mem)).1, hc, nD, hdat⟩ (.cons _ _ (.cons _ _ .nil)) (isList_of (N8 _ (.head _)).1) (.cons _ _ (.cons _ _ .nil)) (by ktr_units) ?_
      exact endsX_bool (by assumption) F8 N8 (by decide)
theorem lim_bounds {limit used : Int} (least : Int) (h0 : 5120 ≤ limit) (h1 : limit ≤ 3 * 2 ^ 61) (h2 : 0 ≤ used) (h3 : used ≤ limit) :
    mx 5000 (limit - limit.fdiv 1024 + 1) ≤ limitV limit used least ∧ limitV limit used least ≤ mn 9223372036854775807 (limit + limit.fdiv 1024 - 1) := by
  have e1 : limit.fdiv 1024 = limit / 1024 := fd _ (by omega)
  have e2 : (used * 3).fdiv 2048 = used * 3 / 2048 := fd _ (by omega)
  unfold limitV
  simp only []
  rw [e1, e2]
  generalize hq : limit / 1024 = q
  generalize hs : used * 3 / 2048 = s
  have q1 : 1024 * q ≤ limit ∧ limit < 1024 * q + 1024 := by omega
  have s1 : 2048 * s ≤ used * 3 ∧ 0 ≤ s := by omega
  have s2 : s ≤ 2 * q - 2 := by omega
  unfold mx mn
  constructor
  · split <;> split <;> (try split) <;> (try split) <;> omega
  · split <;> split <;> (try split) <;> (try split) <;> omega
theorem use_tup2 {w : World} {k : Nat} {f : Addr} {vs : List Value} {x y : Int}
    {p : Program} {loose : List Str} {mean : ExcName → Option Value} {mg mb : Str → Option Value} {dp un : Nat} {gd : Option (List Code)} {cn : Str} {cs : Scope} {a : Addr} {ccd : Value} {cl : List (Str × Addr)} {outer : List Env} {A₀ : Around} {base h₀ : Heap} {L : Addr} {m : Str → Option Value} {news : Nws} {s : Shared} {Q E : Value → Shared → Prop}
    (C : Tell w k f vs [] [] (RTup2 x y)) (B : Below A₀ base outer h₀) (F : Fr h₀ L s.heap m) (X : (Mine.K w.params).In h₀) (N : News h₀ L s.heap news) (T : Top p loose mean mg mb h₀) (hk : cs.kind = .function)
    (hd : dp + k < recursionLimit) (hu : un + 8 * k < cLine)
    (ret : ∀ l t u h' tk', Fr h₀ L h' m → News h₀ L h' ((l, tupOf [.int x t, .int y u]) :: news) → AllNe l news → Q (.ref l) { s with heap := h', toks := tk' }) :
    wpAny (model pw w) (ktrTop dp un gd cn cs L a ccd cl outer) (call (.ref f) vs) Q E s :=
  C.tell B F X N T hk (fun _ h => nomatch h) (fun _ h => (nomatch h)) (fun _ h => nomatch h) hd hu fun r h' tk' new hP F' N' ne => by
    obtain ⟨l, t, u, rfl, rfl⟩ := hP
    rw [rest_nil] at N' ne
    exact ret l t u h' tk' F' N' (allNe_of fun q hq => ne _ (.head _) q hq)
noncomputable abbrev RLim (w : World) (D R : Addr) (a : Int) : Nws → Value → Prop := fun new r => ∃ oD', new = [(D, oD')] ∧ DObj w oD' R (a + 1) ∧ r = .bool true
theorem endsX_lim {w : World} {D R : Addr} {a : Int} {oD' : Obj} {fs : List Addr} {g g' : Heap} {s : Shared} {L' : Addr} {h : Heap} {m' : Str → Option Value} {new : Nws} {tk : Nat}
    (T : KtsTurn fs g g') (F : Fr g' L' h m') (N : News g' L' h new) (hm : (D, oD') ∈ new) (hd : DObj w oD' R (a + 1)) : EndsX fs g s (RLim w D R a) (.bool true) { s with heap := h, toks := tk } :=
  ⟨g', L', m', new, h, tk, T, rfl, F, N, [(D, oD')], fun q hq => by (rw [List.mem_singleton.mp hq]; exact hm), oD', rfl, hd, rfl⟩
set_option maxHeartbeats 8000000 in
theorem t_limits (w : World) (D R : Addr) (oD : Obj) (vs : List Value) (ns : List Int) (nn : Nat) (a limit used : Int) (t1 t2 : Tok) (ha0 : 0 ≤ a) (ha1 : a < 2 ^ 40) (hI : IntsAre vs ns) (hl : ns.length < 2 ^ 40) (hRD : R ≠ D) (hD : DObj w oD R a)
    (h0 : 5120 ≤ limit) (h1 : limit ≤ 3 * 2 ^ 61) (h2 : 0 ≤ used) (h3 : used ≤ limit) : TellX w 60 493 [.ref D, .int limit t1, .int used t2] [(R, PySem.W.listOf vs.toArray nn)] [(D, oD)] (RLim w D R a) := by
  k_with_none
  (k_with "ite" => first | with_reducible refine Mine.pite_ff ?_ | with_reducible refine Mine.pite_tt ?_ | with_reducible refine Mine.pite_nt ?_ | with_reducible refine Mine.pite_nf ?_ | with_reducible refine Mine.pite_t ?_ | with_reducible refine Mine.pite_f ?_)
  (k_with "execs cons" => first | (k_here; k_gentoks) | ((with_reducible refine Mine.execs_gen ?_); intro Q9 hQ9))
  (k_with "execs cons" => ((with_reducible show wpAny _ _ (execs _ _) (UnrPost _ _ _ _ _ _ _) _ _); (refine Mine.gen_post ?_); intro Q9 hQ9))
  (k_with "execs cons" => ((with_reducible show wpAny _ _ (execs _ _) (UnrPostW _ _ _ _ _ _) _ _); (refine Mine.gen_post ?_); intro Q9 hQ9))
  (k_with "callWith ref" => (k_here; (with_reducible show wpAny _ _ (callWith _ _ _ (backTo _ (starEach [] _)) []) _ _ _); k_dflt (refine' Mine.callWithK0 ?kF ?k1 ?k2 ?_; (case kF => k_asm); (case k1 => k_asm); (case k2 => k_is); k_whole)))
  (k_with "eval Name" => (k_here; (with_reducible show wpAny _ _ (eval (Expr.Name _ _) (envOf _ _ _ _ _)) _ _ _); name_kind "globalImplicit"; name_is_builtin; (with_reducible rename Fr _ _ _ _ => kF); k_dflt (refine' Mine.nameB ?c1 ?c2 ?c3 kF ?k1 ?k2 ?k3 ?k4 ?k5 ?_; (case c1 => kernel_rfl); (case c2 => kernel_rfl); (case c3 => kernel_rfl); (case k1 => k_asm); (case k2 => k_asm); (case k3 => k_is); (case k4 => boot_by_name); (case k5 => decide); k_whole)))
  (k_with "eval Name" => (k_here; (with_reducible show wpAny _ _ (eval (Expr.Name _ _) (envOf _ _ _ _ _)) _ _ _); name_kind "globalImplicit"; (with_reducible rename Fr _ _ _ _ => kF); k_dflt (refine' Mine.nameK ?c1 ?c2 ?c3 kF ?k1 ?k2 ?k3 ?_; (case c1 => kernel_rfl); (case c2 => kernel_rfl); (case c3 => kernel_rfl); (case k1 => k_asm); (case k2 => k_asm); (case k3 => k_is); k_whole)))
  (k_with "eval Name" => (k_here; (with_reducible show wpAny _ _ (eval (Expr.Name _ _) (envOf _ _ _ _ _)) _ _ _); name_kind "local"; k_dflt (refine' Mine.nameL ?c1 ?c2 ?c3 ?k1 ?k2 ?_; (case c1 => kernel_rfl); (case c2 => kernel_rfl); (case c3 => kernel_rfl); (case k1 => k_asm); (case k2 => exact rfl); k_whole)))
  (k_with "callWith ref" => (k_here; k_dflt (first
  | (refine' callWith_K ?k1 ?k2 ?_; (case k1 => k_asm); (case k2 => k_is); k_whole)
  | (refine' callWith_KW ?k1 ?k2 ?k3 ?_; (case k1 => k_asm); (case k2 => k_is); (case k3 => exact rfl); k_whole))))
  (k_with "ct int" => (
  (try dsimp only)
  refine' Mine.ends_int ?e1 ?e2 ?_
  case e1 => k_asm
  case e2 => k_asm))
  (k_with "ct with" => (
  (case k1 => k_asm)
  (case k2 => k_asm)
  (case k3 => k_in)
  (case k4 => k_asm)
  (case k5 => k_asm)
  (case kK => first | exact rfl | assumption)
  (case kf => first | exact fun _ h => (nomatch h) | walk_at "ct facts")
  (case kd => ktr_room)
  (case ku => ktr_units)))
  (k_with "ct mul" => first | omega | (split <;> omega) | (simp only [] at *; omega) | (constructor <;> omega))
  (k_with "binaryOp Mult int int" => ((first
  | (refine mul_int ?_ (PySem.IntMulOk.of_right (PySem.intBits_le_64 (by walk_at "ct mul") (by walk_at "ct mul"))))
  | (refine mul_int ?_ (PySem.IntMulOk.of_left (PySem.intBits_le_64 (by walk_at "ct mul") (by walk_at "ct mul"))))); (try dsimp only)))
  (k_with "binaryOp FloorDiv int int" => ((with_reducible refine Mine.fdivQ (by first | omega | (simp only [] at *; omega)) (by first | omega | (simp only [] at *; omega)) ?_); (try dsimp only)))
  (k_with "binaryOp Mod int int" => ((with_reducible refine Mine.fmodQ (by first | omega | (simp only [] at *; omega)) ?_); (try dsimp only)))
  (k_with "call builtin:issubclass" => (k_here; k_dflt ((refine' Mine.issub_hdr ?F ?X ?c ?m ?_; (case F => k_asm); (case X => k_asm); (case c => first | assumption | k_is); (case m => first | assumption | k_is)))))
  (k_with "call builtin:tuple.__getitem__" => (k_here; k_dflt ((refine' Mine.call_tupitem ?F ?X ?x ?dd ?m ?l ?h ?k ?y ?_; (case F => k_asm); (case X => k_asm); (case x => assumption); (case dd => assumption); (case m => first | assumption | k_is); (case l => first | assumption | decide); (case h => first | assumption | decide); (case k => first | assumption | rfl); (case y => first | assumption | rfl)))))
  (k_with "getMethod" => (k_here; (with_reducible show wpAny _ _ (getMethod (Value.type _) _ _) _ _ _); k_dflt ((refine' method_type ?F ?X ?t ?s ?e ?h ?_; (case F => k_asm); (case X => k_asm); (case t => first | rfl | kernel_rfl); (case s => decide +kernel); (case e => k_is); (case h => k_handed)))))
  (k_with "call builtin:tuple.__new__" => (k_here; k_dflt ((refine' Mine.call_tupnew ?F ?N ?X ?Y ?c ?m ?i ?t ?z ?_; (case F => k_asm); (case N => k_asm); (case X => k_asm); (case Y => assumption); (case c => k_is); (case m => k_is); (case i => k_is); (case t => k_mem); (case z => simp)); intro x' d' h' F' N' l1 l2; (try k_lt l1); (try k_lt2 l2); (try k_sweep))))
  (k_with "getAttr ref" => (
  k_here
  k_dflt (
  (refine' Mine.hdr_miss ?k2 ?k3 ?k4 ?gx ?gg ?gk ?gc ?ga ?gm ?hA ?hC ?hn ?hl ?hz ?cp ?_)
  (case k2 => k_asm)
  (case k3 => k_in)
  (case k4 => k_asm)
  (case gx => first | exact ⟨Or.inr (by assumption), Or.inr (by assumption)⟩ | exact ⟨Or.inl (by k_mem), Or.inl (by k_mem)⟩)
  (case gg => k_is)
  (case gk => k_is)
  (case gc => k_is)
  (case ga => k_is)
  (case gm => k_is)
  (case hA => exact rfl)
  (case hC => k_is)
  (case hn => decide +kernel)
  (case hl => decide +kernel)
  (case hz => decide +kernel)
  (case cp => decide +kernel)
  intro h9 tk9 e9 NX9)))
  (k_with "getAttr ref" => (
  k_here
  k_dflt (
  (refine' Mine.hdr_attr ?k1 ?k2 ?k3 ?k4 ?k5 ?kK ?gx ?gg ?gg2 ?gc ?gm ?ga ?gs ?gt ?gp ?gd ?gl ?gh ?gi ?gv ?go ?kd ?ku ?_)
  (case k1 => k_asm)
  (case k2 => k_asm)
  (case k3 => k_in)
  (case k4 => k_asm)
  (case k5 => k_asm)
  (case kK => first | exact rfl | assumption)
  (case gx => first | exact ⟨Or.inr (by assumption), Or.inr (by assumption)⟩ | exact ⟨Or.inl (by k_mem), Or.inl (by k_mem)⟩)
  (case gg => k_is)
  (case gg2 => k_is)
  (case gc => k_is)
  (case gm => k_is)
  (case ga => k_is)
  (case gs => k_is)
  (case gt => k_is)
  (case gp => k_is)
  (case gd => k_is)
  (case gl => decide)
  (case gh => decide)
  (case gi => rfl)
  (case gv => rfl)
  (case go => rfl)
  (case kd => ktr_room)
  (case ku => ktr_units)
  intro h9 tk9 F9 N9
  (try k_sweep))))
  (k_with "ct intx" => (
  (try dsimp only)
  (show Mine.EndsX _ _ _ _ _ _)
  refine' Mine.endsX_int ?e0 ?e1 ?e2 ?e3
  case e0 => first | assumption | exact KtsTurn.refl
  case e1 => k_asm
  case e2 => k_asm))
  (k_with "noteFrame ref" => (
  k_here
  (rename Heap.NewExcOf _ _ _ _ => nxX)
  k_dflt (
  (refine' Mine.own_N0 (T' := "AttributeError") ?hx ?F ?N ?K ?XB ?TB ?D ?T0 ?ex PyProof.Rows.Boot.«AttributeError» ?hn Mine.exc_attr Mine.notTuple_attr Mine.sub_attr ?_; (case hx => exact nxX); (case F => k_asm); (case N => k_asm); (case K => assumption); (case XB => assumption); (case TB => assumption); (case D => assumption); (case T0 => first | assumption | exact KtsTurn.refl); (case ex => k_is); (case hn => decide); k_whole)
  intro h' g' T' F' N' K' X' P' D'; (try k_lift K'); (try k_sweep))))
  (k_with "And" => (
  (with_reducible show PySem.Str.length _ ≤ sizeLine ∧ _)
  (with_reducible refine' Mine.fits_z ?fa ?fb ?_)
  (case fa => repeat' (first | (with_reducible refine' Mine.fits_add' ?_ ?_) | ((show _ ≤ 1000); (first | assumption | decide +kernel | (with_reducible exact Mine.len_int' (by omega) (by omega))))))
  (case fb => decide +kernel)))
  (k_with "joinParts" => (
  (with_reducible show wpAny _ _ (joinParts _ (evalEach [] _)) _ _ _)
  (with_reducible refine' Mine.joinNil ?fa ?fb ?_)
  (case fa => repeat' (first | (with_reducible refine' Mine.fits_add' ?_ ?_) | ((show _ ≤ 1000); (first | assumption | decide +kernel | (with_reducible exact Mine.len_int' (by omega) (by omega))))))
  (case fb => decide +kernel)))
  (k_with "ct steps" => repeat' (first | (k_unfold; (try dsimp only)) | walk1 | (dsimp only; walk1) | (leave1; walk_say "STEP leave1"; try dsimp only) | (refine Mine.Gen.to (by with_reducible assumption) _ _ ?_; try dsimp only) | fail "no step"))
  (k_with "ct raised" => first
  | exact ⟨_, _, _, rfl, rfl, by assumption, by assumption⟩
  | exact ⟨_, _, _, rfl, rfl, RaisedS.toSN (by assumption), by assumption⟩)
  (k_with "ct ne" => repeat ((with_reducible rename (@Ne Nat _ _ ∧ _) => hx9); obtain ⟨hy9, hz9⟩ := hx9))
  (k_with "call ref" => (
  (with_reducible show wpAny _ _ (call (Value.ref 413) _) _ _ _)
  k_dflt (
  (refine' Mine.use_delays ?k1 ?k2 ?k3 ?k4 ?k5 ?kK ?kd ?ku ?_)
  (case k1 => k_asm)
  (case k2 => k_asm)
  (case k3 => k_in)
  (case k4 => k_asm)
  (case k5 => k_asm)
  (case kK => first | exact rfl | assumption)
  (case kd => ktr_room)
  (case ku => ktr_units)
  intro l9 ta9 tb9 tc9 td9 n9 h9 tk9 F9 N9 ne9
  (try simp only [Mine.AllNe, and_true] at ne9)
  walk_at "ct ne"
  (try k_sweep))))
  (k_with "ct with2" => (
  (case k1 => k_asm)
  (case k2 => k_asm)
  (case k3 => k_in)
  (case k4 => k_asm)
  (case k5 => k_asm)
  (case kK => first | exact rfl | assumption)
  (case kf => refine' Mine.facts_hdr ?gx; (case gx => first | exact ⟨Or.inr (by assumption), Or.inr (by assumption)⟩ | exact ⟨Or.inl (by k_mem), Or.inl (by k_mem)⟩))
  (case kd => ktr_room)
  (case ku => ktr_units)))
  (k_with "call ref" => (
  (with_reducible show wpAny _ _ (call (Value.ref 399) _) _ _ _)
  k_dflt (
  (refine' Mine.use_pick ?k1 ?k2 ?k3 ?k4 ?k5 ?kK ?pD ?pU ?pR ?pN ?pI ?pl ?p0 ?p1 ?p2 ?kd ?ku ?_)
  (case k1 => k_asm)
  (case k2 => k_asm)
  (case k3 => k_in)
  (case k4 => k_asm)
  (case k5 => k_asm)
  (case pU => k_updF)
  (case pD => assumption)
  (case kK => first | exact rfl | assumption)
  (case kd => ktr_room)
  (case ku => ktr_units)
  (case pR => first | exact Or.inr (by assumption) | exact Or.inl (by k_mem))
  (case pN => first | assumption | k_ne)
  (case pI => assumption)
  (case pl => first | assumption | omega)
  (case p0 => omega)
  (case p1 => omega)
  (case p2 => first | decide | omega)
  intro oD9 v9 t9 h9 tk9 hD9 v90 v91 F9 N9
  (try dsimp only at N9)
  (try k_sweep))))
  (k_with "ct rwith2" => (
  (case k1 => k_asm)
  (case k2 => k_asm)
  (case k3 => k_in)
  (case k4 => k_asm)
  (case k5 => k_asm)
  (case kXB => assumption)
  (case kTB => assumption)
  (case kD => assumption)
  (case kK => first | exact rfl | assumption)
  (case kf => refine' Mine.facts_hdr ?gx; (case gx => first | exact ⟨Or.inr (by assumption), Or.inr (by assumption)⟩ | exact ⟨Or.inl (by k_mem), Or.inl (by k_mem)⟩))
  (case kd => ktr_room)
  (case ku => ktr_units)))
  (k_with "ct rwith3" => (
  (case k1 => k_asm)
  (case k2 => k_asm)
  (case k3 => k_in)
  (case k4 => k_asm)
  (case k5 => k_asm)
  (case kXB => assumption)
  (case kTB => assumption)
  (case kD => assumption)
  (case kK => first | exact rfl | assumption)
  (case kf => refine' Mine.facts_hdr ?gx; (case gx => first | exact ⟨Or.inr (by assumption), Or.inr (by assumption)⟩ | exact ⟨Or.inl (by k_mem), Or.inl (by k_mem)⟩))
  (case kd => ktr_room)
  (case ku => ktr_units)
  (case kT => first | assumption | exact KtsTurn.refl)))
  (k_with "call ref" => (
  (with_reducible show wpAny _ _ (call (Value.ref 172) _) _ _ _)
  k_dflt (
  (refine' Mine.mk172 ?k1 ?k2 ?k3 ?k4 ?k5 ?kK ?kd ?ku ?_)
  (case k1 => k_asm)
  (case k2 => k_asm)
  (case k3 => k_in)
  (case k4 => k_asm)
  (case k5 => k_asm)
  (case kK => first | exact rfl | assumption)
  (case kd => ktr_room)
  (case ku => ktr_units)
  intro x9 d9 h9 tk9 F9 N9 nx9 nd9 ld9
  replace nx9 := Mine.allNe_of nx9
  replace nd9 := Mine.allNe_of nd9
  (try simp only [Mine.AllNe, and_true] at nx9 nd9)
  walk_at "ct ne"
  (try k_sweep))))
  (k_with "call ref" => (
  (with_reducible show wpAny _ _ (call (Value.ref 246) _) _ _ _)
  k_dflt (
  (refine' Mine.mk246 ?k1 ?k2 ?k3 ?k4 ?k5 ?kK ?kd ?ku ?_)
  (case k1 => k_asm)
  (case k2 => k_asm)
  (case k3 => k_in)
  (case k4 => k_asm)
  (case k5 => k_asm)
  (case kK => first | exact rfl | assumption)
  (case kd => ktr_room)
  (case ku => ktr_units)
  intro x9 d9 h9 tk9 F9 N9 nx9 nd9 ld9
  replace nx9 := Mine.allNe_of nx9
  replace nd9 := Mine.allNe_of nd9
  (try simp only [Mine.AllNe, and_true] at nx9 nd9)
  walk_at "ct ne"
  (try k_sweep))))
  (k_with "call ref" => (
  (with_reducible show wpAny _ _ (call (Value.ref 317) _) _ _ _)
  k_dflt (
  (refine' Mine.mk317 ?k1 ?k2 ?k3 ?k4 ?k5 ?kK ?kd ?ku ?_)
  (case k1 => k_asm)
  (case k2 => k_asm)
  (case k3 => k_in)
  (case k4 => k_asm)
  (case k5 => k_asm)
  (case kK => first | exact rfl | assumption)
  (case kd => ktr_room)
  (case ku => ktr_units)
  intro x9 d9 h9 tk9 F9 N9 nx9 nd9 ld9
  replace nx9 := Mine.allNe_of nx9
  replace nd9 := Mine.allNe_of nd9
  (try simp only [Mine.AllNe, and_true] at nx9 nd9)
  walk_at "ct ne"
  (try k_sweep))))
  (k_with "call ref" => (
  (with_reducible show wpAny _ _ (call (Value.ref 364) _) _ _ _)
  k_dflt (first
  | ((refine' Mine.use_int (Mine.t_cancun _ _ _ _ _ _ _) ?k1 ?k2 ?k3 ?k4 ?k5 ?kK ?kf ?kd ?ku ?_); walk_at "ct with2"; intro t9 h9 tk9 F9 N9; (try replace N9 := Mine.news_hdr N9); (try k_sweep))
  | ((refine' Mine.use_intX (Mine.t_cancunX _ _ _ _) ?k1 ?k2 ?k3 ?k4 ?k5 ?kXB ?kTB ?kD ?kK ?kf ?kd ?ku ?kT ?_); walk_at "ct rwith3"; intro t9 h9 tk9 h₀9 T9 F9 N9 B9 X9 P9 D9; (try k_lift B9); (try k_sweep)))))
  (k_with "call ref" => (
  (with_reducible show wpAny _ _ (call (Value.ref 385) _) _ _ _)
  k_dflt (first
  | ((refine' Mine.use_int (Mine.t_prague _ _ _ _ _ _ _) ?k1 ?k2 ?k3 ?k4 ?k5 ?kK ?kf ?kd ?ku ?_); walk_at "ct with2"; intro t9 h9 tk9 F9 N9; (try replace N9 := Mine.news_hdr N9); (try k_sweep))
  | ((refine' Mine.use_intX (Mine.t_pragueX _ _ _ _) ?k1 ?k2 ?k3 ?k4 ?k5 ?kXB ?kTB ?kD ?kK ?kf ?kd ?ku ?kT ?_); walk_at "ct rwith3"; intro t9 h9 tk9 h₀9 T9 F9 N9 B9 X9 P9 D9; (try k_lift B9); (try k_sweep)))))
  (k_with "call ref" => ((with_reducible show wpAny _ _ (call (Value.ref 476) _) _ _ _); k_dflt ((refine' Mine.use_int (Mine.t_excess _ _ _ _ _ _ _) ?k1 ?k2 ?k3 ?k4 ?k5 ?kK ?kf ?kd ?ku ?_); walk_at "ct with"; intro t9 h9 tk9 F9 N9; (try k_sweep))))
  (k_with "call ref" => ((with_reducible show wpAny _ _ (call (Value.ref 36) _) _ _ _); k_dflt ((refine' Mine.use_int (Mine.t_fake _ _ _ _ _ _ ?p0 ?p1 ?p2 ?p3) ?k1 ?k2 ?k3 ?k4 ?k5 ?kK ?kf ?kd ?ku ?_); walk_at "ct with"; (case p0 => assumption); (case p1 => omega); (case p2 => omega); (case p3 => omega); intro t9 h9 tk9 F9 N9; (try k_sweep))))
  (k_with "call ref" => ((with_reducible show wpAny _ _ (call (Value.ref 469) _) _ _ _); k_dflt ((refine' Mine.use_int (Mine.t_price _ _ _ _ _ ?p0 ?p1 ?p2 ?p3) ?k1 ?k2 ?k3 ?k4 ?k5 ?kK ?kf ?kd ?ku ?_); walk_at "ct with"; (case p0 => assumption); (case p1 => omega); (case p2 => omega); (case p3 => omega); intro t9 h9 tk9 F9 N9; (try k_sweep))))
  (k_with "call ref" => (
  (with_reducible show wpAny _ _ (call (Value.ref 481) _) _ _ _)
  k_dflt (
  (refine' Mine.use_bool (Mine.t_numsB _ _ _ _ ?p0 ?p1) ?k1 ?k2 ?k3 ?k4 ?k5 ?kK ?kf ?kd ?ku ?_)
  (case k1 => k_asm)
  (case k2 => k_asm)
  (case k3 => k_in)
  (case k4 => k_asm)
  (case k5 => k_asm)
  (case kK => first | exact rfl | assumption)
  (case kf => refine' Mine.fact_one ?gx; (case gx => first | exact Or.inl (by k_mem) | exact Or.inr (by assumption)))
  (case kd => ktr_room)
  (case ku => ktr_units)
  (case p0 => first | exact rfl | exact Mine.isInts_of (by assumption))
  (case p1 => first | exact Nat.lt_of_le_of_lt (Nat.le_refl _) (by decide) | (simp; done) | exact Mine.ints_len (by assumption))
  intro h9 tk9 F9 N9
  (try replace N9 := Mine.news_tl N9)
  (try k_sweep))))
  (k_with "ct gx" => first | exact ⟨Or.inr (by assumption), Or.inr (by assumption)⟩ | exact ⟨Or.inl (by k_mem), Or.inl (by k_mem)⟩ | exact ⟨Or.inl (by assumption), Or.inl (by assumption)⟩)
  (k_with "ct with4" => (
  (case k1 => k_asm)
  (case k2 => k_asm)
  (case k3 => k_in)
  (case k4 => k_asm)
  (case k5 => k_asm)
  (case kK => first | exact rfl | assumption)
  (case kd => ktr_room)
  (case ku => ktr_units)))
  (k_with "call ref" => ((with_reducible show wpAny _ _ (call (Value.ref 462) _) _ _ _); k_dflt ((refine' Mine.use_int (Mine.t_limit _ _ _ _ _ _ _) ?k1 ?k2 ?k3 ?k4 ?k5 ?kK ?kf ?kd ?ku ?_); walk_at "ct with"; intro t9 h9 tk9 F9 N9; (try k_sweep))))
  (k_with "call ref" => (
  (with_reducible show wpAny _ _ (call (Value.ref 327) _) _ _ _)
  k_dflt (
  (refine' Mine.use_tup2 (Mine.t_bounds _ _ _) ?k1 ?k2 ?k3 ?k4 ?k5 ?kK ?kd ?ku ?_)
  walk_at "ct with4"
  intro l9 ta9 tb9 h9 tk9 F9 N9 ne9
  (try simp only [Mine.AllNe, and_true] at ne9)
  walk_at "ct ne"
  (try k_sweep))))
  (k_with "call ref" => (
  (with_reducible show wpAny _ _ (call (Value.ref 334) _) _ _ _)
  k_dflt (first
  | ((refine' Mine.use_int (Mine.t_glN _ _ _ ?p0) ?k1 ?k2 ?k3 ?k4 ?k5 ?kK ?kf ?kd ?ku ?_); walk_at "ct with"; (case p0 => omega); intro t9 h9 tk9 F9 N9; (try k_sweep))
  | ((refine' Mine.use_int (Mine.t_gl _ _ _ _ _ _ _ _ _ _ _ ?p0 ?p1 ?p2) ?k1 ?k2 ?k3 ?k4 ?k5 ?kK ?kf ?kd ?ku ?_); walk_at "ct with4"; (case p2 => omega); (case kf => refine' Mine.facts_hdr ?gx; (case gx => walk_at "ct gx")); (case p0 => omega); (case p1 => omega); intro t9 h9 tk9 F9 N9; (try replace N9 := Mine.news_hdr N9); (try k_sweep))
  | ((refine' (Mine.t_glR _ _ _ _ ?p0 ?p1).tell ?k1 ?k2 ?k3 ?k4 ?k5 ?kXB ?kTB ?kD ?kK ?kf ?kd ?ku ?_); walk_at "ct with4"; (case kXB => assumption); (case kTB => assumption); (case kD => assumption); (case kf => exact fun _ h => (nomatch h)); (case p0 => omega); (case p1 => omega); intro e9 h9 tk9 G9 FG9 R9 U9))))
  have hb := fun least => lim_bounds least h0 h1 h2 h3
  refine Mine.fill ?_
  k_fill
  intro _ _
  refine' Mine.tellX_of ?ho ?hcd ?hb ?hl ?c1 ?c2 ?c3 ?c4 (by decide) ?_
  case ho => k_is
  case hcd => k_is
  case hb => (conv in (occs := *) Mine.fArgs _ => all_goals whnf); first | exact fun _ _ _ _ => BindsTo.of_eq rfl | exact fun h₀ s X k => binds_K (X.keeps k) rfl (by k_is) rfl rfl rfl
  case hl => exact locs rfl
  case c1 => exact rfl
  case c2 => exact rfl
  case c3 => exact rfl
  case c4 => decide
  intro _ _ _ _ _ _ _ _ _ _ _ _ _ _ _ _ _ _ _ _ _ _ _ _ _ _ _ _ _ _ _ _ _
  (conv in (occs := *) Mine.fBody _ => all_goals whnf)
  (conv in (occs := *) Mine.fScope _ => all_goals whnf)
  (try dsimp only)
  (try k_fold)
  refine Mine.gen_post fun Q9 hQ9 => ?_
  rename_i p loose mean mg mb dp un gd cn cs a ccd cl outer base g L L' h₁ s F' N' B' X' T' XB' TB' D' hck hfa hsm hd hu
  have hR := hfa _ (.head _)
  dsimp only at hR
  k_steps
  all_goals (try dsimp only)
  all_goals first
    | exact absurd rfl (by assumption)
    | exact absurd (hb _).1 (Int.not_le.mpr (by assumption))
    | exact absurd (hb _).2 (Int.not_le.mpr (by assumption))
    | ((show EndsX _ _ _ _ _ _); exact endsX_lim (by first | assumption | exact KtsTurn.refl) (by k_asm) (by k_asm) (by k_mem) (by assumption))
noncomputable abbrev RRead (w : World) : Nws → Value → Prop := fun new r => ∃ D R oD vs ns nn, new = [(D, oD), (R, PySem.W.listOf (List.toArray vs) nn)] ∧ r = .ref D ∧ IntsAre vs ns ∧ ns.length < 2 ^ 40 ∧ R ≠ D ∧ DObj w oD R 0
theorem len_ok {n : Nat} {c : Int} (h : n = 6 * (rangeKs 0 ((if 40 < c then 40 else c) - 0).toNat).length) : n < 2 ^ 40 := by
  rw [show (rangeKs 0 ((if 40 < c then 40 else c) - 0).toNat).length = ((if 40 < c then 40 else c) - 0).toNat by simp [rangeKs]] at h
  split at h <;> omega
theorem ends_read {w : World} {g : Heap} {s : Shared} {L' D R : Addr} {h : Heap} {m' : Str → Option Value} {oD : Obj} {vs : List Value} {ns : List Int} {nn tk : Nat}
    (F : Fr g L' h m') (N : News g L' h [(D, oD), (R, PySem.W.listOf (List.toArray vs) nn)]) (hI : IntsAre vs ns) (hl : ns.length < 2 ^ 40) (ne : @Ne Nat R D) (hD : DObj w oD R 0) : Ends g s (RRead w) (.ref D) { s with heap := h, toks := tk } :=
  ⟨L', m', _, h, tk, rfl, F, N, [(D, oD), (R, PySem.W.listOf (List.toArray vs) nn)], fun _ hq => hq, D, R, oD, vs, ns, nn, rfl, rfl, hI, hl, ne, hD⟩
set_option maxHeartbeats 8000000 in
theorem t_reader (w : World) (l : Addr) (vs : List Value) (ns : List Int) (oL : Obj) (hI : IntsAre vs ns) (hl : ns.length ≤ 2 ^ 20) (hc : oL.cls = .type "list") (hdt : ∃ n, oL.data = .seq (List.toArray vs) n)
   : Tell w 40 392 [.ref l] [(l, oL)] [] (RRead w) := by
  k_with_none
  (k_with "ite" => first | with_reducible refine Mine.pite_ff ?_ | with_reducible refine Mine.pite_tt ?_ | with_reducible refine Mine.pite_nt ?_ | with_reducible refine Mine.pite_nf ?_ | with_reducible refine Mine.pite_t ?_ | with_reducible refine Mine.pite_f ?_)
  (k_with "execs cons" => first | (k_here; k_gentoks) | ((with_reducible refine Mine.execs_gen ?_); intro Q9 hQ9))
  (k_with "execs cons" => ((with_reducible show wpAny _ _ (execs _ _) (UnrPost _ _ _ _ _ _ _) _ _); (refine Mine.gen_post ?_); intro Q9 hQ9))
  (k_with "execs cons" => ((with_reducible show wpAny _ _ (execs _ _) (UnrPostW _ _ _ _ _ _) _ _); (refine Mine.gen_post ?_); intro Q9 hQ9))
  (k_with "eval Name" => (k_here; (with_reducible show wpAny _ _ (eval (Expr.Name _ _) (envOf _ _ _ _ _)) _ _ _); name_kind "globalImplicit"; name_is_builtin; (with_reducible rename Fr _ _ _ _ => kF); k_dflt (refine' Mine.nameB ?c1 ?c2 ?c3 kF ?k1 ?k2 ?k3 ?k4 ?k5 ?_; (case c1 => kernel_rfl); (case c2 => kernel_rfl); (case c3 => kernel_rfl); (case k1 => k_asm); (case k2 => k_asm); (case k3 => k_is); (case k4 => boot_by_name); (case k5 => decide); k_whole)))
  (k_with "eval Name" => (k_here; (with_reducible show wpAny _ _ (eval (Expr.Name _ _) (envOf _ _ _ _ _)) _ _ _); name_kind "globalImplicit"; (with_reducible rename Fr _ _ _ _ => kF); k_dflt (refine' Mine.nameK ?c1 ?c2 ?c3 kF ?k1 ?k2 ?k3 ?_; (case c1 => kernel_rfl); (case c2 => kernel_rfl); (case c3 => kernel_rfl); (case k1 => k_asm); (case k2 => k_asm); (case k3 => k_is); k_whole)))
  (k_with "eval Name" => (k_here; (with_reducible show wpAny _ _ (eval (Expr.Name _ _) (envOf _ _ _ _ _)) _ _ _); name_kind "local"; k_dflt (refine' Mine.nameL ?c1 ?c2 ?c3 ?k1 ?k2 ?_; (case c1 => kernel_rfl); (case c2 => kernel_rfl); (case c3 => kernel_rfl); (case k1 => k_asm); (case k2 => exact rfl); k_whole)))
  (k_with "callWith ref" => (k_here; k_dflt (first
  | (refine' callWith_K ?k1 ?k2 ?_; (case k1 => k_asm); (case k2 => k_is); k_whole)
  | (refine' callWith_KW ?k1 ?k2 ?k3 ?_; (case k1 => k_asm); (case k2 => k_is); (case k3 => exact rfl); k_whole))))
  (k_with "ct int" => (
  (try dsimp only)
  refine' Mine.ends_int ?e1 ?e2 ?_
  case e1 => k_asm
  case e2 => k_asm))
  (k_with "ct with" => (
  (case k1 => k_asm)
  (case k2 => k_asm)
  (case k3 => k_in)
  (case k4 => k_asm)
  (case k5 => k_asm)
  (case kK => first | exact rfl | assumption)
  (case kf => first | exact fun _ h => (nomatch h) | walk_at "ct facts")
  (case kd => ktr_room)
  (case ku => ktr_units)))
  (k_with "ct mul" => first | omega | (split <;> omega) | (simp only [] at *; omega) | (constructor <;> omega))
  (k_with "binaryOp Mult int int" => ((first
  | (refine mul_int ?_ (PySem.IntMulOk.of_right (PySem.intBits_le_64 (by walk_at "ct mul") (by walk_at "ct mul"))))
  | (refine mul_int ?_ (PySem.IntMulOk.of_left (PySem.intBits_le_64 (by walk_at "ct mul") (by walk_at "ct mul"))))); (try dsimp only)))
  (k_with "binaryOp FloorDiv int int" => ((with_reducible refine Mine.fdivQ (by first | omega | (simp only [] at *; omega)) (by first | omega | (simp only [] at *; omega)) ?_); (try dsimp only)))
  (k_with "binaryOp Mod int int" => ((with_reducible refine Mine.fmodQ (by first | omega | (simp only [] at *; omega)) ?_); (try dsimp only)))
  (k_with "call builtin:issubclass" => (k_here; k_dflt ((refine' Mine.issub_hdr ?F ?X ?c ?m ?_; (case F => k_asm); (case X => k_asm); (case c => first | assumption | k_is); (case m => first | assumption | k_is)))))
  (k_with "call builtin:tuple.__getitem__" => (k_here; k_dflt ((refine' Mine.call_tupitem ?F ?X ?x ?dd ?m ?l ?h ?k ?y ?_; (case F => k_asm); (case X => k_asm); (case x => assumption); (case dd => assumption); (case m => first | assumption | k_is); (case l => first | assumption | decide); (case h => first | assumption | decide); (case k => first | assumption | rfl); (case y => first | assumption | rfl)))))
  (k_with "getMethod" => (k_here; (with_reducible show wpAny _ _ (getMethod (Value.type _) _ _) _ _ _); k_dflt ((refine' method_type ?F ?X ?t ?s ?e ?h ?_; (case F => k_asm); (case X => k_asm); (case t => first | rfl | kernel_rfl); (case s => decide +kernel); (case e => k_is); (case h => k_handed)))))
  refine Mine.fill ?_
  k_fill
  intro _ _
  refine' Mine.tell_of ?ho ?hcd ?hb ?hl ?c1 ?c2 ?c3 ?c4 (by decide) ?_
  case ho => k_is
  case hcd => k_is
  case hb => (conv in (occs := *) Mine.fArgs _ => all_goals whnf); first | exact fun _ _ _ _ => BindsTo.of_eq rfl | exact fun h₀ s X k => binds_K (X.keeps k) rfl (by k_is) rfl rfl rfl
  case hl => exact locs rfl
  case c1 => exact rfl
  case c2 => exact rfl
  case c3 => exact rfl
  case c4 => decide
  intro _ _ _ _ _ _ _ _ _ _ _ _ _ _ _ _ _ _ _ _ _ _ _ _ _ _ _ _ _ _
  (conv in (occs := *) Mine.fBody _ => all_goals whnf)
  (conv in (occs := *) Mine.fScope _ => all_goals whnf)
  (try dsimp only)
  (try k_fold)
  refine Mine.gen_post fun Q9 hQ9 => ?_
  rename_i hfa hsm hd hu
  have hR := hfa _ (.head _)
  dsimp only at hR
  have hL : Heap.IsList _ l vs.toArray := ⟨oL, hR, hc, hdt⟩
  (k_with "pyIter ref" => (k_of "k" => k_state (fun pre row => row.length = 6 * pre.length) "row"))
  (k_with "pyIter ref" => (k_of "turn" => refine stop ?_))
  k_steps
  unfold Stop
  (rename Fr _ _ _ _ => lF')
  (rename News _ _ _ _ => lN')
  (rename IsRange _ _ _ _ _ _ _ _ => rg)
  refine kst_range (σ := List Value × List Int × Nat × Int × Tok) (n := 6) (fun c => (_, PySem.W.listOf c.1.toArray c.2.2.1) :: _) (fun c => [(Str.ofString "cell", .int c.2.2.2.1 c.2.2.2.2)]) (fun c => IntsAre c.1 c.2.1) [] (fun pre c => c.2.1.length = _ + pre.length) ⟨_, _, _, _, _⟩ rfl rg (by decide) (by decide) lF' lN' (by assumption) (by kst_all) rfl ?_ ?_
  · rintro ⟨vs1, ns1, nn1, cell1, tc1⟩ pre1 k1 tk1 u1 h1 tkk1 own1 hk1 hlt1 hoff1 hI1 hP1 F1 N1
    have kMark := kstMark
    dsimp only at hI1 hP1 N1
    dsimp only [kstB] at F1
    (try simp only [List.nil_append, List.cons_append, List.append_nil] at N1)
    clear lF' lN' rg
    k_steps
  · rintro ⟨vs1, ns1, nn1, cell1, tc1⟩ u1 h1 tkk1 hI1 hP1 F1 N1
    have kMark := kstMark
    dsimp only at hI1 hP1 N1
    dsimp only [kstB] at F1
    (try simp only [List.nil_append, List.cons_append, List.append_nil] at N1)
    clear lF' lN' rg
    k_steps
  (rename IntsAre _ _ => hI8)
  (rename Fr _ _ _ _ => F8)
  (rename News _ _ _ _ => N8)
  exact ends_read F8 N8 hI8 (len_ok kInv) (Nat.ne_of_lt (by assumption)) ⟨_, by assumption⟩
theorem kts_nil {h₀ g h : Heap} {L : Addr} {m : Str → Option Value} {news : Nws} (T : KtsTurn [] h₀ g) (F : Fr g L h m) (N : News g L h news) : Fr h₀ L h m ∧ News h₀ L h news := by
  have up : ∀ b o, h₀.get? b = some o → g.get? b = some o := fun b o e => T.other b o e (by simp)
  refine ⟨⟨F.ns, fun b o e => F.keep b o (up b o e), by rw [← T.size]; exact F.above⟩, fun q hq => ⟨(N q hq).1, (N q hq).2.1, ?_⟩⟩
  cases z : h₀.get? q.1 with
  | none => rfl
  | some o => have := (N q hq).2.2; rw [up _ _ z] at this; cases this
theorem use_X0 {w : World} {k : Nat} {f : Addr} {vs : List Value} {facts small : Nws} {P : Nws → Value → Prop} {p : Program} {loose : List Str} {mean : ExcName → Option Value} {mg mb : Str → Option Value} {dp un : Nat} {gd : Option (List Code)} {cn : Str} {cs : Scope} {a : Addr} {ccd : Value} {cl : List (Str × Addr)} {A₀ : Around} {base h₀ : Heap} {L : Addr} {m : Str → Option Value} {news : Nws} {s : Shared} {Q E : Value → Shared → Prop} (C : TellX w k f vs facts small P) (B : Below A₀ base [] h₀) (F : Fr h₀ L s.heap m) (X : (Mine.K w.params).In h₀) (N : News h₀ L s.heap news) (T : Top p loose mean mg mb h₀) (XB : (Mine.K w.params).In base) (TB : Top p loose mean mg mb base) (hk : cs.kind = .function)
    (hfa : ∀ q ∈ facts, q ∈ news ∨ h₀.get? q.1 = some q.2) (hfs : ∀ q ∈ small, q ∈ news) (hff : ∀ q ∈ facts, q.1 ∉ small.map (·.1)) (hd : dp + k < recursionLimit) (hu : un + 8 * k < cLine)
    (ret : ∀ r h' tk' new, P new r → Fr h₀ L h' m → News h₀ L h' (new ++ rest news small) → (∀ q ∈ new, ∀ q' ∈ rest news small, q'.1 ≠ q.1) → Q r { s with heap := h', toks := tk' }) :
    wpAny (model pw w) (ktrTop dp un gd cn cs L a ccd cl []) (call (.ref f) vs) Q E s :=
  C.tell B F X N T XB TB (fun _ h => nomatch h) hk hfa hfs hff hd hu fun r h' tk' new h₀' hP T' F' N' ne _ _ _ _ => by
    obtain ⟨F₁, N₁⟩ := kts_nil T' F' N'
    exact ret r h' tk' new hP F₁ N₁ ne
theorem use_b0 {w : World} {k : Nat} {f : Addr} {vs : List Value} {y : Bool} {p : Program} {loose : List Str} {mean : ExcName → Option Value} {mg mb : Str → Option Value} {dp un : Nat} {gd : Option (List Code)} {cn : Str} {cs : Scope} {a : Addr} {ccd : Value} {cl : List (Str × Addr)} {A₀ : Around} {base h₀ : Heap} {L : Addr} {m : Str → Option Value} {news : Nws} {s : Shared} {Q E : Value → Shared → Prop} (C : TellX w k f vs [] [] (RBool y)) (B : Below A₀ base [] h₀) (F : Fr h₀ L s.heap m) (X : (Mine.K w.params).In h₀) (N : News h₀ L s.heap news) (T : Top p loose mean mg mb h₀) (XB : (Mine.K w.params).In base) (TB : Top p loose mean mg mb base) (hk : cs.kind = .function) (hd : dp + k < recursionLimit) (hu : un + 8 * k < cLine)
    (ret : ∀ h' tk', Fr h₀ L h' m → News h₀ L h' news → Q (.bool y) { s with heap := h', toks := tk' }) : wpAny (model pw w) (ktrTop dp un gd cn cs L a ccd cl []) (call (.ref f) vs) Q E s :=
  use_X0 C B F X N T XB TB hk (fun _ h => nomatch h) (fun _ h => nomatch h) (fun _ h => nomatch h) hd hu fun r h' tk' new hP F' N' _ => by
    obtain ⟨rfl, rfl⟩ := hP
    rw [rest_nil] at N'
    exact ret h' tk' F' N'
theorem use_lim {w : World} {D R : Addr} {oD : Obj} {vs : List Value} {ns : List Int} {nn : Nat} {at_ limit used : Int} {t1 t2 : Tok} {gf : Obj → Nws} {p : Program} {loose : List Str} {mean : ExcName → Option Value} {mg mb : Str → Option Value} {dp un : Nat} {gd : Option (List Code)} {cn : Str} {cs : Scope} {a : Addr} {ccd : Value} {cl : List (Str × Addr)} {A₀ : Around} {base h₀ : Heap} {L : Addr} {m : Str → Option Value} {news : Nws} {s : Shared} {Q E : Value → Shared → Prop} (B : Below A₀ base [] h₀) (F : Fr h₀ L s.heap m) (X : (Mine.K w.params).In h₀) (N : News h₀ L s.heap news) (T : Top p loose mean mg mb h₀) (XB : (Mine.K w.params).In base) (TB : Top p loose mean mg mb base) (hk : cs.kind = .function)
    (hD : DObj w oD R at_) (U : UpdF D oD news gf) (hR : (R, PySem.W.listOf vs.toArray nn) ∈ news) (hRD : R ≠ D) (hI : IntsAre vs ns) (hl : ns.length < 2 ^ 40) (ha0 : 0 ≤ at_) (ha1 : at_ < 2 ^ 40) (h0 : 5120 ≤ limit) (h1 : limit ≤ 3 * 2 ^ 61) (h2 : 0 ≤ used) (h3 : used ≤ limit)
    (hd : dp + 60 < recursionLimit) (hu : un + 8 * 60 < cLine)
    (ret : ∀ oD' h' tk', DObj w oD' R (at_ + 1) → Fr h₀ L h' m → News h₀ L h' (gf oD') → Q (.bool true) { s with heap := h', toks := tk' }) : wpAny (model pw w) (ktrTop dp un gd cn cs L a ccd cl []) (call (.ref 493) [.ref D, .int limit t1, .int used t2]) Q E s := by
  obtain ⟨own, rst, rfl, hg, n1, n2⟩ := U.split
  refine use_X0 (t_limits w D R oD vs ns nn at_ limit used t1 t2 ha0 ha1 hI hl hRD hD h0 h1 h2 h3) B F X N T XB TB hk (fun q hq => ?_) (fun q hq => ?_) (fun q hq => ?_) hd hu fun r h' tk' new hP F' N' _ => ?_
  · rw [List.mem_singleton.mp hq]; exact Or.inl hR
  · rw [List.mem_singleton.mp hq]; exact List.mem_append_right _ (.head _)
  · rw [List.mem_singleton.mp hq]; simpa using hRD
  · obtain ⟨oD', rfl, hd', rfl⟩ := hP
    refine ret oD' h' tk' hd' F' fun q hq => ?_
    rw [hg] at hq
    rcases List.mem_append.mp hq with hq | hq
    · exact N' q (List.mem_append_right _ (mem_rest.mpr ⟨List.mem_append_left _ hq, by simpa using n1 q hq⟩))
    · rcases List.mem_cons.mp hq with rfl | hq
      · exact N' _ (.head _)
      · exact N' q (List.mem_append_right _ (mem_rest.mpr ⟨List.mem_append_right _ (.tail _ hq), by simpa using n2 q hq⟩))
theorem use_great {w : World} {D R : Addr} {oD : Obj} {vs : List Value} {ns : List Int} {nn : Nat} {at_ most : Int} {t1 : Tok} {gf : Obj → Nws} {p : Program} {loose : List Str} {mean : ExcName → Option Value} {mg mb : Str → Option Value} {dp un : Nat} {gd : Option (List Code)} {cn : Str} {cs : Scope} {a : Addr} {ccd : Value} {cl : List (Str × Addr)} {outer : List Env} {A₀ : Around} {base h₀ : Heap} {L : Addr} {m : Str → Option Value} {news : Nws} {s : Shared} {Q E : Value → Shared → Prop} (B : Below A₀ base outer h₀) (F : Fr h₀ L s.heap m) (X : (Mine.K w.params).In h₀) (N : News h₀ L s.heap news) (T : Top p loose mean mg mb h₀) (hk : cs.kind = .function)
    (hD : DObj w oD R at_) (U : UpdF D oD news gf) (hR : (R, PySem.W.listOf vs.toArray nn) ∈ news) (hRD : R ≠ D) (hI : IntsAre vs ns) (hl : ns.length < 2 ^ 40) (h0 : 0 ≤ at_) (h1 : at_ < 2 ^ 30) (h2 : 0 ≤ most)
    (hd : dp + 20 < recursionLimit) (hu : un + 8 * 20 < cLine)
    (ret : ∀ oD' v t h' tk', DObj w oD' R (at_ + 6) → 0 ≤ v → v ≤ most → Fr h₀ L h' m → News h₀ L h' (gf oD') → Q (.int v t) { s with heap := h', toks := tk' }) : wpAny (model pw w) (ktrTop dp un gd cn cs L a ccd cl outer) (call (.ref 406) [.ref D, .int most t1]) Q E s := by
  obtain ⟨own, rst, rfl, hg, n1, n2⟩ := U.split
  refine (t_great w D R oD vs ns nn at_ most t1 h0 h1 h2 hI hl hRD hD).tell B F X N T hk (fun q hq => ?_) (fun q hq => ?_) (fun q hq => ?_) hd hu fun r h' tk' new hP F' N' _ => ?_
  · rw [List.mem_singleton.mp hq]; exact Or.inl hR
  · rw [List.mem_singleton.mp hq]; exact List.mem_append_right _ (.head _)
  · rw [List.mem_singleton.mp hq]; simpa using hRD
  · obtain ⟨oD', rfl, hd', v, tk, rfl, v0, v1⟩ := hP
    refine ret oD' v tk h' tk' hd' v0 v1 F' fun q hq => ?_
    rw [hg] at hq
    rcases List.mem_append.mp hq with hq | hq
    · exact N' q (List.mem_append_right _ (mem_rest.mpr ⟨List.mem_append_left _ hq, by simpa using n1 q hq⟩))
    · rcases List.mem_cons.mp hq with rfl | hq
      · exact N' _ (.head _)
      · exact N' q (List.mem_append_right _ (mem_rest.mpr ⟨List.mem_append_right _ (.tail _ hq), by simpa using n2 q hq⟩))
theorem use_read {w : World} {l : Addr} {vs : List Value} {ns : List Int} {p : Program} {loose : List Str} {mean : ExcName → Option Value} {mg mb : Str → Option Value} {dp un : Nat} {gd : Option (List Code)} {cn : Str} {cs : Scope} {a : Addr} {ccd : Value} {cl : List (Str × Addr)} {outer : List Env} {A₀ : Around} {base h₀ : Heap} {L : Addr} {m : Str → Option Value} {news : Nws} {s : Shared} {Q E : Value → Shared → Prop} (B : Below A₀ base outer h₀) (F : Fr h₀ L s.heap m) (X : (Mine.K w.params).In h₀) (N : News h₀ L s.heap news) (T : Top p loose mean mg mb h₀) (hk : cs.kind = .function) (hL : h₀.IsList l vs.toArray) (hI : IntsAre vs ns) (hl : ns.length ≤ 2 ^ 20)
    (hd : dp + 40 < recursionLimit) (hu : un + 8 * 40 < cLine)
    (ret : ∀ D R oD us ms nn h' tk', IntsAre us ms → ms.length < 2 ^ 40 → R ≠ D → DObj w oD R 0 → Fr h₀ L h' m → News h₀ L h' ((D, oD) :: (R, PySem.W.listOf (List.toArray us) nn) :: news) → AllNe D news → AllNe R news → Q (.ref D) { s with heap := h', toks := tk' }) :
    wpAny (model pw w) (ktrTop dp un gd cn cs L a ccd cl outer) (call (.ref 392) [.ref l]) Q E s := by
  obtain ⟨oL, e, hc, hdt⟩ := hL
  refine (t_reader w l vs ns oL hI hl hc hdt).tell B F X N T hk (fun q hq => ?_) (fun _ h => nomatch h) (fun _ _ h => nomatch h) hd hu fun r h' tk' new hP F' N' ne => ?_
  · rw [List.mem_singleton.mp hq]; exact Or.inr e
  · obtain ⟨D, R, oD, us, ms, nn, rfl, rfl, hI', hl', hne, hD⟩ := hP
    rw [rest_nil] at N' ne
    exact ret D R oD us ms nn h' tk' hI' hl' hne hD F' N' (allNe_of fun q hq => ne _ (.head _) q hq) (allNe_of fun q hq => ne _ (.tail _ (.head _)) q hq)
theorem use_told {w : World} {uncles : Bool} {x d : Addr} {time weight place limit used went : Int} {t1 t2 t3 t4 t5 t6 t7 : Tok} {p : Program} {loose : List Str} {mean : ExcName → Option Value} {mg mb : Str → Option Value} {dp un : Nat} {gd : Option (List Code)} {cn : Str} {cs : Scope} {a : Addr} {ccd : Value} {cl : List (Str × Addr)} {A₀ : Around} {base h₀ : Heap} {L : Addr} {m : Str → Option Value} {news : Nws} {s : Shared} {Q E : Value → Shared → Prop} (B : Below A₀ base [] h₀) (F : Fr h₀ L s.heap m) (X : (Mine.K w.params).In h₀) (N : News h₀ L s.heap news) (T : Top p loose mean mg mb h₀) (XB : (Mine.K w.params).In base) (TB : Top p loose mean mg mb base) (hk : cs.kind = .function)
    (hx : (x, hdrObj 172 d (hdr172 time weight place (.bytes (ub uncles) t4) limit used t1 t2 t3 t5 t6)) ∈ news) (hxd : (d, dictOf [] 0) ∈ news)
    (h0 : 0 ≤ time) (h1 : time + went < 2 ^ 40) (h2 : -2 ^ 40 < time + went) (h3 : 0 ≤ place) (h4 : place < 2 ^ 27) (h5 : 0 ≤ weight) (h6 : time < 2 ^ 40)
    (hd : dp + 40 < recursionLimit) (hu : un + 8 * 40 < cLine)
    (ok : 0 < went → ∀ l ws n h' tk', IntsAre ws (dueV weight went (place + 1) uncles) → Fr h₀ L h' m → News h₀ L h' ((l, PySem.W.listOf (List.toArray ws) n) :: news) → AllNe l news → Q (.ref l) { s with heap := h', toks := tk' })
    (no : went ≤ 0 → ∀ l u1 u2 u3 u4 u5 u6 n h' tk', Fr h₀ L h' m → News h₀ L h' ((l, PySem.W.listOf #[.str refS u1, .str refS u2, .str refS u3, .str refS u4, .str refS u5, .str refS u6] n) :: news) → AllNe l news → Q (.ref l) { s with heap := h', toks := tk' }) :
    wpAny (model pw w) (ktrTop dp un gd cn cs L a ccd cl []) (call (.ref 448) [.ref x, .int (time + went) t7]) Q E s := by
  by_cases hw : 0 < went
  · refine use_ints (t_told w uncles x d time weight place limit used (time + went) t1 t2 t3 t4 t5 t6 t7 h0 h1 (by omega) h3 h4 h5) B F X N T hk (facts_hdr ⟨Or.inl hx, Or.inl hxd⟩) hd hu fun l ws n h' tk' hI F' N' ne => ?_
    rw [show time + went - time = went by omega] at hI
    exact ok hw l ws n h' tk' hI F' N' ne
  · refine (t_toldR w uncles x d time weight place limit used (time + went) t1 t2 t3 t4 t5 t6 t7 h0 h6 (by omega) h2).tell B F X N T XB TB (fun _ h => nomatch h) hk (fun q hq => ?_) (fun _ h => nomatch h) (fun _ _ h => nomatch h) hd hu fun r h' tk' new h₀' hP T' F' N' ne _ _ _ _ => ?_
    · rcases List.mem_cons.mp hq with rfl | hq
      · exact hx
      · rw [List.mem_singleton.mp hq]; exact hxd
    · obtain ⟨l, u1, u2, u3, u4, u5, u6, n, rfl, rfl⟩ := hP
      rw [rest_nil] at N' ne
      obtain ⟨F₁, N₁⟩ := kts_nil T' F' N'
      exact no (by omega) l u1 u2 u3 u4 u5 u6 n h' tk' F₁ N₁ (allNe_of fun q hq => ne _ (.head _) q hq)
theorem bomb_nonneg (place : Int) : 0 ≤ bombV place := by
  unfold bombV
  split
  · exact Int.le_refl 0
  · exact Int.le_of_lt (Int.pow_pos (by decide))
theorem step_nonneg (t times place : Int) : 0 ≤ stepV t times place := by
  have := bomb_nonneg place
  show 0 ≤ mx _ _ + _
  unfold mx
  split <;> omega
theorem front_nonneg {t : Int} (went place : Int) (h : 0 ≤ t) : 0 ≤ frontV t went place := by
  unfold frontV
  dsimp only
  have a : ∀ x y : Int, 0 ≤ y → 0 ≤ mx x y := fun x y hy => by unfold mx; split <;> omega
  have b : 0 ≤ mn t 131072 := by unfold mn; split <;> omega
  split
  · exact a _ _ b
  · exact a _ _ (by decide)
theorem due_nonneg {t went place : Int} {u : Bool} (h : 0 ≤ t) : ∀ x ∈ dueV t went place u, 0 ≤ x := by
  intro x hx
  simp only [dueV, List.mem_cons, List.not_mem_nil, or_false] at hx
  rcases hx with rfl | rfl | rfl | rfl | rfl | rfl
  · exact front_nonneg _ _ h
  all_goals exact step_nonneg _ _ _
theorem limit_next {limit used : Int} (h0 : 5120 ≤ limit) (h1 : limit ≤ 2 ^ 62 + 2 ^ 60) (h2 : 0 ≤ used) (h3 : used ≤ limit) :
    5120 ≤ mx 5120 (limitV limit used 5000) ∧ mx 5120 (limitV limit used 5000) ≤ limit + 2 ^ 53 := by
  obtain ⟨-, b⟩ := lim_bounds 5000 h0 (by omega) h2 h3
  have e1 : limit.fdiv 1024 = limit / 1024 := Int.fdiv_eq_ediv_of_nonneg _ (by decide)
  rw [e1] at b
  have c : limitV limit used 5000 ≤ limit + limit / 1024 - 1 := by
    refine Int.le_trans b ?_
    unfold mn
    split <;> omega
  unfold mx
  split <;> omega
structure LS where
  oD : Obj
  a : Int
  time : Int
  weight : Int
  place : Int
  limit : Int
  fee : Int
  excess : Int
  tt : Tok
  tw : Tok
  tp : Tok
  tl : Tok
  tf : Tok
  te : Tok
noncomputable def LawI (k : Nat) (c : LS) : Prop := 0 ≤ c.a ∧ c.a ≤ 100 + 100 * k ∧ 0 ≤ c.time ∧ c.time ≤ 1000 + 2000 * k ∧ 0 ≤ c.weight ∧ 0 ≤ c.place ∧ c.place ≤ 13000000 + k ∧ 5120 ≤ c.limit ∧ c.limit ≤ 2 ^ 62 + 997 + k * 2 ^ 53 ∧ 0 ≤ c.fee ∧ 0 ≤ c.excess ∧ c.excess ≤ k * (26 * 2 ^ 17)
theorem getD_bounds {lo hi : Int} : ∀ {l : List Int} {i : Nat}, (∀ x ∈ l, lo ≤ x ∧ x ≤ hi) → lo ≤ 0 → 0 ≤ hi → lo ≤ l.getD i 0 ∧ l.getD i 0 ≤ hi
  | [], i, _, a, b => by simp; exact ⟨a, b⟩
  | x :: r, 0, h, _, _ => h x (.head _)
  | x :: r, i + 1, h, a, b => by
    have := getD_bounds (l := r) (i := i) (fun y hy => h y (.tail _ hy)) a b
    simpa using this
theorem law_start {oD : Obj} {x1 x2 x4 x6 x8 : Int} {i1 i2 i3 i4 : Nat} {tt tw tp tl tf te : Nat} {a : Int} (ha0 : 0 ≤ a) (ha : a ≤ 100) (h1 : 0 ≤ x1 ∧ x1 < 900) (h2 : 0 ≤ x2 ∧ x2 < 90000) (h4 : 0 ≤ x4 ∧ x4 < 5000) (h6 : 0 ≤ x6 ∧ x6 < 3) (h8 : 0 ≤ x8 ∧ x8 < 997) (hi3 : i3 < 4) :
    LawI 0 ⟨oD, a, 1 + x1, [131072, 17 * 10 ^ Int.toNat 9, 100000 + x2, 10 ^ Int.toNat 15].getD i1 0 + x4, [0, 99998, 199998, 3199997, 4000000, 9700000, 12965000].getD i2 0 + x6, [5120, 30000000, 10 ^ Int.toNat 6, 2 ^ Int.toNat 62].getD i3 0 + x8, [0, 1, 7, 8, 10 ^ Int.toNat 9, 10 ^ Int.toNat 18].getD i4 0, 0, tt, tw, tp, tl, tf, te⟩ := by
  obtain ⟨w0, -⟩ := getD_bounds (lo := 0) (hi := 10 ^ 30) (l := [131072, 17 * 10 ^ Int.toNat 9, 100000 + x2, 10 ^ Int.toNat 15]) (i := i1) (by simp only [List.mem_cons, List.not_mem_nil, or_false, forall_eq_or_imp, forall_eq]; refine ⟨⟨by decide, by decide⟩, ⟨by decide, by decide⟩, ⟨by omega, by omega⟩, ⟨by decide, by decide⟩⟩) (by decide) (by decide)
  obtain ⟨p0, p1⟩ := getD_bounds (lo := 0) (hi := 12965000) (l := [0, 99998, 199998, 3199997, 4000000, 9700000, 12965000]) (i := i2) (by decide) (by decide) (by decide)
  have l01 : (5120 : Int) ≤ [5120, 30000000, 10 ^ Int.toNat 6, 2 ^ Int.toNat 62].getD i3 0 ∧ [5120, 30000000, 10 ^ Int.toNat 6, 2 ^ Int.toNat 62].getD i3 0 ≤ (2 : Int) ^ 62 := by
    match i3, hi3 with
    | 0, _ => decide
    | 1, _ => decide
    | 2, _ => decide
    | 3, _ => decide
  obtain ⟨f0, -⟩ := getD_bounds (lo := 0) (hi := 10 ^ 30) (l := [0, 1, 7, 8, 10 ^ Int.toNat 9, 10 ^ Int.toNat 18]) (i := i4) (by decide) (by decide) (by decide)
  refine ⟨?_, ?_, ?_, ?_, ?_, ?_, ?_, ?_, ?_, ?_, ?_, ?_⟩ <;> (try dsimp only) <;> first | assumption | omega
theorem law_end {w : World} {base h' : Heap} {L D R : Addr} {oD' oD₀ : Obj} {own news' : List (Addr × Obj)} {vs : List Value} {nn : Nat} {m' m₀ : Str → Option Value} {k a time weight place limit fee excess : Int} {tt tw tp tl tf te : Tok} {pre : List Int} {s : Shared} {tk : Nat} {h : Heap} {tk0 : Nat}
    (F : Fr base L h' m') (N : News base L h' news') (hD : DObj w oD' R a) (nD : (D, oD') ∈ news') (nR : (R, PySem.W.listOf vs.toArray nn) ∈ news') (no : ∀ p ∈ own, p ∈ news')
    (m1 : m' (Str.ofString "time") = some (.int time tt)) (m2 : m' (Str.ofString "weight") = some (.int weight tw)) (m3 : m' (Str.ofString "place") = some (.int place tp)) (m4 : m' (Str.ofString "limit") = some (.int limit tl)) (m5 : m' (Str.ofString "fee") = some (.int fee tf)) (m6 : m' (Str.ofString "excess") = some (.int excess te))
    (hr : ∀ z, z ≠ Str.ofString "turn" → z ≠ Str.ofString "time" → z ≠ Str.ofString "weight" → z ≠ Str.ofString "place" → z ≠ Str.ofString "limit" → z ≠ Str.ofString "fee" → z ≠ Str.ofString "excess" → z ≠ Str.ofString "uncles" → z ≠ Str.ofString "went" → z ≠ Str.ofString "used" → z ≠ Str.ofString "parent" → z ≠ Str.ofString "told" → z ≠ Str.ofString "due" → z ≠ Str.ofString "blobs" → m' z = m₀ z)
    (hp : LawI (pre.length + 1) ⟨oD', a, time, weight, place, limit, fee, excess, tt, tw, tp, tl, tf, te⟩) :
    InvEndN base L (KstS (fun c : LS => [(D, c.oD), (R, PySem.W.listOf vs.toArray nn)]) (fun c : LS => [(Str.ofString "time", .int c.time c.tt), (Str.ofString "weight", .int c.weight c.tw), (Str.ofString "place", .int c.place c.tp), (Str.ofString "limit", .int c.limit c.tl), (Str.ofString "fee", .int c.fee c.tf), (Str.ofString "excess", .int c.excess c.te)]) (fun c => DObj w c.oD R c.a) (Str.ofString "turn") [Str.ofString "uncles", Str.ofString "went", Str.ofString "used", Str.ofString "parent", Str.ofString "told", Str.ofString "due", Str.ofString "blobs"] m₀ (fun pre c => LawI pre.length c) (pre ++ [k])) own ([(D, oD₀), (R, PySem.W.listOf vs.toArray nn)].map (·.1)) { s with heap := h, toks := tk0 } { s with heap := h', toks := tk } := by
  refine kst_end (LS.mk oD' a time weight place limit fee excess tt tw tp tl tf te) F N ?_ no rfl hD ?_ ?_ (by simpa using hp)
  · exact List.forall_mem_cons.mpr ⟨nD, List.forall_mem_cons.mpr ⟨nR, List.forall_mem_nil _⟩⟩
  · exact List.forall_mem_cons.mpr ⟨m1, List.forall_mem_cons.mpr ⟨m2, List.forall_mem_cons.mpr ⟨m3, List.forall_mem_cons.mpr ⟨m4, List.forall_mem_cons.mpr ⟨m5, List.forall_mem_cons.mpr ⟨m6, List.forall_mem_nil _⟩⟩⟩⟩⟩⟩
  · intro z h1 h2 h3
    simp only [List.forall_mem_cons, List.not_mem_nil, false_implies, implies_true, and_true] at h2
    simp only [List.contains_cons, List.contains_nil, Bool.or_false, Bool.or_eq_false_iff, beq_eq_false_iff_ne, ne_eq] at h3
    obtain ⟨a1, a2, a3, a4, a5, a6⟩ := h2
    obtain ⟨b1, b2, b3, b4, b5, b6, b7⟩ := h3
    exact hr z h1 a1 a2 a3 a4 a5 a6 b1 b2 b3 b4 b5 b6 b7
theorem law_stay {k : Nat} {oD' : Obj} {a a' time weight place limit fee excess : Int} {tt tw tp tl tf te : Tok}
    (a0 : 0 ≤ a) (a1 : a ≤ 100 + 100 * (k : Int)) (ha : a ≤ a' ∧ a' ≤ a + 100) (time0 : 0 ≤ time) (time1 : time ≤ 1000 + 2000 * (k : Int)) (weight0 : 0 ≤ weight) (place0 : 0 ≤ place) (place1 : place ≤ 13000000 + (k : Int)) (limit0 : 5120 ≤ limit) (limit1 : limit ≤ 2 ^ 62 + 997 + (k : Int) * 2 ^ 53) (fee0 : 0 ≤ fee) (excess0 : 0 ≤ excess) (excess1 : excess ≤ (k : Int) * (26 * 2 ^ 17)) :
    LawI (k + 1) ⟨oD', a', time, weight, place, limit, fee, excess, tt, tw, tp, tl, tf, te⟩ := by
  refine ⟨?_, ?_, ?_, ?_, ?_, ?_, ?_, ?_, ?_, ?_, ?_, ?_⟩ <;> (dsimp only) <;> omega
theorem law_go {k : Nat} {oD' : Obj} {a a' time place limit fee excess went used b x weight' : Int} {tt tw tp tl tf te : Tok} (hk : k ≤ 6)
    (a0 : 0 ≤ a) (a1 : a ≤ 100 + 100 * (k : Int)) (ha : a ≤ a' ∧ a' ≤ a + 100) (time0 : 0 ≤ time) (time1 : time ≤ 1000 + 2000 * (k : Int)) (weight0 : 0 ≤ weight') (place0 : 0 ≤ place) (place1 : place ≤ 13000000 + (k : Int)) (limit0 : 5120 ≤ limit) (limit1 : limit ≤ 2 ^ 62 + 997 + (k : Int) * 2 ^ 53) (fee0 : 0 ≤ fee) (excess0 : 0 ≤ excess) (excess1 : excess ≤ (k : Int) * (26 * 2 ^ 17))
    (went0 : 0 ≤ went) (went1 : went ≤ 2000) (used0 : 0 ≤ used) (used1 : used ≤ limit) (b0 : 0 ≤ b) (b1 : b < 10) (x0 : 0 ≤ x) (x1 : x ≤ 2621440) :
    LawI (k + 1) ⟨oD', a', time + went, weight', place + 1, (if limitV limit used 5000 > 5120 then limitV limit used 5000 else 5120), feeV limit used fee, mx 0 (excess + 2 ^ Int.toNat 17 * b - 3 * 2 ^ Int.toNat 17) + x, tt, tw, tp, tl, tf, te⟩ := by
  obtain ⟨l0, l1⟩ := limit_next limit0 (by omega) used0 used1
  obtain ⟨-, -, f0⟩ := fee_bounds limit0 used0 fee0
  have e17 : (2 : Int) ^ Int.toNat 17 = 131072 := by decide
  have m0 : 0 ≤ mx 0 (excess + 2 ^ Int.toNat 17 * b - 3 * 2 ^ Int.toNat 17) ∧ mx 0 (excess + 2 ^ Int.toNat 17 * b - 3 * 2 ^ Int.toNat 17) ≤ excess + 6 * 2 ^ 17 := by
    rw [e17]; unfold mx; split <;> omega
  obtain ⟨m0, m1⟩ := m0
  refine ⟨?_, ?_, ?_, ?_, ?_, ?_, ?_, ?_, ?_, ?_, ?_, ?_⟩
  · dsimp only; omega
  · dsimp only; omega
  · dsimp only; omega
  · dsimp only; omega
  · exact weight0
  · dsimp only; omega
  · dsimp only; omega
  · exact l0
  · refine Int.le_trans l1 ?_
    omega
  · exact f0
  · dsimp only; generalize mx 0 (excess + 2 ^ Int.toNat 17 * b - 3 * 2 ^ Int.toNat 17) = r at *; omega
  · dsimp only; generalize mx 0 (excess + 2 ^ Int.toNat 17 * b - 3 * 2 ^ Int.toNat 17) = r at *; omega
end Mine
local macro_rules | `(tactic| kcj_all) => `(tactic| (with_reducible kcj_in))
namespace Mine
structure BaseM (mB m₀ : Str → Option Value) : Prop where
  eq : ∀ z, z ≠ Str.ofString "uncles" → z ≠ Str.ofString "went" → z ≠ Str.ofString "used" → z ≠ Str.ofString "parent" → z ≠ Str.ofString "told" → z ≠ Str.ofString "due" → z ≠ Str.ofString "blobs" → mB z = m₀ z
theorem news_drop4 {g h : Heap} {L : Addr} {a b c d : Addr × Obj} {r : Nws} (N : News g L h (a :: b :: c :: d :: r)) : News g L h r := fun q hq => N q (.tail _ (.tail _ (.tail _ (.tail _ hq))))
section
variable {prog : Program} {w : World} {A : Around} {E : Value → Shared → Prop} {s : Shared}
theorem bytes9 {h₀ : Heap} {L D : Addr} {m : PySem.Str → Option Value} {news : List (Addr × Obj)} {t1 : Tok} {Q : Value → Shared → Prop} (F : Fr h₀ L s.heap m) (N : News h₀ L s.heap news) (hh : A.handled = none) (hl : s.heap.IsList D (List.replicate (Int.toNat 32) [Value.int 9 t1]).flatten.toArray)
    (h : ∀ h' t' k, Fr h₀ L h' m → News h₀ L h' news → Q (.bytes nineB t') { s with heap := h', toks := k }) : wpAny (model prog w) A (call (.type "bytes") [.ref D]) Q E s := by
  refine KBa.make_K (ns := (List.replicate (Int.toNat 32) [(9 : Int)]).flatten) F N hh hl ?_ ?_ ?_ ?_
  · exact .cons _ _ (.cons _ _ (.cons _ _ (.cons _ _ (.cons _ _ (.cons _ _ (.cons _ _ (.cons _ _ (.cons _ _ (.cons _ _ (.cons _ _ (.cons _ _ (.cons _ _ (.cons _ _ (.cons _ _ (.cons _ _ (.cons _ _ (.cons _ _ (.cons _ _ (.cons _ _ (.cons _ _ (.cons _ _ (.cons _ _ (.cons _ _ (.cons _ _ (.cons _ _ (.cons _ _ (.cons _ _ (.cons _ _ (.cons _ _ (.cons _ _ (.cons _ _ .nil)))))))))))))))))))))))))))))))
  · intro n hn
    have : n = 9 := by simpa using hn
    subst this; decide
  · decide
  · intro h' t' k F' N' _
    rw [show PySem.byteArr (List.replicate (Int.toNat 32) [(9 : Int)]).flatten = nineB by rfl]
    exact h h' t' k F' N'
theorem ub_tail {value slice : Expr} {a : Addr} {t1 t2 u : Tok} {k : Int} {b : Bool} {Q : Value → Shared → Prop} (hl : s.heap.IsList a [Value.bytes emptyB t1, .bytes nineB t2].toArray) (hk : k = if b then 1 else 0) (h : Q (.bytes (ub b) (if b then t2 else t1)) s)
    (hs : ∀ i u, subscripted slice false (.ref a) (.int i u) = operate [.ref a, .int i u] (getItem (.ref a) (.int i u)) := by intro _ _; with_unfolding_all rfl) (hg : ∀ r, letTemporaryGo value (.ref a) r = pure () := by intro _; with_unfolding_all rfl) : wpAny (model prog w) A (subscriptTail value slice (.ref a) (.int k u)) Q E s := by
  subst hk
  cases b with
  | true => exact item_listL hl (by decide) (by decide) (x := .bytes nineB t2) rfl h (hs _ _) hg
  | false => exact item_listL hl (by decide) (by decide) (x := .bytes emptyB t1) rfl h (hs _ _) hg
theorem went_tail {value slice : Expr} {a : Addr} {t1 t2 t3 t4 t5 t6 t7 t8 t9 u : Tok} {k v1 v2 v3 v4 : Int} {Q : Value → Shared → Prop} (hl : s.heap.IsList a [Value.int v1 t1, .int 13 t2, .int 12 t3, .int 10 t4, .int 9 t5, .int 18 t6, .int (-v2) t7, .int (880 + v3) t8, .int (9 * v4) t9].toArray) (k0 : 0 ≤ k) (k1 : k < 9)
    (a1 : 0 ≤ v1) (b1 : v1 < 30) (a2 : 0 ≤ v2) (b2 : v2 < 5) (a3 : 0 ≤ v3) (b3 : v3 < 200) (a4 : 0 ≤ v4) (b4 : v4 < 12) (h : ∀ v t, -10 ≤ v → v ≤ 2000 → Q (.int v t) s)
    (hs : ∀ i u, subscripted slice false (.ref a) (.int i u) = operate [.ref a, .int i u] (getItem (.ref a) (.int i u)) := by intro _ _; with_unfolding_all rfl) (hg : ∀ r, letTemporaryGo value (.ref a) r = pure () := by intro _; with_unfolding_all rfl) : wpAny (model prog w) A (subscriptTail value slice (.ref a) (.int k u)) Q E s := by
  have : k = 0 ∨ k = 1 ∨ k = 2 ∨ k = 3 ∨ k = 4 ∨ k = 5 ∨ k = 6 ∨ k = 7 ∨ k = 8 := by omega
  rcases this with rfl | rfl | rfl | rfl | rfl | rfl | rfl | rfl | rfl
  · exact item_listL hl (by decide) (by decide) rfl (h _ _ (by first | omega | (split <;> omega)) (by first | omega | (split <;> omega))) (hs _ _) hg
  · exact item_listL hl (by decide) (by decide) rfl (h _ _ (by first | omega | (split <;> omega)) (by first | omega | (split <;> omega))) (hs _ _) hg
  · exact item_listL hl (by decide) (by decide) rfl (h _ _ (by first | omega | (split <;> omega)) (by first | omega | (split <;> omega))) (hs _ _) hg
  · exact item_listL hl (by decide) (by decide) rfl (h _ _ (by first | omega | (split <;> omega)) (by first | omega | (split <;> omega))) (hs _ _) hg
  · exact item_listL hl (by decide) (by decide) rfl (h _ _ (by first | omega | (split <;> omega)) (by first | omega | (split <;> omega))) (hs _ _) hg
  · exact item_listL hl (by decide) (by decide) rfl (h _ _ (by first | omega | (split <;> omega)) (by first | omega | (split <;> omega))) (hs _ _) hg
  · exact item_listL hl (by decide) (by decide) rfl (h _ _ (by first | omega | (split <;> omega)) (by first | omega | (split <;> omega))) (hs _ _) hg
  · exact item_listL hl (by decide) (by decide) rfl (h _ _ (by first | omega | (split <;> omega)) (by first | omega | (split <;> omega))) (hs _ _) hg
  · exact item_listL hl (by decide) (by decide) rfl (h _ _ (by first | omega | (split <;> omega)) (by first | omega | (split <;> omega))) (hs _ _) hg
theorem used_tail {value slice : Expr} {a : Addr} {t1 t2 t3 t4 t5 t6 u : Tok} {k limit v : Int} {Q : Value → Shared → Prop} (hl : s.heap.IsList a [Value.int 0 t1, .int (limit.fdiv 2) t2, .int limit t3, .int (limit.fdiv 2 + 1) t4, .int v t5, .int (if limit.fdiv 2 - 1 > 0 then limit.fdiv 2 - 1 else 0) t6].toArray) (k0 : 0 ≤ k) (k1 : k < 6)
    (a1 : 5120 ≤ limit) (a2 : 0 ≤ v) (b2 : v ≤ limit) (h : ∀ v t, 0 ≤ v → v ≤ limit → Q (.int v t) s)
    (hs : ∀ i u, subscripted slice false (.ref a) (.int i u) = operate [.ref a, .int i u] (getItem (.ref a) (.int i u)) := by intro _ _; with_unfolding_all rfl) (hg : ∀ r, letTemporaryGo value (.ref a) r = pure () := by intro _; with_unfolding_all rfl) : wpAny (model prog w) A (subscriptTail value slice (.ref a) (.int k u)) Q E s := by
  rw [Int.fdiv_eq_ediv_of_nonneg limit (show (0 : Int) ≤ 2 by decide)] at hl
  have : k = 0 ∨ k = 1 ∨ k = 2 ∨ k = 3 ∨ k = 4 ∨ k = 5 := by omega
  rcases this with rfl | rfl | rfl | rfl | rfl | rfl
  · exact item_listL hl (by decide) (by decide) rfl (h _ _ (by first | omega | (split <;> omega)) (by first | omega | (split <;> omega))) (hs _ _) hg
  · exact item_listL hl (by decide) (by decide) rfl (h _ _ (by first | omega | (split <;> omega)) (by first | omega | (split <;> omega))) (hs _ _) hg
  · exact item_listL hl (by decide) (by decide) rfl (h _ _ (by first | omega | (split <;> omega)) (by first | omega | (split <;> omega))) (hs _ _) hg
  · exact item_listL hl (by decide) (by decide) rfl (h _ _ (by first | omega | (split <;> omega)) (by first | omega | (split <;> omega))) (hs _ _) hg
  · exact item_listL hl (by decide) (by decide) rfl (h _ _ (by first | omega | (split <;> omega)) (by first | omega | (split <;> omega))) (hs _ _) hg
  · exact item_listL hl (by decide) (by decide) rfl (h _ _ (by first | omega | (split <;> omega)) (by first | omega | (split <;> omega))) (hs _ _) hg
theorem exc_tail {value slice : Expr} {a : Addr} {t1 t2 t3 u : Tok} {k x : Int} {Q : Value → Shared → Prop} (hl : s.heap.IsList a [Value.int 0 t1, .int 0 t2, .int x t3].toArray) (k0 : 0 ≤ k) (k1 : k < 3)
    (a1 : 0 ≤ x ∧ x ≤ 2621440) (h : ∀ v t, 0 ≤ v → v ≤ 2621440 → Q (.int v t) s)
    (hs : ∀ i u, subscripted slice false (.ref a) (.int i u) = operate [.ref a, .int i u] (getItem (.ref a) (.int i u)) := by intro _ _; with_unfolding_all rfl) (hg : ∀ r, letTemporaryGo value (.ref a) r = pure () := by intro _; with_unfolding_all rfl) : wpAny (model prog w) A (subscriptTail value slice (.ref a) (.int k u)) Q E s := by
  have : k = 0 ∨ k = 1 ∨ k = 2 := by omega
  rcases this with rfl | rfl | rfl
  · exact item_listL hl (by decide) (by decide) rfl (h _ _ (by omega) (by omega)) (hs _ _) hg
  · exact item_listL hl (by decide) (by decide) rfl (h _ _ (by omega) (by omega)) (hs _ _) hg
  · exact item_listL hl (by decide) (by decide) rfl (h _ _ (by omega) (by omega)) (hs _ _) hg
theorem ints_at : ∀ {ws : List Value} {ns : List Int}, IntsAre ws ns → ∀ i, i < ns.length → ∃ n t, ws[i]? = some (.int n t) ∧ n ∈ ns
  | _, _, .nil, i, h => absurd h (Nat.not_lt_zero _)
  | _, _, .cons n t _, 0, _ => ⟨n, t, rfl, .head _⟩
  | _, _, .cons n t r, i + 1, h => by
    obtain ⟨m, u, e, hm⟩ := ints_at r i (Nat.lt_of_succ_lt_succ h)
    exact ⟨m, u, e, .tail _ hm⟩
theorem due_tail {value slice : Expr} {a : Addr} {u : Tok} {k t went place : Int} {b : Bool} {ws : List Value} {Q : Value → Shared → Prop} (hl : s.heap.IsList a ws.toArray) (hI : IntsAre ws (dueV t went place b)) (k0 : 0 ≤ k) (k1 : k < 6)
    (h0 : 0 ≤ t) (h : ∀ v t, 0 ≤ v → Q (.int v t) s)
    (hs : ∀ i u, subscripted slice false (.ref a) (.int i u) = operate [.ref a, .int i u] (getItem (.ref a) (.int i u)) := by intro _ _; with_unfolding_all rfl) (hg : ∀ r, letTemporaryGo value (.ref a) r = pure () := by intro _; with_unfolding_all rfl) : wpAny (model prog w) A (subscriptTail value slice (.ref a) (.int k u)) Q E s := by
  obtain ⟨n, t9, e, hn⟩ := ints_at hI k.toNat (by show k.toNat < 6; omega)
  exact item_listL hl k0 (by omega) e (h _ _ (due_nonneg h0 n hn)) (hs _ _) hg
theorem mulR {h₀ : Heap} {L l : Addr} {m : Str → Option Value} {news : List (Addr × Obj)} {t1 u : Tok} {Q : Value → Shared → Prop} (F : Fr h₀ L s.heap m) (N : News h₀ L s.heap news) (hl : s.heap.IsList l [Value.str refS t1].toArray)
    (h : ∀ D h', Fr h₀ L h' m → News h₀ L h' ((D, PySem.W.listOf #[.str refS t1, .str refS t1, .str refS t1, .str refS t1, .str refS t1, .str refS t1] 0) :: news) → (∀ p ∈ news, p.1 < D) → Q (.ref D) { s with heap := h' }) : wpAny (model prog w) A (binaryOp .Mult (.ref l) (.int 6 u)) Q E s :=
  KMa.mul F N hl (by decide) (by decide) (show 1 * 6 ≤ 256 by decide) rfl h
theorem due_len {ws : List Value} {t a b : Int} {u : Bool} (h : IntsAre ws (dueV t a b u)) : ws.length < 1000 := by
  have := h.length
  rw [this]
  exact Nat.lt_of_le_of_lt (Nat.le_refl 6) (by decide)
end
end Mine
local macro_rules | `(tactic| k_lt $h:ident) => `(tactic| ((replace $h := allLt_of $h); (simp only [AllLt, and_true] at $h:ident); walk_at "ct lt"))
namespace Mine
noncomputable abbrev capA (dp un : Nat) (gd : Option (List Code)) : Around := { handled := none, depth := dp, frames := some [], guards := gd, units := un }
noncomputable def forBody : Stmt → List Stmt
  | .For _ _ b .. => b
  | _ => []
set_option maxHeartbeats 16000000 in
theorem law_turn0 (w : World) {p : Program} {loose : List Str} {mean : ExcName → Option Value} {mg mb : Str → Option Value} {dp un : Nat} {gd : Option (List Code)} {base : Heap} {L fa : Addr} {cdv : Value} {s : Shared} {D R : Addr} {oD₀ : Obj} {vs : List Value} {ns : List Int} {nn n : Nat} {mB m₀ : Str → Option Value} {Q : Flow → Shared → Prop}
    (B' : Below (capA dp un gd) base [] base) (X' : (K w.params).In base) (T' : Top p loose mean mg mb base) (hI : IntsAre vs ns) (hl : ns.length < 2 ^ 40) (hne : R ≠ D)
    (hd : dp + 200 < recursionLimit) (hu : un + 8 * 200 < cLine) (hn : n ≤ 7)
    (c : LS) (pre : List Int) (k : Int) (t : Tok) (h : Heap) (tk : Nat) (own : List (Addr × Obj)) (hk : k = 0 + (pre.length : Int)) (hlt : pre.length < n)
    (hoff : OwnOff own ([(D, oD₀), (R, PySem.W.listOf vs.toArray nn)].map (·.1))) (hD : DObj w c.oD R c.a) (hP : LawI pre.length c)
    (hB : mB (Str.ofString "d") = some (.ref D)) (hM : BaseM mB m₀) (F : Fr base L h (fun y => if y = Str.ofString "turn" then some (.int k t) else if y = Str.ofString "time" then some (.int c.time c.tt) else if y = Str.ofString "weight" then some (.int c.weight c.tw) else if y = Str.ofString "place" then some (.int c.place c.tp) else if y = Str.ofString "limit" then some (.int c.limit c.tl) else if y = Str.ofString "fee" then some (.int c.fee c.tf) else if y = Str.ofString "excess" then some (.int c.excess c.te) else mB y))
    (N : News base L h ([(D, c.oD), (R, PySem.W.listOf vs.toArray nn)] ++ own))
    (Q0 : Flow → Shared → Prop) (hQ0 : InvPostN base L (KstS (fun c : LS => [(D, c.oD), (R, PySem.W.listOf vs.toArray nn)]) (fun c : LS => [(Str.ofString "time", .int c.time c.tt), (Str.ofString "weight", .int c.weight c.tw), (Str.ofString "place", .int c.place c.tp), (Str.ofString "limit", .int c.limit c.tl), (Str.ofString "fee", .int c.fee c.tf), (Str.ofString "excess", .int c.excess c.te)]) (fun c => DObj w c.oD R c.a) (Str.ofString "turn") [Str.ofString "uncles", Str.ofString "went", Str.ofString "used", Str.ofString "parent", Str.ofString "told", Str.ofString "due", Str.ofString "blobs"] m₀ (fun pre c => LawI pre.length c) (pre ++ [k])) own ([(D, oD₀), (R, PySem.W.listOf vs.toArray nn)].map (·.1)) { s with heap := h, toks := tk } Q = Q0) :
    wpAny (model pw w) ((capA dp un gd).deeper (envOf (Str.ofString "law") (fScope (stAt 64)) L fa cdv)) (execs (forBody (nth (fBody (stAt 64)) 7)) (envOf (Str.ofString "law") (fScope (stAt 64)) L fa cdv))
      Q0 (fun _ _ => False) { s with heap := h, toks := tk } := by
  k_with_none
  (k_with "ite" => first | with_reducible refine Mine.pite_ff ?_ | with_reducible refine Mine.pite_tt ?_ | with_reducible refine Mine.pite_nt ?_ | with_reducible refine Mine.pite_nf ?_ | with_reducible refine Mine.pite_t ?_ | with_reducible refine Mine.pite_f ?_)
  (k_with "execs cons" => first | (k_here; k_gentoks) | ((with_reducible refine Mine.execs_gen ?_); intro Q9 hQ9))
  (k_with "execs cons" => ((with_reducible show wpAny _ _ (execs _ _) (UnrPost _ _ _ _ _ _ _) _ _); (refine Mine.gen_post ?_); intro Q9 hQ9))
  (k_with "execs cons" => ((with_reducible show wpAny _ _ (execs _ _) (UnrPostW _ _ _ _ _ _) _ _); (refine Mine.gen_post ?_); intro Q9 hQ9))
  (k_with "callWith ref" => (k_here; (with_reducible show wpAny _ _ (callWith _ _ _ (backTo _ (starEach [] _)) []) _ _ _); k_dflt (refine' Mine.callWithK0 ?kF ?k1 ?k2 ?_; (case kF => k_asm); (case k1 => k_asm); (case k2 => k_is); k_whole)))
  (k_with "eval Name" => (k_here; (with_reducible show wpAny _ _ (eval (Expr.Name _ _) (envOf _ _ _ _ _)) _ _ _); name_kind "globalImplicit"; name_is_builtin; (with_reducible rename Fr _ _ _ _ => kF); k_dflt (refine' Mine.nameB ?c1 ?c2 ?c3 kF ?k1 ?k2 ?k3 ?k4 ?k5 ?_; (case c1 => kernel_rfl); (case c2 => kernel_rfl); (case c3 => kernel_rfl); (case k1 => k_asm); (case k2 => k_asm); (case k3 => k_is); (case k4 => boot_by_name); (case k5 => decide); k_whole)))
  (k_with "eval Name" => (k_here; (with_reducible show wpAny _ _ (eval (Expr.Name _ _) (envOf _ _ _ _ _)) _ _ _); name_kind "globalImplicit"; (with_reducible rename Fr _ _ _ _ => kF); k_dflt (refine' Mine.nameK ?c1 ?c2 ?c3 kF ?k1 ?k2 ?k3 ?_; (case c1 => kernel_rfl); (case c2 => kernel_rfl); (case c3 => kernel_rfl); (case k1 => k_asm); (case k2 => k_asm); (case k3 => k_is); k_whole)))
  (k_with "eval Name" => (k_here; (with_reducible show wpAny _ _ (eval (Expr.Name _ _) (envOf _ _ _ _ _)) _ _ _); name_kind "local"; k_dflt (refine' Mine.nameL ?c1 ?c2 ?c3 ?k1 ?k2 ?_; (case c1 => kernel_rfl); (case c2 => kernel_rfl); (case c3 => kernel_rfl); (case k1 => k_asm); (case k2 => first | exact rfl | assumption); k_whole)))
  (k_with "ct om" => ((repeat ((with_reducible rename (@LT.lt Nat _ _ _) => hx9); clear hx9)); (repeat ((with_reducible rename (@Ne Nat _ _) => hx9); clear hx9)); omega))
  (k_with "ct int" => (
  (try dsimp only)
  refine' Mine.ends_int ?e1 ?e2 ?_
  case e1 => k_asm
  case e2 => k_asm))
  (k_with "ct with" => (
  (case k1 => k_asm)
  (case k2 => k_asm)
  (case k3 => k_in)
  (case k4 => k_asm)
  (case k5 => k_asm)
  (case kK => first | exact rfl | assumption)
  (case kf => first | exact fun _ h => (nomatch h) | walk_at "ct facts")
  (case kd => ktr_room)
  (case ku => ktr_units)))
  (k_with "ct mul" => first | omega | (split <;> omega) | (simp only [] at *; omega) | (constructor <;> omega))
  (k_with "binaryOp Mult int int" => ((first
  | (refine mul_int ?_ (PySem.IntMulOk.of_right (PySem.intBits_le_64 (by walk_at "ct mul") (by walk_at "ct mul"))))
  | (refine mul_int ?_ (PySem.IntMulOk.of_left (PySem.intBits_le_64 (by walk_at "ct mul") (by walk_at "ct mul"))))); (try dsimp only)))
  (k_with "binaryOp FloorDiv int int" => ((with_reducible refine Mine.fdivQ (by first | omega | (simp only [] at *; omega)) (by first | omega | (simp only [] at *; omega)) ?_); (try dsimp only)))
  (k_with "binaryOp Mod int int" => ((with_reducible refine Mine.fmodQ (by first | omega | (simp only [] at *; omega)) ?_); (try dsimp only)))
  (k_with "call builtin:issubclass" => (k_here; k_dflt ((refine' Mine.issub_hdr ?F ?X ?c ?m ?_; (case F => k_asm); (case X => k_asm); (case c => first | assumption | k_is); (case m => first | assumption | k_is)))))
  (k_with "call builtin:tuple.__getitem__" => (k_here; k_dflt ((refine' Mine.call_tupitem ?F ?X ?x ?dd ?m ?l ?h ?k ?y ?_; (case F => k_asm); (case X => k_asm); (case x => assumption); (case dd => assumption); (case m => first | assumption | k_is); (case l => first | assumption | decide); (case h => first | assumption | decide); (case k => first | assumption | rfl); (case y => first | assumption | rfl)))))
  (k_with "getMethod" => (k_here; (with_reducible show wpAny _ _ (getMethod (Value.type _) _ _) _ _ _); k_dflt ((refine' method_type ?F ?X ?t ?s ?e ?h ?_; (case F => k_asm); (case X => k_asm); (case t => first | rfl | kernel_rfl); (case s => decide +kernel); (case e => k_is); (case h => k_handed)))))
  (k_with "call builtin:tuple.__new__" => (k_here; k_dflt ((refine' Mine.call_tupnew ?F ?N ?X ?Y ?c ?m ?i ?t ?z ?_; (case F => k_asm); (case N => k_asm); (case X => k_asm); (case Y => assumption); (case c => k_is); (case m => k_is); (case i => k_is); (case t => k_mem); (case z => simp)); intro x' d' h' F' N' l1 l2; (try k_lt l1); (try k_lt2 l2); (try k_sweep))))
  (k_with "getAttr ref" => (
  k_here
  k_dflt (
  (refine' Mine.hdr_miss ?k2 ?k3 ?k4 ?gx ?gg ?gk ?gc ?ga ?gm ?hA ?hC ?hn ?hl ?hz ?cp ?_)
  (case k2 => k_asm)
  (case k3 => k_in)
  (case k4 => k_asm)
  (case gx => first | exact ⟨Or.inr (by assumption), Or.inr (by assumption)⟩ | exact ⟨Or.inl (by k_mem), Or.inl (by k_mem)⟩)
  (case gg => k_is)
  (case gk => k_is)
  (case gc => k_is)
  (case ga => k_is)
  (case gm => k_is)
  (case hA => exact rfl)
  (case hC => k_is)
  (case hn => decide +kernel)
  (case hl => decide +kernel)
  (case hz => decide +kernel)
  (case cp => decide +kernel)
  intro h9 tk9 e9 NX9)))
  (k_with "getAttr ref" => (
  k_here
  k_dflt (
  (refine' Mine.hdr_attr ?k1 ?k2 ?k3 ?k4 ?k5 ?kK ?gx ?gg ?gg2 ?gc ?gm ?ga ?gs ?gt ?gp ?gd ?gl ?gh ?gi ?gv ?go ?kd ?ku ?_)
  (case k1 => k_asm)
  (case k2 => k_asm)
  (case k3 => k_in)
  (case k4 => k_asm)
  (case k5 => k_asm)
  (case kK => first | exact rfl | assumption)
  (case gx => first | exact ⟨Or.inr (by assumption), Or.inr (by assumption)⟩ | exact ⟨Or.inl (by k_mem), Or.inl (by k_mem)⟩)
  (case gg => k_is)
  (case gg2 => k_is)
  (case gc => k_is)
  (case gm => k_is)
  (case ga => k_is)
  (case gs => k_is)
  (case gt => k_is)
  (case gp => k_is)
  (case gd => k_is)
  (case gl => decide)
  (case gh => decide)
  (case gi => rfl)
  (case gv => rfl)
  (case go => rfl)
  (case kd => ktr_room)
  (case ku => ktr_units)
  intro h9 tk9 F9 N9
  (try k_sweep))))
  (k_with "ct intx" => (
  (try dsimp only)
  (show Mine.EndsX _ _ _ _ _ _)
  refine' Mine.endsX_int ?e0 ?e1 ?e2 ?e3
  case e0 => first | assumption | exact KtsTurn.refl
  case e1 => k_asm
  case e2 => k_asm))
  (k_with "noteFrame ref" => (
  k_here
  (rename Heap.NewExcOf _ _ _ _ => nxX)
  k_dflt (
  (refine' Mine.own_N0 (T' := "AttributeError") ?hx ?F ?N ?K ?XB ?TB ?D ?T0 ?ex PyProof.Rows.Boot.«AttributeError» ?hn Mine.exc_attr Mine.notTuple_attr Mine.sub_attr ?_; (case hx => exact nxX); (case F => k_asm); (case N => k_asm); (case K => assumption); (case XB => assumption); (case TB => assumption); (case D => assumption); (case T0 => first | assumption | exact KtsTurn.refl); (case ex => k_is); (case hn => decide); k_whole)
  intro h' g' T' F' N' K' X' P' D'; (try k_lift K'); (try k_sweep))))
  (k_with "And" => (
  (with_reducible show PySem.Str.length _ ≤ sizeLine ∧ _)
  (with_reducible refine' Mine.fits_z ?fa ?fb ?_)
  (case fa => repeat' (first | (with_reducible refine' Mine.fits_add' ?_ ?_) | ((show _ ≤ 1000); (first | assumption | decide +kernel | (with_reducible exact Mine.len_int' (by omega) (by omega))))))
  (case fb => decide +kernel)))
  (k_with "joinParts" => (
  (with_reducible show wpAny _ _ (joinParts _ (evalEach [] _)) _ _ _)
  (with_reducible refine' Mine.joinNil ?fa ?fb ?_)
  (case fa => repeat' (first | (with_reducible refine' Mine.fits_add' ?_ ?_) | ((show _ ≤ 1000); (first | assumption | decide +kernel | (with_reducible exact Mine.len_int' (by omega) (by omega))))))
  (case fb => decide +kernel)))
  (k_with "ct steps" => repeat' (first | (k_unfold; (try dsimp only)) | walk1 | (dsimp only; walk1) | (leave1; walk_say "STEP leave1"; try dsimp only) | (refine Mine.Gen.to (by with_reducible assumption) _ _ ?_; try dsimp only) | fail "no step"))
  (k_with "ct raised" => first
  | exact ⟨_, _, _, rfl, rfl, by assumption, by assumption⟩
  | exact ⟨_, _, _, rfl, rfl, RaisedS.toSN (by assumption), by assumption⟩)
  (k_with "ct ne" => repeat ((with_reducible rename (@Ne Nat _ _ ∧ _) => hx9); obtain ⟨hy9, hz9⟩ := hx9))
  (k_with "call ref" => (
  (with_reducible show wpAny _ _ (call (Value.ref 399) _) _ _ _)
  k_dflt (
  (refine' Mine.use_pick ?k1 ?k2 ?k3 ?k4 ?k5 ?kK ?pD ?pU ?pR ?pN ?pI ?pl ?p0 ?p1 ?p2 ?kd ?ku ?_)
  (case k1 => k_asm)
  (case k2 => k_asm)
  (case k3 => k_in)
  (case k4 => k_asm)
  (case k5 => k_asm)
  (case pU => k_updF)
  (case pD => assumption)
  (case kK => first | exact rfl | assumption)
  (case kd => ktr_room)
  (case ku => ktr_units)
  (case pR => first | exact Or.inr (by assumption) | exact Or.inl (by k_mem))
  (case pN => first | assumption | k_ne)
  (case pI => assumption)
  (case pl => first | assumption | walk_at "ct om")
  (case p0 => walk_at "ct om")
  (case p1 => walk_at "ct om")
  (case p2 => first | decide | walk_at "ct om")
  intro oD9 v9 t9 h9 tk9 hD9 v90 v91 F9 N9
  (try dsimp only at N9)
  (try k_sweep))))
  (k_with "ct gx" => first | exact ⟨Or.inr (by assumption), Or.inr (by assumption)⟩ | exact ⟨Or.inl (by k_mem), Or.inl (by k_mem)⟩ | exact ⟨Or.inl (by assumption), Or.inl (by assumption)⟩)
  (k_with "ct with4" => (
  (case k1 => k_asm)
  (case k2 => k_asm)
  (case k3 => k_in)
  (case k4 => k_asm)
  (case k5 => k_asm)
  (case kK => first | exact rfl | assumption)
  (case kd => ktr_room)
  (case ku => ktr_units)))
  (k_with "call ref" => (
  (with_reducible show wpAny _ _ (call (Value.ref 172) _) _ _ _)
  k_dflt (
  (refine' Mine.mk172 ?k1 ?k2 ?k3 ?k4 ?k5 ?kK ?kd ?ku ?_)
  (case k1 => k_asm)
  (case k2 => k_asm)
  (case k3 => k_in)
  (case k4 => k_asm)
  (case k5 => k_asm)
  (case kK => first | exact rfl | assumption)
  (case kd => ktr_room)
  (case ku => ktr_units)
  intro x9 d9 h9 tk9 F9 N9 nx9 nd9 ld9
  replace nx9 := Mine.allNe_of nx9
  replace nd9 := Mine.allNe_of nd9
  (try simp only [Mine.AllNe, and_true] at nx9 nd9)
  walk_at "ct ne"
  (try k_sweep))))
  (k_with "call ref" => (
  (with_reducible show wpAny _ _ (call (Value.ref 481) _) _ _ _)
  k_dflt (
  (refine' Mine.use_bool (Mine.t_numsB _ _ _ _ ?p0 ?p1) ?k1 ?k2 ?k3 ?k4 ?k5 ?kK ?kf ?kd ?ku ?_)
  (case k1 => k_asm)
  (case k2 => k_asm)
  (case k3 => k_in)
  (case k4 => k_asm)
  (case k5 => k_asm)
  (case kK => first | exact rfl | assumption)
  (case kf => refine' Mine.fact_one ?gx; (case gx => first | exact Or.inl (by k_mem) | exact Or.inr (by assumption)))
  (case kd => ktr_room)
  (case ku => ktr_units)
  (case p0 => first | exact rfl | exact Mine.isInts_of (by assumption))
  (case p1 => first | exact Nat.lt_of_le_of_lt (Nat.le_refl _) (by decide) | (simp; done) | exact Mine.ints_len (by assumption))
  intro h9 tk9 F9 N9
  (try k_sweep))))
  (k_with "call ref" => ((with_reducible show wpAny _ _ (call (Value.ref 476) _) _ _ _); k_dflt ((refine' Mine.use_int (Mine.t_excess _ _ _ _ _ _ _) ?k1 ?k2 ?k3 ?k4 ?k5 ?kK ?kf ?kd ?ku ?_); walk_at "ct with"; intro t9 h9 tk9 F9 N9; (try k_sweep))))
  (k_with "call ref" => ((with_reducible show wpAny _ _ (call (Value.ref 455) _) _ _ _); k_dflt ((refine' Mine.use_int (Mine.t_fee _ _ _ _ _ _ _ ?p0 ?p1 ?p2 ?p3) ?k1 ?k2 ?k3 ?k4 ?k5 ?kK ?kf ?kd ?ku ?_); walk_at "ct with"; (case p0 => with_reducible assumption); (case p1 => first | with_reducible assumption | walk_at "ct om"); (case p2 => with_reducible assumption); (case p3 => with_reducible assumption); intro t9 h9 tk9 F9 N9; (try k_sweep))))
  (k_with "call ref" => ((with_reducible show wpAny _ _ (call (Value.ref 462) _) _ _ _); k_dflt ((refine' Mine.use_int (Mine.t_limit _ _ _ _ _ _ _) ?k1 ?k2 ?k3 ?k4 ?k5 ?kK ?kf ?kd ?ku ?_); walk_at "ct with"; intro t9 h9 tk9 F9 N9; (try k_sweep))))
  (k_with "ct with0" => (
  walk_at "ct with4"
  (case kXB => assumption)
  (case kTB => assumption)))
  (k_with "call ref" => (
  (with_reducible show wpAny _ _ (call (Value.ref 392) _) _ _ _)
  k_dflt (
  (refine' Mine.use_read ?k1 ?k2 ?k3 ?k4 ?k5 ?kK ?pL ?pI ?pl ?kd ?ku ?_)
  walk_at "ct with4"
  (case pL => assumption)
  (case pI => assumption)
  (case pl => first | assumption | walk_at "ct om")
  intro D9 R9 oD9 us9 ms9 nn9 h9 tk9 hI9 hl9 hne9 hD9 F9 N9 neD9 neR9
  (try simp only [Mine.AllNe, and_true] at neD9 neR9)
  (try k_sweep))))
  (k_with "call ref" => (
  (with_reducible show wpAny _ _ (call (Value.ref 406) _) _ _ _)
  k_dflt (
  (refine' Mine.use_great ?k1 ?k2 ?k3 ?k4 ?k5 ?kK ?pD ?pU ?pR ?pN ?pI ?pl ?p0 ?p1 ?p2 ?kd ?ku ?_)
  walk_at "ct with4"
  (case pU => k_updF)
  (case pD => assumption)
  (case pR => k_mem)
  (case pN => first | assumption | k_ne)
  (case pI => assumption)
  (case pl => first | assumption | walk_at "ct om")
  (case p0 => walk_at "ct om")
  (case p1 => walk_at "ct om")
  (case p2 => walk_at "ct om")
  intro oD9 v9 t9 h9 tk9 hD9 v90 v91 F9 N9
  (try dsimp only at N9)
  (try k_sweep))))
  (k_with "call ref" => (
  (with_reducible show wpAny _ _ (call (Value.ref 493) _) _ _ _)
  k_dflt (
  (refine' Mine.use_lim ?k1 ?k2 ?k3 ?k4 ?k5 ?kXB ?kTB ?kK ?pD ?pU ?pR ?pN ?pI ?pl ?p0 ?p1 ?q0 ?q1 ?q2 ?q3 ?kd ?ku ?_)
  walk_at "ct with0"
  (case pU => k_updF)
  (case pD => assumption)
  (case pR => k_mem)
  (case pN => first | assumption | k_ne)
  (case pI => assumption)
  (case pl => first | with_reducible assumption | walk_at "ct om")
  (case p0 => walk_at "ct om")
  (case p1 => walk_at "ct om")
  (case q0 => first | with_reducible assumption | walk_at "ct om")
  (case q1 => first | with_reducible assumption | walk_at "ct om")
  (case q2 => first | with_reducible assumption | walk_at "ct om")
  (case q3 => first | with_reducible assumption | walk_at "ct om")
  intro oD9 h9 tk9 hD9 F9 N9
  (try dsimp only at N9)
  (try k_sweep))))
  (k_with "call ref" => (
  (with_reducible show wpAny _ _ (call (Value.ref 486) _) _ _ _)
  k_dflt (
  (refine' Mine.use_b0 (Mine.t_fees _ _ _ _ _ _ _ _ ?q0 ?q1 ?q2 ?q3 ?q4) ?k1 ?k2 ?k3 ?k4 ?k5 ?kXB ?kTB ?kK ?kd ?ku ?_)
  walk_at "ct with0"
  (case q0 => first | with_reducible assumption | walk_at "ct om")
  (case q1 => first | with_reducible assumption | walk_at "ct om")
  (case q2 => first | with_reducible assumption | walk_at "ct om")
  (case q3 => first | with_reducible assumption | walk_at "ct om")
  (case q4 => first | with_reducible assumption | walk_at "ct om")
  intro h9 tk9 F9 N9
  (try k_sweep))))
  (k_with "call ref" => (
  (with_reducible show wpAny _ _ (call (Value.ref 500) _) _ _ _)
  k_dflt (
  (refine' Mine.use_b0 (Mine.t_blobs _ _ _ _ _ _ ?q0 ?q1) ?k1 ?k2 ?k3 ?k4 ?k5 ?kXB ?kTB ?kK ?kd ?ku ?_)
  walk_at "ct with0"
  (case q0 => first | with_reducible assumption | walk_at "ct om")
  (case q1 => first | with_reducible assumption | walk_at "ct om")
  intro h9 tk9 F9 N9
  (try k_sweep))))
  (k_with "call ref" => (
  (with_reducible show wpAny _ _ (call (Value.ref 441) _) _ _ _)
  k_dflt (
  (refine' Mine.use_ints (Mine.t_diff _ _ _ _ _ _ _ _ ?q0 ?q1 ?q2 ?q3) ?k1 ?k2 ?k3 ?k4 ?k5 ?kK ?kf ?kd ?ku ?_)
  walk_at "ct with4"
  (case kf => exact fun _ h => (nomatch h))
  (case q0 => walk_at "ct om")
  (case q1 => walk_at "ct om")
  (case q2 => walk_at "ct om")
  (case q3 => walk_at "ct om")
  intro l9 ws9 n9 h9 tk9 hI9 F9 N9 ne9
  (try simp only [Mine.AllNe, and_true] at ne9)
  walk_at "ct ne"
  (try k_sweep))))
  (k_with "call type:bytes" => (
  (with_reducible show wpAny _ _ (call (Value.type "bytes") [Value.ref _]) _ _ _)
  k_dflt (
  (refine' Mine.bytes9 ?F ?N ?h ?l ?_)
  (case F => k_asm)
  (case N => k_asm)
  (case h => exact rfl)
  (case l => exact News.isList (by k_asm) (by k_mem))
  intro h' t' k' F' N'
  replace N' := Mine.news_tl (Mine.news_tl N'))))
  (k_with "subscriptTail" => (
  (with_reducible show wpAny _ _ (subscriptTail _ _ (Value.ref _) (Value.int (if _ then 1 else 0) _)) _ _ _)
  k_dflt (
  (try (refine kba_turn (value' := PySem.Expr.Name (PySem.Str.ofString "_") ⟨0, 0, 0, 0⟩) (fun _ => rfl) ?_))
  (refine' Mine.ub_tail ?l ?k ?_)
  (case l => exact News.isList (by k_asm) (by k_mem))
  (case k => exact rfl)
  (rename News _ _ _ _ => nZ9)
  replace nZ9 := Mine.news_tl nZ9)))
  (k_with "subscriptTail" => (
  k_dflt (
  ((try (refine kba_turn (value' := PySem.Expr.Name (PySem.Str.ofString "_") ⟨0, 0, 0, 0⟩) (fun _ => rfl) ?_)); (refine' Mine.went_tail ?l ?k0 ?k1 ?a1 ?b1 ?a2 ?b2 ?a3 ?b3 ?a4 ?b4 ?_); (case l => exact News.isList (by k_asm) (by k_mem)))
  (case k0 => assumption)
  (case k1 => assumption)
  (case a1 => assumption)
  (case b1 => assumption)
  (case a2 => assumption)
  (case b2 => assumption)
  (case a3 => assumption)
  (case b3 => assumption)
  (case a4 => assumption)
  (case b4 => assumption)
  intro v9 t9 v90 v91
  (rename News _ _ _ _ => nZ9)
  replace nZ9 := Mine.news_tl nZ9)))
  (k_with "subscriptTail" => (
  k_dflt (
  ((try (refine kba_turn (value' := PySem.Expr.Name (PySem.Str.ofString "_") ⟨0, 0, 0, 0⟩) (fun _ => rfl) ?_)); (refine' Mine.used_tail ?l ?k0 ?k1 ?a1 ?a2 ?b2 ?_); (case l => exact News.isList (by k_asm) (by k_mem)))
  (case k0 => assumption)
  (case k1 => assumption)
  (case a1 => assumption)
  (case a2 => assumption)
  (case b2 => assumption)
  intro v9 t9 v90 v91
  (rename News _ _ _ _ => nZ9)
  replace nZ9 := Mine.news_tl nZ9)))
  (k_with "call ref" => (
  (with_reducible show wpAny _ _ (call (Value.ref 448) _) _ _ _)
  k_dflt (
  (refine' Mine.use_told ?k1 ?k2 ?k3 ?k4 ?k5 ?kXB ?kTB ?kK ?pX ?pD ?q0 ?q1 ?q2 ?q3 ?q4 ?q5 ?q6 ?kd ?ku ?_ ?_)
  walk_at "ct with0"
  (case pX => k_mem)
  (case pD => k_mem)
  (case q0 => walk_at "ct om")
  (case q1 => walk_at "ct om")
  (case q2 => walk_at "ct om")
  (case q3 => walk_at "ct om")
  (case q4 => walk_at "ct om")
  (case q5 => walk_at "ct om")
  (case q6 => walk_at "ct om")
  intro pos9 l9 ws9 n9 h9 tk9 hI9 F9 N9 ne9
  (try simp only [Mine.AllNe, and_true] at ne9)
  walk_at "ct ne"
  replace N9 := Mine.news_2nd (Mine.news_2nd N9)
  (try k_sweep)
  rotate_left
  intro neg9 l9 u91 u92 u93 u94 u95 u96 n9 h9 tk9 F9 N9 ne9
  (try simp only [Mine.AllNe, and_true] at ne9)
  walk_at "ct ne"
  replace N9 := Mine.news_2nd (Mine.news_2nd N9)
  (try k_sweep)
  rotate_right)))
  (k_with "binaryOp Mult ref int" => (
  (with_reducible show wpAny _ _ (binaryOp Operator.Mult (Value.ref _) (Value.int 6 _)) _ _ _)
  k_dflt (
  (refine' Mine.mulR ?F ?N ?l ?_)
  (case F => k_asm)
  (case N => k_asm)
  (case l => exact News.isList (by k_asm) (by k_mem))
  intro D' h' F' N' l1
  (try k_lt l1)
  replace N' := Mine.news_2nd (Mine.news_2nd N'))))
  (k_with "call ref" => (
  (with_reducible show wpAny _ _ (call (Value.ref 481) _) _ _ _)
  k_dflt (
  (refine' Mine.use_bool (Mine.t_nums _ _ _ _ _ ?p0 ?p1) ?k1 ?k2 ?k3 ?k4 ?k5 ?kK ?kf ?kd ?ku ?_)
  (case k1 => k_asm)
  (case k2 => k_asm)
  (case k3 => k_in)
  (case k4 => k_asm)
  (case k5 => k_asm)
  (case kK => first | exact rfl | assumption)
  (case kf => refine' Mine.fact_one ?gx; (case gx => first | exact Or.inl (by k_mem) | exact Or.inr (by assumption)))
  (case kd => ktr_room)
  (case ku => ktr_units)
  (case p0 => assumption)
  (case p1 => exact Nat.lt_of_le_of_lt (Nat.le_refl 6) (by decide))
  intro h9 tk9 F9 N9
  (try k_sweep))))
  (k_with "call ref" => (
  (with_reducible show wpAny _ _ (call (Value.ref 481) _) _ _ _)
  k_dflt (
  (refine' Mine.use_bool (Mine.t_numsR _ _ [_, _, _, _, _, _] _ ?p0 ?p1) ?k1 ?k2 ?k3 ?k4 ?k5 ?kK ?kf ?kd ?ku ?_)
  (case k1 => k_asm)
  (case k2 => k_asm)
  (case k3 => k_in)
  (case k4 => k_asm)
  (case k5 => k_asm)
  (case kK => first | exact rfl | assumption)
  (case kf => refine' Mine.fact_one ?gx; (case gx => first | exact Or.inl (by k_mem) | exact Or.inr (by assumption)))
  (case kd => ktr_room)
  (case ku => ktr_units)
  (case p0 => simp [Mine.refS])
  (case p1 => exact Nat.lt_of_le_of_lt (Nat.le_refl 6) (by decide))
  intro h9 tk9 F9 N9
  (try k_sweep))))
  (k_with "subscriptTail" => (
  k_dflt (
  ((try (refine kba_turn (value' := PySem.Expr.Name (PySem.Str.ofString "_") ⟨0, 0, 0, 0⟩) (fun _ => rfl) ?_)); (refine' Mine.exc_tail ?l ?k0 ?k1 ?a1 ?_); (case l => exact News.isList (by k_asm) (by k_mem)); (case a1 => decide))
  (case k0 => assumption)
  (case k1 => assumption)
  intro v9 t9 v90 v91
  (rename News _ _ _ _ => nZ9)
  replace nZ9 := Mine.news_tl nZ9)))
  (k_with "subscriptTail" => (
  k_dflt (
  ((try (refine kba_turn (value' := PySem.Expr.Name (PySem.Str.ofString "_") ⟨0, 0, 0, 0⟩) (fun _ => rfl) ?_)); (refine' Mine.due_tail ?l ?e ?k0 ?k1 ?h0 ?_); (case l => exact News.isList (by k_asm) (by k_mem)); (case e => assumption))
  (case k0 => assumption)
  (case k1 => assumption)
  (case h0 => assumption)
  intro v9 t9 v90)))
  (k_with "ct lt" => repeat ((with_reducible rename (@LT.lt Nat _ _ _ ∧ _) => hx9); obtain ⟨hy9, hz9⟩ := hx9))
  (k_with "ct turn end" => (
  (rename News _ _ _ _ => nE9)
  (rename Mine.DObj _ _ _ _ => hD9)
  (refine' Mine.law_end (by assumption) nE9 hD9 (by k_mem) (by k_mem) ?ho rfl rfl rfl rfl rfl rfl ?hr ?hp)
  (case ho => (intro p9 hp9; (repeat (first | exact hp9 | refine List.mem_cons_of_mem _ ?_))))
  (case hr => ((rename Mine.BaseM _ _ => hM9); intro y9 z1 z2 z3 z4 z5 z6 z7 z8 z9 z10 z11 z12 z13 z14; (simp only [if_neg, z1, z2, z3, z4, z5, z6, z7, z8, z9, z10, z11, z12, z13, z14, not_false_eq_true]); first | rfl | exact hM9.eq _ z8 z9 z10 z11 z12 z13 z14))
  (case hp => first
    | (refine' Mine.law_go ?_ ?_ ?q2 ?_ ?_ ?_ ?_ ?_ ?_ ?_ ?_ ?_ ?_ ?_ ?_ ?_ ?_ ?_ ?_ ?_ ?_ ?_; (case q2 => with_reducible assumption); (all_goals (first | with_reducible assumption | walk_at "ct om")))
    | (refine' Mine.law_stay ?_ ?q2 ?_ ?_ ?_ ?_ ?_ ?_ ?_ ?_ ?_ ?_ ?_; (case q2 => with_reducible assumption); (all_goals (first | with_reducible assumption | walk_at "ct om"))))))
  obtain ⟨oD, a, time, weight, place, limit, fee, excess, tt, tw, tp, tl, tf, te⟩ := c
  have kMark := kstMark
  dsimp only at hD hP N F
  (try simp only [List.nil_append, List.cons_append, List.append_nil] at N)
  have hpre : pre.length ≤ 6 := by omega
  unfold LawI at hP
  obtain ⟨a0, a1, time0, time1, weight0, place0, place1, limit0, limit1, fee0, excess0, excess1⟩ := hP
  (try dsimp only at a0 a1 time0 time1 weight0 place0 place1 limit0 limit1 fee0 excess0 excess1)
  refine Mine.fill ?_
  k_fill
  intro _ _
  (conv in (occs := *) Mine.forBody _ => all_goals whnf)
  (conv in (occs := *) Mine.fScope _ => all_goals whnf)
  (try dsimp only)
  k_steps
  all_goals subst hQ0
  all_goals (show InvEndN _ _ _ _ _ _ _)
  all_goals walk_at "ct turn end"
theorem law_turn (w : World) {p : Program} {loose : List Str} {mean : ExcName → Option Value} {mg mb : Str → Option Value} {dp un : Nat} {gd : Option (List Code)} {base : Heap} {L fa : Addr} {cdv : Value} {s : Shared} {l D R : Addr} {oD₀ : Obj} {vs : List Value} {ns : List Int} {nn n : Nat} {vE vF vL vP vW vT : Value} {Q : Flow → Shared → Prop}
    (B' : Below (capA dp un gd) base [] base) (X' : (K w.params).In base) (T' : Top p loose mean mg mb base) (hI : IntsAre vs ns) (hl : ns.length < 2 ^ 40) (hne : R ≠ D)
    (hd : dp + 200 < recursionLimit) (hu : un + 8 * 200 < cLine) (hn : n ≤ 7)
    (c : LS) (pre : List Int) (k : Int) (t : Tok) (u : Str → Option Value) (h : Heap) (tk : Nat) (own : List (Addr × Obj)) (hk : k = 0 + (pre.length : Int)) (hlt : pre.length < n)
    (hoff : OwnOff own ([(D, oD₀), (R, PySem.W.listOf vs.toArray nn)].map (·.1))) (hD : DObj w c.oD R c.a) (hP : LawI pre.length c)
    (F : Fr base L h (fun y => if y = Str.ofString "turn" then some (.int k t) else kstB (fun z => if [Str.ofString "uncles", Str.ofString "went", Str.ofString "used", Str.ofString "parent", Str.ofString "told", Str.ofString "due", Str.ofString "blobs"].contains z then u z else (fun y => if y = Str.ofString "excess" then some vE else if y = Str.ofString "fee" then some vF else if y = Str.ofString "limit" then some vL else if y = Str.ofString "place" then some vP else if y = Str.ofString "weight" then some vW else if y = Str.ofString "time" then some vT else if y = Str.ofString "d" then some (Value.ref D) else List.lookup y [(Str.ofString "script", Value.ref l)]) z) ((fun c : LS => [(Str.ofString "time", .int c.time c.tt), (Str.ofString "weight", .int c.weight c.tw), (Str.ofString "place", .int c.place c.tp), (Str.ofString "limit", .int c.limit c.tl), (Str.ofString "fee", .int c.fee c.tf), (Str.ofString "excess", .int c.excess c.te)]) c) y))
    (N : News base L h ([(D, c.oD), (R, PySem.W.listOf vs.toArray nn)] ++ own)) :
    wpAny (model pw w) ((capA dp un gd).deeper (envOf (Str.ofString "law") (fScope (stAt 64)) L fa cdv)) (execs (forBody (nth (fBody (stAt 64)) 7)) (envOf (Str.ofString "law") (fScope (stAt 64)) L fa cdv))
      (InvPostN base L (KstS (fun c : LS => [(D, c.oD), (R, PySem.W.listOf vs.toArray nn)]) (fun c : LS => [(Str.ofString "time", .int c.time c.tt), (Str.ofString "weight", .int c.weight c.tw), (Str.ofString "place", .int c.place c.tp), (Str.ofString "limit", .int c.limit c.tl), (Str.ofString "fee", .int c.fee c.tf), (Str.ofString "excess", .int c.excess c.te)]) (fun c => DObj w c.oD R c.a) (Str.ofString "turn") [Str.ofString "uncles", Str.ofString "went", Str.ofString "used", Str.ofString "parent", Str.ofString "told", Str.ofString "due", Str.ofString "blobs"] (fun y => if y = Str.ofString "excess" then some vE else if y = Str.ofString "fee" then some vF else if y = Str.ofString "limit" then some vL else if y = Str.ofString "place" then some vP else if y = Str.ofString "weight" then some vW else if y = Str.ofString "time" then some vT else if y = Str.ofString "d" then some (Value.ref D) else List.lookup y [(Str.ofString "script", Value.ref l)]) (fun pre c => LawI pre.length c) (pre ++ [k])) own ([(D, oD₀), (R, PySem.W.listOf vs.toArray nn)].map (·.1)) { s with heap := h, toks := tk } Q) (fun _ _ => False) { s with heap := h, toks := tk } := by
  obtain ⟨oD, a, time, weight, place, limit, fee, excess, tt, tw, tp, tl, tf, te⟩ := c
  dsimp only [kstB] at F
  refine law_turn0 w B' X' T' hI hl hne hd hu hn _ pre k t h tk own hk hlt hoff hD hP (mB := fun z => if [Str.ofString "uncles", Str.ofString "went", Str.ofString "used", Str.ofString "parent", Str.ofString "told", Str.ofString "due", Str.ofString "blobs"].contains z then u z else (fun y => if y = Str.ofString "excess" then some vE else if y = Str.ofString "fee" then some vF else if y = Str.ofString "limit" then some vL else if y = Str.ofString "place" then some vP else if y = Str.ofString "weight" then some vW else if y = Str.ofString "time" then some vT else if y = Str.ofString "d" then some (Value.ref D) else List.lookup y [(Str.ofString "script", Value.ref l)]) z) (by kernel_rfl) ⟨?_⟩ F N _ rfl
  intro z h1 h2 h3 h4 h5 h6 h7
  simp [h1, h2, h3, h4, h5, h6, h7]
end Mine
namespace Mine
set_option maxHeartbeats 16000000 in
theorem law_walk (w : World) {p : Program} {loose : List Str} {mean : ExcName → Option Value} {mg mb : Str → Option Value} {dp un : Nat} {gd : Option (List Code)} {base : Heap} {L fa : Addr} {cdv : Value} {h₁ : Heap} {s : Shared} {l : Addr} {vs : List Value} {ns : List Int} {tk : Nat} {Q : Flow → Shared → Prop}
    (F' : Fr base L h₁ (fun y => List.lookup y [(Str.ofString "script", Value.ref l)])) (B' : Below (capA dp un gd) base [] base) (X' : (K w.params).In base) (T' : Top p loose mean mg mb base) (hL : base.IsList l vs.toArray) (hI : IntsAre vs ns) (hl : ns.length ≤ 2 ^ 20)
    (hd : dp + 200 < recursionLimit) (hu : un + 8 * 200 < cLine)
    (ret : ∀ h' tk' m' news', Fr base L h' m' → News base L h' news' → Q (.ret (.bool true)) { s with heap := h', toks := tk' }) :
    wpAny (model pw w) ((capA dp un gd).deeper (envOf (Str.ofString "law") (fScope (stAt 64)) L fa cdv)) (execs (fBody (stAt 64)) (envOf (Str.ofString "law") (fScope (stAt 64)) L fa cdv)) Q (fun _ _ => False) { s with heap := h₁, toks := tk } := by
  k_with_none
  (k_with "ite" => first | with_reducible refine Mine.pite_ff ?_ | with_reducible refine Mine.pite_tt ?_ | with_reducible refine Mine.pite_nt ?_ | with_reducible refine Mine.pite_nf ?_ | with_reducible refine Mine.pite_t ?_ | with_reducible refine Mine.pite_f ?_)
  (k_with "execs cons" => first | (k_here; k_gentoks) | ((with_reducible refine Mine.execs_gen ?_); intro Q9 hQ9))
  (k_with "execs cons" => ((with_reducible show wpAny _ _ (execs _ _) (UnrPost _ _ _ _ _ _ _) _ _); (refine Mine.gen_post ?_); intro Q9 hQ9))
  (k_with "execs cons" => ((with_reducible show wpAny _ _ (execs _ _) (UnrPostW _ _ _ _ _ _) _ _); (refine Mine.gen_post ?_); intro Q9 hQ9))
  (k_with "callWith ref" => (k_here; (with_reducible show wpAny _ _ (callWith _ _ _ (backTo _ (starEach [] _)) []) _ _ _); k_dflt (refine' Mine.callWithK0 ?kF ?k1 ?k2 ?_; (case kF => k_asm); (case k1 => k_asm); (case k2 => k_is); k_whole)))
  (k_with "eval Name" => (k_here; (with_reducible show wpAny _ _ (eval (Expr.Name _ _) (envOf _ _ _ _ _)) _ _ _); name_kind "globalImplicit"; name_is_builtin; (with_reducible rename Fr _ _ _ _ => kF); k_dflt (refine' Mine.nameB ?c1 ?c2 ?c3 kF ?k1 ?k2 ?k3 ?k4 ?k5 ?_; (case c1 => kernel_rfl); (case c2 => kernel_rfl); (case c3 => kernel_rfl); (case k1 => k_asm); (case k2 => k_asm); (case k3 => k_is); (case k4 => boot_by_name); (case k5 => decide); k_whole)))
  (k_with "eval Name" => (k_here; (with_reducible show wpAny _ _ (eval (Expr.Name _ _) (envOf _ _ _ _ _)) _ _ _); name_kind "globalImplicit"; (with_reducible rename Fr _ _ _ _ => kF); k_dflt (refine' Mine.nameK ?c1 ?c2 ?c3 kF ?k1 ?k2 ?k3 ?_; (case c1 => kernel_rfl); (case c2 => kernel_rfl); (case c3 => kernel_rfl); (case k1 => k_asm); (case k2 => k_asm); (case k3 => k_is); k_whole)))
  (k_with "eval Name" => (k_here; (with_reducible show wpAny _ _ (eval (Expr.Name _ _) (envOf _ _ _ _ _)) _ _ _); name_kind "local"; k_dflt (refine' Mine.nameL ?c1 ?c2 ?c3 ?k1 ?k2 ?_; (case c1 => kernel_rfl); (case c2 => kernel_rfl); (case c3 => kernel_rfl); (case k1 => k_asm); (case k2 => exact rfl); k_whole)))
  (k_with "ct int" => (
  (try dsimp only)
  refine' Mine.ends_int ?e1 ?e2 ?_
  case e1 => k_asm
  case e2 => k_asm))
  (k_with "ct with" => (
  (case k1 => k_asm)
  (case k2 => k_asm)
  (case k3 => k_in)
  (case k4 => k_asm)
  (case k5 => k_asm)
  (case kK => first | exact rfl | assumption)
  (case kf => first | exact fun _ h => (nomatch h) | walk_at "ct facts")
  (case kd => ktr_room)
  (case ku => ktr_units)))
  (k_with "ct mul" => first | omega | (split <;> omega) | (simp only [] at *; omega) | (constructor <;> omega))
  (k_with "binaryOp Mult int int" => ((first
  | (refine mul_int ?_ (PySem.IntMulOk.of_right (PySem.intBits_le_64 (by walk_at "ct mul") (by walk_at "ct mul"))))
  | (refine mul_int ?_ (PySem.IntMulOk.of_left (PySem.intBits_le_64 (by walk_at "ct mul") (by walk_at "ct mul"))))); (try dsimp only)))
  (k_with "binaryOp FloorDiv int int" => ((with_reducible refine Mine.fdivQ (by first | omega | (simp only [] at *; omega)) (by first | omega | (simp only [] at *; omega)) ?_); (try dsimp only)))
  (k_with "binaryOp Mod int int" => ((with_reducible refine Mine.fmodQ (by first | omega | (simp only [] at *; omega)) ?_); (try dsimp only)))
  (k_with "call builtin:issubclass" => (k_here; k_dflt ((refine' Mine.issub_hdr ?F ?X ?c ?m ?_; (case F => k_asm); (case X => k_asm); (case c => first | assumption | k_is); (case m => first | assumption | k_is)))))
  (k_with "call builtin:tuple.__getitem__" => (k_here; k_dflt ((refine' Mine.call_tupitem ?F ?X ?x ?dd ?m ?l ?h ?k ?y ?_; (case F => k_asm); (case X => k_asm); (case x => assumption); (case dd => assumption); (case m => first | assumption | k_is); (case l => first | assumption | decide); (case h => first | assumption | decide); (case k => first | assumption | rfl); (case y => first | assumption | rfl)))))
  (k_with "getMethod" => (k_here; (with_reducible show wpAny _ _ (getMethod (Value.type _) _ _) _ _ _); k_dflt ((refine' method_type ?F ?X ?t ?s ?e ?h ?_; (case F => k_asm); (case X => k_asm); (case t => first | rfl | kernel_rfl); (case s => decide +kernel); (case e => k_is); (case h => k_handed)))))
  (k_with "call builtin:tuple.__new__" => (k_here; k_dflt ((refine' Mine.call_tupnew ?F ?N ?X ?Y ?c ?m ?i ?t ?z ?_; (case F => k_asm); (case N => k_asm); (case X => k_asm); (case Y => assumption); (case c => k_is); (case m => k_is); (case i => k_is); (case t => k_mem); (case z => simp)); intro x' d' h' F' N' l1 l2; (try k_lt l1); (try k_lt2 l2); (try k_sweep))))
  (k_with "getAttr ref" => (
  k_here
  k_dflt (
  (refine' Mine.hdr_miss ?k2 ?k3 ?k4 ?gx ?gg ?gk ?gc ?ga ?gm ?hA ?hC ?hn ?hl ?hz ?cp ?_)
  (case k2 => k_asm)
  (case k3 => k_in)
  (case k4 => k_asm)
  (case gx => first | exact ⟨Or.inr (by assumption), Or.inr (by assumption)⟩ | exact ⟨Or.inl (by k_mem), Or.inl (by k_mem)⟩)
  (case gg => k_is)
  (case gk => k_is)
  (case gc => k_is)
  (case ga => k_is)
  (case gm => k_is)
  (case hA => exact rfl)
  (case hC => k_is)
  (case hn => decide +kernel)
  (case hl => decide +kernel)
  (case hz => decide +kernel)
  (case cp => decide +kernel)
  intro h9 tk9 e9 NX9)))
  (k_with "getAttr ref" => (
  k_here
  k_dflt (
  (refine' Mine.hdr_attr ?k1 ?k2 ?k3 ?k4 ?k5 ?kK ?gx ?gg ?gg2 ?gc ?gm ?ga ?gs ?gt ?gp ?gd ?gl ?gh ?gi ?gv ?go ?kd ?ku ?_)
  (case k1 => k_asm)
  (case k2 => k_asm)
  (case k3 => k_in)
  (case k4 => k_asm)
  (case k5 => k_asm)
  (case kK => first | exact rfl | assumption)
  (case gx => first | exact ⟨Or.inr (by assumption), Or.inr (by assumption)⟩ | exact ⟨Or.inl (by k_mem), Or.inl (by k_mem)⟩)
  (case gg => k_is)
  (case gg2 => k_is)
  (case gc => k_is)
  (case gm => k_is)
  (case ga => k_is)
  (case gs => k_is)
  (case gt => k_is)
  (case gp => k_is)
  (case gd => k_is)
  (case gl => decide)
  (case gh => decide)
  (case gi => rfl)
  (case gv => rfl)
  (case go => rfl)
  (case kd => ktr_room)
  (case ku => ktr_units)
  intro h9 tk9 F9 N9
  (try k_sweep))))
  (k_with "ct intx" => (
  (try dsimp only)
  (show Mine.EndsX _ _ _ _ _ _)
  refine' Mine.endsX_int ?e0 ?e1 ?e2 ?e3
  case e0 => first | assumption | exact KtsTurn.refl
  case e1 => k_asm
  case e2 => k_asm))
  (k_with "noteFrame ref" => (
  k_here
  (rename Heap.NewExcOf _ _ _ _ => nxX)
  k_dflt (
  (refine' Mine.own_N0 (T' := "AttributeError") ?hx ?F ?N ?K ?XB ?TB ?D ?T0 ?ex PyProof.Rows.Boot.«AttributeError» ?hn Mine.exc_attr Mine.notTuple_attr Mine.sub_attr ?_; (case hx => exact nxX); (case F => k_asm); (case N => k_asm); (case K => assumption); (case XB => assumption); (case TB => assumption); (case D => assumption); (case T0 => first | assumption | exact KtsTurn.refl); (case ex => k_is); (case hn => decide); k_whole)
  intro h' g' T' F' N' K' X' P' D'; (try k_lift K'); (try k_sweep))))
  (k_with "And" => (
  (with_reducible show PySem.Str.length _ ≤ sizeLine ∧ _)
  (with_reducible refine' Mine.fits_z ?fa ?fb ?_)
  (case fa => repeat' (first | (with_reducible refine' Mine.fits_add' ?_ ?_) | ((show _ ≤ 1000); (first | assumption | decide +kernel | (with_reducible exact Mine.len_int' (by omega) (by omega))))))
  (case fb => decide +kernel)))
  (k_with "joinParts" => (
  (with_reducible show wpAny _ _ (joinParts _ (evalEach [] _)) _ _ _)
  (with_reducible refine' Mine.joinNil ?fa ?fb ?_)
  (case fa => repeat' (first | (with_reducible refine' Mine.fits_add' ?_ ?_) | ((show _ ≤ 1000); (first | assumption | decide +kernel | (with_reducible exact Mine.len_int' (by omega) (by omega))))))
  (case fb => decide +kernel)))
  (k_with "ct steps" => repeat' (first | (k_unfold; (try dsimp only)) | walk1 | (dsimp only; walk1) | (leave1; walk_say "STEP leave1"; try dsimp only) | (refine Mine.Gen.to (by with_reducible assumption) _ _ ?_; try dsimp only) | fail "no step"))
  (k_with "ct raised" => first
  | exact ⟨_, _, _, rfl, rfl, by assumption, by assumption⟩
  | exact ⟨_, _, _, rfl, rfl, RaisedS.toSN (by assumption), by assumption⟩)
  (k_with "ct ne" => repeat ((with_reducible rename (@Ne Nat _ _ ∧ _) => hx9); obtain ⟨hy9, hz9⟩ := hx9))
  (k_with "call ref" => (
  (with_reducible show wpAny _ _ (call (Value.ref 399) _) _ _ _)
  k_dflt (
  (refine' Mine.use_pick ?k1 ?k2 ?k3 ?k4 ?k5 ?kK ?pD ?pU ?pR ?pN ?pI ?pl ?p0 ?p1 ?p2 ?kd ?ku ?_)
  (case k1 => k_asm)
  (case k2 => k_asm)
  (case k3 => k_in)
  (case k4 => k_asm)
  (case k5 => k_asm)
  (case pU => k_updF)
  (case pD => assumption)
  (case kK => first | exact rfl | assumption)
  (case kd => ktr_room)
  (case ku => ktr_units)
  (case pR => first | exact Or.inr (by assumption) | exact Or.inl (by k_mem))
  (case pN => first | assumption | k_ne)
  (case pI => assumption)
  (case pl => first | assumption | omega)
  (case p0 => omega)
  (case p1 => omega)
  (case p2 => first | decide | omega)
  intro oD9 v9 t9 h9 tk9 hD9 v90 v91 F9 N9
  (try dsimp only at N9)
  (try k_sweep))))
  (k_with "ct gx" => first | exact ⟨Or.inr (by assumption), Or.inr (by assumption)⟩ | exact ⟨Or.inl (by k_mem), Or.inl (by k_mem)⟩ | exact ⟨Or.inl (by assumption), Or.inl (by assumption)⟩)
  (k_with "ct with4" => (
  (case k1 => k_asm)
  (case k2 => k_asm)
  (case k3 => k_in)
  (case k4 => k_asm)
  (case k5 => k_asm)
  (case kK => first | exact rfl | assumption)
  (case kd => ktr_room)
  (case ku => ktr_units)))
  (k_with "call ref" => (
  (with_reducible show wpAny _ _ (call (Value.ref 172) _) _ _ _)
  k_dflt (
  (refine' Mine.mk172 ?k1 ?k2 ?k3 ?k4 ?k5 ?kK ?kd ?ku ?_)
  (case k1 => k_asm)
  (case k2 => k_asm)
  (case k3 => k_in)
  (case k4 => k_asm)
  (case k5 => k_asm)
  (case kK => first | exact rfl | assumption)
  (case kd => ktr_room)
  (case ku => ktr_units)
  intro x9 d9 h9 tk9 F9 N9 nx9 nd9 ld9
  replace nx9 := Mine.allNe_of nx9
  replace nd9 := Mine.allNe_of nd9
  (try simp only [Mine.AllNe, and_true] at nx9 nd9)
  walk_at "ct ne"
  (try k_sweep))))
  (k_with "call ref" => (
  (with_reducible show wpAny _ _ (call (Value.ref 481) _) _ _ _)
  k_dflt (
  (refine' Mine.use_bool (Mine.t_numsB _ _ _ _ ?p0 ?p1) ?k1 ?k2 ?k3 ?k4 ?k5 ?kK ?kf ?kd ?ku ?_)
  (case k1 => k_asm)
  (case k2 => k_asm)
  (case k3 => k_in)
  (case k4 => k_asm)
  (case k5 => k_asm)
  (case kK => first | exact rfl | assumption)
  (case kf => refine' Mine.fact_one ?gx; (case gx => first | exact Or.inl (by k_mem) | exact Or.inr (by assumption)))
  (case kd => ktr_room)
  (case ku => ktr_units)
  (case p0 => first | exact rfl | exact Mine.isInts_of (by assumption))
  (case p1 => first | exact Nat.lt_of_le_of_lt (Nat.le_refl _) (by decide) | (simp; done) | exact Mine.ints_len (by assumption))
  intro h9 tk9 F9 N9
  (try k_sweep))))
  (k_with "call ref" => ((with_reducible show wpAny _ _ (call (Value.ref 476) _) _ _ _); k_dflt ((refine' Mine.use_int (Mine.t_excess _ _ _ _ _ _ _) ?k1 ?k2 ?k3 ?k4 ?k5 ?kK ?kf ?kd ?ku ?_); walk_at "ct with"; intro t9 h9 tk9 F9 N9; (try k_sweep))))
  (k_with "call ref" => ((with_reducible show wpAny _ _ (call (Value.ref 455) _) _ _ _); k_dflt ((refine' Mine.use_int (Mine.t_fee _ _ _ _ _ _ _ ?p0 ?p1 ?p2 ?p3) ?k1 ?k2 ?k3 ?k4 ?k5 ?kK ?kf ?kd ?ku ?_); walk_at "ct with"; (case p0 => assumption); (case p1 => assumption); (case p2 => assumption); (case p3 => assumption); intro t9 h9 tk9 F9 N9; (try k_sweep))))
  (k_with "call ref" => ((with_reducible show wpAny _ _ (call (Value.ref 462) _) _ _ _); k_dflt ((refine' Mine.use_int (Mine.t_limit _ _ _ _ _ _ _) ?k1 ?k2 ?k3 ?k4 ?k5 ?kK ?kf ?kd ?ku ?_); walk_at "ct with"; intro t9 h9 tk9 F9 N9; (try k_sweep))))
  (k_with "ct with0" => (
  walk_at "ct with4"
  (case kXB => assumption)
  (case kTB => assumption)))
  (k_with "call ref" => (
  (with_reducible show wpAny _ _ (call (Value.ref 392) _) _ _ _)
  k_dflt (
  (refine' Mine.use_read ?k1 ?k2 ?k3 ?k4 ?k5 ?kK ?pL ?pI ?pl ?kd ?ku ?_)
  walk_at "ct with4"
  (case pL => assumption)
  (case pI => assumption)
  (case pl => first | assumption | omega)
  intro D9 R9 oD9 us9 ms9 nn9 h9 tk9 hI9 hl9 hne9 hD9 F9 N9 neD9 neR9
  (try simp only [Mine.AllNe, and_true] at neD9 neR9)
  (try k_sweep))))
  (k_with "call ref" => (
  (with_reducible show wpAny _ _ (call (Value.ref 406) _) _ _ _)
  k_dflt (
  (refine' Mine.use_great ?k1 ?k2 ?k3 ?k4 ?k5 ?kK ?pD ?pU ?pR ?pN ?pI ?pl ?p0 ?p1 ?p2 ?kd ?ku ?_)
  walk_at "ct with4"
  (case pU => k_updF)
  (case pD => assumption)
  (case pR => exact Or.inl (by k_mem))
  (case pN => first | assumption | k_ne)
  (case pI => assumption)
  (case pl => first | assumption | omega)
  (case p0 => omega)
  (case p1 => omega)
  (case p2 => omega)
  intro oD9 v9 t9 h9 tk9 hD9 v90 v91 F9 N9
  (try dsimp only at N9)
  (try k_sweep))))
  (k_with "call ref" => (
  (with_reducible show wpAny _ _ (call (Value.ref 493) _) _ _ _)
  k_dflt (
  (refine' Mine.use_lim ?k1 ?k2 ?k3 ?k4 ?k5 ?kXB ?kTB ?kK ?pD ?pU ?pR ?pN ?pI ?pl ?p0 ?p1 ?q0 ?q1 ?q2 ?q3 ?kd ?ku ?_)
  walk_at "ct with0"
  (case pU => k_updF)
  (case pD => assumption)
  (case pR => k_mem)
  (case pN => first | assumption | k_ne)
  (case pI => assumption)
  (case pl => first | assumption | omega)
  (case p0 => omega)
  (case p1 => omega)
  (case q0 => first | assumption | omega)
  (case q1 => first | assumption | omega)
  (case q2 => first | assumption | omega)
  (case q3 => first | assumption | omega)
  intro oD9 h9 tk9 hD9 F9 N9
  (try dsimp only at N9)
  (try k_sweep))))
  (k_with "call ref" => (
  (with_reducible show wpAny _ _ (call (Value.ref 486) _) _ _ _)
  k_dflt (
  (refine' Mine.use_b0 (Mine.t_fees _ _ _ _ _ _ _ _ ?q0 ?q1 ?q2 ?q3 ?q4) ?k1 ?k2 ?k3 ?k4 ?k5 ?kXB ?kTB ?kK ?kd ?ku ?_)
  walk_at "ct with0"
  (case q0 => first | assumption | omega)
  (case q1 => first | assumption | omega)
  (case q2 => first | assumption | omega)
  (case q3 => first | assumption | omega)
  (case q4 => first | assumption | omega)
  intro h9 tk9 F9 N9
  (try k_sweep))))
  (k_with "call ref" => (
  (with_reducible show wpAny _ _ (call (Value.ref 500) _) _ _ _)
  k_dflt (
  (refine' Mine.use_b0 (Mine.t_blobs _ _ _ _ _ _ ?q0 ?q1) ?k1 ?k2 ?k3 ?k4 ?k5 ?kXB ?kTB ?kK ?kd ?ku ?_)
  walk_at "ct with0"
  (case q0 => first | assumption | omega)
  (case q1 => first | assumption | omega)
  intro h9 tk9 F9 N9
  (try k_sweep))))
  (k_with "call ref" => (
  (with_reducible show wpAny _ _ (call (Value.ref 441) _) _ _ _)
  k_dflt (
  (refine' Mine.use_ints (Mine.t_diff _ _ _ _ _ _ _ _ ?q0 ?q1 ?q2 ?q3) ?k1 ?k2 ?k3 ?k4 ?k5 ?kK ?kf ?kd ?ku ?_)
  walk_at "ct with4"
  (case kf => exact fun _ h => (nomatch h))
  (case q0 => omega)
  (case q1 => omega)
  (case q2 => omega)
  (case q3 => omega)
  intro l9 ws9 n9 h9 tk9 hI9 F9 N9 ne9
  (try simp only [Mine.AllNe, and_true] at ne9)
  walk_at "ct ne"
  (try k_sweep))))
  refine Mine.fill ?_
  k_fill
  intro _ _
  have N' : News base L h₁ [] := fun _ h => nomatch h
  (conv in (occs := *) Mine.fBody _ => all_goals whnf)
  (conv in (occs := *) Mine.fScope _ => all_goals whnf)
  (try dsimp only)
  (k_with "pyIter ref" => refine stop ?_)
  k_steps
  unfold Stop
  (rename Fr _ _ _ _ => lF')
  (rename News _ _ _ _ => lN')
  (rename IsRange _ _ _ _ _ _ _ _ => rg)
  (rename DObj _ _ _ _ => hDD)
  (rename IntsAre _ _ => hIR)
  replace lN' := news_drop4 lN'
  refine kst_range (σ := LS) (fun c => [(_, c.oD), (_, PySem.W.listOf _ _)]) (fun c => [(Str.ofString "time", .int c.time c.tt), (Str.ofString "weight", .int c.weight c.tw), (Str.ofString "place", .int c.place c.tp), (Str.ofString "limit", .int c.limit c.tl), (Str.ofString "fee", .int c.fee c.tf), (Str.ofString "excess", .int c.excess c.te)]) (fun c => DObj w c.oD _ c.a) [Str.ofString "uncles", Str.ofString "went", Str.ofString "used", Str.ofString "parent", Str.ofString "told", Str.ofString "due", Str.ofString "blobs"]
    (fun pre c => LawI pre.length c) ⟨_, _, _, _, _, _, _, _, _, _, _, _, _, _⟩ rfl rg (by first | exact small_one (by omega) (by omega) (by omega) (by omega)) (by first | exact rangeSize_nat _ _ | rfl) lF' lN' hDD (by kst_all) (law_start (by omega) (by omega) ⟨by assumption, by assumption⟩ ⟨by assumption, by assumption⟩ ⟨by assumption, by assumption⟩ ⟨by assumption, by assumption⟩ ⟨by assumption, by assumption⟩ (by omega)) ?_ ?_
  · intro c pre k t u h tk own hk hlt hoff hD hP F N
    refine law_turn w B' X' T' hIR ?a2 ?a3 hd hu ?a4 c pre k t u h tk own hk hlt hoff hD hP F N
    case a2 => first | assumption | omega
    case a3 => first | assumption | exact Ne.symm (by assumption) | exact Nat.ne_of_lt (by assumption) | exact Nat.ne_of_gt (by assumption)
    case a4 => first | assumption | omega
  · rintro ⟨oD, a, time, weight, place, limit, fee, excess, tt, tw, tp, tl, tf, te⟩ u hx tkx hDx hPx F1 N1
    k_steps
    (try dsimp only)
    exact ret _ _ _ _ F1 N1
set_option maxHeartbeats 8000000 in
theorem main : PySem.Challenge.rw_kw0010_01.Holds := by
  w_on
  refine holds_law Mine.said fun said => ?_
  refine holds_open (q := viewN) (loose := looseN) (Xt := XtN) (XP := XL viewN []) (Yf := hookN.obs) (Ya := hookN.val) (YP := hookN.says) (N := 10548) left hookN.of hookN.keeps (fun s e => xl_of s (Bool.and_eq_true_iff.mp e).1) XL.keeps (by rfl) (by rfl) (by rfl) (fun s e => recFacts_of (Bool.and_eq_true_iff.mp e).2) (by kernel_rfl) (by first | assumption | decide +kernel) (by decide +kernel) ⟨rfl, rfl, rfl, rfl, rfl, by decide +kernel⟩ ?hw ?hc
  case hw => w_witness2
  case hc =>
    k_fill
    intro w s₀ s₁ mg mb G Y fa o pm cd doc dV kV ho hd hcd hD hmg hg args vals as hpre hlay hrd hwl hlo
    have KX := kIn_of Y
    have X := (Ground.X G).1
    have V := (Ground.X G).2
    refine Ground.open G ?_
    intro T B D TE TW
    try (refine guard_noD D (by decide +kernel) ?_; clear D)
    obtain ⟨_, _, M⟩ := bmod_of_top T
    have TA := at_of_top T
    try (obtain ⟨_, _, he, B0⟩ := based_of_top T rfl hmg ho hd; have he' : cd = _ := he; subst he'; clear he)
    clear hmg
    wrow_args hpre hlay hrd hwl hlo
    all_goals (
      first | refine callC_kw (enter_call ?_) | refine enter_call ?_ | refine callC_kw (enter_callW ?_) | refine enter_callW ?_ | w_how
      w_top on
      try refine codeAny_mono ?_ (fun _ _ g => GoodW.toG g)
      have K0 := below_caller (Top.heap T)
      w_call any ho hd hcd hD T F
      clear hd TA
      k_drop)
    all_goals (
      clear ho
      (rename ¬ _ < _ => hcl)
      refine wpAny_mono (law_walk w F K0 KX T (by assumption) (by assumption) (by omega) (by decide) (by decide) ?ret) (fun _ _ h => h) (fun _ _ h => h.elim)
      case ret =>
        intro h' tk' m' news' F' N'
        (try dsimp only)
        refine goodW_bool (s' := { s₁ with heap := h', toks := tk' }) F' hg ?hn ?hp
        case hn => intro cls; rfl
        case hp => wrow_post)
end Mine
set_option maxRecDepth 100000 in
theorem PySem.Challenge.cw_kw0010_01_holds : PySem.Challenge.rw_kw0010_01.Holds := by
  exact Mine.main

