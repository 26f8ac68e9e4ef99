import PyProof.Rows.All
import Wide.All
import OpenK.AllK
import Wide.FinOn
import KE.KSortTup
import KE.KLam
import PyProof.Rows.SetFrom
import PySem.Challenge.RW_to0062_01
set_option Elab.async false
section
-- TnHead
open PySem PySem.W PyProof.Rows
set_option maxRecDepth 100000
set_option linter.unusedVariables false
namespace Tn
noncomputable section
noncomputable abbrev pw : Program := PySem.Challenge.pw_to0062_01
noncomputable def stm (i : Nat) : Stmt := pw.main.body.getD i default
noncomputable def clsStm (i j : Nat) : Stmt := (match stm i with | .ClassDef _ _ _ b _ _ _ _ _ _ _ => b | _ => []).getD j default
noncomputable def stmArgs : Stmt → Arguments
  | .FunctionDef _ a _ _ _ _ _ _ _ _ => a
  | _ => default
noncomputable def stmBody : Stmt → List Stmt
  | .FunctionDef _ _ b _ _ _ _ _ _ _ => b
  | _ => []
noncomputable def stmScope : Stmt → Scope
  | .FunctionDef _ _ _ _ _ _ sc _ _ _ => sc
  | _ => default
noncomputable def o_11 (P : Params) : Obj := ⟨(.type "tuple"), none, (.seq #[] 0), #[]⟩
noncomputable def o_12_a (P : Params) : Obj := ⟨.none, none, (.fields #[]), #[]⟩
noncomputable def o_13 (P : Params) : Obj := ⟨(.type "code"), none, (.fields #[(.str (Str.ofString "<module>") 182), (.str (Str.ofString "<module>") 183), (.str (Str.ofString "/claim/cut.py") 184), (.int 1 0), (.int 0 0), (.int 0 0), (.int 0 0), (.int 0 0), (.ref 11), (.bool false), (.int 181 0), (.ref 12), .none, .none, .none, .none, (.int 185 0), (.int 1 0), (.str (Str.ofString "/claim/cut.py") 186)]), #[]⟩
noncomputable def o_14 (P : Params) : Obj := ⟨(.type "frame"), none, .plain, #[(some (.ref 13)), (some (.ref 3)), (some (.ref 3)), none, (some (.str (Str.ofString "__main__") 164)), none, (some (.ref 0))]⟩
noncomputable def tree_a (P : Params) : BT := (.node (boot_o_0 P) (.node (boot_o_1 P) (.node (boot_o_3 P) (.node (boot_o_7 P) .nil .nil) (.node (o_11 P) .nil .nil)) (.node (boot_o_5 P) (.node (boot_o_9 P) .nil .nil) (.node (o_13 P) .nil .nil))) (.node (boot_o_2 P) (.node (boot_o_4 P) (.node (boot_o_8 P) .nil .nil) (.node (o_12_a P) .nil .nil)) (.node (boot_o_6 P) (.node (boot_o_10 P) .nil .nil) (.node (o_14 P) .nil .nil))))
noncomputable def heap_a (P : Params) : Heap := ⟨⟨[boot_o_0 P, boot_o_1 P, boot_o_2 P, boot_o_3 P, boot_o_4 P, boot_o_5 P, boot_o_6 P, boot_o_7 P, boot_o_8 P, boot_o_9 P, boot_o_10 P, o_11 P, o_12_a P, o_13 P, o_14 P]⟩, {}⟩
noncomputable def tree_b (P : Params) : BT := (.node (boot_o_0 P) (.node (boot_o_1 P) (.node (boot_o_3 P) (.node (boot_o_7 P) .nil .nil) (.node (o_11 P) .nil .nil)) (.node (boot_o_5 P) (.node (boot_o_9 P) .nil .nil) (.node (o_13 P) .nil .nil))) (.node (boot_o_2 P) (.node (boot_o_4 P) (.node (boot_o_8 P) .nil .nil) (.node (o_12_a P) .nil .nil)) (.node (boot_o_6 P) (.node (boot_o_10 P) .nil .nil) (.node (o_14 P) .nil .nil))))
noncomputable def o_3_c7 (P : Params) : Obj := ⟨(.type "dict"), none, (.dict #[⟨PyData.keyHash P (Str.ofString "__name__"), (.str (Str.ofString "__name__") 165), (.str (Str.ofString "cpy313.stringprep") 321)⟩, ⟨PyData.keyHash P (Str.ofString "__doc__"), (.str (Str.ofString "__doc__") 166), .none⟩, ⟨PyData.keyHash P (Str.ofString "__package__"), (.str (Str.ofString "__package__") 167), .none⟩, ⟨PyData.keyHash P (Str.ofString "__loader__"), (.str (Str.ofString "__loader__") 168), (.builtin "__main__.__loader__#opaque")⟩, ⟨PyData.keyHash P (Str.ofString "__spec__"), (.str (Str.ofString "__spec__") 169), .none⟩, ⟨PyData.keyHash P (Str.ofString "__annotations__"), (.str (Str.ofString "__annotations__") 170), (.ref 6)⟩, ⟨PyData.keyHash P (Str.ofString "__builtins__"), (.str (Str.ofString "__builtins__") 171), (.ref 4)⟩, ⟨PyData.keyHash P (Str.ofString "__file__"), (.str (Str.ofString "__file__") 173), (.str (Str.ofString "/claim/cut.py") 172)⟩, ⟨PyData.keyHash P (Str.ofString "__cached__"), (.str (Str.ofString "__cached__") 174), .none⟩, ⟨PyData.keyHash P (Str.ofString "_wall"), (.str (Str.ofString "_wall") 193), (.ref 21)⟩, ⟨PyData.keyHash P (Str.ofString "Whitespace"), (.str (Str.ofString "Whitespace") 296), (.ref 83)⟩, ⟨PyData.keyHash P (Str.ofString "_int2digits"), (.str (Str.ofString "_int2digits") 309), (.ref 94)⟩, ⟨PyData.keyHash P (Str.ofString "_digits2int"), (.str (Str.ofString "_digits2int") 320), (.ref 101)⟩] 13), #[]⟩
noncomputable def o_12_c7 (P : Params) : Obj := ⟨.none, none, (.fields #[(.int 1 0), (.int 0 0), (.ref 20), (.int 5 0), (.int 0 0), (.ref 27), (.int 59 0), (.int 0 0), (.ref 93), (.int 75 0), (.int 0 0), (.ref 100)]), #[]⟩
noncomputable def o_15 (P : Params) : Obj := ⟨(.type "tuple"), none, (.seq #[] 0), #[]⟩
noncomputable def o_16 (P : Params) : Obj := ⟨.none, none, (.fields #[]), #[]⟩
noncomputable def o_17 (P : Params) : Obj := ⟨(.type "tuple"), none, (.seq #[(.str (Str.ofString "k") 190)] 0), #[]⟩
noncomputable def o_18 (P : Params) : Obj := ⟨(.type "tuple"), none, (.seq #[] 0), #[]⟩
noncomputable def o_19 (P : Params) : Obj := ⟨.none, none, (.func { name := (Str.ofString "_wall"), qualname := (Str.ofString "_wall"), params := stmArgs (stm 0), body := .stmts (stmBody (stm 0)), scope := stmScope (stm 0), globals := 0, closure := [], defaults := .none, kwdefaults := .none, doc := .none, pyModule := .none, annotations := none, code := .none, closureTuple := .none, builtins := 0 }), #[]⟩
noncomputable def o_20 (P : Params) : Obj := ⟨(.type "code"), none, (.fields #[(.str (Str.ofString "_wall") 187), (.str (Str.ofString "_wall") 188), (.str (Str.ofString "/claim/cut.py") 189), (.int 1 0), (.int 1 0), (.int 0 0), (.int 0 0), (.int 3 0), (.ref 15), (.bool true), (.int 181 0), (.ref 16), .none, (.ref 17), (.ref 18), (.ref 19), (.int 191 0), (.int 1 0), (.str (Str.ofString "/claim/cut.py") 192)]), #[]⟩
noncomputable def o_21 (P : Params) : Obj := ⟨(.type "function"), none, (.func { name := (Str.ofString "_wall"), qualname := (Str.ofString "_wall"), params := stmArgs (stm 0), body := .stmts (stmBody (stm 0)), scope := stmScope (stm 0), globals := 3, closure := [], defaults := .none, kwdefaults := .none, doc := .none, pyModule := (.str (Str.ofString "__main__") 164), annotations := none, code := (.ref 20), closureTuple := .none, builtins := 0 }), #[]⟩
noncomputable def o_22 (P : Params) : Obj := ⟨(.type "tuple"), none, (.seq #[] 0), #[]⟩
noncomputable def o_23 (P : Params) : Obj := ⟨(.type "builtin_function_or_method"), none, (.fields #[(.builtin "type.__prepare__"), (.type "type")]), #[]⟩
noncomputable def o_24 (P : Params) : Obj := ⟨(.type "dict"), none, (.dict #[⟨PyData.keyHash P (Str.ofString "__module__"), (.str (Str.ofString "__module__") 203), (.str (Str.ofString "cpy313.tabnanny") 194)⟩, ⟨PyData.keyHash P (Str.ofString "__qualname__"), (.str (Str.ofString "__qualname__") 205), (.str (Str.ofString "Whitespace") 204)⟩, ⟨PyData.keyHash P (Str.ofString "__firstlineno__"), (.str (Str.ofString "__firstlineno__") 207), (.int 5 206)⟩, ⟨PyData.keyHash P (Str.ofString "S"), (.str (Str.ofString "S") 211), (.str (Str.ofString " ") 209)⟩, ⟨PyData.keyHash P (Str.ofString "T"), (.str (Str.ofString "T") 212), (.str (Str.ofString "\t") 210)⟩, ⟨PyData.keyHash P (Str.ofString "__init__"), (.str (Str.ofString "__init__") 227), (.ref 38)⟩, ⟨PyData.keyHash P (Str.ofString "longest_run_of_spaces"), (.str (Str.ofString "longest_run_of_spaces") 236), (.ref 45)⟩, ⟨PyData.keyHash P (Str.ofString "indent_level"), (.str (Str.ofString "indent_level") 248), (.ref 52)⟩, ⟨PyData.keyHash P (Str.ofString "equal"), (.str (Str.ofString "equal") 256), (.ref 59)⟩, ⟨PyData.keyHash P (Str.ofString "not_equal_witness"), (.str (Str.ofString "not_equal_witness") 267), (.ref 66)⟩, ⟨PyData.keyHash P (Str.ofString "less"), (.str (Str.ofString "less") 275), (.ref 73)⟩, ⟨PyData.keyHash P (Str.ofString "not_less_witness"), (.str (Str.ofString "not_less_witness") 283), (.ref 80)⟩, ⟨PyData.keyHash P (Str.ofString "__static_attributes__"), (.str (Str.ofString "__static_attributes__") 289), (.ref 81)⟩] 13), #[]⟩
noncomputable def o_25 (P : Params) : Obj := ⟨(.type "tuple"), none, (.seq #[] 0), #[]⟩
noncomputable def o_26 (P : Params) : Obj := ⟨.none, none, (.fields #[(.int 8 0), (.int 4 0), (.ref 37), (.int 31 0), (.int 4 0), (.ref 44), (.int 35 0), (.int 4 0), (.ref 51), (.int 42 0), (.int 4 0), (.ref 58), (.int 45 0), (.int 4 0), (.ref 65), (.int 53 0), (.int 4 0), (.ref 72), (.int 56 0), (.int 4 0), (.ref 79)]), #[]⟩
noncomputable def o_27 (P : Params) : Obj := ⟨(.type "code"), none, (.fields #[(.str (Str.ofString "Whitespace") 198), (.str (Str.ofString "Whitespace") 199), (.str (Str.ofString "/claim/cut.py") 200), (.int 5 0), (.int 0 0), (.int 0 0), (.int 0 0), (.int 0 0), (.ref 25), (.bool false), (.int 181 0), (.ref 26), .none, .none, .none, .none, (.int 201 0), (.int 5 0), (.str (Str.ofString "/claim/cut.py") 202)]), #[]⟩
noncomputable def o_28 (P : Params) : Obj := ⟨(.type "frame"), none, .plain, #[(some (.ref 27)), (some (.ref 3)), (some (.ref 24)), none, (some (.str (Str.ofString "cpy313.tabnanny") 194)), none, (some (.ref 0))]⟩
noncomputable def o_29 (P : Params) : Obj := ⟨(.type "str_ascii_iterator"), none, (.fields #[.none, (.int 2 0)]), #[]⟩
noncomputable def o_30 (P : Params) : Obj := ⟨(.type "tuple"), none, (.seq #[] 0), #[]⟩
noncomputable def o_31 (P : Params) : Obj := ⟨(.type "StopIteration"), none, (.fields #[(.ref 30), .none, .none, .none, (.bool false), .none]), #[]⟩
noncomputable def o_32 (P : Params) : Obj := ⟨(.type "tuple"), none, (.seq #[] 0), #[]⟩
noncomputable def o_33 (P : Params) : Obj := ⟨.none, none, (.fields #[]), #[]⟩
noncomputable def o_34 (P : Params) : Obj := ⟨(.type "tuple"), none, (.seq #[(.str (Str.ofString "self") 216), (.str (Str.ofString "ws") 217), (.str (Str.ofString "S") 218), (.str (Str.ofString "T") 219), (.str (Str.ofString "count") 220), (.str (Str.ofString "b") 221), (.str (Str.ofString "n") 222), (.str (Str.ofString "nt") 223), (.str (Str.ofString "ch") 224)] 0), #[]⟩
noncomputable def o_35 (P : Params) : Obj := ⟨(.type "tuple"), none, (.seq #[] 0), #[]⟩
noncomputable def o_36 (P : Params) : Obj := ⟨.none, none, (.func { name := (Str.ofString "__init__"), qualname := (Str.ofString "Whitespace.__init__"), params := stmArgs (clsStm 2 1), body := .stmts (stmBody (clsStm 2 1)), scope := stmScope (clsStm 2 1), globals := 0, closure := [], defaults := .none, kwdefaults := .none, doc := .none, pyModule := .none, annotations := none, code := .none, closureTuple := .none, builtins := 0 }), #[]⟩
noncomputable def o_37 (P : Params) : Obj := ⟨(.type "code"), none, (.fields #[(.str (Str.ofString "__init__") 213), (.str (Str.ofString "Whitespace.__init__") 214), (.str (Str.ofString "/claim/cut.py") 215), (.int 8 0), (.int 2 0), (.int 0 0), (.int 0 0), (.int 3 0), (.ref 32), (.bool true), (.int 181 0), (.ref 33), .none, (.ref 34), (.ref 35), (.ref 36), (.int 225 0), (.int 8 0), (.str (Str.ofString "/claim/cut.py") 226)]), #[]⟩
noncomputable def o_38 (P : Params) : Obj := ⟨(.type "function"), none, (.func { name := (Str.ofString "__init__"), qualname := (Str.ofString "Whitespace.__init__"), params := stmArgs (clsStm 2 1), body := .stmts (stmBody (clsStm 2 1)), scope := stmScope (clsStm 2 1), globals := 3, closure := [], defaults := .none, kwdefaults := .none, doc := .none, pyModule := (.str (Str.ofString "cpy313.tabnanny") 194), annotations := none, code := (.ref 37), closureTuple := .none, builtins := 0 }), #[]⟩
noncomputable def o_39 (P : Params) : Obj := ⟨(.type "tuple"), none, (.seq #[] 0), #[]⟩
noncomputable def o_40 (P : Params) : Obj := ⟨.none, none, (.fields #[]), #[]⟩
noncomputable def o_41 (P : Params) : Obj := ⟨(.type "tuple"), none, (.seq #[(.str (Str.ofString "self") 231), (.str (Str.ofString "count") 232), (.str (Str.ofString "trailing") 233)] 0), #[]⟩
noncomputable def o_42 (P : Params) : Obj := ⟨(.type "tuple"), none, (.seq #[] 0), #[]⟩
noncomputable def o_43 (P : Params) : Obj := ⟨.none, none, (.func { name := (Str.ofString "longest_run_of_spaces"), qualname := (Str.ofString "Whitespace.longest_run_of_spaces"), params := stmArgs (clsStm 2 2), body := .stmts (stmBody (clsStm 2 2)), scope := stmScope (clsStm 2 2), globals := 0, closure := [], defaults := .none, kwdefaults := .none, doc := .none, pyModule := .none, annotations := none, code := .none, closureTuple := .none, builtins := 0 }), #[]⟩
noncomputable def o_44 (P : Params) : Obj := ⟨(.type "code"), none, (.fields #[(.str (Str.ofString "longest_run_of_spaces") 228), (.str (Str.ofString "Whitespace.longest_run_of_spaces") 229), (.str (Str.ofString "/claim/cut.py") 230), (.int 31 0), (.int 1 0), (.int 0 0), (.int 0 0), (.int 3 0), (.ref 39), (.bool true), (.int 181 0), (.ref 40), .none, (.ref 41), (.ref 42), (.ref 43), (.int 234 0), (.int 31 0), (.str (Str.ofString "/claim/cut.py") 235)]), #[]⟩
noncomputable def o_45 (P : Params) : Obj := ⟨(.type "function"), none, (.func { name := (Str.ofString "longest_run_of_spaces"), qualname := (Str.ofString "Whitespace.longest_run_of_spaces"), params := stmArgs (clsStm 2 2), body := .stmts (stmBody (clsStm 2 2)), scope := stmScope (clsStm 2 2), globals := 3, closure := [], defaults := .none, kwdefaults := .none, doc := .none, pyModule := (.str (Str.ofString "cpy313.tabnanny") 194), annotations := none, code := (.ref 44), closureTuple := .none, builtins := 0 }), #[]⟩
noncomputable def o_46 (P : Params) : Obj := ⟨(.type "tuple"), none, (.seq #[] 0), #[]⟩
noncomputable def o_47 (P : Params) : Obj := ⟨.none, none, (.fields #[]), #[]⟩
noncomputable def o_48 (P : Params) : Obj := ⟨(.type "tuple"), none, (.seq #[(.str (Str.ofString "self") 240), (.str (Str.ofString "tabsize") 241), (.str (Str.ofString "count") 242), (.str (Str.ofString "trailing") 243), (.str (Str.ofString "il") 244), (.str (Str.ofString "i") 245)] 0), #[]⟩
noncomputable def o_49 (P : Params) : Obj := ⟨(.type "tuple"), none, (.seq #[] 0), #[]⟩
noncomputable def o_50 (P : Params) : Obj := ⟨.none, none, (.func { name := (Str.ofString "indent_level"), qualname := (Str.ofString "Whitespace.indent_level"), params := stmArgs (clsStm 2 3), body := .stmts (stmBody (clsStm 2 3)), scope := stmScope (clsStm 2 3), globals := 0, closure := [], defaults := .none, kwdefaults := .none, doc := .none, pyModule := .none, annotations := none, code := .none, closureTuple := .none, builtins := 0 }), #[]⟩
noncomputable def o_51 (P : Params) : Obj := ⟨(.type "code"), none, (.fields #[(.str (Str.ofString "indent_level") 237), (.str (Str.ofString "Whitespace.indent_level") 238), (.str (Str.ofString "/claim/cut.py") 239), (.int 35 0), (.int 2 0), (.int 0 0), (.int 0 0), (.int 3 0), (.ref 46), (.bool true), (.int 181 0), (.ref 47), .none, (.ref 48), (.ref 49), (.ref 50), (.int 246 0), (.int 35 0), (.str (Str.ofString "/claim/cut.py") 247)]), #[]⟩
noncomputable def o_52 (P : Params) : Obj := ⟨(.type "function"), none, (.func { name := (Str.ofString "indent_level"), qualname := (Str.ofString "Whitespace.indent_level"), params := stmArgs (clsStm 2 3), body := .stmts (stmBody (clsStm 2 3)), scope := stmScope (clsStm 2 3), globals := 3, closure := [], defaults := .none, kwdefaults := .none, doc := .none, pyModule := (.str (Str.ofString "cpy313.tabnanny") 194), annotations := none, code := (.ref 51), closureTuple := .none, builtins := 0 }), #[]⟩
noncomputable def o_53 (P : Params) : Obj := ⟨(.type "tuple"), none, (.seq #[] 0), #[]⟩
noncomputable def o_54 (P : Params) : Obj := ⟨.none, none, (.fields #[]), #[]⟩
noncomputable def o_55 (P : Params) : Obj := ⟨(.type "tuple"), none, (.seq #[(.str (Str.ofString "self") 252), (.str (Str.ofString "other") 253)] 0), #[]⟩
noncomputable def o_56 (P : Params) : Obj := ⟨(.type "tuple"), none, (.seq #[] 0), #[]⟩
noncomputable def o_57 (P : Params) : Obj := ⟨.none, none, (.func { name := (Str.ofString "equal"), qualname := (Str.ofString "Whitespace.equal"), params := stmArgs (clsStm 2 4), body := .stmts (stmBody (clsStm 2 4)), scope := stmScope (clsStm 2 4), globals := 0, closure := [], defaults := .none, kwdefaults := .none, doc := .none, pyModule := .none, annotations := none, code := .none, closureTuple := .none, builtins := 0 }), #[]⟩
noncomputable def o_58 (P : Params) : Obj := ⟨(.type "code"), none, (.fields #[(.str (Str.ofString "equal") 249), (.str (Str.ofString "Whitespace.equal") 250), (.str (Str.ofString "/claim/cut.py") 251), (.int 42 0), (.int 2 0), (.int 0 0), (.int 0 0), (.int 3 0), (.ref 53), (.bool true), (.int 181 0), (.ref 54), .none, (.ref 55), (.ref 56), (.ref 57), (.int 254 0), (.int 42 0), (.str (Str.ofString "/claim/cut.py") 255)]), #[]⟩
noncomputable def o_59 (P : Params) : Obj := ⟨(.type "function"), none, (.func { name := (Str.ofString "equal"), qualname := (Str.ofString "Whitespace.equal"), params := stmArgs (clsStm 2 4), body := .stmts (stmBody (clsStm 2 4)), scope := stmScope (clsStm 2 4), globals := 3, closure := [], defaults := .none, kwdefaults := .none, doc := .none, pyModule := (.str (Str.ofString "cpy313.tabnanny") 194), annotations := none, code := (.ref 58), closureTuple := .none, builtins := 0 }), #[]⟩
noncomputable def o_60 (P : Params) : Obj := ⟨(.type "tuple"), none, (.seq #[] 0), #[]⟩
noncomputable def o_61 (P : Params) : Obj := ⟨.none, none, (.fields #[]), #[]⟩
noncomputable def o_62 (P : Params) : Obj := ⟨(.type "tuple"), none, (.seq #[(.str (Str.ofString "self") 260), (.str (Str.ofString "other") 261), (.str (Str.ofString "n") 262), (.str (Str.ofString "a") 263), (.str (Str.ofString "ts") 264)] 0), #[]⟩
noncomputable def o_63 (P : Params) : Obj := ⟨(.type "tuple"), none, (.seq #[] 0), #[]⟩
noncomputable def o_64 (P : Params) : Obj := ⟨.none, none, (.func { name := (Str.ofString "not_equal_witness"), qualname := (Str.ofString "Whitespace.not_equal_witness"), params := stmArgs (clsStm 2 5), body := .stmts (stmBody (clsStm 2 5)), scope := stmScope (clsStm 2 5), globals := 0, closure := [], defaults := .none, kwdefaults := .none, doc := .none, pyModule := .none, annotations := none, code := .none, closureTuple := .none, builtins := 0 }), #[]⟩
noncomputable def o_65 (P : Params) : Obj := ⟨(.type "code"), none, (.fields #[(.str (Str.ofString "not_equal_witness") 257), (.str (Str.ofString "Whitespace.not_equal_witness") 258), (.str (Str.ofString "/claim/cut.py") 259), (.int 45 0), (.int 2 0), (.int 0 0), (.int 0 0), (.int 3 0), (.ref 60), (.bool true), (.int 181 0), (.ref 61), .none, (.ref 62), (.ref 63), (.ref 64), (.int 265 0), (.int 45 0), (.str (Str.ofString "/claim/cut.py") 266)]), #[]⟩
noncomputable def o_66 (P : Params) : Obj := ⟨(.type "function"), none, (.func { name := (Str.ofString "not_equal_witness"), qualname := (Str.ofString "Whitespace.not_equal_witness"), params := stmArgs (clsStm 2 5), body := .stmts (stmBody (clsStm 2 5)), scope := stmScope (clsStm 2 5), globals := 3, closure := [], defaults := .none, kwdefaults := .none, doc := .none, pyModule := (.str (Str.ofString "cpy313.tabnanny") 194), annotations := none, code := (.ref 65), closureTuple := .none, builtins := 0 }), #[]⟩
noncomputable def o_67 (P : Params) : Obj := ⟨(.type "tuple"), none, (.seq #[] 0), #[]⟩
noncomputable def o_68 (P : Params) : Obj := ⟨.none, none, (.fields #[]), #[]⟩
noncomputable def o_69 (P : Params) : Obj := ⟨(.type "tuple"), none, (.seq #[(.str (Str.ofString "self") 271), (.str (Str.ofString "other") 272)] 0), #[]⟩
noncomputable def o_70 (P : Params) : Obj := ⟨(.type "tuple"), none, (.seq #[] 0), #[]⟩
noncomputable def o_71 (P : Params) : Obj := ⟨.none, none, (.func { name := (Str.ofString "less"), qualname := (Str.ofString "Whitespace.less"), params := stmArgs (clsStm 2 6), body := .stmts (stmBody (clsStm 2 6)), scope := stmScope (clsStm 2 6), globals := 0, closure := [], defaults := .none, kwdefaults := .none, doc := .none, pyModule := .none, annotations := none, code := .none, closureTuple := .none, builtins := 0 }), #[]⟩
noncomputable def o_72 (P : Params) : Obj := ⟨(.type "code"), none, (.fields #[(.str (Str.ofString "less") 268), (.str (Str.ofString "Whitespace.less") 269), (.str (Str.ofString "/claim/cut.py") 270), (.int 53 0), (.int 2 0), (.int 0 0), (.int 0 0), (.int 3 0), (.ref 67), (.bool true), (.int 181 0), (.ref 68), .none, (.ref 69), (.ref 70), (.ref 71), (.int 273 0), (.int 53 0), (.str (Str.ofString "/claim/cut.py") 274)]), #[]⟩
noncomputable def o_73 (P : Params) : Obj := ⟨(.type "function"), none, (.func { name := (Str.ofString "less"), qualname := (Str.ofString "Whitespace.less"), params := stmArgs (clsStm 2 6), body := .stmts (stmBody (clsStm 2 6)), scope := stmScope (clsStm 2 6), globals := 3, closure := [], defaults := .none, kwdefaults := .none, doc := .none, pyModule := (.str (Str.ofString "cpy313.tabnanny") 194), annotations := none, code := (.ref 72), closureTuple := .none, builtins := 0 }), #[]⟩
noncomputable def o_74 (P : Params) : Obj := ⟨(.type "tuple"), none, (.seq #[] 0), #[]⟩
noncomputable def o_75 (P : Params) : Obj := ⟨.none, none, (.fields #[]), #[]⟩
noncomputable def o_76 (P : Params) : Obj := ⟨(.type "tuple"), none, (.seq #[(.str (Str.ofString "self") 279), (.str (Str.ofString "other") 280)] 0), #[]⟩
noncomputable def o_77 (P : Params) : Obj := ⟨(.type "tuple"), none, (.seq #[] 0), #[]⟩
noncomputable def o_78 (P : Params) : Obj := ⟨.none, none, (.func { name := (Str.ofString "not_less_witness"), qualname := (Str.ofString "Whitespace.not_less_witness"), params := stmArgs (clsStm 2 7), body := .stmts (stmBody (clsStm 2 7)), scope := stmScope (clsStm 2 7), globals := 0, closure := [], defaults := .none, kwdefaults := .none, doc := .none, pyModule := .none, annotations := none, code := .none, closureTuple := .none, builtins := 0 }), #[]⟩
noncomputable def o_79 (P : Params) : Obj := ⟨(.type "code"), none, (.fields #[(.str (Str.ofString "not_less_witness") 276), (.str (Str.ofString "Whitespace.not_less_witness") 277), (.str (Str.ofString "/claim/cut.py") 278), (.int 56 0), (.int 2 0), (.int 0 0), (.int 0 0), (.int 3 0), (.ref 74), (.bool true), (.int 181 0), (.ref 75), .none, (.ref 76), (.ref 77), (.ref 78), (.int 281 0), (.int 56 0), (.str (Str.ofString "/claim/cut.py") 282)]), #[]⟩
noncomputable def o_80 (P : Params) : Obj := ⟨(.type "function"), none, (.func { name := (Str.ofString "not_less_witness"), qualname := (Str.ofString "Whitespace.not_less_witness"), params := stmArgs (clsStm 2 7), body := .stmts (stmBody (clsStm 2 7)), scope := stmScope (clsStm 2 7), globals := 3, closure := [], defaults := .none, kwdefaults := .none, doc := .none, pyModule := (.str (Str.ofString "cpy313.tabnanny") 194), annotations := none, code := (.ref 79), closureTuple := .none, builtins := 0 }), #[]⟩
noncomputable def o_81 (P : Params) : Obj := ⟨(.type "tuple"), none, (.seq #[(.str (Str.ofString "is_simple") 284), (.str (Str.ofString "n") 285), (.str (Str.ofString "norm") 286), (.str (Str.ofString "nt") 287), (.str (Str.ofString "raw") 288)] 0), #[]⟩
noncomputable def o_82 (P : Params) : Obj := ⟨(.type "dict"), none, (.dict #[⟨PyData.keyHash P (Str.ofString "__module__"), (.str (Str.ofString "__module__") 203), (.str (Str.ofString "cpy313.tabnanny") 194)⟩, ⟨PyData.keyHash P (Str.ofString "__firstlineno__"), (.str (Str.ofString "__firstlineno__") 207), (.int 5 206)⟩, ⟨PyData.keyHash P (Str.ofString "S"), (.str (Str.ofString "S") 211), (.str (Str.ofString " ") 209)⟩, ⟨PyData.keyHash P (Str.ofString "T"), (.str (Str.ofString "T") 212), (.str (Str.ofString "\t") 210)⟩, ⟨PyData.keyHash P (Str.ofString "__init__"), (.str (Str.ofString "__init__") 227), (.ref 38)⟩, ⟨PyData.keyHash P (Str.ofString "longest_run_of_spaces"), (.str (Str.ofString "longest_run_of_spaces") 236), (.ref 45)⟩, ⟨PyData.keyHash P (Str.ofString "indent_level"), (.str (Str.ofString "indent_level") 248), (.ref 52)⟩, ⟨PyData.keyHash P (Str.ofString "equal"), (.str (Str.ofString "equal") 256), (.ref 59)⟩, ⟨PyData.keyHash P (Str.ofString "not_equal_witness"), (.str (Str.ofString "not_equal_witness") 267), (.ref 66)⟩, ⟨PyData.keyHash P (Str.ofString "less"), (.str (Str.ofString "less") 275), (.ref 73)⟩, ⟨PyData.keyHash P (Str.ofString "not_less_witness"), (.str (Str.ofString "not_less_witness") 283), (.ref 80)⟩, ⟨PyData.keyHash P (Str.ofString "__static_attributes__"), (.str (Str.ofString "__static_attributes__") 289), (.ref 81)⟩, ⟨PyData.keyHash P (Str.ofString "__dict__"), (.str (Str.ofString "__dict__") 291), (.ref 84)⟩, ⟨PyData.keyHash P (Str.ofString "__weakref__"), (.str (Str.ofString "__weakref__") 293), (.ref 85)⟩, ⟨PyData.keyHash P (Str.ofString "__doc__"), (.str (Str.ofString "__doc__") 294), .none⟩] 4), #[]⟩
noncomputable def o_83 (P : Params) : Obj := ⟨(.type "type"), none, (.cls { name := (Str.ofString "Whitespace"), bases := [(.type "object")], mro := [(.ref 83), (.type "object")], ns := 82, qualname := (Str.ofString "Whitespace"), hasDict := true, slotNames := [], subclasses := [], abstract := false, collection := none, hasDel := false }), #[none, none, (some (.str (Str.ofString "Whitespace") 196)), (some (.str (Str.ofString "Whitespace") 204)), (some (.builtin "object.__new__")), (some (.bool true))]⟩
noncomputable def o_84 (P : Params) : Obj := ⟨(.type "getset_descriptor"), none, (.fields #[(.str (Str.ofString "__dict__") 290), (.ref 83), (.builtin "function.__dict__"), (.builtin "function.__dict__#set")]), #[]⟩
noncomputable def o_85 (P : Params) : Obj := ⟨(.type "getset_descriptor"), none, (.fields #[(.str (Str.ofString "__weakref__") 292), (.ref 83), (.builtin "ExceptionGroup.__weakref__"), .none]), #[]⟩
noncomputable def o_86 (P : Params) : Obj := ⟨(.type "super"), none, (.fields #[(.ref 83), (.ref 83), (.ref 83)]), #[]⟩
noncomputable def o_87 (P : Params) : Obj := ⟨(.type "builtin_function_or_method"), none, (.fields #[(.builtin "object.__init_subclass__"), (.ref 83)]), #[]⟩
noncomputable def o_88 (P : Params) : Obj := ⟨(.type "tuple"), none, (.seq #[] 0), #[]⟩
noncomputable def o_89 (P : Params) : Obj := ⟨.none, none, (.fields #[]), #[]⟩
noncomputable def o_90 (P : Params) : Obj := ⟨(.type "tuple"), none, (.seq #[(.str (Str.ofString "a") 302), (.str (Str.ofString "n") 303)] 0), #[]⟩
noncomputable def o_91 (P : Params) : Obj := ⟨(.type "tuple"), none, (.seq #[(.str (Str.ofString "n") 304), (.str (Str.ofString "a_digits") 305), (.str (Str.ofString "inner") 306)] 0), #[]⟩
noncomputable def o_92 (P : Params) : Obj := ⟨.none, none, (.func { name := (Str.ofString "_int2digits"), qualname := (Str.ofString "_int2digits"), params := stmArgs (stm 4), body := .stmts (stmBody (stm 4)), scope := stmScope (stm 4), globals := 0, closure := [], defaults := .none, kwdefaults := .none, doc := .none, pyModule := .none, annotations := none, code := .none, closureTuple := .none, builtins := 0 }), #[]⟩
noncomputable def o_93 (P : Params) : Obj := ⟨(.type "code"), none, (.fields #[(.str (Str.ofString "_int2digits") 299), (.str (Str.ofString "_int2digits") 300), (.str (Str.ofString "/claim/cut.py") 301), (.int 59 0), (.int 2 0), (.int 0 0), (.int 0 0), (.int 3 0), (.ref 88), (.bool true), (.int 181 0), (.ref 89), .none, (.ref 90), (.ref 91), (.ref 92), (.int 307 0), (.int 59 0), (.str (Str.ofString "/claim/cut.py") 308)]), #[]⟩
noncomputable def o_94 (P : Params) : Obj := ⟨(.type "function"), none, (.func { name := (Str.ofString "_int2digits"), qualname := (Str.ofString "_int2digits"), params := stmArgs (stm 4), body := .stmts (stmBody (stm 4)), scope := stmScope (stm 4), globals := 3, closure := [], defaults := .none, kwdefaults := .none, doc := .none, pyModule := (.str (Str.ofString "cpy313._pylong") 297), annotations := none, code := (.ref 93), closureTuple := .none, builtins := 0 }), #[]⟩
noncomputable def o_95 (P : Params) : Obj := ⟨(.type "tuple"), none, (.seq #[] 0), #[]⟩
noncomputable def o_96 (P : Params) : Obj := ⟨.none, none, (.fields #[]), #[]⟩
noncomputable def o_97 (P : Params) : Obj := ⟨(.type "tuple"), none, (.seq #[(.str (Str.ofString "digits") 313), (.str (Str.ofString "n") 314)] 0), #[]⟩
noncomputable def o_98 (P : Params) : Obj := ⟨(.type "tuple"), none, (.seq #[(.str (Str.ofString "digits") 315), (.str (Str.ofString "n") 316), (.str (Str.ofString "inner") 317)] 0), #[]⟩
noncomputable def o_99 (P : Params) : Obj := ⟨.none, none, (.func { name := (Str.ofString "_digits2int"), qualname := (Str.ofString "_digits2int"), params := stmArgs (stm 5), body := .stmts (stmBody (stm 5)), scope := stmScope (stm 5), globals := 0, closure := [], defaults := .none, kwdefaults := .none, doc := .none, pyModule := .none, annotations := none, code := .none, closureTuple := .none, builtins := 0 }), #[]⟩
noncomputable def o_100 (P : Params) : Obj := ⟨(.type "code"), none, (.fields #[(.str (Str.ofString "_digits2int") 310), (.str (Str.ofString "_digits2int") 311), (.str (Str.ofString "/claim/cut.py") 312), (.int 75 0), (.int 2 0), (.int 0 0), (.int 0 0), (.int 3 0), (.ref 95), (.bool true), (.int 181 0), (.ref 96), .none, (.ref 97), (.ref 98), (.ref 99), (.int 318 0), (.int 75 0), (.str (Str.ofString "/claim/cut.py") 319)]), #[]⟩
noncomputable def o_101 (P : Params) : Obj := ⟨(.type "function"), none, (.func { name := (Str.ofString "_digits2int"), qualname := (Str.ofString "_digits2int"), params := stmArgs (stm 5), body := .stmts (stmBody (stm 5)), scope := stmScope (stm 5), globals := 3, closure := [], defaults := .none, kwdefaults := .none, doc := .none, pyModule := (.str (Str.ofString "cpy313._pylong") 297), annotations := none, code := (.ref 100), closureTuple := .none, builtins := 0 }), #[]⟩
noncomputable def tree_c7 (P : Params) : BT := (.node (boot_o_0 P) (.node (boot_o_1 P) (.node (o_3_c7 P) (.node (boot_o_7 P) (.node (o_15 P) (.node (o_31 P) (.node (o_63 P) .nil .nil) (.node (o_95 P) .nil .nil)) (.node (o_47 P) (.node (o_79 P) .nil .nil) .nil)) (.node (o_23 P) (.node (o_39 P) (.node (o_71 P) .nil .nil) .nil) (.node (o_55 P) (.node (o_87 P) .nil .nil) .nil))) (.node (o_11 P) (.node (o_19 P) (.node (o_35 P) (.node (o_67 P) .nil .nil) (.node (o_99 P) .nil .nil)) (.node (o_51 P) (.node (o_83 P) .nil .nil) .nil)) (.node (o_27 P) (.node (o_43 P) (.node (o_75 P) .nil .nil) .nil) (.node (o_59 P) (.node (o_91 P) .nil .nil) .nil)))) (.node (boot_o_5 P) (.node (boot_o_9 P) (.node (o_17 P) (.node (o_33 P) (.node (o_65 P) .nil .nil) (.node (o_97 P) .nil .nil)) (.node (o_49 P) (.node (o_81 P) .nil .nil) .nil)) (.node (o_25 P) (.node (o_41 P) (.node (o_73 P) .nil .nil) .nil) (.node (o_57 P) (.node (o_89 P) .nil .nil) .nil))) (.node (o_13 P) (.node (o_21 P) (.node (o_37 P) (.node (o_69 P) .nil .nil) (.node (o_101 P) .nil .nil)) (.node (o_53 P) (.node (o_85 P) .nil .nil) .nil)) (.node (o_29 P) (.node (o_45 P) (.node (o_77 P) .nil .nil) .nil) (.node (o_61 P) (.node (o_93 P) .nil .nil) .nil))))) (.node (boot_o_2 P) (.node (boot_o_4 P) (.node (boot_o_8 P) (.node (o_16 P) (.node (o_32 P) (.node (o_64 P) .nil .nil) (.node (o_96 P) .nil .nil)) (.node (o_48 P) (.node (o_80 P) .nil .nil) .nil)) (.node (o_24 P) (.node (o_40 P) (.node (o_72 P) .nil .nil) .nil) (.node (o_56 P) (.node (o_88 P) .nil .nil) .nil))) (.node (o_12_c7 P) (.node (o_20 P) (.node (o_36 P) (.node (o_68 P) .nil .nil) (.node (o_100 P) .nil .nil)) (.node (o_52 P) (.node (o_84 P) .nil .nil) .nil)) (.node (o_28 P) (.node (o_44 P) (.node (o_76 P) .nil .nil) .nil) (.node (o_60 P) (.node (o_92 P) .nil .nil) .nil)))) (.node (boot_o_6 P) (.node (boot_o_10 P) (.node (o_18 P) (.node (o_34 P) (.node (o_66 P) .nil .nil) (.node (o_98 P) .nil .nil)) (.node (o_50 P) (.node (o_82 P) .nil .nil) .nil)) (.node (o_26 P) (.node (o_42 P) (.node (o_74 P) .nil .nil) .nil) (.node (o_58 P) (.node (o_90 P) .nil .nil) .nil))) (.node (o_14 P) (.node (o_22 P) (.node (o_38 P) (.node (o_70 P) .nil .nil) .nil) (.node (o_54 P) (.node (o_86 P) .nil .nil) .nil)) (.node (o_30 P) (.node (o_46 P) (.node (o_78 P) .nil .nil) .nil) (.node (o_62 P) (.node (o_94 P) .nil .nil) .nil))))))
noncomputable def o_3_c8 (P : Params) : Obj := ⟨(.type "dict"), none, (.dict #[⟨PyData.keyHash P (Str.ofString "__name__"), (.str (Str.ofString "__name__") 165), (.str (Str.ofString "cpy313.stringprep") 321)⟩, ⟨PyData.keyHash P (Str.ofString "__doc__"), (.str (Str.ofString "__doc__") 166), .none⟩, ⟨PyData.keyHash P (Str.ofString "__package__"), (.str (Str.ofString "__package__") 167), .none⟩, ⟨PyData.keyHash P (Str.ofString "__loader__"), (.str (Str.ofString "__loader__") 168), (.builtin "__main__.__loader__#opaque")⟩, ⟨PyData.keyHash P (Str.ofString "__spec__"), (.str (Str.ofString "__spec__") 169), .none⟩, ⟨PyData.keyHash P (Str.ofString "__annotations__"), (.str (Str.ofString "__annotations__") 170), (.ref 6)⟩, ⟨PyData.keyHash P (Str.ofString "__builtins__"), (.str (Str.ofString "__builtins__") 171), (.ref 4)⟩, ⟨PyData.keyHash P (Str.ofString "__file__"), (.str (Str.ofString "__file__") 173), (.str (Str.ofString "/claim/cut.py") 172)⟩, ⟨PyData.keyHash P (Str.ofString "__cached__"), (.str (Str.ofString "__cached__") 174), .none⟩, ⟨PyData.keyHash P (Str.ofString "_wall"), (.str (Str.ofString "_wall") 193), (.ref 21)⟩, ⟨PyData.keyHash P (Str.ofString "Whitespace"), (.str (Str.ofString "Whitespace") 296), (.ref 83)⟩, ⟨PyData.keyHash P (Str.ofString "_int2digits"), (.str (Str.ofString "_int2digits") 309), (.ref 94)⟩, ⟨PyData.keyHash P (Str.ofString "_digits2int"), (.str (Str.ofString "_digits2int") 320), (.ref 101)⟩, ⟨PyData.keyHash P (Str.ofString "b1_set"), (.str (Str.ofString "b1_set") 382), (.ref 109)⟩] 14), #[]⟩
noncomputable def o_102 (P : Params) : Obj := ⟨(.type "list"), none, (.seq #[(.int 173 323), (.int 847 324), (.int 6150 325), (.int 6155 326), (.int 6156 327), (.int 6157 328), (.int 8203 329), (.int 8204 330), (.int 8205 331), (.int 8288 332), (.int 65279 333)] 0), #[]⟩
noncomputable def o_103 (P : Params) : Obj := ⟨(.type "range"), none, (.fields #[(.int 65024 334), (.int 65040 335), (.int 1 336)]), #[]⟩
noncomputable def o_104 (P : Params) : Obj := ⟨(.type "list"), none, (.seq #[(.int 65024 339), (.int 65025 340), (.int 65026 341), (.int 65027 342), (.int 65028 343), (.int 65029 344), (.int 65030 345), (.int 65031 346), (.int 65032 347), (.int 65033 348), (.int 65034 349), (.int 65035 350), (.int 65036 351), (.int 65037 352), (.int 65038 353), (.int 65039 354)] 18), #[]⟩
noncomputable def o_105 (P : Params) : Obj := ⟨(.type "range_iterator"), none, (.fields #[(.int 65040 0), (.int 0 0), (.int 1 0)]), #[]⟩
noncomputable def o_106 (P : Params) : Obj := ⟨(.type "tuple"), none, (.seq #[] 0), #[]⟩
noncomputable def o_107 (P : Params) : Obj := ⟨(.type "StopIteration"), none, (.fields #[(.ref 106), .none, .none, .none, (.bool false), .none]), #[]⟩
noncomputable def o_108 (P : Params) : Obj := ⟨(.type "list"), none, (.seq #[(.int 173 323), (.int 847 324), (.int 6150 325), (.int 6155 326), (.int 6156 327), (.int 6157 328), (.int 8203 329), (.int 8204 330), (.int 8205 331), (.int 8288 332), (.int 65279 333), (.int 65024 339), (.int 65025 340), (.int 65026 341), (.int 65027 342), (.int 65028 343), (.int 65029 344), (.int 65030 345), (.int 65031 346), (.int 65032 347), (.int 65033 348), (.int 65034 349), (.int 65035 350), (.int 65036 351), (.int 65037 352), (.int 65038 353), (.int 65039 354)] 0), #[]⟩
noncomputable def o_109 (P : Params) : Obj := ⟨(.type "set"), none, (.set #[(65024, (.int 65024 339)), (65025, (.int 65025 340)), (65026, (.int 65026 341)), (65027, (.int 65027 342)), (65028, (.int 65028 343)), (65029, (.int 65029 344)), (6150, (.int 6150 325)), (65030, (.int 65030 345)), (65031, (.int 65031 346)), (65032, (.int 65032 347)), (65033, (.int 65033 348)), (6155, (.int 6155 326)), (6156, (.int 6156 327)), (6157, (.int 6157 328)), (8203, (.int 8203 329)), (8204, (.int 8204 330)), (8205, (.int 8205 331)), (65034, (.int 65034 349)), (65035, (.int 65035 350)), (65036, (.int 65036 351)), (65037, (.int 65037 352)), (65038, (.int 65038 353)), (65039, (.int 65039 354)), (173, (.int 173 323)), (847, (.int 847 324)), (8288, (.int 8288 332)), (65279, (.int 65279 333))] 29 { mask := 127, place := #[0, 1, 2, 3, 4, 5, 6, 7, 8, 9, 10, 11, 12, 13, 14, 15, 16, 17, 18, 19, 20, 21, 22, 45, 79, 96, 127], dummies := #[], finger := 0, led := !P.followText "set-order", moves := 2, plain := true }), #[]⟩
noncomputable def o_110 (P : Params) : Obj := ⟨(.type "list_iterator"), none, (.fields #[.none, (.int 27 0)]), #[]⟩
noncomputable def o_111 (P : Params) : Obj := ⟨(.type "tuple"), none, (.seq #[] 0), #[]⟩
noncomputable def o_112 (P : Params) : Obj := ⟨(.type "StopIteration"), none, (.fields #[(.ref 111), .none, .none, .none, (.bool false), .none]), #[]⟩
noncomputable def tree_c8 (P : Params) : BT := (.node (boot_o_0 P) (.node (boot_o_1 P) (.node (o_3_c8 P) (.node (boot_o_7 P) (.node (o_15 P) (.node (o_31 P) (.node (o_63 P) .nil .nil) (.node (o_95 P) .nil .nil)) (.node (o_47 P) (.node (o_79 P) .nil .nil) (.node (o_111 P) .nil .nil))) (.node (o_23 P) (.node (o_39 P) (.node (o_71 P) .nil .nil) (.node (o_103 P) .nil .nil)) (.node (o_55 P) (.node (o_87 P) .nil .nil) .nil))) (.node (o_11 P) (.node (o_19 P) (.node (o_35 P) (.node (o_67 P) .nil .nil) (.node (o_99 P) .nil .nil)) (.node (o_51 P) (.node (o_83 P) .nil .nil) .nil)) (.node (o_27 P) (.node (o_43 P) (.node (o_75 P) .nil .nil) (.node (o_107 P) .nil .nil)) (.node (o_59 P) (.node (o_91 P) .nil .nil) .nil)))) (.node (boot_o_5 P) (.node (boot_o_9 P) (.node (o_17 P) (.node (o_33 P) (.node (o_65 P) .nil .nil) (.node (o_97 P) .nil .nil)) (.node (o_49 P) (.node (o_81 P) .nil .nil) .nil)) (.node (o_25 P) (.node (o_41 P) (.node (o_73 P) .nil .nil) (.node (o_105 P) .nil .nil)) (.node (o_57 P) (.node (o_89 P) .nil .nil) .nil))) (.node (o_13 P) (.node (o_21 P) (.node (o_37 P) (.node (o_69 P) .nil .nil) (.node (o_101 P) .nil .nil)) (.node (o_53 P) (.node (o_85 P) .nil .nil) .nil)) (.node (o_29 P) (.node (o_45 P) (.node (o_77 P) .nil .nil) (.node (o_109 P) .nil .nil)) (.node (o_61 P) (.node (o_93 P) .nil .nil) .nil))))) (.node (boot_o_2 P) (.node (boot_o_4 P) (.node (boot_o_8 P) (.node (o_16 P) (.node (o_32 P) (.node (o_64 P) .nil .nil) (.node (o_96 P) .nil .nil)) (.node (o_48 P) (.node (o_80 P) .nil .nil) (.node (o_112 P) .nil .nil))) (.node (o_24 P) (.node (o_40 P) (.node (o_72 P) .nil .nil) (.node (o_104 P) .nil .nil)) (.node (o_56 P) (.node (o_88 P) .nil .nil) .nil))) (.node (o_12_c7 P) (.node (o_20 P) (.node (o_36 P) (.node (o_68 P) .nil .nil) (.node (o_100 P) .nil .nil)) (.node (o_52 P) (.node (o_84 P) .nil .nil) .nil)) (.node (o_28 P) (.node (o_44 P) (.node (o_76 P) .nil .nil) (.node (o_108 P) .nil .nil)) (.node (o_60 P) (.node (o_92 P) .nil .nil) .nil)))) (.node (boot_o_6 P) (.node (boot_o_10 P) (.node (o_18 P) (.node (o_34 P) (.node (o_66 P) .nil .nil) (.node (o_98 P) .nil .nil)) (.node (o_50 P) (.node (o_82 P) .nil .nil) .nil)) (.node (o_26 P) (.node (o_42 P) (.node (o_74 P) .nil .nil) (.node (o_106 P) .nil .nil)) (.node (o_58 P) (.node (o_90 P) .nil .nil) .nil))) (.node (o_14 P) (.node (o_22 P) (.node (o_38 P) (.node (o_70 P) .nil .nil) (.node (o_102 P) .nil .nil)) (.node (o_54 P) (.node (o_86 P) .nil .nil) .nil)) (.node (o_30 P) (.node (o_46 P) (.node (o_78 P) .nil .nil) (.node (o_110 P) .nil .nil)) (.node (o_62 P) (.node (o_94 P) .nil .nil) .nil))))))
noncomputable def o_3_c10 (P : Params) : Obj := ⟨(.type "dict"), none, (.dict #[⟨PyData.keyHash P (Str.ofString "__name__"), (.str (Str.ofString "__name__") 165), (.str (Str.ofString "cpy313.stringprep") 321)⟩, ⟨PyData.keyHash P (Str.ofString "__doc__"), (.str (Str.ofString "__doc__") 166), .none⟩, ⟨PyData.keyHash P (Str.ofString "__package__"), (.str (Str.ofString "__package__") 167), .none⟩, ⟨PyData.keyHash P (Str.ofString "__loader__"), (.str (Str.ofString "__loader__") 168), (.builtin "__main__.__loader__#opaque")⟩, ⟨PyData.keyHash P (Str.ofString "__spec__"), (.str (Str.ofString "__spec__") 169), .none⟩, ⟨PyData.keyHash P (Str.ofString "__annotations__"), (.str (Str.ofString "__annotations__") 170), (.ref 6)⟩, ⟨PyData.keyHash P (Str.ofString "__builtins__"), (.str (Str.ofString "__builtins__") 171), (.ref 4)⟩, ⟨PyData.keyHash P (Str.ofString "__file__"), (.str (Str.ofString "__file__") 173), (.str (Str.ofString "/claim/cut.py") 172)⟩, ⟨PyData.keyHash P (Str.ofString "__cached__"), (.str (Str.ofString "__cached__") 174), .none⟩, ⟨PyData.keyHash P (Str.ofString "_wall"), (.str (Str.ofString "_wall") 193), (.ref 21)⟩, ⟨PyData.keyHash P (Str.ofString "Whitespace"), (.str (Str.ofString "Whitespace") 296), (.ref 83)⟩, ⟨PyData.keyHash P (Str.ofString "_int2digits"), (.str (Str.ofString "_int2digits") 309), (.ref 94)⟩, ⟨PyData.keyHash P (Str.ofString "_digits2int"), (.str (Str.ofString "_digits2int") 320), (.ref 101)⟩, ⟨PyData.keyHash P (Str.ofString "b1_set"), (.str (Str.ofString "b1_set") 382), (.ref 109)⟩, ⟨PyData.keyHash P (Str.ofString "in_table_b1"), (.str (Str.ofString "in_table_b1") 389), (.ref 119)⟩, ⟨PyData.keyHash P (Str.ofString "c8_set"), (.str (Str.ofString "c8_set") 430), (.ref 133)⟩] 16), #[]⟩
noncomputable def o_12_c10 (P : Params) : Obj := ⟨.none, none, (.fields #[(.int 1 0), (.int 0 0), (.ref 20), (.int 5 0), (.int 0 0), (.ref 27), (.int 59 0), (.int 0 0), (.ref 93), (.int 75 0), (.int 0 0), (.ref 100), (.int 86 0), (.int 0 0), (.ref 118)]), #[]⟩
noncomputable def o_113 (P : Params) : Obj := ⟨(.type "tuple"), none, (.seq #[] 0), #[]⟩
noncomputable def o_114 (P : Params) : Obj := ⟨.none, none, (.fields #[]), #[]⟩
noncomputable def o_115 (P : Params) : Obj := ⟨(.type "tuple"), none, (.seq #[(.str (Str.ofString "code") 386)] 0), #[]⟩
noncomputable def o_116 (P : Params) : Obj := ⟨(.type "tuple"), none, (.seq #[] 0), #[]⟩
noncomputable def o_117 (P : Params) : Obj := ⟨.none, none, (.func { name := (Str.ofString "in_table_b1"), qualname := (Str.ofString "in_table_b1"), params := stmArgs (stm 8), body := .stmts (stmBody (stm 8)), scope := stmScope (stm 8), globals := 0, closure := [], defaults := .none, kwdefaults := .none, doc := .none, pyModule := .none, annotations := none, code := .none, closureTuple := .none, builtins := 0 }), #[]⟩
noncomputable def o_118 (P : Params) : Obj := ⟨(.type "code"), none, (.fields #[(.str (Str.ofString "in_table_b1") 383), (.str (Str.ofString "in_table_b1") 384), (.str (Str.ofString "/claim/cut.py") 385), (.int 86 0), (.int 1 0), (.int 0 0), (.int 0 0), (.int 3 0), (.ref 113), (.bool true), (.int 181 0), (.ref 114), .none, (.ref 115), (.ref 116), (.ref 117), (.int 387 0), (.int 86 0), (.str (Str.ofString "/claim/cut.py") 388)]), #[]⟩
noncomputable def o_119 (P : Params) : Obj := ⟨(.type "function"), none, (.func { name := (Str.ofString "in_table_b1"), qualname := (Str.ofString "in_table_b1"), params := stmArgs (stm 8), body := .stmts (stmBody (stm 8)), scope := stmScope (stm 8), globals := 3, closure := [], defaults := .none, kwdefaults := .none, doc := .none, pyModule := (.str (Str.ofString "cpy313.stringprep") 321), annotations := none, code := (.ref 118), closureTuple := .none, builtins := 0 }), #[]⟩
noncomputable def o_120 (P : Params) : Obj := ⟨(.type "list"), none, (.seq #[(.int 832 390), (.int 833 391), (.int 8206 392), (.int 8207 393)] 0), #[]⟩
noncomputable def o_121 (P : Params) : Obj := ⟨(.type "range"), none, (.fields #[(.int 8234 394), (.int 8239 395), (.int 1 396)]), #[]⟩
noncomputable def o_122 (P : Params) : Obj := ⟨(.type "list"), none, (.seq #[(.int 8234 399), (.int 8235 400), (.int 8236 401), (.int 8237 402), (.int 8238 403)] 7), #[]⟩
noncomputable def o_123 (P : Params) : Obj := ⟨(.type "range_iterator"), none, (.fields #[(.int 8239 0), (.int 0 0), (.int 1 0)]), #[]⟩
noncomputable def o_124 (P : Params) : Obj := ⟨(.type "tuple"), none, (.seq #[] 0), #[]⟩
noncomputable def o_125 (P : Params) : Obj := ⟨(.type "StopIteration"), none, (.fields #[(.ref 124), .none, .none, .none, (.bool false), .none]), #[]⟩
noncomputable def o_126 (P : Params) : Obj := ⟨(.type "list"), none, (.seq #[(.int 832 390), (.int 833 391), (.int 8206 392), (.int 8207 393), (.int 8234 399), (.int 8235 400), (.int 8236 401), (.int 8237 402), (.int 8238 403)] 0), #[]⟩
noncomputable def o_127 (P : Params) : Obj := ⟨(.type "range"), none, (.fields #[(.int 8298 404), (.int 8304 405), (.int 1 406)]), #[]⟩
noncomputable def o_128 (P : Params) : Obj := ⟨(.type "list"), none, (.seq #[(.int 8298 409), (.int 8299 410), (.int 8300 411), (.int 8301 412), (.int 8302 413), (.int 8303 414)] 8), #[]⟩
noncomputable def o_129 (P : Params) : Obj := ⟨(.type "range_iterator"), none, (.fields #[(.int 8304 0), (.int 0 0), (.int 1 0)]), #[]⟩
noncomputable def o_130 (P : Params) : Obj := ⟨(.type "tuple"), none, (.seq #[] 0), #[]⟩
noncomputable def o_131 (P : Params) : Obj := ⟨(.type "StopIteration"), none, (.fields #[(.ref 130), .none, .none, .none, (.bool false), .none]), #[]⟩
noncomputable def o_132 (P : Params) : Obj := ⟨(.type "list"), none, (.seq #[(.int 832 390), (.int 833 391), (.int 8206 392), (.int 8207 393), (.int 8234 399), (.int 8235 400), (.int 8236 401), (.int 8237 402), (.int 8238 403), (.int 8298 409), (.int 8299 410), (.int 8300 411), (.int 8301 412), (.int 8302 413), (.int 8303 414)] 0), #[]⟩
noncomputable def o_133 (P : Params) : Obj := ⟨(.type "set"), none, (.set #[(832, (.int 832 390)), (833, (.int 833 391)), (8234, (.int 8234 399)), (8235, (.int 8235 400)), (8236, (.int 8236 401)), (8237, (.int 8237 402)), (8206, (.int 8206 392)), (8207, (.int 8207 393)), (8238, (.int 8238 403)), (8298, (.int 8298 409)), (8299, (.int 8299 410)), (8300, (.int 8300 411)), (8301, (.int 8301 412)), (8302, (.int 8302 413)), (8303, (.int 8303 414))] 16 { mask := 31, place := #[0, 1, 10, 11, 12, 13, 14, 15, 16, 17, 18, 19, 20, 21, 22], dummies := #[], finger := 0, led := !P.followText "set-order", moves := 1, plain := true }), #[]⟩
noncomputable def o_134 (P : Params) : Obj := ⟨(.type "list_iterator"), none, (.fields #[.none, (.int 15 0)]), #[]⟩
noncomputable def o_135 (P : Params) : Obj := ⟨(.type "tuple"), none, (.seq #[] 0), #[]⟩
noncomputable def o_136 (P : Params) : Obj := ⟨(.type "StopIteration"), none, (.fields #[(.ref 135), .none, .none, .none, (.bool false), .none]), #[]⟩
noncomputable def tree_c10 (P : Params) : BT := (.node (boot_o_0 P) (.node (boot_o_1 P) (.node (o_3_c10 P) (.node (boot_o_7 P) (.node (o_15 P) (.node (o_31 P) (.node (o_63 P) (.node (o_127 P) .nil .nil) .nil) (.node (o_95 P) .nil .nil)) (.node (o_47 P) (.node (o_79 P) .nil .nil) (.node (o_111 P) .nil .nil))) (.node (o_23 P) (.node (o_39 P) (.node (o_71 P) (.node (o_135 P) .nil .nil) .nil) (.node (o_103 P) .nil .nil)) (.node (o_55 P) (.node (o_87 P) .nil .nil) (.node (o_119 P) .nil .nil)))) (.node (o_11 P) (.node (o_19 P) (.node (o_35 P) (.node (o_67 P) (.node (o_131 P) .nil .nil) .nil) (.node (o_99 P) .nil .nil)) (.node (o_51 P) (.node (o_83 P) .nil .nil) (.node (o_115 P) .nil .nil))) (.node (o_27 P) (.node (o_43 P) (.node (o_75 P) .nil .nil) (.node (o_107 P) .nil .nil)) (.node (o_59 P) (.node (o_91 P) .nil .nil) (.node (o_123 P) .nil .nil))))) (.node (boot_o_5 P) (.node (boot_o_9 P) (.node (o_17 P) (.node (o_33 P) (.node (o_65 P) (.node (o_129 P) .nil .nil) .nil) (.node (o_97 P) .nil .nil)) (.node (o_49 P) (.node (o_81 P) .nil .nil) (.node (o_113 P) .nil .nil))) (.node (o_25 P) (.node (o_41 P) (.node (o_73 P) .nil .nil) (.node (o_105 P) .nil .nil)) (.node (o_57 P) (.node (o_89 P) .nil .nil) (.node (o_121 P) .nil .nil)))) (.node (o_13 P) (.node (o_21 P) (.node (o_37 P) (.node (o_69 P) (.node (o_133 P) .nil .nil) .nil) (.node (o_101 P) .nil .nil)) (.node (o_53 P) (.node (o_85 P) .nil .nil) (.node (o_117 P) .nil .nil))) (.node (o_29 P) (.node (o_45 P) (.node (o_77 P) .nil .nil) (.node (o_109 P) .nil .nil)) (.node (o_61 P) (.node (o_93 P) .nil .nil) (.node (o_125 P) .nil .nil)))))) (.node (boot_o_2 P) (.node (boot_o_4 P) (.node (boot_o_8 P) (.node (o_16 P) (.node (o_32 P) (.node (o_64 P) (.node (o_128 P) .nil .nil) .nil) (.node (o_96 P) .nil .nil)) (.node (o_48 P) (.node (o_80 P) .nil .nil) (.node (o_112 P) .nil .nil))) (.node (o_24 P) (.node (o_40 P) (.node (o_72 P) (.node (o_136 P) .nil .nil) .nil) (.node (o_104 P) .nil .nil)) (.node (o_56 P) (.node (o_88 P) .nil .nil) (.node (o_120 P) .nil .nil)))) (.node (o_12_c10 P) (.node (o_20 P) (.node (o_36 P) (.node (o_68 P) (.node (o_132 P) .nil .nil) .nil) (.node (o_100 P) .nil .nil)) (.node (o_52 P) (.node (o_84 P) .nil .nil) (.node (o_116 P) .nil .nil))) (.node (o_28 P) (.node (o_44 P) (.node (o_76 P) .nil .nil) (.node (o_108 P) .nil .nil)) (.node (o_60 P) (.node (o_92 P) .nil .nil) (.node (o_124 P) .nil .nil))))) (.node (boot_o_6 P) (.node (boot_o_10 P) (.node (o_18 P) (.node (o_34 P) (.node (o_66 P) (.node (o_130 P) .nil .nil) .nil) (.node (o_98 P) .nil .nil)) (.node (o_50 P) (.node (o_82 P) .nil .nil) (.node (o_114 P) .nil .nil))) (.node (o_26 P) (.node (o_42 P) (.node (o_74 P) .nil .nil) (.node (o_106 P) .nil .nil)) (.node (o_58 P) (.node (o_90 P) .nil .nil) (.node (o_122 P) .nil .nil)))) (.node (o_14 P) (.node (o_22 P) (.node (o_38 P) (.node (o_70 P) (.node (o_134 P) .nil .nil) .nil) (.node (o_102 P) .nil .nil)) (.node (o_54 P) (.node (o_86 P) .nil .nil) (.node (o_118 P) .nil .nil))) (.node (o_30 P) (.node (o_46 P) (.node (o_78 P) .nil .nil) (.node (o_110 P) .nil .nil)) (.node (o_62 P) (.node (o_94 P) .nil .nil) (.node (o_126 P) .nil .nil)))))))
noncomputable def o_3_c61 (P : Params) : Obj := ⟨(.type "dict"), none, (.dict #[⟨PyData.keyHash P (Str.ofString "__name__"), (.str (Str.ofString "__name__") 165), (.str (Str.ofString "cpy313.token") 438)⟩, ⟨PyData.keyHash P (Str.ofString "__doc__"), (.str (Str.ofString "__doc__") 166), .none⟩, ⟨PyData.keyHash P (Str.ofString "__package__"), (.str (Str.ofString "__package__") 167), .none⟩, ⟨PyData.keyHash P (Str.ofString "__loader__"), (.str (Str.ofString "__loader__") 168), (.builtin "__main__.__loader__#opaque")⟩, ⟨PyData.keyHash P (Str.ofString "__spec__"), (.str (Str.ofString "__spec__") 169), .none⟩, ⟨PyData.keyHash P (Str.ofString "__annotations__"), (.str (Str.ofString "__annotations__") 170), (.ref 6)⟩, ⟨PyData.keyHash P (Str.ofString "__builtins__"), (.str (Str.ofString "__builtins__") 171), (.ref 4)⟩, ⟨PyData.keyHash P (Str.ofString "__file__"), (.str (Str.ofString "__file__") 173), (.str (Str.ofString "/claim/cut.py") 172)⟩, ⟨PyData.keyHash P (Str.ofString "__cached__"), (.str (Str.ofString "__cached__") 174), .none⟩, ⟨PyData.keyHash P (Str.ofString "_wall"), (.str (Str.ofString "_wall") 193), (.ref 21)⟩, ⟨PyData.keyHash P (Str.ofString "Whitespace"), (.str (Str.ofString "Whitespace") 296), (.ref 83)⟩, ⟨PyData.keyHash P (Str.ofString "_int2digits"), (.str (Str.ofString "_int2digits") 309), (.ref 94)⟩, ⟨PyData.keyHash P (Str.ofString "_digits2int"), (.str (Str.ofString "_digits2int") 320), (.ref 101)⟩, ⟨PyData.keyHash P (Str.ofString "b1_set"), (.str (Str.ofString "b1_set") 382), (.ref 109)⟩, ⟨PyData.keyHash P (Str.ofString "in_table_b1"), (.str (Str.ofString "in_table_b1") 389), (.ref 119)⟩, ⟨PyData.keyHash P (Str.ofString "c8_set"), (.str (Str.ofString "c8_set") 430), (.ref 133)⟩, ⟨PyData.keyHash P (Str.ofString "in_table_c8"), (.str (Str.ofString "in_table_c8") 437), (.ref 143)⟩, ⟨PyData.keyHash P (Str.ofString "ENDMARKER"), (.str (Str.ofString "ENDMARKER") 441), (.int 0 440)⟩, ⟨PyData.keyHash P (Str.ofString "LPAR"), (.str (Str.ofString "LPAR") 443), (.int 7 442)⟩, ⟨PyData.keyHash P (Str.ofString "RPAR"), (.str (Str.ofString "RPAR") 445), (.int 8 444)⟩, ⟨PyData.keyHash P (Str.ofString "LSQB"), (.str (Str.ofString "LSQB") 447), (.int 9 446)⟩, ⟨PyData.keyHash P (Str.ofString "RSQB"), (.str (Str.ofString "RSQB") 449), (.int 10 448)⟩, ⟨PyData.keyHash P (Str.ofString "COLON"), (.str (Str.ofString "COLON") 451), (.int 11 450)⟩, ⟨PyData.keyHash P (Str.ofString "COMMA"), (.str (Str.ofString "COMMA") 453), (.int 12 452)⟩, ⟨PyData.keyHash P (Str.ofString "SEMI"), (.str (Str.ofString "SEMI") 455), (.int 13 454)⟩, ⟨PyData.keyHash P (Str.ofString "PLUS"), (.str (Str.ofString "PLUS") 457), (.int 14 456)⟩, ⟨PyData.keyHash P (Str.ofString "MINUS"), (.str (Str.ofString "MINUS") 459), (.int 15 458)⟩, ⟨PyData.keyHash P (Str.ofString "STAR"), (.str (Str.ofString "STAR") 461), (.int 16 460)⟩, ⟨PyData.keyHash P (Str.ofString "SLASH"), (.str (Str.ofString "SLASH") 463), (.int 17 462)⟩, ⟨PyData.keyHash P (Str.ofString "VBAR"), (.str (Str.ofString "VBAR") 465), (.int 18 464)⟩, ⟨PyData.keyHash P (Str.ofString "AMPER"), (.str (Str.ofString "AMPER") 467), (.int 19 466)⟩, ⟨PyData.keyHash P (Str.ofString "LESS"), (.str (Str.ofString "LESS") 469), (.int 20 468)⟩, ⟨PyData.keyHash P (Str.ofString "GREATER"), (.str (Str.ofString "GREATER") 471), (.int 21 470)⟩, ⟨PyData.keyHash P (Str.ofString "EQUAL"), (.str (Str.ofString "EQUAL") 473), (.int 22 472)⟩, ⟨PyData.keyHash P (Str.ofString "DOT"), (.str (Str.ofString "DOT") 475), (.int 23 474)⟩, ⟨PyData.keyHash P (Str.ofString "PERCENT"), (.str (Str.ofString "PERCENT") 477), (.int 24 476)⟩, ⟨PyData.keyHash P (Str.ofString "LBRACE"), (.str (Str.ofString "LBRACE") 479), (.int 25 478)⟩, ⟨PyData.keyHash P (Str.ofString "RBRACE"), (.str (Str.ofString "RBRACE") 481), (.int 26 480)⟩, ⟨PyData.keyHash P (Str.ofString "EQEQUAL"), (.str (Str.ofString "EQEQUAL") 483), (.int 27 482)⟩, ⟨PyData.keyHash P (Str.ofString "NOTEQUAL"), (.str (Str.ofString "NOTEQUAL") 485), (.int 28 484)⟩, ⟨PyData.keyHash P (Str.ofString "LESSEQUAL"), (.str (Str.ofString "LESSEQUAL") 487), (.int 29 486)⟩, ⟨PyData.keyHash P (Str.ofString "GREATEREQUAL"), (.str (Str.ofString "GREATEREQUAL") 489), (.int 30 488)⟩, ⟨PyData.keyHash P (Str.ofString "TILDE"), (.str (Str.ofString "TILDE") 491), (.int 31 490)⟩, ⟨PyData.keyHash P (Str.ofString "CIRCUMFLEX"), (.str (Str.ofString "CIRCUMFLEX") 493), (.int 32 492)⟩, ⟨PyData.keyHash P (Str.ofString "LEFTSHIFT"), (.str (Str.ofString "LEFTSHIFT") 495), (.int 33 494)⟩, ⟨PyData.keyHash P (Str.ofString "RIGHTSHIFT"), (.str (Str.ofString "RIGHTSHIFT") 497), (.int 34 496)⟩, ⟨PyData.keyHash P (Str.ofString "DOUBLESTAR"), (.str (Str.ofString "DOUBLESTAR") 499), (.int 35 498)⟩, ⟨PyData.keyHash P (Str.ofString "PLUSEQUAL"), (.str (Str.ofString "PLUSEQUAL") 501), (.int 36 500)⟩, ⟨PyData.keyHash P (Str.ofString "MINEQUAL"), (.str (Str.ofString "MINEQUAL") 503), (.int 37 502)⟩, ⟨PyData.keyHash P (Str.ofString "STAREQUAL"), (.str (Str.ofString "STAREQUAL") 505), (.int 38 504)⟩, ⟨PyData.keyHash P (Str.ofString "SLASHEQUAL"), (.str (Str.ofString "SLASHEQUAL") 507), (.int 39 506)⟩, ⟨PyData.keyHash P (Str.ofString "PERCENTEQUAL"), (.str (Str.ofString "PERCENTEQUAL") 509), (.int 40 508)⟩, ⟨PyData.keyHash P (Str.ofString "AMPEREQUAL"), (.str (Str.ofString "AMPEREQUAL") 511), (.int 41 510)⟩, ⟨PyData.keyHash P (Str.ofString "VBAREQUAL"), (.str (Str.ofString "VBAREQUAL") 513), (.int 42 512)⟩, ⟨PyData.keyHash P (Str.ofString "CIRCUMFLEXEQUAL"), (.str (Str.ofString "CIRCUMFLEXEQUAL") 515), (.int 43 514)⟩, ⟨PyData.keyHash P (Str.ofString "LEFTSHIFTEQUAL"), (.str (Str.ofString "LEFTSHIFTEQUAL") 517), (.int 44 516)⟩, ⟨PyData.keyHash P (Str.ofString "RIGHTSHIFTEQUAL"), (.str (Str.ofString "RIGHTSHIFTEQUAL") 519), (.int 45 518)⟩, ⟨PyData.keyHash P (Str.ofString "DOUBLESTAREQUAL"), (.str (Str.ofString "DOUBLESTAREQUAL") 521), (.int 46 520)⟩, ⟨PyData.keyHash P (Str.ofString "DOUBLESLASH"), (.str (Str.ofString "DOUBLESLASH") 523), (.int 47 522)⟩, ⟨PyData.keyHash P (Str.ofString "DOUBLESLASHEQUAL"), (.str (Str.ofString "DOUBLESLASHEQUAL") 525), (.int 48 524)⟩, ⟨PyData.keyHash P (Str.ofString "AT"), (.str (Str.ofString "AT") 527), (.int 49 526)⟩, ⟨PyData.keyHash P (Str.ofString "ATEQUAL"), (.str (Str.ofString "ATEQUAL") 529), (.int 50 528)⟩, ⟨PyData.keyHash P (Str.ofString "RARROW"), (.str (Str.ofString "RARROW") 531), (.int 51 530)⟩, ⟨PyData.keyHash P (Str.ofString "ELLIPSIS"), (.str (Str.ofString "ELLIPSIS") 533), (.int 52 532)⟩, ⟨PyData.keyHash P (Str.ofString "COLONEQUAL"), (.str (Str.ofString "COLONEQUAL") 535), (.int 53 534)⟩, ⟨PyData.keyHash P (Str.ofString "EXCLAMATION"), (.str (Str.ofString "EXCLAMATION") 537), (.int 54 536)⟩] 66), #[]⟩
noncomputable def o_12_c61 (P : Params) : Obj := ⟨.none, none, (.fields #[(.int 1 0), (.int 0 0), (.ref 20), (.int 5 0), (.int 0 0), (.ref 27), (.int 59 0), (.int 0 0), (.ref 93), (.int 75 0), (.int 0 0), (.ref 100), (.int 86 0), (.int 0 0), (.ref 118), (.int 89 0), (.int 0 0), (.ref 142)]), #[]⟩
noncomputable def o_137 (P : Params) : Obj := ⟨(.type "tuple"), none, (.seq #[] 0), #[]⟩
noncomputable def o_138 (P : Params) : Obj := ⟨.none, none, (.fields #[]), #[]⟩
noncomputable def o_139 (P : Params) : Obj := ⟨(.type "tuple"), none, (.seq #[(.str (Str.ofString "code") 434)] 0), #[]⟩
noncomputable def o_140 (P : Params) : Obj := ⟨(.type "tuple"), none, (.seq #[] 0), #[]⟩
noncomputable def o_141 (P : Params) : Obj := ⟨.none, none, (.func { name := (Str.ofString "in_table_c8"), qualname := (Str.ofString "in_table_c8"), params := stmArgs (stm 10), body := .stmts (stmBody (stm 10)), scope := stmScope (stm 10), globals := 0, closure := [], defaults := .none, kwdefaults := .none, doc := .none, pyModule := .none, annotations := none, code := .none, closureTuple := .none, builtins := 0 }), #[]⟩
noncomputable def o_142 (P : Params) : Obj := ⟨(.type "code"), none, (.fields #[(.str (Str.ofString "in_table_c8") 431), (.str (Str.ofString "in_table_c8") 432), (.str (Str.ofString "/claim/cut.py") 433), (.int 89 0), (.int 1 0), (.int 0 0), (.int 0 0), (.int 3 0), (.ref 137), (.bool true), (.int 181 0), (.ref 138), .none, (.ref 139), (.ref 140), (.ref 141), (.int 435 0), (.int 89 0), (.str (Str.ofString "/claim/cut.py") 436)]), #[]⟩
noncomputable def o_143 (P : Params) : Obj := ⟨(.type "function"), none, (.func { name := (Str.ofString "in_table_c8"), qualname := (Str.ofString "in_table_c8"), params := stmArgs (stm 10), body := .stmts (stmBody (stm 10)), scope := stmScope (stm 10), globals := 3, closure := [], defaults := .none, kwdefaults := .none, doc := .none, pyModule := (.str (Str.ofString "cpy313.stringprep") 321), annotations := none, code := (.ref 142), closureTuple := .none, builtins := 0 }), #[]⟩
noncomputable def tree_c61 (P : Params) : BT := (.node (boot_o_0 P) (.node (boot_o_1 P) (.node (o_3_c61 P) (.node (boot_o_7 P) (.node (o_15 P) (.node (o_31 P) (.node (o_63 P) (.node (o_127 P) .nil .nil) .nil) (.node (o_95 P) .nil .nil)) (.node (o_47 P) (.node (o_79 P) (.node (o_143 P) .nil .nil) .nil) (.node (o_111 P) .nil .nil))) (.node (o_23 P) (.node (o_39 P) (.node (o_71 P) (.node (o_135 P) .nil .nil) .nil) (.node (o_103 P) .nil .nil)) (.node (o_55 P) (.node (o_87 P) .nil .nil) (.node (o_119 P) .nil .nil)))) (.node (o_11 P) (.node (o_19 P) (.node (o_35 P) (.node (o_67 P) (.node (o_131 P) .nil .nil) .nil) (.node (o_99 P) .nil .nil)) (.node (o_51 P) (.node (o_83 P) .nil .nil) (.node (o_115 P) .nil .nil))) (.node (o_27 P) (.node (o_43 P) (.node (o_75 P) (.node (o_139 P) .nil .nil) .nil) (.node (o_107 P) .nil .nil)) (.node (o_59 P) (.node (o_91 P) .nil .nil) (.node (o_123 P) .nil .nil))))) (.node (boot_o_5 P) (.node (boot_o_9 P) (.node (o_17 P) (.node (o_33 P) (.node (o_65 P) (.node (o_129 P) .nil .nil) .nil) (.node (o_97 P) .nil .nil)) (.node (o_49 P) (.node (o_81 P) .nil .nil) (.node (o_113 P) .nil .nil))) (.node (o_25 P) (.node (o_41 P) (.node (o_73 P) (.node (o_137 P) .nil .nil) .nil) (.node (o_105 P) .nil .nil)) (.node (o_57 P) (.node (o_89 P) .nil .nil) (.node (o_121 P) .nil .nil)))) (.node (o_13 P) (.node (o_21 P) (.node (o_37 P) (.node (o_69 P) (.node (o_133 P) .nil .nil) .nil) (.node (o_101 P) .nil .nil)) (.node (o_53 P) (.node (o_85 P) .nil .nil) (.node (o_117 P) .nil .nil))) (.node (o_29 P) (.node (o_45 P) (.node (o_77 P) (.node (o_141 P) .nil .nil) .nil) (.node (o_109 P) .nil .nil)) (.node (o_61 P) (.node (o_93 P) .nil .nil) (.node (o_125 P) .nil .nil)))))) (.node (boot_o_2 P) (.node (boot_o_4 P) (.node (boot_o_8 P) (.node (o_16 P) (.node (o_32 P) (.node (o_64 P) (.node (o_128 P) .nil .nil) .nil) (.node (o_96 P) .nil .nil)) (.node (o_48 P) (.node (o_80 P) .nil .nil) (.node (o_112 P) .nil .nil))) (.node (o_24 P) (.node (o_40 P) (.node (o_72 P) (.node (o_136 P) .nil .nil) .nil) (.node (o_104 P) .nil .nil)) (.node (o_56 P) (.node (o_88 P) .nil .nil) (.node (o_120 P) .nil .nil)))) (.node (o_12_c61 P) (.node (o_20 P) (.node (o_36 P) (.node (o_68 P) (.node (o_132 P) .nil .nil) .nil) (.node (o_100 P) .nil .nil)) (.node (o_52 P) (.node (o_84 P) .nil .nil) (.node (o_116 P) .nil .nil))) (.node (o_28 P) (.node (o_44 P) (.node (o_76 P) (.node (o_140 P) .nil .nil) .nil) (.node (o_108 P) .nil .nil)) (.node (o_60 P) (.node (o_92 P) .nil .nil) (.node (o_124 P) .nil .nil))))) (.node (boot_o_6 P) (.node (boot_o_10 P) (.node (o_18 P) (.node (o_34 P) (.node (o_66 P) (.node (o_130 P) .nil .nil) .nil) (.node (o_98 P) .nil .nil)) (.node (o_50 P) (.node (o_82 P) .nil .nil) (.node (o_114 P) .nil .nil))) (.node (o_26 P) (.node (o_42 P) (.node (o_74 P) (.node (o_138 P) .nil .nil) .nil) (.node (o_106 P) .nil .nil)) (.node (o_58 P) (.node (o_90 P) .nil .nil) (.node (o_122 P) .nil .nil)))) (.node (o_14 P) (.node (o_22 P) (.node (o_38 P) (.node (o_70 P) (.node (o_134 P) .nil .nil) .nil) (.node (o_102 P) .nil .nil)) (.node (o_54 P) (.node (o_86 P) .nil .nil) (.node (o_118 P) .nil .nil))) (.node (o_30 P) (.node (o_46 P) (.node (o_78 P) (.node (o_142 P) .nil .nil) .nil) (.node (o_110 P) .nil .nil)) (.node (o_62 P) (.node (o_94 P) .nil .nil) (.node (o_126 P) .nil .nil)))))))
noncomputable def o_3_c62 (P : Params) : Obj := ⟨(.type "dict"), none, (.dict #[⟨PyData.keyHash P (Str.ofString "__name__"), (.str (Str.ofString "__name__") 165), (.str (Str.ofString "cpy313.token") 438)⟩, ⟨PyData.keyHash P (Str.ofString "__doc__"), (.str (Str.ofString "__doc__") 166), .none⟩, ⟨PyData.keyHash P (Str.ofString "__package__"), (.str (Str.ofString "__package__") 167), .none⟩, ⟨PyData.keyHash P (Str.ofString "__loader__"), (.str (Str.ofString "__loader__") 168), (.builtin "__main__.__loader__#opaque")⟩, ⟨PyData.keyHash P (Str.ofString "__spec__"), (.str (Str.ofString "__spec__") 169), .none⟩, ⟨PyData.keyHash P (Str.ofString "__annotations__"), (.str (Str.ofString "__annotations__") 170), (.ref 6)⟩, ⟨PyData.keyHash P (Str.ofString "__builtins__"), (.str (Str.ofString "__builtins__") 171), (.ref 4)⟩, ⟨PyData.keyHash P (Str.ofString "__file__"), (.str (Str.ofString "__file__") 173), (.str (Str.ofString "/claim/cut.py") 172)⟩, ⟨PyData.keyHash P (Str.ofString "__cached__"), (.str (Str.ofString "__cached__") 174), .none⟩, ⟨PyData.keyHash P (Str.ofString "_wall"), (.str (Str.ofString "_wall") 193), (.ref 21)⟩, ⟨PyData.keyHash P (Str.ofString "Whitespace"), (.str (Str.ofString "Whitespace") 296), (.ref 83)⟩, ⟨PyData.keyHash P (Str.ofString "_int2digits"), (.str (Str.ofString "_int2digits") 309), (.ref 94)⟩, ⟨PyData.keyHash P (Str.ofString "_digits2int"), (.str (Str.ofString "_digits2int") 320), (.ref 101)⟩, ⟨PyData.keyHash P (Str.ofString "b1_set"), (.str (Str.ofString "b1_set") 382), (.ref 109)⟩, ⟨PyData.keyHash P (Str.ofString "in_table_b1"), (.str (Str.ofString "in_table_b1") 389), (.ref 119)⟩, ⟨PyData.keyHash P (Str.ofString "c8_set"), (.str (Str.ofString "c8_set") 430), (.ref 133)⟩, ⟨PyData.keyHash P (Str.ofString "in_table_c8"), (.str (Str.ofString "in_table_c8") 437), (.ref 143)⟩, ⟨PyData.keyHash P (Str.ofString "ENDMARKER"), (.str (Str.ofString "ENDMARKER") 441), (.int 0 440)⟩, ⟨PyData.keyHash P (Str.ofString "LPAR"), (.str (Str.ofString "LPAR") 443), (.int 7 442)⟩, ⟨PyData.keyHash P (Str.ofString "RPAR"), (.str (Str.ofString "RPAR") 445), (.int 8 444)⟩, ⟨PyData.keyHash P (Str.ofString "LSQB"), (.str (Str.ofString "LSQB") 447), (.int 9 446)⟩, ⟨PyData.keyHash P (Str.ofString "RSQB"), (.str (Str.ofString "RSQB") 449), (.int 10 448)⟩, ⟨PyData.keyHash P (Str.ofString "COLON"), (.str (Str.ofString "COLON") 451), (.int 11 450)⟩, ⟨PyData.keyHash P (Str.ofString "COMMA"), (.str (Str.ofString "COMMA") 453), (.int 12 452)⟩, ⟨PyData.keyHash P (Str.ofString "SEMI"), (.str (Str.ofString "SEMI") 455), (.int 13 454)⟩, ⟨PyData.keyHash P (Str.ofString "PLUS"), (.str (Str.ofString "PLUS") 457), (.int 14 456)⟩, ⟨PyData.keyHash P (Str.ofString "MINUS"), (.str (Str.ofString "MINUS") 459), (.int 15 458)⟩, ⟨PyData.keyHash P (Str.ofString "STAR"), (.str (Str.ofString "STAR") 461), (.int 16 460)⟩, ⟨PyData.keyHash P (Str.ofString "SLASH"), (.str (Str.ofString "SLASH") 463), (.int 17 462)⟩, ⟨PyData.keyHash P (Str.ofString "VBAR"), (.str (Str.ofString "VBAR") 465), (.int 18 464)⟩, ⟨PyData.keyHash P (Str.ofString "AMPER"), (.str (Str.ofString "AMPER") 467), (.int 19 466)⟩, ⟨PyData.keyHash P (Str.ofString "LESS"), (.str (Str.ofString "LESS") 469), (.int 20 468)⟩, ⟨PyData.keyHash P (Str.ofString "GREATER"), (.str (Str.ofString "GREATER") 471), (.int 21 470)⟩, ⟨PyData.keyHash P (Str.ofString "EQUAL"), (.str (Str.ofString "EQUAL") 473), (.int 22 472)⟩, ⟨PyData.keyHash P (Str.ofString "DOT"), (.str (Str.ofString "DOT") 475), (.int 23 474)⟩, ⟨PyData.keyHash P (Str.ofString "PERCENT"), (.str (Str.ofString "PERCENT") 477), (.int 24 476)⟩, ⟨PyData.keyHash P (Str.ofString "LBRACE"), (.str (Str.ofString "LBRACE") 479), (.int 25 478)⟩, ⟨PyData.keyHash P (Str.ofString "RBRACE"), (.str (Str.ofString "RBRACE") 481), (.int 26 480)⟩, ⟨PyData.keyHash P (Str.ofString "EQEQUAL"), (.str (Str.ofString "EQEQUAL") 483), (.int 27 482)⟩, ⟨PyData.keyHash P (Str.ofString "NOTEQUAL"), (.str (Str.ofString "NOTEQUAL") 485), (.int 28 484)⟩, ⟨PyData.keyHash P (Str.ofString "LESSEQUAL"), (.str (Str.ofString "LESSEQUAL") 487), (.int 29 486)⟩, ⟨PyData.keyHash P (Str.ofString "GREATEREQUAL"), (.str (Str.ofString "GREATEREQUAL") 489), (.int 30 488)⟩, ⟨PyData.keyHash P (Str.ofString "TILDE"), (.str (Str.ofString "TILDE") 491), (.int 31 490)⟩, ⟨PyData.keyHash P (Str.ofString "CIRCUMFLEX"), (.str (Str.ofString "CIRCUMFLEX") 493), (.int 32 492)⟩, ⟨PyData.keyHash P (Str.ofString "LEFTSHIFT"), (.str (Str.ofString "LEFTSHIFT") 495), (.int 33 494)⟩, ⟨PyData.keyHash P (Str.ofString "RIGHTSHIFT"), (.str (Str.ofString "RIGHTSHIFT") 497), (.int 34 496)⟩, ⟨PyData.keyHash P (Str.ofString "DOUBLESTAR"), (.str (Str.ofString "DOUBLESTAR") 499), (.int 35 498)⟩, ⟨PyData.keyHash P (Str.ofString "PLUSEQUAL"), (.str (Str.ofString "PLUSEQUAL") 501), (.int 36 500)⟩, ⟨PyData.keyHash P (Str.ofString "MINEQUAL"), (.str (Str.ofString "MINEQUAL") 503), (.int 37 502)⟩, ⟨PyData.keyHash P (Str.ofString "STAREQUAL"), (.str (Str.ofString "STAREQUAL") 505), (.int 38 504)⟩, ⟨PyData.keyHash P (Str.ofString "SLASHEQUAL"), (.str (Str.ofString "SLASHEQUAL") 507), (.int 39 506)⟩, ⟨PyData.keyHash P (Str.ofString "PERCENTEQUAL"), (.str (Str.ofString "PERCENTEQUAL") 509), (.int 40 508)⟩, ⟨PyData.keyHash P (Str.ofString "AMPEREQUAL"), (.str (Str.ofString "AMPEREQUAL") 511), (.int 41 510)⟩, ⟨PyData.keyHash P (Str.ofString "VBAREQUAL"), (.str (Str.ofString "VBAREQUAL") 513), (.int 42 512)⟩, ⟨PyData.keyHash P (Str.ofString "CIRCUMFLEXEQUAL"), (.str (Str.ofString "CIRCUMFLEXEQUAL") 515), (.int 43 514)⟩, ⟨PyData.keyHash P (Str.ofString "LEFTSHIFTEQUAL"), (.str (Str.ofString "LEFTSHIFTEQUAL") 517), (.int 44 516)⟩, ⟨PyData.keyHash P (Str.ofString "RIGHTSHIFTEQUAL"), (.str (Str.ofString "RIGHTSHIFTEQUAL") 519), (.int 45 518)⟩, ⟨PyData.keyHash P (Str.ofString "DOUBLESTAREQUAL"), (.str (Str.ofString "DOUBLESTAREQUAL") 521), (.int 46 520)⟩, ⟨PyData.keyHash P (Str.ofString "DOUBLESLASH"), (.str (Str.ofString "DOUBLESLASH") 523), (.int 47 522)⟩, ⟨PyData.keyHash P (Str.ofString "DOUBLESLASHEQUAL"), (.str (Str.ofString "DOUBLESLASHEQUAL") 525), (.int 48 524)⟩, ⟨PyData.keyHash P (Str.ofString "AT"), (.str (Str.ofString "AT") 527), (.int 49 526)⟩, ⟨PyData.keyHash P (Str.ofString "ATEQUAL"), (.str (Str.ofString "ATEQUAL") 529), (.int 50 528)⟩, ⟨PyData.keyHash P (Str.ofString "RARROW"), (.str (Str.ofString "RARROW") 531), (.int 51 530)⟩, ⟨PyData.keyHash P (Str.ofString "ELLIPSIS"), (.str (Str.ofString "ELLIPSIS") 533), (.int 52 532)⟩, ⟨PyData.keyHash P (Str.ofString "COLONEQUAL"), (.str (Str.ofString "COLONEQUAL") 535), (.int 53 534)⟩, ⟨PyData.keyHash P (Str.ofString "EXCLAMATION"), (.str (Str.ofString "EXCLAMATION") 537), (.int 54 536)⟩, ⟨PyData.keyHash P (Str.ofString "EXACT_TOKEN_TYPES"), (.str (Str.ofString "EXACT_TOKEN_TYPES") 634), (.ref 144)⟩] 67), #[]⟩
noncomputable def o_144 (P : Params) : Obj := ⟨(.type "dict"), none, (.dict #[⟨PyData.keyHash P (Str.ofString "!"), (.str (Str.ofString "!") 538), (.int 54 536)⟩, ⟨PyData.keyHash P (Str.ofString "!="), (.str (Str.ofString "!=") 540), (.int 28 484)⟩, ⟨PyData.keyHash P (Str.ofString "%"), (.str (Str.ofString "%") 542), (.int 24 476)⟩, ⟨PyData.keyHash P (Str.ofString "%="), (.str (Str.ofString "%=") 544), (.int 40 508)⟩, ⟨PyData.keyHash P (Str.ofString "&"), (.str (Str.ofString "&") 546), (.int 19 466)⟩, ⟨PyData.keyHash P (Str.ofString "&="), (.str (Str.ofString "&=") 548), (.int 41 510)⟩, ⟨PyData.keyHash P (Str.ofString "("), (.str (Str.ofString "(") 550), (.int 7 442)⟩, ⟨PyData.keyHash P (Str.ofString ")"), (.str (Str.ofString ")") 552), (.int 8 444)⟩, ⟨PyData.keyHash P (Str.ofString "*"), (.str (Str.ofString "*") 554), (.int 16 460)⟩, ⟨PyData.keyHash P (Str.ofString "**"), (.str (Str.ofString "**") 556), (.int 35 498)⟩, ⟨PyData.keyHash P (Str.ofString "**="), (.str (Str.ofString "**=") 558), (.int 46 520)⟩, ⟨PyData.keyHash P (Str.ofString "*="), (.str (Str.ofString "*=") 560), (.int 38 504)⟩, ⟨PyData.keyHash P (Str.ofString "+"), (.str (Str.ofString "+") 562), (.int 14 456)⟩, ⟨PyData.keyHash P (Str.ofString "+="), (.str (Str.ofString "+=") 564), (.int 36 500)⟩, ⟨PyData.keyHash P (Str.ofString ","), (.str (Str.ofString ",") 566), (.int 12 452)⟩, ⟨PyData.keyHash P (Str.ofString "-"), (.str (Str.ofString "-") 568), (.int 15 458)⟩, ⟨PyData.keyHash P (Str.ofString "-="), (.str (Str.ofString "-=") 570), (.int 37 502)⟩, ⟨PyData.keyHash P (Str.ofString "->"), (.str (Str.ofString "->") 572), (.int 51 530)⟩, ⟨PyData.keyHash P (Str.ofString "."), (.str (Str.ofString ".") 574), (.int 23 474)⟩, ⟨PyData.keyHash P (Str.ofString "..."), (.str (Str.ofString "...") 576), (.int 52 532)⟩, ⟨PyData.keyHash P (Str.ofString "/"), (.str (Str.ofString "/") 578), (.int 17 462)⟩, ⟨PyData.keyHash P (Str.ofString "//"), (.str (Str.ofString "//") 580), (.int 47 522)⟩, ⟨PyData.keyHash P (Str.ofString "//="), (.str (Str.ofString "//=") 582), (.int 48 524)⟩, ⟨PyData.keyHash P (Str.ofString "/="), (.str (Str.ofString "/=") 584), (.int 39 506)⟩, ⟨PyData.keyHash P (Str.ofString ":"), (.str (Str.ofString ":") 586), (.int 11 450)⟩, ⟨PyData.keyHash P (Str.ofString ":="), (.str (Str.ofString ":=") 588), (.int 53 534)⟩, ⟨PyData.keyHash P (Str.ofString ";"), (.str (Str.ofString ";") 590), (.int 13 454)⟩, ⟨PyData.keyHash P (Str.ofString "<"), (.str (Str.ofString "<") 592), (.int 20 468)⟩, ⟨PyData.keyHash P (Str.ofString "<<"), (.str (Str.ofString "<<") 594), (.int 33 494)⟩, ⟨PyData.keyHash P (Str.ofString "<<="), (.str (Str.ofString "<<=") 596), (.int 44 516)⟩, ⟨PyData.keyHash P (Str.ofString "<="), (.str (Str.ofString "<=") 598), (.int 29 486)⟩, ⟨PyData.keyHash P (Str.ofString "="), (.str (Str.ofString "=") 600), (.int 22 472)⟩, ⟨PyData.keyHash P (Str.ofString "=="), (.str (Str.ofString "==") 602), (.int 27 482)⟩, ⟨PyData.keyHash P (Str.ofString ">"), (.str (Str.ofString ">") 604), (.int 21 470)⟩, ⟨PyData.keyHash P (Str.ofString ">="), (.str (Str.ofString ">=") 606), (.int 30 488)⟩, ⟨PyData.keyHash P (Str.ofString ">>"), (.str (Str.ofString ">>") 607), (.int 34 496)⟩, ⟨PyData.keyHash P (Str.ofString ">>="), (.str (Str.ofString ">>=") 608), (.int 45 518)⟩, ⟨PyData.keyHash P (Str.ofString "@"), (.str (Str.ofString "@") 609), (.int 49 526)⟩, ⟨PyData.keyHash P (Str.ofString "@="), (.str (Str.ofString "@=") 610), (.int 50 528)⟩, ⟨PyData.keyHash P (Str.ofString "["), (.str (Str.ofString "[") 611), (.int 9 446)⟩, ⟨PyData.keyHash P (Str.ofString "]"), (.str (Str.ofString "]") 612), (.int 10 448)⟩, ⟨PyData.keyHash P (Str.ofString "^"), (.str (Str.ofString "^") 613), (.int 32 492)⟩, ⟨PyData.keyHash P (Str.ofString "^="), (.str (Str.ofString "^=") 614), (.int 43 514)⟩, ⟨PyData.keyHash P (Str.ofString "{"), (.str (Str.ofString "{") 615), (.int 25 478)⟩, ⟨PyData.keyHash P (Str.ofString "|"), (.str (Str.ofString "|") 616), (.int 18 464)⟩, ⟨PyData.keyHash P (Str.ofString "|="), (.str (Str.ofString "|=") 617), (.int 42 512)⟩, ⟨PyData.keyHash P (Str.ofString "}"), (.str (Str.ofString "}") 618), (.int 26 480)⟩, ⟨PyData.keyHash P (Str.ofString "~"), (.str (Str.ofString "~") 619), (.int 31 490)⟩] 48), #[]⟩
noncomputable def o_145 (P : Params) : Obj := ⟨(.type "dict"), none, (.dict #[⟨PyData.keyHash P (Str.ofString "->"), (.str (Str.ofString "->") 572), (.int 51 530)⟩, ⟨PyData.keyHash P (Str.ofString "."), (.str (Str.ofString ".") 574), (.int 23 474)⟩, ⟨PyData.keyHash P (Str.ofString "..."), (.str (Str.ofString "...") 576), (.int 52 532)⟩, ⟨PyData.keyHash P (Str.ofString "/"), (.str (Str.ofString "/") 578), (.int 17 462)⟩, ⟨PyData.keyHash P (Str.ofString "//"), (.str (Str.ofString "//") 580), (.int 47 522)⟩, ⟨PyData.keyHash P (Str.ofString "//="), (.str (Str.ofString "//=") 582), (.int 48 524)⟩, ⟨PyData.keyHash P (Str.ofString "/="), (.str (Str.ofString "/=") 584), (.int 39 506)⟩, ⟨PyData.keyHash P (Str.ofString ":"), (.str (Str.ofString ":") 586), (.int 11 450)⟩, ⟨PyData.keyHash P (Str.ofString ":="), (.str (Str.ofString ":=") 588), (.int 53 534)⟩, ⟨PyData.keyHash P (Str.ofString ";"), (.str (Str.ofString ";") 590), (.int 13 454)⟩, ⟨PyData.keyHash P (Str.ofString "<"), (.str (Str.ofString "<") 592), (.int 20 468)⟩, ⟨PyData.keyHash P (Str.ofString "<<"), (.str (Str.ofString "<<") 594), (.int 33 494)⟩, ⟨PyData.keyHash P (Str.ofString "<<="), (.str (Str.ofString "<<=") 596), (.int 44 516)⟩, ⟨PyData.keyHash P (Str.ofString "<="), (.str (Str.ofString "<=") 598), (.int 29 486)⟩, ⟨PyData.keyHash P (Str.ofString "="), (.str (Str.ofString "=") 600), (.int 22 472)⟩, ⟨PyData.keyHash P (Str.ofString "=="), (.str (Str.ofString "==") 602), (.int 27 482)⟩, ⟨PyData.keyHash P (Str.ofString ">"), (.str (Str.ofString ">") 604), (.int 21 470)⟩] 17), #[]⟩
noncomputable def o_146 (P : Params) : Obj := ⟨(.type "dict"), none, (.dict #[⟨PyData.keyHash P (Str.ofString ">="), (.str (Str.ofString ">=") 606), (.int 30 488)⟩, ⟨PyData.keyHash P (Str.ofString ">>"), (.str (Str.ofString ">>") 607), (.int 34 496)⟩, ⟨PyData.keyHash P (Str.ofString ">>="), (.str (Str.ofString ">>=") 608), (.int 45 518)⟩, ⟨PyData.keyHash P (Str.ofString "@"), (.str (Str.ofString "@") 609), (.int 49 526)⟩, ⟨PyData.keyHash P (Str.ofString "@="), (.str (Str.ofString "@=") 610), (.int 50 528)⟩, ⟨PyData.keyHash P (Str.ofString "["), (.str (Str.ofString "[") 611), (.int 9 446)⟩, ⟨PyData.keyHash P (Str.ofString "]"), (.str (Str.ofString "]") 612), (.int 10 448)⟩, ⟨PyData.keyHash P (Str.ofString "^"), (.str (Str.ofString "^") 613), (.int 32 492)⟩, ⟨PyData.keyHash P (Str.ofString "^="), (.str (Str.ofString "^=") 614), (.int 43 514)⟩, ⟨PyData.keyHash P (Str.ofString "{"), (.str (Str.ofString "{") 615), (.int 25 478)⟩, ⟨PyData.keyHash P (Str.ofString "|"), (.str (Str.ofString "|") 616), (.int 18 464)⟩, ⟨PyData.keyHash P (Str.ofString "|="), (.str (Str.ofString "|=") 617), (.int 42 512)⟩, ⟨PyData.keyHash P (Str.ofString "}"), (.str (Str.ofString "}") 618), (.int 26 480)⟩, ⟨PyData.keyHash P (Str.ofString "~"), (.str (Str.ofString "~") 619), (.int 31 490)⟩] 14), #[]⟩
noncomputable def tree_c62 (P : Params) : BT := (.node (boot_o_0 P) (.node (boot_o_1 P) (.node (o_3_c62 P) (.node (boot_o_7 P) (.node (o_15 P) (.node (o_31 P) (.node (o_63 P) (.node (o_127 P) .nil .nil) .nil) (.node (o_95 P) .nil .nil)) (.node (o_47 P) (.node (o_79 P) (.node (o_143 P) .nil .nil) .nil) (.node (o_111 P) .nil .nil))) (.node (o_23 P) (.node (o_39 P) (.node (o_71 P) (.node (o_135 P) .nil .nil) .nil) (.node (o_103 P) .nil .nil)) (.node (o_55 P) (.node (o_87 P) .nil .nil) (.node (o_119 P) .nil .nil)))) (.node (o_11 P) (.node (o_19 P) (.node (o_35 P) (.node (o_67 P) (.node (o_131 P) .nil .nil) .nil) (.node (o_99 P) .nil .nil)) (.node (o_51 P) (.node (o_83 P) .nil .nil) (.node (o_115 P) .nil .nil))) (.node (o_27 P) (.node (o_43 P) (.node (o_75 P) (.node (o_139 P) .nil .nil) .nil) (.node (o_107 P) .nil .nil)) (.node (o_59 P) (.node (o_91 P) .nil .nil) (.node (o_123 P) .nil .nil))))) (.node (boot_o_5 P) (.node (boot_o_9 P) (.node (o_17 P) (.node (o_33 P) (.node (o_65 P) (.node (o_129 P) .nil .nil) .nil) (.node (o_97 P) .nil .nil)) (.node (o_49 P) (.node (o_81 P) (.node (o_145 P) .nil .nil) .nil) (.node (o_113 P) .nil .nil))) (.node (o_25 P) (.node (o_41 P) (.node (o_73 P) (.node (o_137 P) .nil .nil) .nil) (.node (o_105 P) .nil .nil)) (.node (o_57 P) (.node (o_89 P) .nil .nil) (.node (o_121 P) .nil .nil)))) (.node (o_13 P) (.node (o_21 P) (.node (o_37 P) (.node (o_69 P) (.node (o_133 P) .nil .nil) .nil) (.node (o_101 P) .nil .nil)) (.node (o_53 P) (.node (o_85 P) .nil .nil) (.node (o_117 P) .nil .nil))) (.node (o_29 P) (.node (o_45 P) (.node (o_77 P) (.node (o_141 P) .nil .nil) .nil) (.node (o_109 P) .nil .nil)) (.node (o_61 P) (.node (o_93 P) .nil .nil) (.node (o_125 P) .nil .nil)))))) (.node (boot_o_2 P) (.node (boot_o_4 P) (.node (boot_o_8 P) (.node (o_16 P) (.node (o_32 P) (.node (o_64 P) (.node (o_128 P) .nil .nil) .nil) (.node (o_96 P) .nil .nil)) (.node (o_48 P) (.node (o_80 P) (.node (o_144 P) .nil .nil) .nil) (.node (o_112 P) .nil .nil))) (.node (o_24 P) (.node (o_40 P) (.node (o_72 P) (.node (o_136 P) .nil .nil) .nil) (.node (o_104 P) .nil .nil)) (.node (o_56 P) (.node (o_88 P) .nil .nil) (.node (o_120 P) .nil .nil)))) (.node (o_12_c61 P) (.node (o_20 P) (.node (o_36 P) (.node (o_68 P) (.node (o_132 P) .nil .nil) .nil) (.node (o_100 P) .nil .nil)) (.node (o_52 P) (.node (o_84 P) .nil .nil) (.node (o_116 P) .nil .nil))) (.node (o_28 P) (.node (o_44 P) (.node (o_76 P) (.node (o_140 P) .nil .nil) .nil) (.node (o_108 P) .nil .nil)) (.node (o_60 P) (.node (o_92 P) .nil .nil) (.node (o_124 P) .nil .nil))))) (.node (boot_o_6 P) (.node (boot_o_10 P) (.node (o_18 P) (.node (o_34 P) (.node (o_66 P) (.node (o_130 P) .nil .nil) .nil) (.node (o_98 P) .nil .nil)) (.node (o_50 P) (.node (o_82 P) (.node (o_146 P) .nil .nil) .nil) (.node (o_114 P) .nil .nil))) (.node (o_26 P) (.node (o_42 P) (.node (o_74 P) (.node (o_138 P) .nil .nil) .nil) (.node (o_106 P) .nil .nil)) (.node (o_58 P) (.node (o_90 P) .nil .nil) (.node (o_122 P) .nil .nil)))) (.node (o_14 P) (.node (o_22 P) (.node (o_38 P) (.node (o_70 P) (.node (o_134 P) .nil .nil) .nil) (.node (o_102 P) .nil .nil)) (.node (o_54 P) (.node (o_86 P) .nil .nil) (.node (o_118 P) .nil .nil))) (.node (o_30 P) (.node (o_46 P) (.node (o_78 P) (.node (o_142 P) .nil .nil) .nil) (.node (o_110 P) .nil .nil)) (.node (o_62 P) (.node (o_94 P) .nil .nil) (.node (o_126 P) .nil .nil)))))))
noncomputable def o_3 (P : Params) : Obj := ⟨(.type "dict"), none, (.dict #[⟨PyData.keyHash P (Str.ofString "__name__"), (.str (Str.ofString "__name__") 165), (.str (Str.ofString "law_to0062_01") 642)⟩, ⟨PyData.keyHash P (Str.ofString "__doc__"), (.str (Str.ofString "__doc__") 166), .none⟩, ⟨PyData.keyHash P (Str.ofString "__package__"), (.str (Str.ofString "__package__") 167), .none⟩, ⟨PyData.keyHash P (Str.ofString "__loader__"), (.str (Str.ofString "__loader__") 168), (.builtin "__main__.__loader__#opaque")⟩, ⟨PyData.keyHash P (Str.ofString "__spec__"), (.str (Str.ofString "__spec__") 169), .none⟩, ⟨PyData.keyHash P (Str.ofString "__annotations__"), (.str (Str.ofString "__annotations__") 170), (.ref 6)⟩, ⟨PyData.keyHash P (Str.ofString "__builtins__"), (.str (Str.ofString "__builtins__") 171), (.ref 4)⟩, ⟨PyData.keyHash P (Str.ofString "__file__"), (.str (Str.ofString "__file__") 173), (.str (Str.ofString "/claim/cut.py") 172)⟩, ⟨PyData.keyHash P (Str.ofString "__cached__"), (.str (Str.ofString "__cached__") 174), .none⟩, ⟨PyData.keyHash P (Str.ofString "_wall"), (.str (Str.ofString "_wall") 193), (.ref 21)⟩, ⟨PyData.keyHash P (Str.ofString "Whitespace"), (.str (Str.ofString "Whitespace") 296), (.ref 83)⟩, ⟨PyData.keyHash P (Str.ofString "_int2digits"), (.str (Str.ofString "_int2digits") 309), (.ref 94)⟩, ⟨PyData.keyHash P (Str.ofString "_digits2int"), (.str (Str.ofString "_digits2int") 320), (.ref 101)⟩, ⟨PyData.keyHash P (Str.ofString "b1_set"), (.str (Str.ofString "b1_set") 382), (.ref 109)⟩, ⟨PyData.keyHash P (Str.ofString "in_table_b1"), (.str (Str.ofString "in_table_b1") 389), (.ref 119)⟩, ⟨PyData.keyHash P (Str.ofString "c8_set"), (.str (Str.ofString "c8_set") 430), (.ref 133)⟩, ⟨PyData.keyHash P (Str.ofString "in_table_c8"), (.str (Str.ofString "in_table_c8") 437), (.ref 143)⟩, ⟨PyData.keyHash P (Str.ofString "ENDMARKER"), (.str (Str.ofString "ENDMARKER") 441), (.int 0 440)⟩, ⟨PyData.keyHash P (Str.ofString "LPAR"), (.str (Str.ofString "LPAR") 443), (.int 7 442)⟩, ⟨PyData.keyHash P (Str.ofString "RPAR"), (.str (Str.ofString "RPAR") 445), (.int 8 444)⟩, ⟨PyData.keyHash P (Str.ofString "LSQB"), (.str (Str.ofString "LSQB") 447), (.int 9 446)⟩, ⟨PyData.keyHash P (Str.ofString "RSQB"), (.str (Str.ofString "RSQB") 449), (.int 10 448)⟩, ⟨PyData.keyHash P (Str.ofString "COLON"), (.str (Str.ofString "COLON") 451), (.int 11 450)⟩, ⟨PyData.keyHash P (Str.ofString "COMMA"), (.str (Str.ofString "COMMA") 453), (.int 12 452)⟩, ⟨PyData.keyHash P (Str.ofString "SEMI"), (.str (Str.ofString "SEMI") 455), (.int 13 454)⟩, ⟨PyData.keyHash P (Str.ofString "PLUS"), (.str (Str.ofString "PLUS") 457), (.int 14 456)⟩, ⟨PyData.keyHash P (Str.ofString "MINUS"), (.str (Str.ofString "MINUS") 459), (.int 15 458)⟩, ⟨PyData.keyHash P (Str.ofString "STAR"), (.str (Str.ofString "STAR") 461), (.int 16 460)⟩, ⟨PyData.keyHash P (Str.ofString "SLASH"), (.str (Str.ofString "SLASH") 463), (.int 17 462)⟩, ⟨PyData.keyHash P (Str.ofString "VBAR"), (.str (Str.ofString "VBAR") 465), (.int 18 464)⟩, ⟨PyData.keyHash P (Str.ofString "AMPER"), (.str (Str.ofString "AMPER") 467), (.int 19 466)⟩, ⟨PyData.keyHash P (Str.ofString "LESS"), (.str (Str.ofString "LESS") 469), (.int 20 468)⟩, ⟨PyData.keyHash P (Str.ofString "GREATER"), (.str (Str.ofString "GREATER") 471), (.int 21 470)⟩, ⟨PyData.keyHash P (Str.ofString "EQUAL"), (.str (Str.ofString "EQUAL") 473), (.int 22 472)⟩, ⟨PyData.keyHash P (Str.ofString "DOT"), (.str (Str.ofString "DOT") 475), (.int 23 474)⟩, ⟨PyData.keyHash P (Str.ofString "PERCENT"), (.str (Str.ofString "PERCENT") 477), (.int 24 476)⟩, ⟨PyData.keyHash P (Str.ofString "LBRACE"), (.str (Str.ofString "LBRACE") 479), (.int 25 478)⟩, ⟨PyData.keyHash P (Str.ofString "RBRACE"), (.str (Str.ofString "RBRACE") 481), (.int 26 480)⟩, ⟨PyData.keyHash P (Str.ofString "EQEQUAL"), (.str (Str.ofString "EQEQUAL") 483), (.int 27 482)⟩, ⟨PyData.keyHash P (Str.ofString "NOTEQUAL"), (.str (Str.ofString "NOTEQUAL") 485), (.int 28 484)⟩, ⟨PyData.keyHash P (Str.ofString "LESSEQUAL"), (.str (Str.ofString "LESSEQUAL") 487), (.int 29 486)⟩, ⟨PyData.keyHash P (Str.ofString "GREATEREQUAL"), (.str (Str.ofString "GREATEREQUAL") 489), (.int 30 488)⟩, ⟨PyData.keyHash P (Str.ofString "TILDE"), (.str (Str.ofString "TILDE") 491), (.int 31 490)⟩, ⟨PyData.keyHash P (Str.ofString "CIRCUMFLEX"), (.str (Str.ofString "CIRCUMFLEX") 493), (.int 32 492)⟩, ⟨PyData.keyHash P (Str.ofString "LEFTSHIFT"), (.str (Str.ofString "LEFTSHIFT") 495), (.int 33 494)⟩, ⟨PyData.keyHash P (Str.ofString "RIGHTSHIFT"), (.str (Str.ofString "RIGHTSHIFT") 497), (.int 34 496)⟩, ⟨PyData.keyHash P (Str.ofString "DOUBLESTAR"), (.str (Str.ofString "DOUBLESTAR") 499), (.int 35 498)⟩, ⟨PyData.keyHash P (Str.ofString "PLUSEQUAL"), (.str (Str.ofString "PLUSEQUAL") 501), (.int 36 500)⟩, ⟨PyData.keyHash P (Str.ofString "MINEQUAL"), (.str (Str.ofString "MINEQUAL") 503), (.int 37 502)⟩, ⟨PyData.keyHash P (Str.ofString "STAREQUAL"), (.str (Str.ofString "STAREQUAL") 505), (.int 38 504)⟩, ⟨PyData.keyHash P (Str.ofString "SLASHEQUAL"), (.str (Str.ofString "SLASHEQUAL") 507), (.int 39 506)⟩, ⟨PyData.keyHash P (Str.ofString "PERCENTEQUAL"), (.str (Str.ofString "PERCENTEQUAL") 509), (.int 40 508)⟩, ⟨PyData.keyHash P (Str.ofString "AMPEREQUAL"), (.str (Str.ofString "AMPEREQUAL") 511), (.int 41 510)⟩, ⟨PyData.keyHash P (Str.ofString "VBAREQUAL"), (.str (Str.ofString "VBAREQUAL") 513), (.int 42 512)⟩, ⟨PyData.keyHash P (Str.ofString "CIRCUMFLEXEQUAL"), (.str (Str.ofString "CIRCUMFLEXEQUAL") 515), (.int 43 514)⟩, ⟨PyData.keyHash P (Str.ofString "LEFTSHIFTEQUAL"), (.str (Str.ofString "LEFTSHIFTEQUAL") 517), (.int 44 516)⟩, ⟨PyData.keyHash P (Str.ofString "RIGHTSHIFTEQUAL"), (.str (Str.ofString "RIGHTSHIFTEQUAL") 519), (.int 45 518)⟩, ⟨PyData.keyHash P (Str.ofString "DOUBLESTAREQUAL"), (.str (Str.ofString "DOUBLESTAREQUAL") 521), (.int 46 520)⟩, ⟨PyData.keyHash P (Str.ofString "DOUBLESLASH"), (.str (Str.ofString "DOUBLESLASH") 523), (.int 47 522)⟩, ⟨PyData.keyHash P (Str.ofString "DOUBLESLASHEQUAL"), (.str (Str.ofString "DOUBLESLASHEQUAL") 525), (.int 48 524)⟩, ⟨PyData.keyHash P (Str.ofString "AT"), (.str (Str.ofString "AT") 527), (.int 49 526)⟩, ⟨PyData.keyHash P (Str.ofString "ATEQUAL"), (.str (Str.ofString "ATEQUAL") 529), (.int 50 528)⟩, ⟨PyData.keyHash P (Str.ofString "RARROW"), (.str (Str.ofString "RARROW") 531), (.int 51 530)⟩, ⟨PyData.keyHash P (Str.ofString "ELLIPSIS"), (.str (Str.ofString "ELLIPSIS") 533), (.int 52 532)⟩, ⟨PyData.keyHash P (Str.ofString "COLONEQUAL"), (.str (Str.ofString "COLONEQUAL") 535), (.int 53 534)⟩, ⟨PyData.keyHash P (Str.ofString "EXCLAMATION"), (.str (Str.ofString "EXCLAMATION") 537), (.int 54 536)⟩, ⟨PyData.keyHash P (Str.ofString "EXACT_TOKEN_TYPES"), (.str (Str.ofString "EXACT_TOKEN_TYPES") 634), (.ref 144)⟩, ⟨PyData.keyHash P (Str.ofString "ISEOF"), (.str (Str.ofString "ISEOF") 641), (.ref 153)⟩, ⟨PyData.keyHash P (Str.ofString "_law_text"), (.str (Str.ofString "_law_text") 657), (.ref 160)⟩, ⟨PyData.keyHash P (Str.ofString "_law_read"), (.str (Str.ofString "_law_read") 663), (.ref 165)⟩, ⟨PyData.keyHash P (Str.ofString "_law_meant"), (.str (Str.ofString "_law_meant") 669), (.ref 170)⟩, ⟨PyData.keyHash P (Str.ofString "_law_shared"), (.str (Str.ofString "_law_shared") 679), (.ref 177)⟩, ⟨PyData.keyHash P (Str.ofString "_law_table"), (.str (Str.ofString "_law_table") 685), (.ref 182)⟩, ⟨PyData.keyHash P (Str.ofString "_law_lead"), (.str (Str.ofString "_law_lead") 691), (.ref 187)⟩, ⟨PyData.keyHash P (Str.ofString "law"), (.str (Str.ofString "law") 697), (.ref 192)⟩] 75), #[]⟩
noncomputable def o_12 (P : Params) : Obj := ⟨.none, none, (.fields #[(.int 1 0), (.int 0 0), (.ref 20), (.int 5 0), (.int 0 0), (.ref 27), (.int 59 0), (.int 0 0), (.ref 93), (.int 75 0), (.int 0 0), (.ref 100), (.int 86 0), (.int 0 0), (.ref 118), (.int 89 0), (.int 0 0), (.ref 142), (.int 142 0), (.int 0 0), (.ref 152), (.int 145 0), (.int 0 0), (.ref 159), (.int 166 0), (.int 0 0), (.ref 164), (.int 181 0), (.int 0 0), (.ref 169), (.int 185 0), (.int 0 0), (.ref 176), (.int 192 0), (.int 0 0), (.ref 181), (.int 200 0), (.int 0 0), (.ref 186), (.int 202 0), (.int 0 0), (.ref 191)]), #[]⟩
noncomputable def o_147 (P : Params) : Obj := ⟨(.type "tuple"), none, (.seq #[] 0), #[]⟩
noncomputable def o_148 (P : Params) : Obj := ⟨.none, none, (.fields #[]), #[]⟩
noncomputable def o_149 (P : Params) : Obj := ⟨(.type "tuple"), none, (.seq #[(.str (Str.ofString "x") 638)] 0), #[]⟩
noncomputable def o_150 (P : Params) : Obj := ⟨(.type "tuple"), none, (.seq #[] 0), #[]⟩
noncomputable def o_151 (P : Params) : Obj := ⟨.none, none, (.func { name := (Str.ofString "ISEOF"), qualname := (Str.ofString "ISEOF"), params := stmArgs (stm 62), body := .stmts (stmBody (stm 62)), scope := stmScope (stm 62), globals := 0, closure := [], defaults := .none, kwdefaults := .none, doc := .none, pyModule := .none, annotations := none, code := .none, closureTuple := .none, builtins := 0 }), #[]⟩
noncomputable def o_152 (P : Params) : Obj := ⟨(.type "code"), none, (.fields #[(.str (Str.ofString "ISEOF") 635), (.str (Str.ofString "ISEOF") 636), (.str (Str.ofString "/claim/cut.py") 637), (.int 142 0), (.int 1 0), (.int 0 0), (.int 0 0), (.int 3 0), (.ref 147), (.bool true), (.int 181 0), (.ref 148), .none, (.ref 149), (.ref 150), (.ref 151), (.int 639 0), (.int 142 0), (.str (Str.ofString "/claim/cut.py") 640)]), #[]⟩
noncomputable def o_153 (P : Params) : Obj := ⟨(.type "function"), none, (.func { name := (Str.ofString "ISEOF"), qualname := (Str.ofString "ISEOF"), params := stmArgs (stm 62), body := .stmts (stmBody (stm 62)), scope := stmScope (stm 62), globals := 3, closure := [], defaults := .none, kwdefaults := .none, doc := .none, pyModule := (.str (Str.ofString "cpy313.token") 438), annotations := none, code := (.ref 152), closureTuple := .none, builtins := 0 }), #[]⟩
noncomputable def o_154 (P : Params) : Obj := ⟨(.type "tuple"), none, (.seq #[] 0), #[]⟩
noncomputable def o_155 (P : Params) : Obj := ⟨.none, none, (.fields #[]), #[]⟩
noncomputable def o_156 (P : Params) : Obj := ⟨(.type "tuple"), none, (.seq #[(.str (Str.ofString "script") 647), (.str (Str.ofString "unseen") 648), (.str (Str.ofString "gaps") 649), (.str (Str.ofString "lacking") 650), (.str (Str.ofString "signs") 651), (.str (Str.ofString "plain") 652), (.str (Str.ofString "place") 653), (.str (Str.ofString "x") 654)] 0), #[]⟩
noncomputable def o_157 (P : Params) : Obj := ⟨(.type "tuple"), none, (.seq #[] 0), #[]⟩
noncomputable def o_158 (P : Params) : Obj := ⟨.none, none, (.func { name := (Str.ofString "_law_text"), qualname := (Str.ofString "_law_text"), params := stmArgs (stm 64), body := .stmts (stmBody (stm 64)), scope := stmScope (stm 64), globals := 0, closure := [], defaults := .none, kwdefaults := .none, doc := .none, pyModule := .none, annotations := none, code := .none, closureTuple := .none, builtins := 0 }), #[]⟩
noncomputable def o_159 (P : Params) : Obj := ⟨(.type "code"), none, (.fields #[(.str (Str.ofString "_law_text") 644), (.str (Str.ofString "_law_text") 645), (.str (Str.ofString "/claim/cut.py") 646), (.int 145 0), (.int 1 0), (.int 0 0), (.int 0 0), (.int 3 0), (.ref 154), (.bool true), (.int 181 0), (.ref 155), .none, (.ref 156), (.ref 157), (.ref 158), (.int 655 0), (.int 145 0), (.str (Str.ofString "/claim/cut.py") 656)]), #[]⟩
noncomputable def o_160 (P : Params) : Obj := ⟨(.type "function"), none, (.func { name := (Str.ofString "_law_text"), qualname := (Str.ofString "_law_text"), params := stmArgs (stm 64), body := .stmts (stmBody (stm 64)), scope := stmScope (stm 64), globals := 3, closure := [], defaults := .none, kwdefaults := .none, doc := .none, pyModule := (.str (Str.ofString "law_to0062_01") 642), annotations := none, code := (.ref 159), closureTuple := .none, builtins := 0 }), #[]⟩
noncomputable def o_161 (P : Params) : Obj := ⟨(.type "tuple"), none, (.seq #[] 0), #[]⟩
noncomputable def o_162 (P : Params) : Obj := ⟨.none, none, (.fields #[]), #[]⟩
noncomputable def o_163 (P : Params) : Obj := ⟨.none, none, (.func { name := (Str.ofString "_law_read"), qualname := (Str.ofString "_law_read"), params := stmArgs (stm 65), body := .stmts (stmBody (stm 65)), scope := stmScope (stm 65), globals := 0, closure := [], defaults := .none, kwdefaults := .none, doc := .none, pyModule := .none, annotations := none, code := .none, closureTuple := .none, builtins := 0 }), #[]⟩
noncomputable def o_164 (P : Params) : Obj := ⟨(.type "code"), none, (.fields #[(.str (Str.ofString "_law_read") 658), (.str (Str.ofString "_law_read") 659), (.str (Str.ofString "/claim/cut.py") 660), (.int 166 0), (.int 1 0), (.int 0 0), (.int 0 0), (.int 3 0), (.ref 161), (.bool true), (.int 181 0), (.ref 162), .none, .none, .none, (.ref 163), (.int 661 0), (.int 166 0), (.str (Str.ofString "/claim/cut.py") 662)]), #[]⟩
noncomputable def o_165 (P : Params) : Obj := ⟨(.type "function"), none, (.func { name := (Str.ofString "_law_read"), qualname := (Str.ofString "_law_read"), params := stmArgs (stm 65), body := .stmts (stmBody (stm 65)), scope := stmScope (stm 65), globals := 3, closure := [], defaults := .none, kwdefaults := .none, doc := .none, pyModule := (.str (Str.ofString "law_to0062_01") 642), annotations := none, code := (.ref 164), closureTuple := .none, builtins := 0 }), #[]⟩
noncomputable def o_166 (P : Params) : Obj := ⟨(.type "tuple"), none, (.seq #[] 0), #[]⟩
noncomputable def o_167 (P : Params) : Obj := ⟨.none, none, (.fields #[]), #[]⟩
noncomputable def o_168 (P : Params) : Obj := ⟨.none, none, (.func { name := (Str.ofString "_law_meant"), qualname := (Str.ofString "_law_meant"), params := stmArgs (stm 66), body := .stmts (stmBody (stm 66)), scope := stmScope (stm 66), globals := 0, closure := [], defaults := .none, kwdefaults := .none, doc := .none, pyModule := .none, annotations := none, code := .none, closureTuple := .none, builtins := 0 }), #[]⟩
noncomputable def o_169 (P : Params) : Obj := ⟨(.type "code"), none, (.fields #[(.str (Str.ofString "_law_meant") 664), (.str (Str.ofString "_law_meant") 665), (.str (Str.ofString "/claim/cut.py") 666), (.int 181 0), (.int 1 0), (.int 0 0), (.int 0 0), (.int 3 0), (.ref 166), (.bool true), (.int 181 0), (.ref 167), .none, .none, .none, (.ref 168), (.int 667 0), (.int 181 0), (.str (Str.ofString "/claim/cut.py") 668)]), #[]⟩
noncomputable def o_170 (P : Params) : Obj := ⟨(.type "function"), none, (.func { name := (Str.ofString "_law_meant"), qualname := (Str.ofString "_law_meant"), params := stmArgs (stm 66), body := .stmts (stmBody (stm 66)), scope := stmScope (stm 66), globals := 3, closure := [], defaults := .none, kwdefaults := .none, doc := .none, pyModule := (.str (Str.ofString "law_to0062_01") 642), annotations := none, code := (.ref 169), closureTuple := .none, builtins := 0 }), #[]⟩
noncomputable def o_171 (P : Params) : Obj := ⟨(.type "tuple"), none, (.seq #[] 0), #[]⟩
noncomputable def o_172 (P : Params) : Obj := ⟨.none, none, (.fields #[]), #[]⟩
noncomputable def o_173 (P : Params) : Obj := ⟨(.type "tuple"), none, (.seq #[(.str (Str.ofString "one") 673), (.str (Str.ofString "other") 674), (.str (Str.ofString "shared") 675), (.str (Str.ofString "digit") 676)] 0), #[]⟩
noncomputable def o_174 (P : Params) : Obj := ⟨(.type "tuple"), none, (.seq #[] 0), #[]⟩
noncomputable def o_175 (P : Params) : Obj := ⟨.none, none, (.func { name := (Str.ofString "_law_shared"), qualname := (Str.ofString "_law_shared"), params := stmArgs (stm 67), body := .stmts (stmBody (stm 67)), scope := stmScope (stm 67), globals := 0, closure := [], defaults := .none, kwdefaults := .none, doc := .none, pyModule := .none, annotations := none, code := .none, closureTuple := .none, builtins := 0 }), #[]⟩
noncomputable def o_176 (P : Params) : Obj := ⟨(.type "code"), none, (.fields #[(.str (Str.ofString "_law_shared") 670), (.str (Str.ofString "_law_shared") 671), (.str (Str.ofString "/claim/cut.py") 672), (.int 185 0), (.int 2 0), (.int 0 0), (.int 0 0), (.int 3 0), (.ref 171), (.bool true), (.int 181 0), (.ref 172), .none, (.ref 173), (.ref 174), (.ref 175), (.int 677 0), (.int 185 0), (.str (Str.ofString "/claim/cut.py") 678)]), #[]⟩
noncomputable def o_177 (P : Params) : Obj := ⟨(.type "function"), none, (.func { name := (Str.ofString "_law_shared"), qualname := (Str.ofString "_law_shared"), params := stmArgs (stm 67), body := .stmts (stmBody (stm 67)), scope := stmScope (stm 67), globals := 3, closure := [], defaults := .none, kwdefaults := .none, doc := .none, pyModule := (.str (Str.ofString "law_to0062_01") 642), annotations := none, code := (.ref 176), closureTuple := .none, builtins := 0 }), #[]⟩
noncomputable def o_178 (P : Params) : Obj := ⟨(.type "tuple"), none, (.seq #[] 0), #[]⟩
noncomputable def o_179 (P : Params) : Obj := ⟨.none, none, (.fields #[]), #[]⟩
noncomputable def o_180 (P : Params) : Obj := ⟨.none, none, (.func { name := (Str.ofString "_law_table"), qualname := (Str.ofString "_law_table"), params := stmArgs (stm 68), body := .stmts (stmBody (stm 68)), scope := stmScope (stm 68), globals := 0, closure := [], defaults := .none, kwdefaults := .none, doc := .none, pyModule := .none, annotations := none, code := .none, closureTuple := .none, builtins := 0 }), #[]⟩
noncomputable def o_181 (P : Params) : Obj := ⟨(.type "code"), none, (.fields #[(.str (Str.ofString "_law_table") 680), (.str (Str.ofString "_law_table") 681), (.str (Str.ofString "/claim/cut.py") 682), (.int 192 0), (.int 1 0), (.int 0 0), (.int 0 0), (.int 3 0), (.ref 178), (.bool true), (.int 181 0), (.ref 179), .none, .none, .none, (.ref 180), (.int 683 0), (.int 192 0), (.str (Str.ofString "/claim/cut.py") 684)]), #[]⟩
noncomputable def o_182 (P : Params) : Obj := ⟨(.type "function"), none, (.func { name := (Str.ofString "_law_table"), qualname := (Str.ofString "_law_table"), params := stmArgs (stm 68), body := .stmts (stmBody (stm 68)), scope := stmScope (stm 68), globals := 3, closure := [], defaults := .none, kwdefaults := .none, doc := .none, pyModule := (.str (Str.ofString "law_to0062_01") 642), annotations := none, code := (.ref 181), closureTuple := .none, builtins := 0 }), #[]⟩
noncomputable def o_183 (P : Params) : Obj := ⟨(.type "tuple"), none, (.seq #[] 0), #[]⟩
noncomputable def o_184 (P : Params) : Obj := ⟨.none, none, (.fields #[]), #[]⟩
noncomputable def o_185 (P : Params) : Obj := ⟨.none, none, (.func { name := (Str.ofString "_law_lead"), qualname := (Str.ofString "_law_lead"), params := stmArgs (stm 69), body := .stmts (stmBody (stm 69)), scope := stmScope (stm 69), globals := 0, closure := [], defaults := .none, kwdefaults := .none, doc := .none, pyModule := .none, annotations := none, code := .none, closureTuple := .none, builtins := 0 }), #[]⟩
noncomputable def o_186 (P : Params) : Obj := ⟨(.type "code"), none, (.fields #[(.str (Str.ofString "_law_lead") 686), (.str (Str.ofString "_law_lead") 687), (.str (Str.ofString "/claim/cut.py") 688), (.int 200 0), (.int 1 0), (.int 0 0), (.int 0 0), (.int 3 0), (.ref 183), (.bool true), (.int 181 0), (.ref 184), .none, .none, .none, (.ref 185), (.int 689 0), (.int 200 0), (.str (Str.ofString "/claim/cut.py") 690)]), #[]⟩
noncomputable def o_187 (P : Params) : Obj := ⟨(.type "function"), none, (.func { name := (Str.ofString "_law_lead"), qualname := (Str.ofString "_law_lead"), params := stmArgs (stm 69), body := .stmts (stmBody (stm 69)), scope := stmScope (stm 69), globals := 3, closure := [], defaults := .none, kwdefaults := .none, doc := .none, pyModule := (.str (Str.ofString "law_to0062_01") 642), annotations := none, code := (.ref 186), closureTuple := .none, builtins := 0 }), #[]⟩
noncomputable def o_188 (P : Params) : Obj := ⟨(.type "tuple"), none, (.seq #[] 0), #[]⟩
noncomputable def o_189 (P : Params) : Obj := ⟨.none, none, (.fields #[]), #[]⟩
noncomputable def o_190 (P : Params) : Obj := ⟨.none, none, (.func { name := (Str.ofString "law"), qualname := (Str.ofString "law"), params := stmArgs (stm 70), body := .stmts (stmBody (stm 70)), scope := stmScope (stm 70), globals := 0, closure := [], defaults := .none, kwdefaults := .none, doc := .none, pyModule := .none, annotations := none, code := .none, closureTuple := .none, builtins := 0 }), #[]⟩
noncomputable def o_191 (P : Params) : Obj := ⟨(.type "code"), none, (.fields #[(.str (Str.ofString "law") 692), (.str (Str.ofString "law") 693), (.str (Str.ofString "/claim/cut.py") 694), (.int 202 0), (.int 1 0), (.int 0 0), (.int 0 0), (.int 3 0), (.ref 188), (.bool true), (.int 181 0), (.ref 189), .none, .none, .none, (.ref 190), (.int 695 0), (.int 202 0), (.str (Str.ofString "/claim/cut.py") 696)]), #[]⟩
noncomputable def o_192 (P : Params) : Obj := ⟨(.type "function"), none, (.func { name := (Str.ofString "law"), qualname := (Str.ofString "law"), params := stmArgs (stm 70), body := .stmts (stmBody (stm 70)), scope := stmScope (stm 70), globals := 3, closure := [], defaults := .none, kwdefaults := .none, doc := .none, pyModule := (.str (Str.ofString "law_to0062_01") 642), annotations := none, code := (.ref 191), closureTuple := .none, builtins := 0 }), #[]⟩
noncomputable def tree_c71 (P : Params) : BT := (.node (boot_o_0 P) (.node (boot_o_1 P) (.node (o_3 P) (.node (boot_o_7 P) (.node (o_15 P) (.node (o_31 P) (.node (o_63 P) (.node (o_127 P) .nil .nil) (.node (o_191 P) .nil .nil)) (.node (o_95 P) (.node (o_159 P) .nil .nil) .nil)) (.node (o_47 P) (.node (o_79 P) (.node (o_143 P) .nil .nil) .nil) (.node (o_111 P) (.node (o_175 P) .nil .nil) .nil))) (.node (o_23 P) (.node (o_39 P) (.node (o_71 P) (.node (o_135 P) .nil .nil) .nil) (.node (o_103 P) (.node (o_167 P) .nil .nil) .nil)) (.node (o_55 P) (.node (o_87 P) (.node (o_151 P) .nil .nil) .nil) (.node (o_119 P) (.node (o_183 P) .nil .nil) .nil)))) (.node (o_11 P) (.node (o_19 P) (.node (o_35 P) (.node (o_67 P) (.node (o_131 P) .nil .nil) .nil) (.node (o_99 P) (.node (o_163 P) .nil .nil) .nil)) (.node (o_51 P) (.node (o_83 P) (.node (o_147 P) .nil .nil) .nil) (.node (o_115 P) (.node (o_179 P) .nil .nil) .nil))) (.node (o_27 P) (.node (o_43 P) (.node (o_75 P) (.node (o_139 P) .nil .nil) .nil) (.node (o_107 P) (.node (o_171 P) .nil .nil) .nil)) (.node (o_59 P) (.node (o_91 P) (.node (o_155 P) .nil .nil) .nil) (.node (o_123 P) (.node (o_187 P) .nil .nil) .nil))))) (.node (boot_o_5 P) (.node (boot_o_9 P) (.node (o_17 P) (.node (o_33 P) (.node (o_65 P) (.node (o_129 P) .nil .nil) .nil) (.node (o_97 P) (.node (o_161 P) .nil .nil) .nil)) (.node (o_49 P) (.node (o_81 P) (.node (o_145 P) .nil .nil) .nil) (.node (o_113 P) (.node (o_177 P) .nil .nil) .nil))) (.node (o_25 P) (.node (o_41 P) (.node (o_73 P) (.node (o_137 P) .nil .nil) .nil) (.node (o_105 P) (.node (o_169 P) .nil .nil) .nil)) (.node (o_57 P) (.node (o_89 P) (.node (o_153 P) .nil .nil) .nil) (.node (o_121 P) (.node (o_185 P) .nil .nil) .nil)))) (.node (o_13 P) (.node (o_21 P) (.node (o_37 P) (.node (o_69 P) (.node (o_133 P) .nil .nil) .nil) (.node (o_101 P) (.node (o_165 P) .nil .nil) .nil)) (.node (o_53 P) (.node (o_85 P) (.node (o_149 P) .nil .nil) .nil) (.node (o_117 P) (.node (o_181 P) .nil .nil) .nil))) (.node (o_29 P) (.node (o_45 P) (.node (o_77 P) (.node (o_141 P) .nil .nil) .nil) (.node (o_109 P) (.node (o_173 P) .nil .nil) .nil)) (.node (o_61 P) (.node (o_93 P) (.node (o_157 P) .nil .nil) .nil) (.node (o_125 P) (.node (o_189 P) .nil .nil) .nil)))))) (.node (boot_o_2 P) (.node (boot_o_4 P) (.node (boot_o_8 P) (.node (o_16 P) (.node (o_32 P) (.node (o_64 P) (.node (o_128 P) .nil .nil) (.node (o_192 P) .nil .nil)) (.node (o_96 P) (.node (o_160 P) .nil .nil) .nil)) (.node (o_48 P) (.node (o_80 P) (.node (o_144 P) .nil .nil) .nil) (.node (o_112 P) (.node (o_176 P) .nil .nil) .nil))) (.node (o_24 P) (.node (o_40 P) (.node (o_72 P) (.node (o_136 P) .nil .nil) .nil) (.node (o_104 P) (.node (o_168 P) .nil .nil) .nil)) (.node (o_56 P) (.node (o_88 P) (.node (o_152 P) .nil .nil) .nil) (.node (o_120 P) (.node (o_184 P) .nil .nil) .nil)))) (.node (o_12 P) (.node (o_20 P) (.node (o_36 P) (.node (o_68 P) (.node (o_132 P) .nil .nil) .nil) (.node (o_100 P) (.node (o_164 P) .nil .nil) .nil)) (.node (o_52 P) (.node (o_84 P) (.node (o_148 P) .nil .nil) .nil) (.node (o_116 P) (.node (o_180 P) .nil .nil) .nil))) (.node (o_28 P) (.node (o_44 P) (.node (o_76 P) (.node (o_140 P) .nil .nil) .nil) (.node (o_108 P) (.node (o_172 P) .nil .nil) .nil)) (.node (o_60 P) (.node (o_92 P) (.node (o_156 P) .nil .nil) .nil) (.node (o_124 P) (.node (o_188 P) .nil .nil) .nil))))) (.node (boot_o_6 P) (.node (boot_o_10 P) (.node (o_18 P) (.node (o_34 P) (.node (o_66 P) (.node (o_130 P) .nil .nil) .nil) (.node (o_98 P) (.node (o_162 P) .nil .nil) .nil)) (.node (o_50 P) (.node (o_82 P) (.node (o_146 P) .nil .nil) .nil) (.node (o_114 P) (.node (o_178 P) .nil .nil) .nil))) (.node (o_26 P) (.node (o_42 P) (.node (o_74 P) (.node (o_138 P) .nil .nil) .nil) (.node (o_106 P) (.node (o_170 P) .nil .nil) .nil)) (.node (o_58 P) (.node (o_90 P) (.node (o_154 P) .nil .nil) .nil) (.node (o_122 P) (.node (o_186 P) .nil .nil) .nil)))) (.node (o_14 P) (.node (o_22 P) (.node (o_38 P) (.node (o_70 P) (.node (o_134 P) .nil .nil) .nil) (.node (o_102 P) (.node (o_166 P) .nil .nil) .nil)) (.node (o_54 P) (.node (o_86 P) (.node (o_150 P) .nil .nil) .nil) (.node (o_118 P) (.node (o_182 P) .nil .nil) .nil))) (.node (o_30 P) (.node (o_46 P) (.node (o_78 P) (.node (o_142 P) .nil .nil) .nil) (.node (o_110 P) (.node (o_174 P) .nil .nil) .nil)) (.node (o_62 P) (.node (o_94 P) (.node (o_158 P) .nil .nil) .nil) (.node (o_126 P) (.node (o_190 P) .nil .nil) .nil)))))))
noncomputable def tree_f (P : Params) : BT := (.node (boot_o_0 P) (.node (boot_o_1 P) (.node (o_3 P) (.node (boot_o_7 P) (.node (o_15 P) (.node (o_31 P) (.node (o_63 P) (.node (o_127 P) .nil .nil) (.node (o_191 P) .nil .nil)) (.node (o_95 P) (.node (o_159 P) .nil .nil) .nil)) (.node (o_47 P) (.node (o_79 P) (.node (o_143 P) .nil .nil) .nil) (.node (o_111 P) (.node (o_175 P) .nil .nil) .nil))) (.node (o_23 P) (.node (o_39 P) (.node (o_71 P) (.node (o_135 P) .nil .nil) .nil) (.node (o_103 P) (.node (o_167 P) .nil .nil) .nil)) (.node (o_55 P) (.node (o_87 P) (.node (o_151 P) .nil .nil) .nil) (.node (o_119 P) (.node (o_183 P) .nil .nil) .nil)))) (.node (o_11 P) (.node (o_19 P) (.node (o_35 P) (.node (o_67 P) (.node (o_131 P) .nil .nil) .nil) (.node (o_99 P) (.node (o_163 P) .nil .nil) .nil)) (.node (o_51 P) (.node (o_83 P) (.node (o_147 P) .nil .nil) .nil) (.node (o_115 P) (.node (o_179 P) .nil .nil) .nil))) (.node (o_27 P) (.node (o_43 P) (.node (o_75 P) (.node (o_139 P) .nil .nil) .nil) (.node (o_107 P) (.node (o_171 P) .nil .nil) .nil)) (.node (o_59 P) (.node (o_91 P) (.node (o_155 P) .nil .nil) .nil) (.node (o_123 P) (.node (o_187 P) .nil .nil) .nil))))) (.node (boot_o_5 P) (.node (boot_o_9 P) (.node (o_17 P) (.node (o_33 P) (.node (o_65 P) (.node (o_129 P) .nil .nil) .nil) (.node (o_97 P) (.node (o_161 P) .nil .nil) .nil)) (.node (o_49 P) (.node (o_81 P) (.node (o_145 P) .nil .nil) .nil) (.node (o_113 P) (.node (o_177 P) .nil .nil) .nil))) (.node (o_25 P) (.node (o_41 P) (.node (o_73 P) (.node (o_137 P) .nil .nil) .nil) (.node (o_105 P) (.node (o_169 P) .nil .nil) .nil)) (.node (o_57 P) (.node (o_89 P) (.node (o_153 P) .nil .nil) .nil) (.node (o_121 P) (.node (o_185 P) .nil .nil) .nil)))) (.node (o_13 P) (.node (o_21 P) (.node (o_37 P) (.node (o_69 P) (.node (o_133 P) .nil .nil) .nil) (.node (o_101 P) (.node (o_165 P) .nil .nil) .nil)) (.node (o_53 P) (.node (o_85 P) (.node (o_149 P) .nil .nil) .nil) (.node (o_117 P) (.node (o_181 P) .nil .nil) .nil))) (.node (o_29 P) (.node (o_45 P) (.node (o_77 P) (.node (o_141 P) .nil .nil) .nil) (.node (o_109 P) (.node (o_173 P) .nil .nil) .nil)) (.node (o_61 P) (.node (o_93 P) (.node (o_157 P) .nil .nil) .nil) (.node (o_125 P) (.node (o_189 P) .nil .nil) .nil)))))) (.node (boot_o_2 P) (.node (boot_o_4 P) (.node (boot_o_8 P) (.node (o_16 P) (.node (o_32 P) (.node (o_64 P) (.node (o_128 P) .nil .nil) (.node (o_192 P) .nil .nil)) (.node (o_96 P) (.node (o_160 P) .nil .nil) .nil)) (.node (o_48 P) (.node (o_80 P) (.node (o_144 P) .nil .nil) .nil) (.node (o_112 P) (.node (o_176 P) .nil .nil) .nil))) (.node (o_24 P) (.node (o_40 P) (.node (o_72 P) (.node (o_136 P) .nil .nil) .nil) (.node (o_104 P) (.node (o_168 P) .nil .nil) .nil)) (.node (o_56 P) (.node (o_88 P) (.node (o_152 P) .nil .nil) .nil) (.node (o_120 P) (.node (o_184 P) .nil .nil) .nil)))) (.node (o_12 P) (.node (o_20 P) (.node (o_36 P) (.node (o_68 P) (.node (o_132 P) .nil .nil) .nil) (.node (o_100 P) (.node (o_164 P) .nil .nil) .nil)) (.node (o_52 P) (.node (o_84 P) (.node (o_148 P) .nil .nil) .nil) (.node (o_116 P) (.node (o_180 P) .nil .nil) .nil))) (.node (o_28 P) (.node (o_44 P) (.node (o_76 P) (.node (o_140 P) .nil .nil) .nil) (.node (o_108 P) (.node (o_172 P) .nil .nil) .nil)) (.node (o_60 P) (.node (o_92 P) (.node (o_156 P) .nil .nil) .nil) (.node (o_124 P) (.node (o_188 P) .nil .nil) .nil))))) (.node (boot_o_6 P) (.node (boot_o_10 P) (.node (o_18 P) (.node (o_34 P) (.node (o_66 P) (.node (o_130 P) .nil .nil) .nil) (.node (o_98 P) (.node (o_162 P) .nil .nil) .nil)) (.node (o_50 P) (.node (o_82 P) (.node (o_146 P) .nil .nil) .nil) (.node (o_114 P) (.node (o_178 P) .nil .nil) .nil))) (.node (o_26 P) (.node (o_42 P) (.node (o_74 P) (.node (o_138 P) .nil .nil) .nil) (.node (o_106 P) (.node (o_170 P) .nil .nil) .nil)) (.node (o_58 P) (.node (o_90 P) (.node (o_154 P) .nil .nil) .nil) (.node (o_122 P) (.node (o_186 P) .nil .nil) .nil)))) (.node (o_14 P) (.node (o_22 P) (.node (o_38 P) (.node (o_70 P) (.node (o_134 P) .nil .nil) .nil) (.node (o_102 P) (.node (o_166 P) .nil .nil) .nil)) (.node (o_54 P) (.node (o_86 P) (.node (o_150 P) .nil .nil) .nil) (.node (o_118 P) (.node (o_182 P) .nil .nil) .nil))) (.node (o_30 P) (.node (o_46 P) (.node (o_78 P) (.node (o_142 P) .nil .nil) .nil) (.node (o_110 P) (.node (o_174 P) .nil .nil) .nil)) (.node (o_62 P) (.node (o_94 P) (.node (o_158 P) .nil .nil) .nil) (.node (o_126 P) (.node (o_190 P) .nil .nil) .nil)))))))
noncomputable def envT : Env := { scope := pw.main.scope, locals := mainNs, globals := mainNs, cells := [], code := (.ref 13), frame := some 14 }
noncomputable def cdT : Code := .body (behindTheImports pw) envT
noncomputable def qT : Pos := ⟨0, 0, 0, 0⟩
noncomputable def annT : Option Value := (some (.ref 6))
noncomputable def m0T : Nat := 11
noncomputable def posA : Pos := ⟨0, 0, 0, 0⟩
noncomputable def posB : Pos := ⟨0, 0, 0, 0⟩
noncomputable def pos_c7 : Pos := ⟨84, 0, 84, 8⟩
noncomputable def pos_c8 : Pos := ⟨85, 0, 85, 6⟩
noncomputable def pos_c10 : Pos := ⟨88, 0, 88, 6⟩
noncomputable def pos_c61 : Pos := ⟨140, 0, 140, 11⟩
noncomputable def pos_c62 : Pos := ⟨141, 0, 141, 17⟩
noncomputable def pos_c71 : Pos := ⟨202, 0, 229, 91⟩
noncomputable def S_a (w : World) (os : OsState) : SharedT := ⟨tree_a w.params, 15, {}, #[], {}, 187, os⟩
noncomputable def S_b (w : World) (os : OsState) : SharedT := ⟨tree_b w.params, 15, {}, #[], {}, 187, os⟩
noncomputable def S_c7 (w : World) (os : OsState) : SharedT := ⟨tree_c7 w.params, 102, {}, #[], {}, 323, os⟩
noncomputable def S_c8 (w : World) (os : OsState) : SharedT := ⟨tree_c8 w.params, 113, {}, #[], {}, 383, os⟩
noncomputable def S_c10 (w : World) (os : OsState) : SharedT := ⟨tree_c10 w.params, 137, {}, #[], {}, 431, os⟩
noncomputable def S_c61 (w : World) (os : OsState) : SharedT := ⟨tree_c61 w.params, 144, {}, #[], {}, 538, os⟩
noncomputable def S_c62 (w : World) (os : OsState) : SharedT := ⟨tree_c62 w.params, 147, {}, #[], {}, 635, os⟩
noncomputable def S_c71 (w : World) (os : OsState) : SharedT := ⟨tree_c71 w.params, 193, {}, #[], {}, 698, os⟩
noncomputable def S_f (w : World) (os : OsState) : SharedT := ⟨tree_f w.params, 193, {}, #[], {}, 698, os⟩
end
end Tn
end
section
-- TnSegs
open PySem PySem.W PyProof.Rows
set_option maxRecDepth 100000
set_option maxHeartbeats 0
namespace Tn
noncomputable def stmts (i n : Nat) : List Stmt := (pw.main.body.drop i).take n
noncomputable abbrev Goal (n : Nat) (S S' : World → OsState → SharedT) (l : List Stmt) (p p' : Pos) (w : World) : Prop :=
  ∀ os : OsState, segRunT treeTable pw w m0T annT 1 n (S w os) (Thread.mk ((execs l envT).wrap doneF deadEnd id id) cdT p [topFrame qT]) = some (.next, S' w os, cdT, p')
theorem seg_pre (w : World) (os : OsState) : topGo treeTable pw w m0T annT 12 ⟨boot_heap w.params, #[], boot_drawn, boot_toks, os⟩ (topStub pw) = some (⟨heap_a w.params, #[], {}, 187, os⟩, ⟨denote treeTable cdT, cdT, posA, [topFrame qT]⟩) := by
  rw [PySem.W.Fast.te15667345088766844465, PySem.W.Fast.te14364793385576792824, PySem.W.Fast.te11892475500146522536]
  kernel_rfl
theorem seg_block (w : World) (os : OsState) : segRun treeTable pw w m0T annT 1 1 ⟨heap_a w.params, #[], {}, 187, os⟩ (blockOf (behindTheImports pw) envT cdT posA [topFrame qT]) = some (.next, (S_b w os).abs, cdT, posB) := by
  rw [PySem.W.Fast.te14374325043358763698, PySem.W.Fast.te14364793385576792824]
  kernel_rfl
theorem seg_c7_0 (w : World) : Goal 616 S_b S_c7 (stmts 0 7) posB pos_c7 (w.withFollow "special-get-raises" false) := by
  intro os
  rw [PySem.W.Fast.te10110043849684766642, PySem.W.Fast.te14364793385576792824, PySem.W.Fast.te12563942051412417395]; kernel_rfl
theorem seg_c7_1 (w : World) : Goal 616 S_b S_c7 (stmts 0 7) posB pos_c7 (w.withFollow "special-get-raises" true) := by
  intro os
  rw [PySem.W.Fast.te10110043849684766642, PySem.W.Fast.te14364793385576792824, PySem.W.Fast.te12563942051412417395]; kernel_rfl
theorem seg_c7 : ∀ w, Goal 616 S_b S_c7 (stmts 0 7) posB pos_c7 w := byRow2 "special-get-raises" seg_c7_0 seg_c7_1
theorem seg_c8_0 (w : World) : Goal 999 S_c7 S_c8 (stmts 7 1) pos_c7 pos_c8 ((w.withFollow "special-get-raises" false).withFollow "set-order" false) := by
  intro os
  rw [PySem.W.Fast.te10110043849684766642, PySem.W.Fast.te14364793385576792824, PySem.W.Fast.te12563942051412417395]; kernel_rfl
theorem seg_c8_1 (w : World) : Goal 999 S_c7 S_c8 (stmts 7 1) pos_c7 pos_c8 ((w.withFollow "special-get-raises" true).withFollow "set-order" false) := by
  intro os
  rw [PySem.W.Fast.te10110043849684766642, PySem.W.Fast.te14364793385576792824, PySem.W.Fast.te12563942051412417395]; kernel_rfl
theorem seg_c8_2 (w : World) : Goal 999 S_c7 S_c8 (stmts 7 1) pos_c7 pos_c8 ((w.withFollow "special-get-raises" false).withFollow "set-order" true) := by
  intro os
  rw [PySem.W.Fast.te10110043849684766642, PySem.W.Fast.te14364793385576792824, PySem.W.Fast.te12563942051412417395]; kernel_rfl
theorem seg_c8_3 (w : World) : Goal 999 S_c7 S_c8 (stmts 7 1) pos_c7 pos_c8 ((w.withFollow "special-get-raises" true).withFollow "set-order" true) := by
  intro os
  rw [PySem.W.Fast.te10110043849684766642, PySem.W.Fast.te14364793385576792824, PySem.W.Fast.te12563942051412417395]; kernel_rfl
theorem seg_c8 : ∀ w, Goal 999 S_c7 S_c8 (stmts 7 1) pos_c7 pos_c8 w := byRow2 "set-order" (byRow2 "special-get-raises" (P := fun w => Goal 999 S_c7 S_c8 (stmts 7 1) pos_c7 pos_c8 (w.withFollow "set-order" false)) seg_c8_0 seg_c8_1) (byRow2 "special-get-raises" (P := fun w => Goal 999 S_c7 S_c8 (stmts 7 1) pos_c7 pos_c8 (w.withFollow "set-order" true)) seg_c8_2 seg_c8_3)
theorem seg_c10_0 (w : World) : Goal 804 S_c8 S_c10 (stmts 8 2) pos_c8 pos_c10 ((w.withFollow "special-get-raises" false).withFollow "set-order" false) := by
  intro os
  rw [PySem.W.Fast.te10110043849684766642, PySem.W.Fast.te14364793385576792824, PySem.W.Fast.te12563942051412417395]; kernel_rfl
theorem seg_c10_1 (w : World) : Goal 804 S_c8 S_c10 (stmts 8 2) pos_c8 pos_c10 ((w.withFollow "special-get-raises" true).withFollow "set-order" false) := by
  intro os
  rw [PySem.W.Fast.te10110043849684766642, PySem.W.Fast.te14364793385576792824, PySem.W.Fast.te12563942051412417395]; kernel_rfl
theorem seg_c10_2 (w : World) : Goal 804 S_c8 S_c10 (stmts 8 2) pos_c8 pos_c10 ((w.withFollow "special-get-raises" false).withFollow "set-order" true) := by
  intro os
  rw [PySem.W.Fast.te10110043849684766642, PySem.W.Fast.te14364793385576792824, PySem.W.Fast.te12563942051412417395]; kernel_rfl
theorem seg_c10_3 (w : World) : Goal 804 S_c8 S_c10 (stmts 8 2) pos_c8 pos_c10 ((w.withFollow "special-get-raises" true).withFollow "set-order" true) := by
  intro os
  rw [PySem.W.Fast.te10110043849684766642, PySem.W.Fast.te14364793385576792824, PySem.W.Fast.te12563942051412417395]; kernel_rfl
theorem seg_c10 : ∀ w, Goal 804 S_c8 S_c10 (stmts 8 2) pos_c8 pos_c10 w := byRow2 "set-order" (byRow2 "special-get-raises" (P := fun w => Goal 804 S_c8 S_c10 (stmts 8 2) pos_c8 pos_c10 (w.withFollow "set-order" false)) seg_c10_0 seg_c10_1) (byRow2 "special-get-raises" (P := fun w => Goal 804 S_c8 S_c10 (stmts 8 2) pos_c8 pos_c10 (w.withFollow "set-order" true)) seg_c10_2 seg_c10_3)
theorem seg_c61_0 (w : World) : Goal 480 S_c10 S_c61 (stmts 10 51) pos_c10 pos_c61 w := by
  intro os
  rw [PySem.W.Fast.te10110043849684766642, PySem.W.Fast.te14364793385576792824, PySem.W.Fast.te12563942051412417395]; kernel_rfl
theorem seg_c61 (w : World) : Goal 480 S_c10 S_c61 (stmts 10 51) pos_c10 pos_c61 w := seg_c61_0 w
theorem seg_c62_0 (w : World) : Goal 979 S_c61 S_c62 (stmts 61 1) pos_c61 pos_c62 (w.withFollow "special-get-raises" false) := by
  intro os
  rw [PySem.W.Fast.te10110043849684766642, PySem.W.Fast.te14364793385576792824, PySem.W.Fast.te12563942051412417395]; kernel_rfl
theorem seg_c62_1 (w : World) : Goal 979 S_c61 S_c62 (stmts 61 1) pos_c61 pos_c62 (w.withFollow "special-get-raises" true) := by
  intro os
  rw [PySem.W.Fast.te10110043849684766642, PySem.W.Fast.te14364793385576792824, PySem.W.Fast.te12563942051412417395]; kernel_rfl
theorem seg_c62 : ∀ w, Goal 979 S_c61 S_c62 (stmts 61 1) pos_c61 pos_c62 w := byRow2 "special-get-raises" seg_c62_0 seg_c62_1
theorem seg_c71_0 (w : World) : Goal 237 S_c62 S_c71 (stmts 62 9) pos_c62 pos_c71 w := by
  intro os
  rw [PySem.W.Fast.te10110043849684766642, PySem.W.Fast.te14364793385576792824, PySem.W.Fast.te12563942051412417395]; kernel_rfl
theorem seg_c71 (w : World) : Goal 237 S_c62 S_c71 (stmts 62 9) pos_c62 pos_c71 w := seg_c71_0 w
end Tn
end
section
-- TnTop
open PySem PySem.W PyProof.Rows
set_option maxRecDepth 100000
namespace Tn
noncomputable section
noncomputable def K (P : Params) : Frag := [((nat_lit 3 : Nat), o_3 P), ((nat_lit 2 : Nat), boot_o_2 P), ((nat_lit 160 : Nat), o_160 P), ((nat_lit 159 : Nat), o_159 P), ((nat_lit 165 : Nat), o_165 P), ((nat_lit 164 : Nat), o_164 P), ((nat_lit 170 : Nat), o_170 P), ((nat_lit 169 : Nat), o_169 P), ((nat_lit 177 : Nat), o_177 P), ((nat_lit 176 : Nat), o_176 P), ((nat_lit 182 : Nat), o_182 P), ((nat_lit 181 : Nat), o_181 P), ((nat_lit 187 : Nat), o_187 P), ((nat_lit 186 : Nat), o_186 P), ((nat_lit 192 : Nat), o_192 P), ((nat_lit 191 : Nat), o_191 P), ((nat_lit 153 : Nat), o_153 P), ((nat_lit 152 : Nat), o_152 P), ((nat_lit 143 : Nat), o_143 P), ((nat_lit 142 : Nat), o_142 P), ((nat_lit 119 : Nat), o_119 P), ((nat_lit 118 : Nat), o_118 P), ((nat_lit 101 : Nat), o_101 P), ((nat_lit 100 : Nat), o_100 P), ((nat_lit 94 : Nat), o_94 P), ((nat_lit 93 : Nat), o_93 P), ((nat_lit 109 : Nat), o_109 P), ((nat_lit 133 : Nat), o_133 P), ((nat_lit 144 : Nat), o_144 P), ((nat_lit 83 : Nat), o_83 P), ((nat_lit 82 : Nat), o_82 P), ((nat_lit 38 : Nat), o_38 P), ((nat_lit 37 : Nat), o_37 P), ((nat_lit 45 : Nat), o_45 P), ((nat_lit 44 : Nat), o_44 P), ((nat_lit 52 : Nat), o_52 P), ((nat_lit 51 : Nat), o_51 P), ((nat_lit 59 : Nat), o_59 P), ((nat_lit 58 : Nat), o_58 P), ((nat_lit 66 : Nat), o_66 P), ((nat_lit 65 : Nat), o_65 P), ((nat_lit 84 : Nat), o_84 P), ((nat_lit 85 : Nat), o_85 P)]
noncomputable def asK : List Addr := [3, 2, 160, 159, 165, 164, 170, 169, 177, 176, 182, 181, 187, 186, 192, 191, 153, 152, 143, 142, 119, 118, 101, 100, 94, 93, 109, 133, 144, 83, 82, 38, 37, 45, 44, 52, 51, 59, 58, 66, 65, 84, 85]
noncomputable def qv : Program := { pw with main := { pw.main with body := pw.main.body.drop 70 } }
noncomputable def looseL : List Str := [Str.ofString "_wall", Str.ofString "Whitespace", Str.ofString "_int2digits", Str.ofString "_digits2int", Str.ofString "b1_set", Str.ofString "in_table_b1", Str.ofString "c8_set", Str.ofString "in_table_c8", Str.ofString "ENDMARKER", Str.ofString "LPAR", Str.ofString "RPAR", Str.ofString "LSQB", Str.ofString "RSQB", Str.ofString "COLON", Str.ofString "COMMA", Str.ofString "SEMI", Str.ofString "PLUS", Str.ofString "MINUS", Str.ofString "STAR", Str.ofString "SLASH", Str.ofString "VBAR", Str.ofString "AMPER", Str.ofString "LESS", Str.ofString "GREATER", Str.ofString "EQUAL", Str.ofString "DOT", Str.ofString "PERCENT", Str.ofString "LBRACE", Str.ofString "RBRACE", Str.ofString "EQEQUAL", Str.ofString "NOTEQUAL", Str.ofString "LESSEQUAL", Str.ofString "GREATEREQUAL", Str.ofString "TILDE", Str.ofString "CIRCUMFLEX", Str.ofString "LEFTSHIFT", Str.ofString "RIGHTSHIFT", Str.ofString "DOUBLESTAR", Str.ofString "PLUSEQUAL", Str.ofString "MINEQUAL", Str.ofString "STAREQUAL", Str.ofString "SLASHEQUAL", Str.ofString "PERCENTEQUAL", Str.ofString "AMPEREQUAL", Str.ofString "VBAREQUAL", Str.ofString "CIRCUMFLEXEQUAL", Str.ofString "LEFTSHIFTEQUAL", Str.ofString "RIGHTSHIFTEQUAL", Str.ofString "DOUBLESTAREQUAL", Str.ofString "DOUBLESLASH", Str.ofString "DOUBLESLASHEQUAL", Str.ofString "AT", Str.ofString "ATEQUAL", Str.ofString "RARROW", Str.ofString "ELLIPSIS", Str.ofString "COLONEQUAL", Str.ofString "EXCLAMATION", Str.ofString "EXACT_TOKEN_TYPES", Str.ofString "ISEOF", Str.ofString "_law_text", Str.ofString "_law_read", Str.ofString "_law_meant", Str.ofString "_law_shared", Str.ofString "_law_table", Str.ofString "_law_lead"]
noncomputable def H1 (P : Params) : Heap := absHeap (tree_c71 P) 193 {}
abbrev rwRow : OpenRow := OpenLaw.row PySem.Challenge.rw_to0062_01
noncomputable def hookK : Hook := kmHook K asK (fun _ => by kernel_rfl) [89, 96, 189]
end
theorem body_split : behindTheImports pw = stmts 0 7 ++ (stmts 7 1 ++ (stmts 8 2 ++ (stmts 10 51 ++ (stmts 61 1 ++ (stmts 62 9 ++ []))))) := by kernel_rfl
theorem seg_fin (w : World) (os : OsState) : topRun treeTable pw w m0T annT 2 (S_c71 w os).abs ⟨doneF .next, cdT, pos_c71, [topFrame qT]⟩ = some ⟨H1 w.params, #[], {}, 698, os⟩ := by
  rw [PySem.W.Fast.te14082659384304107361, PySem.W.Fast.te14364793385576792824]
  kernel_rfl
theorem run_all (w : World) (os : OsState) : topRun treeTable pw w m0T annT (12 + (1 + (616 + (999 + (804 + (480 + (979 + (237 + 2)))))))) ⟨boot_heap w.params, #[], boot_drawn, boot_toks, os⟩ (topStub pw) = some ⟨H1 w.params, #[], {}, 698, os⟩ := by
  refine go_top (seg_pre w os) (piece_block (seg_block w os) ?_)
  rw [body_split]
  refine piece_app (segRun_of (seg_c7 w os)) ?_
  refine piece_app (segRun_of (seg_c8 w os)) ?_
  refine piece_app (segRun_of (seg_c10 w os)) ?_
  refine piece_app (segRun_of (seg_c61 w os)) ?_
  refine piece_app (segRun_of (seg_c62 w os)) ?_
  refine piece_app (segRun_of (seg_c71 w os)) ?_
  exact piece_nil (seg_fin w os)
theorem size_all (w : World) : ((boot_heap w.params).isNs mainGlobals && (#[] : Array GenState).size == 0, (boot_heap w.params).objs.size, (boot_heap w.params).nsMap mainGlobals "__annotations__") = (true, m0T, annT) := by kernel_rfl
theorem open_all : ∀ w : World, (fencedOpening treeTable pw w 9000).map (fun s => (s.heap, s.gens, s.drawn, s.toks)) = some (boot_heap w.params, #[], boot_drawn, boot_toks) :=
  boot_open (by kernel_rfl) (by decide) (fun _ => by kernel_rfl)
noncomputable abbrev XtT : Shared → Bool := fun s => xlAt qv [] s && recOk rwRow.toRowW.records s
end Tn
end
section
-- TnLooks
open PySem PySem.W PyProof.Rows
set_option maxRecDepth 100000
set_option maxHeartbeats 0
namespace Tn
theorem look_a (w : World) (os : OsState) : (staticsOk (importedModules pw.main.body) (boot_heap w.params) (H1 w.params) && namesBound pw (H1 w.params) && gensDone ⟨H1 w.params, #[], {}, 698, os⟩ && laidKept (boot_heap w.params) (H1 w.params)) = true := by kernel_rfl
theorem look_c (w : World) (os : OsState) : hookK.obs ⟨H1 w.params, #[], {}, 698, os⟩ = hookK.val w := by kernel_rfl
theorem look_b (w : World) (os : OsState) : openSeen qv looseL (importedModules pw.main.body) XtT true ⟨H1 w.params, #[], {}, 698, os⟩ = openGood qv looseL := by
  rw [PySem.W.Fast.te4187177175401517315]
  kernel_rfl
theorem left_all : LeftO pw qv looseL XtT hookK.obs hookK.val 9000 :=
  LeftO.of_pieces open_all size_all run_all (by decide) (fun w => funext fun os => by rw [look_a w os, look_b w os, look_c w os])
end Tn
end
section
-- TnF1
open PySem PySem.W PySem.Calls PySem.Spec PyProof.Rows
set_option maxRecDepth 100000
set_option linter.unusedVariables false
namespace Tn
noncomputable abbrev Md (w : World) : Model := model pw w
noncomputable abbrev Fz := Addr → Option Obj

/-- the code tables: of _int2digits, _digits2int, law -/
noncomputable def TB : List Addr := [89, 96, 189]

structure Up (h h' : Heap) : Prop where
  keep : ∀ b o, b ∉ TB → h.get? b = some o → h'.get? b = some o
  tab : ∀ b vs, b ∈ TB → h.get? b = some (tabObj vs) → ∃ more, h'.get? b = some (tabObj (vs ++ more))
  none : ∀ a, h'.get? a = none → h.get? a = none

theorem Up.refl (h : Heap) : Up h h := ⟨fun _ _ _ e => e, fun _ vs _ e => ⟨#[], by simpa using e⟩, fun _ e => e⟩
theorem Up.trans {a b c : Heap} (x : Up a b) (y : Up b c) : Up a c :=
  ⟨fun p o n e => y.keep p o n (x.keep p o n e), fun p vs m e => by
    obtain ⟨m1, e1⟩ := x.tab p vs m e
    obtain ⟨m2, e2⟩ := y.tab p _ m e1
    exact ⟨m1 ++ m2, by rw [e2, Array.append_assoc]⟩, fun a e => x.none a (y.none a e)⟩
theorem Up.of_keeps {h h' : Heap} (k : ∀ b o, h.get? b = some o → h'.get? b = some o) : Up h h' :=
  ⟨fun b o _ e => k b o e, fun b vs _ e => ⟨#[], by simpa using k b _ e⟩, fun a e => by
    cases q : h.get? a with
    | none => rfl
    | some o => rw [k a o q] at e; cases e⟩

noncomputable def qualOf (P : Addr) : Str := if P = 89 then "_int2digits.<locals>.inner" else if P = 96 then "_digits2int.<locals>.inner" else "law.<locals>.<lambda>"

structure TabOk (h : Heap) (c P : Addr) : Prop where
  hd : CodeHd h c P
  tab : ∃ ps, h.get? P = some (tabObj ps) ∧ TriplesOk ps.toList ∧ ∀ pos cv, codeAmong pos ps.toList = some cv → ∃ c', cv = .ref c' ∧ c' ∉ TB ∧ h.CodeRec cv (qualOf P)

structure Inv (w : World) (h : Heap) : Prop where
  k : (K w.params).In h
  b : ∃ mb, h.Ns builtinsNs mb ∧ ∀ x : Str, x ≠ "__name__" → mb x = bootBuiltins x
  lim : h.NoLimit
  g : ∃ mg, h.Ns mainGlobals mg ∧ h.BuiltinsAt mg 89 ∧ h.BuiltinsAt mg 96 ∧ h.BuiltinsAt mg 189
  t1 : TabOk h 93 89
  t2 : TabOk h 100 96
  t3 : TabOk h 191 189

theorem Inv.tabAt {w : World} {h : Heap} (I : Inv w h) {P : Addr} (m : P ∈ TB) : ∃ ps, h.get? P = some (tabObj ps) := by
  simp only [TB, List.mem_cons, List.not_mem_nil, or_false] at m
  rcases m with rfl | rfl | rfl
  · obtain ⟨ps, e, _⟩ := I.t1.tab; exact ⟨ps, e⟩
  · obtain ⟨ps, e, _⟩ := I.t2.tab; exact ⟨ps, e⟩
  · obtain ⟨ps, e, _⟩ := I.t3.tab; exact ⟨ps, e⟩
theorem Inv.notTB {w : World} {h : Heap} (I : Inv w h) {b : Addr} {o : Obj} (e : h.get? b = some o) (n : ∀ ps, o ≠ tabObj ps) : b ∉ TB := fun m => by
  obtain ⟨ps, e'⟩ := I.tabAt m
  rw [e] at e'; exact n ps (Option.some.inj e')
theorem Inv.fresh {w : World} {h : Heap} (I : Inv w h) {b : Addr} (e : h.get? b = none) : b ∉ TB := fun m => by
  obtain ⟨ps, e'⟩ := I.tabAt m
  rw [e] at e'; cases e'
theorem get_size (h : Heap) : h.get? h.objs.size = none := by
  cases e : h.get? h.objs.size with
  | none => rfl
  | some o => exact absurd (Heap.lt_size e) (Nat.lt_irrefl _)
theorem ns_up {w : World} {h h' : Heap} (I : Inv w h) (u : Up h h') {a : Addr} {m : Str → Option Value} (n : h.Ns a m) : h'.Ns a m := by
  obtain ⟨o, es, ep, e, d, r⟩ := n
  exact ⟨o, es, ep, u.keep _ _ (I.notTB e fun ps q => by rw [q] at d; cases d) e, d, r⟩
theorem cell_up {w : World} {h h' : Heap} (I : Inv w h) (u : Up h h') {c : Addr} {v : Option Value} (x : h.IsCell c v) : h'.IsCell c v := by
  obtain ⟨o, e, d⟩ := x
  exact ⟨o, u.keep _ _ (I.notTB e fun ps q => by rw [q] at d; cases d) e, d⟩

/-- a code record -/
noncomputable def IsCd (o : Obj) : Prop := ∃ vs q t, o.data = .fields vs ∧ vs[1]? = some (.str q t)
/-- what one step of an expression does -/
structure Stp (B : Fz) (h : Heap) (B' : Fz) (h' : Heap) : Prop where
  up : Up h h'
  le : ∀ a o, B a = some o → B' a = some o
  inh : ∀ a o, B' a = some o → h'.get? a = some o ∧ a ∉ TB
  fresh : ∀ a o, B' a = some o → B a = some o ∨ h.get? a = none ∨ (h.get? a = some o ∧ IsCd o)

theorem Stp.refl {B : Fz} {h : Heap} (i : ∀ a o, B a = some o → h.get? a = some o ∧ a ∉ TB) : Stp B h B h := ⟨.refl h, fun _ _ e => e, i, fun _ _ e => .inl e⟩
theorem Stp.trans {B B₁ B₂ : Fz} {h h₁ h₂ : Heap} (x : Stp B h B₁ h₁) (y : Stp B₁ h₁ B₂ h₂) : Stp B h B₂ h₂ :=
  ⟨x.up.trans y.up, fun a o e => y.le a o (x.le a o e), y.inh, fun a o e => (y.fresh a o e).elim (x.fresh a o) fun q => q.elim (fun q => .inr (.inl (x.up.none _ q))) fun ⟨q, cd⟩ => by
    cases z : h.get? a with
    | none => exact .inr (.inl rfl)
    | some o' =>
      have := x.up.keep a o' (y.inh a o e).2 z
      rw [q] at this; cases this
      exact .inr (.inr ⟨rfl, cd⟩)⟩

/-- the state stands at h, and a token was given -/
structure At (s : Shared) (h : Heap) : Prop where
  eq : s.heap = h
  pos : 1 ≤ s.toks
structure InvT (w : World) (h : Heap) (tk : Nat) : Prop where
  inv : Inv w h
  pos : 1 ≤ tk
theorem InvT.at {w : World} {h : Heap} {tk : Nat} {s : Shared} (I : InvT w h tk) : At { s with heap := h, toks := tk } h := ⟨rfl, I.pos⟩

/-- a tree that ends in ok, from the frozen store B and the heap h -/
noncomputable def Does {α : Type} (w : World) (A : Around) (t : Sem α) (B : Fz) (h : Heap) (ok : α → Fz → Heap → Prop) : Prop :=
  ∀ (s : Shared) (Q : α → Shared → Prop) (E : Value → Shared → Prop), At s h →
    (∀ a B' h' tk, Stp B h B' h' → InvT w h' tk → ok a B' h' → Q a { s with heap := h', toks := tk }) → wpAny (Md w) A t Q E s

section
variable {α β : Type} {w : World} {A : Around} {B : Fz} {h : Heap}
theorem Does.bind {t : Sem α} {f : α → Sem β} {ok₁ : α → Fz → Heap → Prop} {ok : β → Fz → Heap → Prop} (x : Does w A t B h ok₁)
    (y : ∀ a B' h', Stp B h B' h' → Inv w h' → ok₁ a B' h' → Does w A (f a) B' h' ok) : Does w A (t >>= f) B h ok := fun s Q E e k =>
  wpAny_bind (x s _ E e fun a B' h' tk st I o => y a B' h' st I.inv o _ Q E I.at fun b B'' h'' tk' st' I' o' => k b B'' h'' tk' (st.trans st') I' o')
theorem Does.mono {t : Sem α} {ok₁ ok : α → Fz → Heap → Prop} (x : Does w A t B h ok₁) (m : ∀ a B' h', Stp B h B' h' → Inv w h' → ok₁ a B' h' → ok a B' h') : Does w A t B h ok :=
  fun s Q E e k => x s Q E e fun a B' h' tk st I o => k a B' h' tk st I (m a B' h' st I.inv o)
/-- any rule of the library that is sound for every Q gives a Does -/
theorem Does.of {t : Sem α} {ok : α → Fz → Heap → Prop} (x : ∀ (s : Shared) (Q : α → Shared → Prop) (E : Value → Shared → Prop), At s h →
    (∀ a B' h' tk, Stp B h B' h' → Inv w h' → ok a B' h' → Q a { s with heap := h', toks := tk }) → wpAny (Md w) A t Q E s) : Does w A t B h ok := fun s Q E e k => by
  have y := wpAny_toks_of (n := 1) e.pos (x s (fun a s' => 1 ≤ s'.toks → Q a s') E e fun a B' h' tk st I o p => k a B' h' tk st ⟨I, p⟩ o)
  exact wpAny_mono y (fun a s' z => z.2 z.1) fun _ _ z => z.2
end

/-- what a call's stack allows: n more levels -/
structure AOk (A : Around) (n : Nat) : Prop where
  hh : A.handled = none
  dep : A.depth + n ≤ 900
  un : A.units + 40 * n ≤ 9000

theorem AOk.le {A : Around} {n m : Nat} (x : AOk A n) (h : m ≤ n) : AOk A m := ⟨x.hh, Nat.le_trans (Nat.add_le_add_left h _) x.dep, Nat.le_trans (Nat.add_le_add_left (Nat.mul_le_mul_left _ h) _) x.un⟩
theorem AOk.deeper {A : Around} {n : Nat} (x : AOk A (n + 1)) (env : Env) : AOk (A.deeper env) n :=
  ⟨x.hh, by have := x.dep; show A.depth + 1 + n ≤ 900; lia, by have := x.un; show A.units + 3 + 40 * n ≤ 9000; lia⟩
theorem AOk.in1 {A : Around} {n : Nat} (x : AOk A (n + 1)) : AOk A.in1 n := ⟨x.hh, by have := x.dep; show A.depth + n ≤ 900; lia, by have := x.un; show A.units + 1 + 40 * n ≤ 9000; lia⟩
theorem AOk.room {A : Around} {n : Nat} (x : AOk A n) : A.depth < recursionLimit := by have := x.dep; show A.depth < 1000; lia
theorem AOk.units {A : Around} {n : Nat} (x : AOk A n) : A.units < cLine := by have := x.un; show A.units < 9900; lia
theorem callerA_ok : AOk callerA 60 := ⟨rfl, by decide, by decide⟩

/-- an iterator's object -/
noncomputable def Iterish (o : Obj) : Prop := (∃ vs, o.data = .fields vs ∧ ∀ q t, vs[1]? ≠ some (.str q t)) ∧ (o.cls = .type "list_iterator" ∨ o.cls = .type "tuple_iterator" ∨ o.cls = .type "range_iterator" ∨ o.cls = .type "str_ascii_iterator" ∨ o.cls = .type "str_iterator")
/-- the store without one address -/
noncomputable def Fz.del (B : Fz) (a : Addr) : Fz := fun b => if b = a then none else B b
structure Mono (P : Fz → Value → Prop) : Prop where
  up : ∀ B B' v, (∀ a o, B a = some o → B' a = some o) → P B v → P B' v
  del : ∀ B I o v, B I = some o → Iterish o → P B v → P (B.del I) v
/-- data -/
inductive D where
  | none | bool (b : Bool) | int (i : Int) | str (s : Str)
  | list (ds : List D) | tup (ds : List D)
  | ref (a : Addr) | blt (id : String) | typ (n : String)
  | rng (a b c : Int)
  | prd (P : Fz → Value → Prop)

mutual
inductive Rep (B : Fz) : Value → D → Prop
  | none : Rep B .none .none
  | bool (b : Bool) : Rep B (.bool b) (.bool b)
  | int (i : Int) (t : Tok) : Rep B (.int i t) (.int i)
  | str (s : Str) (t : Tok) : Rep B (.str s t) (.str s)
  | list {a : Addr} {vs : Array Value} {n : Nat} {ds : List D} : B a = some { cls := .type "list", data := .seq vs n } → Reps B vs.toList ds → Rep B (.ref a) (.list ds)
  | tup {a : Addr} {vs : Array Value} {n : Nat} {ds : List D} : B a = some { cls := .type "tuple", data := .seq vs n } → Reps B vs.toList ds → Rep B (.ref a) (.tup ds)
  | ref (a : Addr) : Rep B (.ref a) (.ref a)
  | blt (id : String) : Rep B (.builtin id) (.blt id)
  | typ (n : String) : Rep B (.type n) (.typ n)
  | rng {r : Addr} {a b c : Int} {t u v : Tok} : B r = some { cls := .type "range", dict := none, data := .fields #[.int a t, .int b u, .int c v], slots := #[] } → Rep B (.ref r) (.rng a b c)
  | prd {P : Fz → Value → Prop} {v : Value} (m : Mono P) : P B v → Rep B v (.prd P)
inductive Reps (B : Fz) : List Value → List D → Prop
  | nil : Reps B [] []
  | cons {v : Value} {d : D} {vs : List Value} {ds : List D} : Rep B v d → Reps B vs ds → Reps B (v :: vs) (d :: ds)
end
end Tn
end
section
-- TnF2
open PySem PySem.W PySem.Calls PySem.Spec PyProof.Rows
set_option maxRecDepth 100000
set_option linter.unusedVariables false
namespace Tn
mutual
theorem Rep.mono {B B' : Fz} (le : ∀ a o, B a = some o → B' a = some o) : ∀ {v : Value} {d : D}, Rep B v d → Rep B' v d
  | _, _, .none => .none
  | _, _, .bool b => .bool b
  | _, _, .int i t => .int i t
  | _, _, .str s t => .str s t
  | _, _, .list a r => .list (le _ _ a) (Reps.mono le r)
  | _, _, .tup a r => .tup (le _ _ a) (Reps.mono le r)
  | _, _, .ref a => .ref a
  | _, _, .blt a => .blt a
  | _, _, .typ a => .typ a
  | _, _, .rng a => .rng (le _ _ a)
  | _, _, .prd m p => .prd m (m.up _ _ _ le p)
theorem Reps.mono {B B' : Fz} (le : ∀ a o, B a = some o → B' a = some o) : ∀ {vs : List Value} {ds : List D}, Reps B vs ds → Reps B' vs ds
  | _, _, .nil => .nil
  | _, _, .cons x y => .cons (Rep.mono le x) (Reps.mono le y)
end
mutual
theorem Rep.del {B : Fz} {I : Addr} {o : Obj} (e : B I = some o) (io : Iterish o) : ∀ {v : Value} {d : D}, Rep B v d → Rep (B.del I) v d
  | _, _, .none => .none
  | _, _, .bool b => .bool b
  | _, _, .int i t => .int i t
  | _, _, .str s t => .str s t
  | _, _, .list a r => .list ((if_neg (fun q => by rw [q, e] at a; cases a; simp [Iterish] at io)).trans a) (Reps.del e io r)
  | _, _, .tup a r => .tup ((if_neg (fun q => by rw [q, e] at a; cases a; simp [Iterish] at io)).trans a) (Reps.del e io r)
  | _, _, .ref a => .ref a
  | _, _, .blt a => .blt a
  | _, _, .typ a => .typ a
  | _, _, .rng a => .rng ((if_neg (fun q => by rw [q, e] at a; cases a; simp [Iterish] at io)).trans a)
  | _, _, .prd m p => .prd m (m.del _ _ _ _ e io p)
theorem Reps.del {B : Fz} {I : Addr} {o : Obj} (e : B I = some o) (io : Iterish o) : ∀ {vs : List Value} {ds : List D}, Reps B vs ds → Reps (B.del I) vs ds
  | _, _, .nil => .nil
  | _, _, .cons x y => .cons (Rep.del e io x) (Reps.del e io y)
end
theorem Reps.length {B : Fz} : ∀ {vs : List Value} {ds : List D}, Reps B vs ds → vs.length = ds.length
  | _, _, .nil => rfl
  | _, _, .cons _ y => congrArg (· + 1) y.length
theorem Reps.get {B : Fz} : ∀ {vs : List Value} {ds : List D}, Reps B vs ds → ∀ {i : Nat} {d : D}, ds[i]? = some d → ∃ v, vs[i]? = some v ∧ Rep B v d
  | _, _, .nil, i, d, h => by simp at h
  | _, _, .cons (v := v) x y, 0, d, h => by simp at h; subst h; exact ⟨v, rfl, x⟩
  | _, _, .cons x y, i + 1, d, h => by simpa using y.get (i := i) (by simpa using h)
theorem Reps.get' {B : Fz} : ∀ {vs : List Value} {ds : List D}, Reps B vs ds → ∀ {i : Nat} {v : Value}, vs[i]? = some v → ∃ d, ds[i]? = some d ∧ Rep B v d
  | _, _, .nil, i, d, h => by simp at h
  | _, _, .cons (d := d) x y, 0, v, h => by simp at h; subst h; exact ⟨d, rfl, x⟩
  | _, _, .cons x y, i + 1, v, h => by simpa using y.get' (i := i) (by simpa using h)
theorem Reps.append {B : Fz} : ∀ {vs ws : List Value} {ds es : List D}, Reps B vs ds → Reps B ws es → Reps B (vs ++ ws) (ds ++ es)
  | _, _, _, _, .nil, y => y
  | _, _, _, _, .cons a b, y => .cons a (b.append y)
theorem Reps.take {B : Fz} : ∀ {vs : List Value} {ds : List D}, Reps B vs ds → ∀ n, Reps B (vs.take n) (ds.take n)
  | _, _, .nil, n => by simpa using Reps.nil
  | _, _, .cons a b, 0 => .nil
  | _, _, .cons a b, n + 1 => .cons a (b.take n)
theorem Reps.drop {B : Fz} : ∀ {vs : List Value} {ds : List D}, Reps B vs ds → ∀ n, Reps B (vs.drop n) (ds.drop n)
  | _, _, .nil, n => by simpa using Reps.nil
  | _, _, .cons a b, 0 => .cons a b
  | _, _, .cons a b, n + 1 => b.drop n
theorem Rep.int_inv {B : Fz} {v : Value} {i : Int} (r : Rep B v (.int i)) : ∃ t, v = .int i t := by cases r; exact ⟨_, rfl⟩
theorem Rep.str_inv {B : Fz} {v : Value} {i : Str} (r : Rep B v (.str i)) : ∃ t, v = .str i t := by cases r; exact ⟨_, rfl⟩
theorem Rep.bool_inv {B : Fz} {v : Value} {i : Bool} (r : Rep B v (.bool i)) : v = .bool i := by cases r; rfl
theorem Rep.rng_inv {B : Fz} {x : Value} {a b c : Int} (r : Rep B x (.rng a b c)) : ∃ r t u v, x = .ref r ∧ B r = some { cls := .type "range", dict := Option.none, data := .fields #[.int a t, .int b u, .int c v], slots := #[] } := by cases r with | rng e => exact ⟨_, _, _, _, rfl, e⟩
theorem Rep.prd_inv {B : Fz} {x : Value} {P : Fz → Value → Prop} (r : Rep B x (.prd P)) : Mono P ∧ P B x := by cases r with | prd m p => exact ⟨m, p⟩
theorem Rep.blt_inv {B : Fz} {v : Value} {i : String} (r : Rep B v (.blt i)) : v = .builtin i := by cases r; rfl
theorem Rep.typ_inv {B : Fz} {v : Value} {i : String} (r : Rep B v (.typ i)) : v = .type i := by cases r; rfl
theorem Rep.ref_inv {B : Fz} {v : Value} {i : Addr} (r : Rep B v (.ref i)) : v = .ref i := by cases r; rfl
noncomputable def InH (B : Fz) (h : Heap) : Prop := ∀ a o, B a = some o → h.get? a = some o ∧ a ∉ TB

/-- the same, with list and tuple as the library says them -/
theorem Rep.isL {B : Fz} {h : Heap} (i : InH B h) {v : Value} {ds : List D} (r : Rep B v (.list ds)) : ∃ a vs n, v = .ref a ∧ B a = some { cls := .type "list", data := .seq vs n } ∧ h.get? a = some { cls := .type "list", data := .seq vs n } ∧ h.IsList a vs ∧ vs.size = ds.length ∧ Reps B vs.toList ds := by
  cases r with | list e r => exact ⟨_, _, _, rfl, e, (i _ _ e).1, ⟨_, (i _ _ e).1, rfl, _, rfl⟩, by simpa using r.length, r⟩
theorem Rep.isT {B : Fz} {h : Heap} (i : InH B h) {v : Value} {ds : List D} (r : Rep B v (.tup ds)) : ∃ a vs n, v = .ref a ∧ B a = some { cls := .type "tuple", data := .seq vs n } ∧ h.get? a = some { cls := .type "tuple", data := .seq vs n } ∧ IsTup h a vs ∧ vs.size = ds.length ∧ Reps B vs.toList ds := by
  cases r with | tup e r => exact ⟨_, _, _, rfl, e, (i _ _ e).1, ⟨_, (i _ _ e).1, rfl, _, rfl⟩, by simpa using r.length, r⟩

/-- a fresh object joins the frozen store -/
noncomputable def Fz.put (B : Fz) (a : Addr) (o : Obj) : Fz := fun b => if b = a then some o else B b
theorem Fz.put_self (B : Fz) (a : Addr) (o : Obj) : (B.put a o) a = some o := if_pos rfl
theorem put_le {B : Fz} {h : Heap} (i : InH B h) {a : Addr} (ha : h.get? a = none) (o : Obj) : ∀ b o', B b = some o' → (B.put a o) b = some o' := fun b o' e => by
  have : b ≠ a := fun q => by have := (i b o' e).1; rw [q, ha] at this; cases this
  exact (if_neg this).trans e
theorem Stp.put {w : World} {B : Fz} {h h' : Heap} (I : Inv w h) (i : InH B h) (u : Up h h') {a : Addr} (ha : h.get? a = none) {o : Obj} (e : h'.get? a = some o) : Stp B h (B.put a o) h' :=
  ⟨u, put_le i ha o, fun b o' q => by
    by_cases hb : b = a
    · rw [hb] at q ⊢
      rw [show (B.put a o) a = some o from if_pos rfl] at q
      cases q
      exact ⟨e, I.fresh ha⟩
    · rw [show (B.put a o) b = B b from if_neg hb] at q
      exact ⟨u.keep _ _ (i b o' q).2 (i b o' q).1, (i b o' q).2⟩, fun b o' q => by
    by_cases hb : b = a
    · exact .inr (.inl (hb ▸ ha))
    · rw [show (B.put a o) b = B b from if_neg hb] at q; exact .inl q⟩
theorem Stp.keep {w : World} {B : Fz} {h h' : Heap} (i : InH B h) (u : Up h h') : Stp B h B h' :=
  ⟨u, fun _ _ e => e, fun b o q => ⟨u.keep _ _ (i b o q).2 (i b o q).1, (i b o q).2⟩, fun _ _ e => .inl e⟩

theorem Up.push (h : Heap) (o : Obj) : Up h (h.push o) := .of_keeps fun b o' e => Heap.get?_push_of_some _ e
theorem Inv.of_keeps {w : World} {h h' : Heap} (I : Inv w h) (k : ∀ b o, h.get? b = some o → h'.get? b = some o) : Inv w h' := by
  obtain ⟨mg, g1, g2, g3, g4⟩ := I.g
  obtain ⟨mb, b1, b2⟩ := I.b
  have tk : ∀ {c P : Addr}, TabOk h c P → TabOk h' c P := fun ⟨hd, ps, e, t, q⟩ => ⟨hd.keeps k, ps, k _ _ e, t, fun pos cv z => by
    obtain ⟨c', e1, e2, e3⟩ := q pos cv z
    exact ⟨c', e1, e2, e3.keeps k⟩⟩
  exact ⟨I.k.keeps k, ⟨mb, b1.keeps k, b2⟩, I.lim.keeps k, ⟨mg, g1.keeps k, g2.keeps k, g3.keeps k, g4.keeps k⟩, tk I.t1, tk I.t2, tk I.t3⟩
theorem Inv.push {w : World} {h : Heap} (I : Inv w h) (o : Obj) : Inv w (h.push o) := I.of_keeps fun b o' e => Heap.get?_push_of_some _ e

section
variable {α : Type} {w : World} {A : Around} {B : Fz} {h : Heap}
/-- from a rule whose end keeps the heap's objects -/
theorem Does.keeps {t : Sem α} {ok : α → Fz → Heap → Prop} (I : Inv w h) (i : InH B h)
    (x : ∀ (s : Shared) (Q : α → Shared → Prop) (E : Value → Shared → Prop), s.heap = h → 1 ≤ s.toks →
      (∀ a h' tk, (∀ b o, h.get? b = some o → h'.get? b = some o) → ok a B h' → Q a { s with heap := h', toks := tk }) → wpAny (Md w) A t Q E s) : Does w A t B h ok :=
  .of fun s Q E e k => x s Q E e.eq e.pos fun a h' tk kp o => k a B h' tk (Stp.keep (w := w) i (.of_keeps kp)) (I.of_keeps kp) o
/-- from a rule whose end leaves the heap as it is -/
theorem Does.same {t : Sem α} {ok : α → Fz → Heap → Prop} (I : Inv w h) (i : InH B h)
    (x : ∀ (s : Shared) (Q : α → Shared → Prop) (E : Value → Shared → Prop), s.heap = h → 1 ≤ s.toks → (∀ a tk, ok a B h → Q a { s with toks := tk }) → wpAny (Md w) A t Q E s) : Does w A t B h ok :=
  .of fun s Q E e k => x s Q E e.eq e.pos fun a tk o => by
    have := k a B h tk (Stp.refl i) I o
    rw [← e.eq] at this; exact this
/-- from a rule that pushes one object -/
theorem Does.push {t : Sem Value} {d : D} (I : Inv w h) (i : InH B h) (o : Obj) (hf : o.isFreed = false) (r : Rep (B.put h.objs.size o) (.ref h.objs.size) d)
    (x : ∀ (s : Shared) (Q : Value → Shared → Prop) (E : Value → Shared → Prop), s.heap = h → (∀ tk, Q (.ref h.objs.size) { s with heap := h.push o, toks := tk }) → wpAny (Md w) A t Q E s) : Does w A t B h (fun v B' _ => Rep B' v d) :=
  .of fun s Q E e k => x s Q E e.eq fun tk => k _ _ _ tk (Stp.put I i (Up.push h o) (get_size h) (Heap.get?_push_size _ hf)) (I.push o) r
end

noncomputable def VarAt (env : Env) (h : Heap) (x : Str) (v : Value) : Prop :=
  (env.kindOf x = some .local ∧ ∃ m, h.Ns env.locals m ∧ m x = some v) ∨
  ((env.kindOf x = some .cell ∨ env.kindOf x = some .free) ∧ (x == ("__classdict__" : Str)) = false ∧ ∃ c, env.cells.lookup x = some c ∧ h.IsCell c (some v))

noncomputable abbrev Rho := List (Str × D)
/-- what an expression needs of its frame -/
structure Fm (w : World) (env : Env) (B : Fz) (h : Heap) (ρ : Rho) : Prop where
  inv : Inv w h
  inh : InH B h
  kind : env.scope.kind = .function
  glob : env.globals = mainGlobals
  blt : env.builtins = builtinsNs
  vars : ∀ x d, ρ.lookup x = some d → ∃ v, VarAt env h x v ∧ Rep B v d ∧ (x == ("__debug__" : Str)) = false

theorem VarAt.up {w : World} {env : Env} {h h' : Heap} (I : Inv w h) (u : Up h h') {x : Str} {v : Value} (y : VarAt env h x v) : VarAt env h' x v := by
  rcases y with ⟨a, m, b, c⟩ | ⟨a, n, c, b, d⟩
  · exact .inl ⟨a, m, ns_up I u b, c⟩
  · exact .inr ⟨a, n, c, b, cell_up I u d⟩
theorem Fm.step {w : World} {env : Env} {B B' : Fz} {h h' : Heap} {ρ : Rho} (F : Fm w env B h ρ) (s : Stp B h B' h') {tk : Nat} (I : InvT w h' tk) : Fm w env B' h' ρ :=
  ⟨I.inv, s.inh, F.kind, F.glob, F.blt, fun x d e => let ⟨v, a, b, c⟩ := F.vars x d e; ⟨v, a.up F.inv s.up, b.mono s.le, c⟩⟩

structure Ev (w : World) (A : Around) (env : Env) (ρ : Rho) (e : Expr) (d : D) : Prop where
  go : ∀ B h, Fm w env B h ρ → Does w A (eval e env) B h (fun v B' _ => Rep B' v d)
structure EvL (w : World) (A : Around) (env : Env) (ρ : Rho) (es : List Expr) (ds : List D) : Prop where
  go : ∀ pos B h, Fm w env B h ρ → Does w A (spliced (backTo pos (starEach es env))) B h (fun vs B' _ => Reps B' vs ds)
structure EvT (w : World) (A : Around) (env : Env) (ρ : Rho) (e : Expr) (b : Bool) : Prop where
  go : ∀ B h, Fm w env B h ρ → Does w A (isTrue e env (eval e env)) B h (fun v _ _ => v = b)
/-- a contract of a callable -/
structure Calls (w : World) (f : Value) (k : Nat) (ds : List D) (d : D) : Prop where
  go : ∀ A B h vs, AOk A k → Inv w h → InH B h → Reps B vs ds → Does w A (call f vs) B h (fun v B' _ => Rep B' v d)

structure Op2 (w : World) (A : Around) (op : Operator) (a b d : D) : Prop where
  go : ∀ B h va vb, Inv w h → InH B h → Rep B va a → Rep B vb b → Does w A (binaryOp op va vb) B h (fun v B' _ => Rep B' v d)
structure OpI (w : World) (A : Around) (op : Operator) (a b d : D) : Prop where
  go : ∀ B h va vb, Inv w h → InH B h → Rep B va a → Rep B vb b → Does w A (inplaceOp op va vb) B h (fun v B' _ => Rep B' v d)
structure OpC (w : World) (A : Around) (op : CmpOp) (a b : D) (c : D) : Prop where
  go : ∀ B h va vb, Inv w h → InH B h → Rep B va a → Rep B vb b → Does w A (compareOp op va vb) B h (fun v B' _ => Rep B' v c)
section
variable {w : World} {A : Around} {env : Env} {ρ : Rho}
theorem ev_name {x : Str} {pos : Pos} {d : D} (e : ρ.lookup x = some d) : Ev w A env ρ (.Name x pos) d := .mk fun B h F => by
  obtain ⟨v, y, r, hb⟩ := F.vars x d e
  refine .same F.inv F.inh fun s Q E hs _ k => ?_
  have kk := k v s.toks r
  rcases y with ⟨a, m, b, c⟩ | ⟨a, n, c, b, dd⟩
  · exact wpAny_Name (wpAny_loadName_local F.kind a (hs ▸ b) c kk) hb
  · rcases a with a | a
    · exact wpAny_Name (wpAny_loadName_cell F.kind a b (hs ▸ dd) kk) hb
    · exact wpAny_Name (wpAny_loadName_free F.kind a b (hs ▸ dd) kk n) hb
theorem ev_global {x : Str} {pos : Pos} {a : Addr} (hx : env.kindOf x = some .globalImplicit) (e : nsIn (K w.params) mainGlobals x = some (some (.ref a))) (hd : (x == ("__debug__" : Str)) = false := by decide) :
    Ev w A env ρ (.Name x pos) (.ref a) := .mk fun B h F => by
  obtain ⟨mg, g1, _⟩ := F.inv.g
  refine .same F.inv F.inh fun s Q E hs _ k => ?_
  exact Name_function_global F.kind hx (loadGlobal_global (F.glob ▸ hs ▸ g1) (mg_of F.inv.k g1 e) (k _ s.toks (.ref a))) hd
theorem ev_globalV {x : Str} {pos : Pos} {v : Value} {d : D} (hx : env.kindOf x = some .globalImplicit) (e : nsIn (K w.params) mainGlobals x = some (some v)) (r : ∀ B, Rep B v d) (hd : (x == ("__debug__" : Str)) = false := by decide) :
    Ev w A env ρ (.Name x pos) d := .mk fun B h F => by
  obtain ⟨mg, g1, _⟩ := F.inv.g
  refine .same F.inv F.inh fun s Q E hs _ k => ?_
  exact Name_function_global F.kind hx (loadGlobal_global (F.glob ▸ hs ▸ g1) (mg_of F.inv.k g1 e) (k _ s.toks (r _))) hd
theorem ev_builtin {x : Str} {pos : Pos} {v : Value} {d : D} (hx : env.kindOf x = some .globalImplicit) (e : nsIn (K w.params) mainGlobals x = some none) (hv : bootBuiltins x = some v) (r : ∀ B, Rep B v d)
    (hn : x ≠ "__name__") (hd : (x == ("__debug__" : Str)) = false := by decide) : Ev w A env ρ (.Name x pos) d := .mk fun B h F => by
  obtain ⟨mg, g1, _⟩ := F.inv.g
  obtain ⟨mb, b1, b2⟩ := F.inv.b
  refine .same F.inv F.inh fun s Q E hs _ k => ?_
  exact Name_function_global F.kind hx (loadGlobal_builtin (F.glob ▸ hs ▸ g1) (mg_none_of F.inv.k g1 e) (F.blt ▸ hs ▸ b1) ((b2 x hn).trans hv) (k _ s.toks (r _))) hd
theorem ev_int {i : Int} {k : Nat} {pos : Pos} : Ev w A env ρ (.Constant (.int i) k pos) (.int i) := .mk fun B h F => .same F.inv F.inh fun s Q E hs _ kk => wpAny_Constant_int (kk _ _ (.int _ _))
theorem ev_str {i : Str} {k : Nat} {pos : Pos} : Ev w A env ρ (.Constant (.str i) k pos) (.str i) := .mk fun B h F => .same F.inv F.inh fun s Q E hs _ kk => wpAny_Constant_str (kk _ _ (.str _ _))
theorem ev_bool {b : Bool} {k : Nat} {pos : Pos} : Ev w A env ρ (.Constant (.bool b) k pos) (.bool b) := .mk fun B h F => .same F.inv F.inh fun s Q E hs _ kk => wpAny_Constant_bool (kk _ s.toks (.bool _))
theorem ev_bin {l r : Expr} {op : Operator} {pos : Pos} {a b d : D} (x : Ev w A env ρ l a) (y : Ev w A env ρ r b)
    (z : Op2 w A op a b d) : Ev w A env ρ (.BinOp l op r pos) d := .mk fun B h F s Q E e k =>
  wpAny_BinOp (x.go B h F s _ E e fun va B₁ h₁ tk st I ra => y.go B₁ h₁ (F.step st I) _ _ E I.at fun vb B₂ h₂ tk₂ st₂ I₂ rb =>
    z.go B₂ h₂ va vb I₂.inv st₂.inh (ra.mono st₂.le) rb _ Q E I₂.at fun v B₃ h₃ tk₃ st₃ I₃ r => k v B₃ h₃ tk₃ ((st.trans st₂).trans st₃) I₃ r)
theorem ev_cmp {l r : Expr} {op : CmpOp} {pos : Pos} {a b d : D} (x : Ev w A env ρ l a) (y : Ev w A env ρ r b) (hm : behindInMarks op r = false)
    (z : OpC w A op a b d) : Ev w A env ρ (.Compare l [op] [r] pos) d := .mk fun B h F s Q E e k =>
  wpAny_Compare1 (x.go B h F s _ E e fun va B₁ h₁ tk st I ra => y.go B₁ h₁ (F.step st I) _ _ E I.at fun vb B₂ h₂ tk₂ st₂ I₂ rb =>
    z.go B₂ h₂ va vb I₂.inv st₂.inh (ra.mono st₂.le) rb _ Q E I₂.at fun v B₃ h₃ tk₃ st₃ I₃ r => k v B₃ h₃ tk₃ ((st.trans st₂).trans st₃) I₃ r) hm
theorem evT_cmp {l r : Expr} {op : CmpOp} {pos : Pos} {a b : D} {c : Bool} (x : Ev w A env ρ l a) (y : Ev w A env ρ r b) (hm : behindInMarks op r = false)
    (z : OpC w A op a b (.bool c)) : EvT w A env ρ (.Compare l [op] [r] pos) c := .mk fun B h F s Q E e k =>
  wpAny_isTrue_Compare1 (x.go B h F s _ E e fun va B₁ h₁ tk st I ra => y.go B₁ h₁ (F.step st I) _ _ E I.at fun vb B₂ h₂ tk₂ st₂ I₂ rb =>
    z.go B₂ h₂ va vb I₂.inv st₂.inh (ra.mono st₂.le) rb _ _ E I₂.at fun v B₃ h₃ tk₃ st₃ I₃ r => by
      rw [r.bool_inv]
      exact wpAny_truthy_bool (k c B₃ h₃ tk₃ ((st.trans st₂).trans st₃) I₃ rfl)) hm
theorem ev_ifexp {t b o : Expr} {pos : Pos} {c : Bool} {d : D} (x : EvT w A env ρ t c) (y : c = true → Ev w A env ρ b d) (z : c = false → Ev w A env ρ o d) : Ev w A env ρ (.IfExp t b o pos) d := .mk fun B h F s Q E e k =>
  wpAny_IfExp (x.go B h F s _ E e fun v B₁ h₁ tk st I r => by
    subst r
    cases v with
    | true => exact (y rfl).go B₁ h₁ (F.step st I) _ _ E I.at fun v B₂ h₂ tk₂ st₂ I₂ r => k v B₂ h₂ tk₂ (st.trans st₂) I₂ r
    | false => exact (z rfl).go B₁ h₁ (F.step st I) _ _ E I.at fun v B₂ h₂ tk₂ st₂ I₂ r => k v B₂ h₂ tk₂ (st.trans st₂) I₂ r)
theorem evT_not {t : Expr} {pos : Pos} {c : Bool} (x : EvT w A env ρ t c) : EvT w A env ρ (.UnaryOp .Not t pos) (!c) := .mk fun B h F s Q E e k =>
  wpAny_isTrue_Not (x.go B h F s _ E e fun v B₁ h₁ tk st I r => k _ B₁ h₁ tk st I (by rw [r]))
/-- a test that is a plain expression whose value is a bool -/
theorem evT_bool {e : Expr} {c : Bool} (x : Ev w A env ρ e (.bool c)) (he : ∀ whole, isTrue e env whole = (do let v ← whole; standAt e.pos; holding [v] (truthy v))) : EvT w A env ρ e c := .mk fun B h F s Q E hs k => by
  rw [he]
  refine wpAny_bind (x.go B h F s _ E hs fun v B₁ h₁ tk st I r => wpAny_bind (wpAny_standAt (wpAny_holding ?_)))
  rw [r.bool_inv]
  exact wpAny_truthy_bool (k c B₁ h₁ tk st I rfl)
theorem evl_nil : EvL w A env ρ [] [] := .mk fun pos B h F => .same F.inv F.inh fun s Q E hs _ k => wpAny_items_nil (k [] s.toks .nil)
noncomputable def isStar : Expr → Bool
  | .Starred .. => true
  | _ => false
theorem star_cons {e : Expr} {es : List Expr} (h : isStar e = false) : starEach (e :: es) env = (false, eval e env) :: starEach es env := by
  cases e <;> first | rfl | cases h
theorem evl_cons {e : Expr} {es : List Expr} {d : D} {ds : List D} (x : Ev w A env ρ e d) (y : EvL w A env ρ es ds) (he : isStar e = false := by rfl) : EvL w A env ρ (e :: es) (d :: ds) := .mk fun pos B h F s Q E hs k =>
  wpAny_items_cons (x.go B h F s _ E hs fun v B₁ h₁ tk st I r => y.go pos B₁ h₁ (F.step st I) _ _ E I.at fun vs B₂ h₂ tk₂ st₂ I₂ rs => k _ B₂ h₂ tk₂ (st.trans st₂) I₂ (.cons (r.mono st₂.le) rs)) (star_cons he)
theorem does_newList {vs : List Value} {ds : List D} {B : Fz} {h : Heap} (I : Inv w h) (i : InH B h) (r : Reps B vs ds) (hz : ds.length ≤ 1000000) : Does w A (newList vs) B h (fun v B' _ => Rep B' v (.list ds)) :=
  .push I i { cls := .type "list", data := .seq vs.toArray } rfl (.list (Fz.put_self _ _ _) (by simpa using r.mono (put_le i (get_size h) _))) fun s Q E hs k => by
    subst hs
    exact wpAny_newObj_type (k s.toks) (by show vs.toArray.size ≤ sizeLine; rw [List.size_toArray, r.length, sizeLine_eq]; omega)
theorem does_newTuple {vs : List Value} {ds : List D} {B : Fz} {h : Heap} (I : Inv w h) (i : InH B h) (r : Reps B vs ds) (hz : ds.length ≤ 1000000) : Does w A (newTuple vs) B h (fun v B' _ => Rep B' v (.tup ds)) :=
  .push I i { cls := .type "tuple", data := .seq vs.toArray } rfl (.tup (Fz.put_self _ _ _) (by simpa using r.mono (put_le i (get_size h) _))) fun s Q E hs k => by
    subst hs
    exact wpAny_newObj_type (k s.toks) (by show vs.toArray.size ≤ sizeLine; rw [List.size_toArray, r.length, sizeLine_eq]; omega)
theorem ev_list {es : List Expr} {ds : List D} {pos : Pos} (x : EvL w A env ρ es ds) (hz : ds.length ≤ 1000000) : Ev w A env ρ (.List es pos) (.list ds) := .mk fun B h F s Q E hs k =>
  List_ (x.go pos B h F s _ E hs fun vs B₁ h₁ tk st I r => does_newList I.inv st.inh r hz _ Q E I.at fun v B₂ h₂ tk₂ st₂ I₂ q => k v B₂ h₂ tk₂ (st.trans st₂) I₂ q)
theorem ev_tup {es : List Expr} {ds : List D} {k : Nat} {pos : Pos} (x : EvL w A env ρ es ds) (hz : ds.length ≤ 1000000) : Ev w A env ρ (.Tuple es k pos) (.tup ds) := .mk fun B h F s Q E hs kk =>
  Tuple_ (x.go pos B h F s _ E hs fun vs B₁ h₁ tk st I r => does_newTuple I.inv st.inh r hz _ Q E I.at fun v B₂ h₂ tk₂ st₂ I₂ q => kk v B₂ h₂ tk₂ (st.trans st₂) I₂ q)

/-- who keeps a callable's frame -/
noncomputable def Keep (w : World) (f : Value) : Prop := ∀ h, Inv w h → ∃ k, (k = Keeper.frame ∨ k = Keeper.machine ∨ k = Keeper.boundFrame) ∧ Looks (Md w) h (keeperOf f) k
theorem keep_blt (w : World) (id : String) : Keep w (.builtin id) := fun h _ => ⟨.machine, .inr (.inl rfl), .of_pure rfl⟩
theorem keep_typ (w : World) (id : String) : Keep w (.type id) := fun h _ => ⟨.machine, .inr (.inl rfl), .of_pure rfl⟩
theorem keep_K {w : World} {f : Value} (e : keepIn (K w.params) f = true) : Keep w f := fun h I => keeps_K e h I.k
theorem does_callWith {pos : Pos} {f : Value} {first : List Value} {fds : List D} {es : List Expr} {ds : List D} {d : D} {B : Fz} {h : Heap} {n : Nat} (hA : AOk A n) (hk : Keep w f) (F : Fm w env B h ρ) (hne : es ≠ [])
    (rf : Reps B first fds) (x : EvL w A env ρ es ds) (c : Calls w f n (fds ++ ds) d) (hp : (backTo pos (starEach es env)).any (·.1) = false)
    (he : ∃ t r, backTo pos (starEach es env) = (false, t) :: r) : Does w A (callWith pos f first (backTo pos (starEach es env)) []) B h (fun v B' _ => Rep B' v d) := fun s Q E hs k => by
  obtain ⟨t, r, he⟩ := he
  refine callWith_of (P := fun h => Inv w h) (by rw [hp]; rfl) (fun h I => hk h I) ?_
  have y := x.go pos B h F s (fun vs s₁ => Inv w s₁.heap ∧ wpAny (Md w) A (call f (first ++ vs)) Q E s₁) E hs fun vs B₁ h₁ tk st I rs => ⟨I.inv, c.go A B₁ h₁ _ hA I.inv st.inh ((rf.mono st.le).append rs) _ Q E I.at fun v B₂ h₂ tk₂ st₂ I₂ q => k v B₂ h₂ tk₂ (st.trans st₂) I₂ q⟩
  rw [he] at y ⊢
  exact evalArgs_plain y
theorem ev_call {fe : Expr} {es : List Expr} {pos : Pos} {f : Value} {fd : D} {ds : List D} {d : D} {n : Nat} (hA : AOk A n) (hf : Ev w A env ρ fe fd) (hfv : ∀ B v, Rep B v fd → v = f) (hk : Keep w f) (hne : es ≠ []) (x : EvL w A env ρ es ds) (c : Calls w f n ds d)
    (hfe : eval (.Call fe es [] pos) env = (do callWith pos (← eval fe env) [] (backTo pos (starEach es env)) []) := by rfl) (hp : ∀ pos, (backTo pos (starEach es env)).any (·.1) = false := by exact fun _ => rfl)
    (he : ∀ pos, ∃ t r, backTo pos (starEach es env) = (false, t) :: r := by exact fun _ => ⟨_, _, rfl⟩) : Ev w A env ρ (.Call fe es [] pos) d := .mk fun B h F s Q E hs k => by
  rw [hfe]
  refine wpAny_bind (hf.go B h F s _ E hs fun v B₁ h₁ tk st I r => ?_)
  rw [hfv _ _ r]
  exact does_callWith hA hk (F.step st I) hne .nil x c (hp pos) (he pos) _ Q E I.at fun v B₂ h₂ tk₂ st₂ I₂ q => k v B₂ h₂ tk₂ (st.trans st₂) I₂ q
end
end Tn
end
section
-- TnF3
open PySem PySem.W PySem.Calls PySem.Spec PyProof.Rows
set_option maxRecDepth 100000
set_option linter.unusedVariables false
namespace Tn
noncomputable def S (l : List Nat) : Str := ⟨l.toArray⟩
theorem S_inj {a b : List Nat} (h : S a = S b) : a = b := by
  have := congrArg (fun s : Str => s.cps.toList) h
  simpa [S] using this
@[simp] theorem S_eq (a b : List Nat) : (S a = S b) = (a = b) := propext ⟨S_inj, fun h => by rw [h]⟩
theorem S_len (l : List Nat) : (S l).length = l.length := by simp [S, Str.length]
theorem S_add (a b : List Nat) : S a ++ S b = S (a ++ b) := by
  show (⟨_⟩ : Str) = ⟨_⟩
  simp [S]
section
variable {w : World} {A : Around}
theorem op_add {a b : Int} : Op2 w A .Add (.int a) (.int b) (.int (a + b)) := .mk fun B h va vb I i x y => by
  obtain ⟨t, rfl⟩ := x.int_inv; obtain ⟨u, rfl⟩ := y.int_inv
  exact .same I i fun s Q E _ _ k => add_int (k _ _ (.int _ _))
theorem op_sub {a b : Int} : Op2 w A .Sub (.int a) (.int b) (.int (a - b)) := .mk fun B h va vb I i x y => by
  obtain ⟨t, rfl⟩ := x.int_inv; obtain ⟨u, rfl⟩ := y.int_inv
  exact .same I i fun s Q E _ _ k => sub_int' (k _ _ (.int _ _))
theorem bits_small {a : Int} (h : a.natAbs < 2 ^ 64) : Builtin.Int.intBits a ≤ 64 := by
  unfold Builtin.Int.intBits
  split
  · lia
  · rename_i hn
    have hz : a.natAbs ≠ 0 := by intro q; apply hn; simp [Int.natAbs_eq_zero.mp q]
    have := (Nat.log2_lt hz).mpr h
    lia
theorem op_mul {a b : Int} (h : a.natAbs < 2 ^ 64) : Op2 w A .Mult (.int a) (.int b) (.int (a * b)) := .mk fun B h' va vb I i x y => by
  obtain ⟨t, rfl⟩ := x.int_inv; obtain ⟨u, rfl⟩ := y.int_inv
  exact .same I i fun s Q E _ _ k => mul_int (k _ _ (.int _ _)) (IntMulOk.of_left (bits_small h))
theorem op_mod {a b : Int} (h : b ≠ 0) : Op2 w A .Mod (.int a) (.int b) (.int (a.fmod b)) := .mk fun B h' va vb I i x y => by
  obtain ⟨t, rfl⟩ := x.int_inv; obtain ⟨u, rfl⟩ := y.int_inv
  exact .same I i fun s Q E _ _ k => mod_int' h (k _ _ (.int _ _))
theorem pylong_small {a b : Int} (h : b.natAbs < 2 ^ 64) : Builtin.divisionGoesByPylong a b = false := by
  have hd : ¬ ((if b == 0 then 0 else b.natAbs.log2 / 30 + 1) > 300) := by
    split
    · lia
    · rename_i hn
      have hz : b.natAbs ≠ 0 := by intro q; apply hn; simp [Int.natAbs_eq_zero.mp q]
      have := (Nat.log2_lt hz).mpr h
      lia
  unfold Builtin.divisionGoesByPylong
  dsimp only
  rw [decide_eq_false hd]
  rfl
theorem op_div {a b : Int} (h : b ≠ 0) (hs : b.natAbs < 2 ^ 64) : Op2 w A .FloorDiv (.int a) (.int b) (.int (a.fdiv b)) := .mk fun B h' va vb I i x y => by
  obtain ⟨t, rfl⟩ := x.int_inv; obtain ⟨u, rfl⟩ := y.int_inv
  exact .same I i fun s Q E _ _ k => floordiv_int h (k _ _ (.int _ _)) (.inl (pylong_small hs))
theorem op_pow {a b : Int} (h : a.natAbs < 2 ^ 64) (h0 : 0 ≤ b) (h1 : b ≤ 1000) : Op2 w A .Pow (.int a) (.int b) (.int (a ^ b.toNat)) := .mk fun B h' va vb I i x y => by
  obtain ⟨t, rfl⟩ := x.int_inv; obtain ⟨u, rfl⟩ := y.int_inv
  exact .same I i fun s Q E _ _ k => pow_int_small h0 (by lia) h (k _ _ (.int _ _))
theorem op_shr {a b : Int} (h0 : 0 ≤ b) : Op2 w A .RShift (.int a) (.int b) (.int (a.fdiv (2 ^ b.toNat))) := .mk fun B h' va vb I i x y => by
  obtain ⟨t, rfl⟩ := x.int_inv; obtain ⟨u, rfl⟩ := y.int_inv
  exact .same I i fun s Q E _ _ k => rshift_int h0 (k _ _ (.int _ _))
theorem op_shl {a b : Int} (hA : A.handled = none) (h : a.natAbs < 2 ^ 100) (h0 : 0 ≤ b) (h1 : b ≤ 1000) : Op2 w A .LShift (.int a) (.int b) (.int (a * 2 ^ b.toNat)) := .mk fun B h' va vb I i x y => by
  obtain ⟨t, rfl⟩ := x.int_inv; obtain ⟨u, rfl⟩ := y.int_inv
  refine .same I i fun s Q E _ _ k => lshift_int_or hA (fun q => absurd h0 (by lia)) (fun _ => ?_) fun _ => k _ _ (.int _ _)
  have : Builtin.Int.intBits a ≤ 100 := by
    unfold Builtin.Int.intBits
    split
    · lia
    · rename_i hn
      have hz : a.natAbs ≠ 0 := by intro q; apply hn; simp [Int.natAbs_eq_zero.mp q]
      have := (Nat.log2_lt hz).mpr h
      lia
  lia
theorem op_xor {a b : Int} : Op2 w A .BitXor (.int a) (.int b) (.int (Builtin.bitXor a b)) := .mk fun B h' va vb I i x y => by
  obtain ⟨t, rfl⟩ := x.int_inv; obtain ⟨u, rfl⟩ := y.int_inv
  exact .same I i fun s Q E _ _ k => xor_int (k _ _ (.int _ _))
theorem op_iadd {a b : Int} : OpI w A .Add (.int a) (.int b) (.int (a + b)) := .mk fun B h va vb I i x y => by
  obtain ⟨t, rfl⟩ := x.int_inv; obtain ⟨u, rfl⟩ := y.int_inv
  exact .same I i fun s Q E _ _ k => wpAny_iadd_int (k _ _ (.int _ _))
theorem op_lt {a b : Int} : OpC w A .Lt (.int a) (.int b) (.bool (decide (a < b))) := .mk fun B h va vb I i x y => by
  obtain ⟨t, rfl⟩ := x.int_inv; obtain ⟨u, rfl⟩ := y.int_inv
  exact .same I i fun s Q E _ _ k => lt_int (k _ s.toks (.bool _))
theorem op_ge {a b : Int} : OpC w A .GtE (.int a) (.int b) (.bool (decide (b ≤ a))) := .mk fun B h va vb I i x y => by
  obtain ⟨t, rfl⟩ := x.int_inv; obtain ⟨u, rfl⟩ := y.int_inv
  exact .same I i fun s Q E _ _ k => ge_int (k _ s.toks (.bool _))
theorem le_intR {prog : Program} {E : Value → Shared → Prop} {s : Shared} {a b : Int} {t u : Tok} {Q : Value → Shared → Prop} (h : Q (.bool (decide (a ≤ b))) s) : wpAny (model prog w) A (compareOp .LtE (.int a t) (.int b u)) Q E s :=
  compareOp_gives (op := .LtE) (typeIs_int s a t) (typeIs_int s b u) F.slot_int_le F.entry_int_le (F.args_int_le_2 _ _) (gives_int_le a b t u) (fun e => nomatch e) h
theorem op_le {a b : Int} : OpC w A .LtE (.int a) (.int b) (.bool (decide (a ≤ b))) := .mk fun B h va vb I i x y => by
  obtain ⟨t, rfl⟩ := x.int_inv; obtain ⟨u, rfl⟩ := y.int_inv
  exact .same I i fun s Q E _ _ k => le_intR (k _ s.toks (.bool _))
theorem op_eq {a b : Int} : OpC w A .Eq (.int a) (.int b) (.bool (a == b)) := .mk fun B h va vb I i x y => by
  obtain ⟨t, rfl⟩ := x.int_inv; obtain ⟨u, rfl⟩ := y.int_inv
  exact .same I i fun s Q E _ _ k => eq_int (k _ s.toks (.bool _))
theorem op_ne {a b : Int} : OpC w A .NotEq (.int a) (.int b) (.bool (a != b)) := .mk fun B h va vb I i x y => by
  obtain ⟨t, rfl⟩ := x.int_inv; obtain ⟨u, rfl⟩ := y.int_inv
  exact .same I i fun s Q E _ _ k => ne_int (k _ s.toks (.bool _))
theorem op_seq {a b : List Nat} : OpC w A .Eq (.str (S a)) (.str (S b)) (.bool (a == b)) := .mk fun B h va vb I i x y => by
  obtain ⟨t, rfl⟩ := x.str_inv; obtain ⟨u, rfl⟩ := y.str_inv
  exact .same I i fun s Q E _ _ k => P.eq_str (k _ s.toks (by simpa [S] using Rep.bool (a == b)))
theorem op_sne {a b : List Nat} : OpC w A .NotEq (.str (S a)) (.str (S b)) (.bool (a != b)) := .mk fun B h va vb I i x y => by
  obtain ⟨t, rfl⟩ := x.str_inv; obtain ⟨u, rfl⟩ := y.str_inv
  exact .same I i fun s Q E _ _ k => P.ne_str (k _ s.toks (by simpa [S] using Rep.bool (a != b)))
theorem op_sadd {a b : List Nat} (h : a.length + b.length ≤ 1000000) : Op2 w A .Add (.str (S a)) (.str (S b)) (.str (S (a ++ b))) := .mk fun B h' va vb I i x y => by
  obtain ⟨t, rfl⟩ := x.str_inv; obtain ⟨u, rfl⟩ := y.str_inv
  exact .same I i fun s Q E _ _ k => add_str (fun t' tk => k _ tk (S_add a b ▸ .str _ _)) (by rw [S_len, S_len, sizeLine_eq]; lia)
theorem op_isadd {a b : List Nat} (h : a.length + b.length ≤ 1000000) : OpI w A .Add (.str (S a)) (.str (S b)) (.str (S (a ++ b))) := .mk fun B h' va vb I i x y => by
  obtain ⟨t, rfl⟩ := x.str_inv; obtain ⟨u, rfl⟩ := y.str_inv
  exact .same I i fun s Q E _ _ k => iadd_str (fun t' tk => k _ tk (S_add a b ▸ .str _ _)) (by rw [S_len, S_len, sizeLine_eq]; lia)
theorem replicate_join {α : Type} (xs : Array α) : ∀ (n : Nat) (acc : Array α), (List.foldl (fun x1 x2 => x1 ++ x2) acc (List.replicate n xs)).toList = acc.toList ++ (List.replicate n xs.toList).flatten
  | 0, acc => by simp
  | n + 1, acc => by
    rw [List.replicate_succ, List.foldl_cons, replicate_join xs n, List.replicate_succ, List.flatten_cons]
    simp
theorem mul_S (a : List Nat) (n : Nat) : Txt.mul (S a) (n : Int) = S (List.replicate n a).flatten := by
  unfold Txt.mul
  by_cases h0 : n = 0
  · subst h0; rfl
  · rw [if_neg (by lia)]
    by_cases h1 : ((n : Int) == 1 || (S a).length == 0) = true
    · rw [if_pos h1]
      rcases Bool.or_eq_true_iff.mp h1 with q | q
      · have : n = 1 := by have := beq_iff_eq.mp q; lia
        subst this; simp
      · have : a = [] := by have := beq_iff_eq.mp q; rw [S_len] at this; exact List.length_eq_zero_iff.mp this
        subst this; simp
    · rw [if_neg h1]
      show (⟨_⟩ : Str) = ⟨_⟩
      congr 1
      apply Array.ext'
      rw [show (n : Int).toNat = n from rfl, replicate_join]
      simp [S]
theorem op_smul {a : List Nat} {n : Nat} (h : a.length * n ≤ 1000000) (hn : n ≤ 1000000) : Op2 w A .Mult (.str (S a)) (.int n) (.str (S (List.replicate n a).flatten)) := .mk fun B h' va vb I i x y => by
  obtain ⟨t, rfl⟩ := x.str_inv; obtain ⟨u, rfl⟩ := y.int_inv
  exact .same I i fun s Q E _ _ k => SB.mul (mulOk_of a.length n (by rw [S_len]; exact Nat.le_refl _) (Int.le_refl _) (by lia) (by lia) (by lia)) fun t' tk => k _ tk (mul_S a n ▸ .str _ _)
theorem op_ladd {a b : List D} (h : a.length + b.length ≤ 1000000) : Op2 w A .Add (.list a) (.list b) (.list (a ++ b)) := .mk fun B h' va vb I i x y => by
  obtain ⟨l, vs, n, rfl, _, e1, _, z1, r1⟩ := x.isL i
  obtain ⟨m, ws, n', rfl, _, e2, _, z2, r2⟩ := y.isL i
  refine .push I i { cls := .type "list", data := .seq (vs ++ ws) } rfl (.list (Fz.put_self _ _ _) (by simpa using (r1.append r2).mono (put_le i (get_size _) _))) fun s Q E hs k => ?_
  subst hs
  exact P.add_list e1 e2 (k s.toks) (by rw [z1, z2, sizeLine_eq]; lia)
theorem Reps.rep {B : Fz} {vs : List Value} {ds : List D} (r : Reps B vs ds) : ∀ n, Reps B (List.replicate n vs).flatten (List.replicate n ds).flatten
  | 0 => .nil
  | n + 1 => by rw [List.replicate_succ, List.replicate_succ, List.flatten_cons, List.flatten_cons]; exact r.append (r.rep n)
theorem op_lmul {a : List D} {x : Int} (hne : a ≠ []) (h : a.length * x.toNat ≤ 1000000) (hx : x ≤ 1000000) (hx0 : -1000000 ≤ x) : Op2 w A .Mult (.list a) (.int x) (.list (List.replicate x.toNat a).flatten) := .mk fun B h' va vb I i xx y => by
  obtain ⟨l, vs, n, rfl, _, e1, _, z1, r1⟩ := xx.isL i
  obtain ⟨u, rfl⟩ := y.int_inv
  refine .push I i { cls := .type "list", data := .seq (List.foldl (fun x1 x2 => x1 ++ x2) #[] (List.replicate x.toNat vs)) } rfl (.list (Fz.put_self _ _ _) (by rw [replicate_join]; simpa using (r1.rep x.toNat).mono (put_le i (get_size _) _))) fun s Q E hs k => ?_
  subst hs
  have hemp : vs.isEmpty = false := by
    cases q : vs.isEmpty with
    | false => rfl
    | true => exact absurd (List.length_eq_zero_iff.mp (by rw [← z1, Array.isEmpty_iff.mp q]; rfl)) hne
  refine wpAny_binaryOp_repeat_ref (T := "list") (U := "int") (by decide) ⟨_, e1, rfl⟩ (fun s' => typeIs_int s' x u) noFill_list_mul F.fills_int_mul F.slot_int_rmul repeat_list F.slot_int_index.lookup
    (call_meets F.slot_int_rmul (typeIs_int s x u) F.entry_int_rmul (F.args_int_rmul_2 _ _) (int___rmul___int_list x u l vs n)
      ⟨e1, rfl, ⟨_, e1, rfl⟩, call_meets F.slot_list_mul ⟨_, e1, rfl⟩ F.entry_list_mul (F.args_list_mul_2 _ _)
        (AutoListH.list___mul___list_int_3 l vs n x u (by simp [Builtin.List.listFitsIndex]; lia) (by rw [z1]; lia) (by rw [z1]; simp [Builtin.List.listTooLong, sizeLine]; lia)) ⟨e1, ?_⟩⟩)
  simp only [hemp, Bool.false_eq_true, if_false]
  exact k _
end
end Tn
end
section
-- TnF4
open PySem PySem.W PySem.Calls PySem.Spec PyProof.Rows
set_option maxRecDepth 100000
set_option linter.unusedVariables false
namespace Tn
/-- plain data, nested at most n deep -/
inductive Pl : Nat → D → Prop
  | int {n : Nat} (i : Int) : Pl n (.int i)
  | str {n : Nat} (s : Str) : Pl n (.str s)
  | bool {n : Nat} (b : Bool) : Pl n (.bool b)
  | list {n : Nat} {ds : List D} : (∀ d ∈ ds, Pl n d) → Pl (n + 1) (.list ds)
  | tup {n : Nat} {ds : List D} : (∀ d ∈ ds, Pl n d) → Pl (n + 1) (.tup ds)
theorem tup_isTuple {h : Heap} {a : Addr} {vs : Array Value} {n : Nat} (e : h.get? a = some { cls := .type "tuple", data := .seq vs n }) : h.IsTuple a vs := ⟨_, e, rfl, n, rfl⟩
theorem all_true (n : Nat) : (List.range n).all (fun _ => true) = true := by simp
theorem eqAt_same {B : Fz} {s : Shared} (i : InH B s.heap) : ∀ (n : Nat) (A : Around) (d : D) (v v' : Value), A.units + n < cLine → Pl n d → Rep B v d → Rep B v' d → SeqAt.EqAt A s v v' true := by
  intro n
  induction n with
  | zero =>
    intro A d v v' hu p r r'
    cases p with
    | int j => obtain ⟨t, rfl⟩ := r.int_inv; obtain ⟨u, rfl⟩ := r'.int_inv; simpa using SeqAt.EqAt.int_int (A := A) (s := s) j t j u
    | str j => obtain ⟨t, rfl⟩ := r.str_inv; obtain ⟨u, rfl⟩ := r'.str_inv; simpa using SeqAt.EqAt.str_str (A := A) (s := s) j t j u
    | bool j => rw [r.bool_inv, r'.bool_inv]; exact SeqAt.EqAt.same _
  | succ n ih =>
    intro A d v v' hu p r r'
    cases p with
    | int j => obtain ⟨t, rfl⟩ := r.int_inv; obtain ⟨u, rfl⟩ := r'.int_inv; simpa using SeqAt.EqAt.int_int (A := A) (s := s) j t j u
    | str j => obtain ⟨t, rfl⟩ := r.str_inv; obtain ⟨u, rfl⟩ := r'.str_inv; simpa using SeqAt.EqAt.str_str (A := A) (s := s) j t j u
    | bool j => rw [r.bool_inv, r'.bool_inv]; exact SeqAt.EqAt.same _
    | list q =>
      obtain ⟨a, vs, k, rfl, _, _, l1, z1, r1⟩ := r.isL i
      obtain ⟨b, ws, k', rfl, _, _, l2, z2, r2⟩ := r'.isL i
      by_cases hab : a = b
      · subst hab; exact SeqAt.EqAt.same _
      · have := SeqAt.RcAt.lists (A := A) (e := fun _ => true) l1 l2 (z1.trans z2.symm) (by lia) fun j h1 h2 => by
          obtain ⟨d1, e1, x1⟩ := r1.get' (i := j) (v := vs[j]) (by simp [h1])
          obtain ⟨d2, e2, x2⟩ := r2.get' (i := j) (v := ws[j]) (by simp [h2])
          rw [e1] at e2; cases e2
          exact ih A.in1 d1 _ _ (by show A.units + 1 + n < cLine; lia) (q _ (List.mem_of_getElem? e1)) x1 x2
        rw [all_true] at this
        exact SeqAt.EqAt.of_refs hab this
    | tup q =>
      obtain ⟨a, vs, k, rfl, _, e1, l1, z1, r1⟩ := r.isT i
      obtain ⟨b, ws, k', rfl, _, e2, l2, z2, r2⟩ := r'.isT i
      by_cases hab : a = b
      · subst hab; exact SeqAt.EqAt.same _
      · have := SeqAt.RcAt.tuples (A := A) (e := fun _ => true) (tup_isTuple e1) (tup_isTuple e2) (by lia) fun j h1 h2 => by
          obtain ⟨d1, e1, x1⟩ := r1.get' (i := j) (v := vs[j]) (by simp [h1])
          obtain ⟨d2, e2, x2⟩ := r2.get' (i := j) (v := ws[j]) (by simp [h2])
          rw [e1] at e2; cases e2
          exact ih A.in1 d1 _ _ (by show A.units + 1 + n < cLine; lia) (q _ (List.mem_of_getElem? e1)) x1 x2
        rw [all_true, z1, z2, beq_self_eq_true] at this
        exact SeqAt.EqAt.of_refs hab this
section
variable {w : World} {A : Around}
/-- two lists of the same data: not unequal -/
theorem op_lne {n m : Nat} {ds : List D} (hA : AOk A m) (hm : n < 40) (p : ∀ d ∈ ds, Pl n d) : OpC w A .NotEq (.list ds) (.list ds) (.bool false) := .mk fun B h va vb I i x y => by
  obtain ⟨a, vs, k, rfl, _, _, l1, z1, r1⟩ := x.isL i
  obtain ⟨b, ws, k', rfl, _, _, l2, z2, r2⟩ := y.isL i
  have hu := hA.un
  refine .same I i fun s Q E hs _ kk => ?_
  subst hs
  have := SeqAt.RcNeAt.lists (A := A) (e := fun _ => true) l1 l2 (z1.trans z2.symm) hA.units fun j h1 h2 => by
    obtain ⟨d1, e1, x1⟩ := r1.get' (i := j) (v := vs[j]) (by simp [h1])
    obtain ⟨d2, e2, x2⟩ := r2.get' (i := j) (v := ws[j]) (by simp [h2])
    rw [e1] at e2; cases e2
    exact eqAt_same i n A.in1 d1 _ _ (by show A.units + 1 + n < 9900; lia) (p _ (List.mem_of_getElem? e1)) x1 x2
  rw [all_true] at this
  exact this pw w E _ (kk _ s.toks (.bool _))
/-- two tuples of the same data are equal -/
theorem op_teq {n m : Nat} {ds : List D} (hA : AOk A m) (hm : n < 40) (p : ∀ d ∈ ds, Pl n d) : OpC w A .Eq (.tup ds) (.tup ds) (.bool true) := .mk fun B h va vb I i x y => by
  obtain ⟨a, vs, k, rfl, _, e1, l1, z1, r1⟩ := x.isT i
  obtain ⟨b, ws, k', rfl, _, e2, l2, z2, r2⟩ := y.isT i
  have hu := hA.un
  refine .same I i fun s Q E hs _ kk => ?_
  subst hs
  have := SeqAt.RcAt.tuples (A := A) (e := fun _ => true) (tup_isTuple e1) (tup_isTuple e2) hA.units fun j h1 h2 => by
    obtain ⟨d1, e1, x1⟩ := r1.get' (i := j) (v := vs[j]) (by simp [h1])
    obtain ⟨d2, e2, x2⟩ := r2.get' (i := j) (v := ws[j]) (by simp [h2])
    rw [e1] at e2; cases e2
    exact eqAt_same i n A.in1 d1 _ _ (by show A.units + 1 + n < 9900; lia) (p _ (List.mem_of_getElem? e1)) x1 x2
  rw [all_true, z1, z2, beq_self_eq_true] at this
  exact this pw w E _ (kk _ s.toks (.bool _))
end

section
variable {w : World} {A : Around} {env : Env} {ρ : Rho}
noncomputable abbrev PlainSl (sl : Expr) : Prop := ∀ o i, subscripted sl false o i = operate [o, i] (getItem o i)
theorem seqIndex_in {k : Int} {n : Nat} (h0 : 0 ≤ k) (hlt : k.toNat < n) : seqIndex? k n = some k.toNat := by
  have e1 : ¬ k < 0 := by lia
  have e2 : k < (n : Int) := by lia
  simp [seqIndex?, e1, h0, e2]
/-- x[i] of a list -/
theorem ev_litem {x sl : Expr} {pos : Pos} {ds : List D} {k : Int} {d : D} (ex : Ev w A env ρ x (.list ds)) (es : Ev w A env ρ sl (.int k)) (h0 : 0 ≤ k) (hk : k < 2 ^ 63) (hd : ds[k.toNat]? = some d)
    (hs : PlainSl sl := by exact fun _ _ => rfl) : Ev w A env ρ (.Subscript x sl pos) d := .mk fun B h F s Q E hh kk =>
  Subscript_ (ex.go B h F s _ E hh fun vo B₁ h₁ tk st I r => es.go B₁ h₁ (F.step st I) _ _ E I.at fun vi B₂ h₂ tk₂ st₂ I₂ ri => by
    obtain ⟨u, rfl⟩ := ri.int_inv
    obtain ⟨a, vs, n, rfl, _, _, l, z, rs⟩ := (r.mono st₂.le).isL st₂.inh
    obtain ⟨v, hv, rv⟩ := rs.get hd
    exact tail_any l.typeIs slot_list_getitem.lookup (wpAny_getItem_list l h0 hk (by simpa using hv) (kk v B₂ h₂ tk₂ (st.trans st₂) I₂ rv)) (hs _ _))
/-- x[i] of a tuple -/
theorem ev_titem {x sl : Expr} {pos : Pos} {ds : List D} {k : Int} {d : D} (ex : Ev w A env ρ x (.tup ds)) (es : Ev w A env ρ sl (.int k)) (h0 : 0 ≤ k) (hk : k < 2 ^ 63) (hd : ds[k.toNat]? = some d)
    (hs : PlainSl sl := by exact fun _ _ => rfl) : Ev w A env ρ (.Subscript x sl pos) d := .mk fun B h F s Q E hh kk =>
  Subscript_ (ex.go B h F s _ E hh fun vo B₁ h₁ tk st I r => es.go B₁ h₁ (F.step st I) _ _ E I.at fun vi B₂ h₂ tk₂ st₂ I₂ ri => by
    obtain ⟨u, rfl⟩ := ri.int_inv
    obtain ⟨a, vs, n, rfl, _, _, l, z, rs⟩ := (r.mono st₂.le).isT st₂.inh
    obtain ⟨v, hv, rv⟩ := rs.get hd
    have hlt : k.toNat < vs.toList.length := (List.getElem?_eq_some_iff.mp hv).1
    exact item_tupleT (l := vs.toList) (by simpa using l) (by lia) hk (seqIndex_in h0 hlt) hv (kk v B₂ h₂ tk₂ (st.trans st₂) I₂ rv) (hs _ _))
/-- x[i] of a text -/
theorem ev_sitem {x sl : Expr} {pos : Pos} {l : List Nat} {k : Int} {c : Nat} (ex : Ev w A env ρ x (.str (S l))) (es : Ev w A env ρ sl (.int k)) (h0 : 0 ≤ k) (hk : k < 2 ^ 63) (hd : l[k.toNat]? = some c)
    (hs : PlainSl sl := by exact fun _ _ => rfl) : Ev w A env ρ (.Subscript x sl pos) (.str (S [c])) := .mk fun B h F s Q E hh kk =>
  Subscript_ (ex.go B h F s _ E hh fun vo B₁ h₁ tk st I r => es.go B₁ h₁ (F.step st I) _ _ E I.at fun vi B₂ h₂ tk₂ st₂ I₂ ri => by
    obtain ⟨u, rfl⟩ := ri.int_inv
    obtain ⟨t, rfl⟩ := r.str_inv
    have hlt : k.toNat < l.length := (List.getElem?_eq_some_iff.mp hd).1
    refine wpAny_mono (tail_any (typeIs_str _ _ _) PySem.F.slot_str_getitem.lookup (Q := fun v s' => (∃ t, v = .str (S [c]) t) ∧ ∃ tk, s' = { s with heap := h₂, toks := tk } ∧ tk₂ ≤ tk) (P.getItem_str (by simp; lia) ?_ ⟨⟨_, rfl⟩, _, rfl, Nat.le_succ _⟩) (hs _ _)) (fun v s' z => ?_) fun _ _ e => e
    · have hj : seqIndex? k (S l).length = some k.toNat := seqIndex_in h0 (by rw [S_len]; exact hlt)
      rw [hj]
      simpa [S] using hd
    · obtain ⟨⟨t', rfl⟩, tk, rfl, hle⟩ := z
      exact kk _ B₂ h₂ tk (st.trans st₂) ⟨I₂.inv, Nat.le_trans I₂.pos hle⟩ (.str _ _))
/-- x[a:] of a list -/
theorem ev_lfrom {x lo : Expr} {p pos : Pos} {ds : List D} {k : Nat} (ex : Ev w A env ρ x (.list ds)) (es : Ev w A env ρ lo (.int k)) (hz : ds.length ≤ 1000000)
    (hg : ∀ o r, letTemporaryGo x o r = pure () := by intros; rfl) : Ev w A env ρ (.Subscript x (.Slice (some lo) none none p) pos) (.list (ds.drop k)) := .mk fun B h F s Q E hh kk =>
  wpAny_Subscript_list_slice (ex.go B h F s _ E hh fun vo B₁ h₁ tk st I r => es.go B₁ h₁ (F.step st I) _ _ E I.at fun vi B₂ h₂ tk₂ st₂ I₂ ri => by
    obtain ⟨u, rfl⟩ := ri.int_inv
    obtain ⟨a, vs, n, rfl, _, _, l, z, rs⟩ := (r.mono st₂.le).isL st₂.inh
    refine wpAny_pure ⟨a, vs, some k, none, rfl, l, by rw [z, sizeLine_eq]; lia, .int _ _, .none, ?_⟩
    rw [slicePick_from']
    have I₃ := I₂.inv.push { cls := .type "slice", data := .fields #[.int k u, .none, .none] }
    have s₃ := Stp.keep (w := w) st₂.inh (Up.push h₂ { cls := .type "slice", data := .fields #[.int k u, .none, .none] })
    have s₄ := Stp.put (w := w) (h' := (h₂.push { cls := .type "slice", data := .fields #[.int k u, .none, .none] }).push { cls := .type "list", data := .seq (vs.toList.drop k).toArray }) I₃ s₃.inh (Up.push _ _) (get_size _) (Heap.get?_push_size _ rfl)
    have := kk _ _ _ tk₂ (((st.trans st₂).trans s₃).trans s₄) ⟨I₃.push _, I₂.pos⟩ (.list (Fz.put_self _ _ _) (by simpa using (rs.drop k).mono (put_le s₃.inh (get_size _) _)))
    rw [Heap.size_push] at this
    exact this) hg
/-- x[:b] of a list -/
theorem ev_lupto {x hi : Expr} {p pos : Pos} {ds : List D} {k : Nat} (ex : Ev w A env ρ x (.list ds)) (es : Ev w A env ρ hi (.int k)) (hz : ds.length ≤ 1000000)
    (hg : ∀ o r, letTemporaryGo x o r = pure () := by intros; rfl) : Ev w A env ρ (.Subscript x (.Slice none (some hi) none p) pos) (.list (ds.take k)) := .mk fun B h F s Q E hh kk =>
  wpAny_Subscript_list_slice (ex.go B h F s _ E hh fun vo B₁ h₁ tk st I r => wpAny_pure (es.go B₁ h₁ (F.step st I) _ _ E I.at fun vi B₂ h₂ tk₂ st₂ I₂ ri => by
    obtain ⟨u, rfl⟩ := ri.int_inv
    obtain ⟨a, vs, n, rfl, _, _, l, z, rs⟩ := (r.mono st₂.le).isL st₂.inh
    refine ⟨a, vs, none, some k, rfl, l, by rw [z, sizeLine_eq]; lia, .none, .int _ _, ?_⟩
    rw [slicePick_upto']
    have I₃ := I₂.inv.push { cls := .type "slice", data := .fields #[.none, .int k u, .none] }
    have s₃ := Stp.keep (w := w) st₂.inh (Up.push h₂ { cls := .type "slice", data := .fields #[.none, .int k u, .none] })
    have s₄ := Stp.put (w := w) (h' := (h₂.push { cls := .type "slice", data := .fields #[.none, .int k u, .none] }).push { cls := .type "list", data := .seq (vs.toList.take k).toArray }) I₃ s₃.inh (Up.push _ _) (get_size _) (Heap.get?_push_size _ rfl)
    have := kk _ _ _ tk₂ (((st.trans st₂).trans s₃).trans s₄) ⟨I₃.push _, I₂.pos⟩ (.list (Fz.put_self _ _ _) (by simpa using (rs.take k).mono (put_le s₃.inh (get_size _) _)))
    rw [Heap.size_push] at this
    exact this)) hg
end
end Tn
end
section
-- TnS1
open PySem PySem.W PySem.Calls PySem.Spec PyProof.Rows
set_option maxRecDepth 100000
set_option linter.unusedVariables false
namespace Tn
/-- neither a code record nor a plain object -/
noncomputable def Safe (o : Obj) : Prop := o.data ≠ .plain ∧ ∀ vs q t, o.data = .fields vs → vs[1]? ≠ some (.str q t)
theorem tab_but {h0 h h' : Heap} {a : Addr} {o : Obj} {c P : Addr} (T0 : TabOk h0 c P) (T : TabOk h c P) (ha : h0.get? a = none) (ho : h.get? a = some o) (hn : Safe o)
    (k : ∀ b o, b ≠ a → h.get? b = some o → h'.get? b = some o) : TabOk h' c P := by
  have ne : ∀ {b : Addr} {o' : Obj}, h0.get? b = some o' → b ≠ a := fun e q => by rw [q, ha] at e; cases e
  obtain ⟨⟨o0, vs0, f0, tf0, fl0, tg0, in0, tx0, tt0, e0, _⟩, ps0, p0, _⟩ := T0
  obtain ⟨⟨o1, vs1, f1, tf1, fl1, tg1, in1, tx1, tt1, e1, r1⟩, ps, p1, t1, q1⟩ := T
  refine ⟨⟨o1, vs1, f1, tf1, fl1, tg1, in1, tx1, tt1, k _ _ (ne e0) e1, r1⟩, ps, k _ _ (ne p0) p1, t1, fun pos cv z => ?_⟩
  obtain ⟨c', g1, g2, c'', oc, vs, t, g3, g4, g5, g6⟩ := q1 pos cv z
  refine ⟨c', g1, g2, c'', oc, vs, t, g3, k _ _ (fun q => ?_) g4, g5, g6⟩
  rw [q, ho] at g4; cases g4
  exact hn.2 _ _ _ g5 g6
theorem Inv.but {w : World} {h0 h h' : Heap} {a : Addr} {o : Obj} (I0 : Inv w h0) (I : Inv w h) (ha : h0.get? a = none) (ho : h.get? a = some o) (hn : Safe o)
    (k : ∀ b o, b ≠ a → h.get? b = some o → h'.get? b = some o) : Inv w h' := by
  have ne : ∀ {b : Addr} {o' : Obj}, h0.get? b = some o' → b ≠ a := fun e q => by rw [q, ha] at e; cases e
  have nn : ∀ {b : Addr} {m m' : Str → Option Value}, h0.Ns b m → h.Ns b m' → h'.Ns b m' := fun x y => by
    obtain ⟨o0, _, _, e0, _⟩ := x
    exact y.at' fun o e => k _ o (ne e0) e
  obtain ⟨mb0, b0, _⟩ := I0.b
  obtain ⟨mb, b1, b2⟩ := I.b
  obtain ⟨mc0, l0, _⟩ := I0.lim
  obtain ⟨mc, l1, l2⟩ := I.lim
  obtain ⟨mg0, g0, _⟩ := I0.g
  obtain ⟨mg, g1, g2, g3, g4⟩ := I.g
  have bt : ∀ {P : Addr}, h.BuiltinsAt mg P → h'.BuiltinsAt mg P := fun ⟨bm, ob, x1, x2, x3, x4, x5, x6, x7, x8⟩ => ⟨bm, ob, x1, x2, x3, x4, k _ _ (fun q => by
    rw [q, ho] at x5; cases x5
    exact hn.1 x8) x5, x6, x7, x8⟩
  exact ⟨fun b o e => k b o (ne (I0.k b o e)) (I.k b o e), ⟨mb, nn b0 b1, b2⟩, ⟨mc, nn l0 l1, l2⟩, ⟨mg, nn g0 g1, bt g2, bt g3, bt g4⟩,
    tab_but I0.t1 I.t1 ha ho hn k, tab_but I0.t2 I.t2 ha ho hn k, tab_but I0.t3 I.t3 ha ho hn k⟩
theorem safe_dict {o : Obj} {es ep} (e : o.data = .dict es ep) : Safe o := ⟨by rw [e]; exact nofun, fun _ _ _ q => by rw [e] at q; cases q⟩
theorem safe_cell {o : Obj} {v} (e : o.data = .cell v) : Safe o := ⟨by rw [e]; exact nofun, fun _ _ _ q => by rw [e] at q; cases q⟩
theorem safe_seq {o : Obj} {v n} (e : o.data = .seq v n) : Safe o := ⟨by rw [e]; exact nofun, fun _ _ _ q => by rw [e] at q; cases q⟩

noncomputable abbrev Boxes := List (Addr × List D)
noncomputable abbrev listO (vs : Array Value) (n : Nat) : Obj := { cls := .type "list", data := .seq vs n }
/-- a frame that runs, from its base (B0, h0) -/
structure St (w : World) (env : Env) (B0 : Fz) (h0 : Heap) (X : Boxes) (B : Fz) (h : Heap) (ρ : Rho) : Prop where
  base : Inv w h0 ∧ InH B0 h0
  stp : Stp B0 h0 B h
  fm : Fm w env B h ρ
  loc : h0.get? env.locals = none ∧ B env.locals = none ∧ ∃ m, h.Ns env.locals m
  cel : ∀ x c, env.kindOf x = some .cell → env.cells.lookup x = some c → h0.get? c = none ∧ B c = none ∧ ∃ v, h.IsCell c v
  apart : ∀ x y c, env.cells.lookup x = some c → env.cells.lookup y = some c → x = y
  box : ∀ a ds, (a, ds) ∈ X → h0.get? a = none ∧ B a = none ∧ ∃ vs n, h.get? a = some (listO vs n) ∧ Reps B vs.toList ds
  boxes : X.Pairwise (fun x y => x.1 ≠ y.1)

section
variable {w : World} {env : Env} {B0 B B' : Fz} {h0 h h' : Heap} {X : Boxes} {ρ : Rho}
theorem stp_none {a : Addr} {o : Obj} (s : Stp B h B' h') (hb : B a = none) (e : h.get? a = some o) (so : Safe o) : B' a = none := by
  cases q : B' a with
  | none => rfl
  | some o' => rcases s.fresh a o' q with z | z | ⟨z, vs, qq, t, z1, z2⟩
               · rw [hb] at z; cases z
               · rw [e] at z; cases z
               · rw [e] at z; cases z; exact absurd z2 (so.2 _ _ _ z1)
theorem Reps.up {vs : List Value} {ds : List D} (le : ∀ a o, B a = some o → B' a = some o) (r : Reps B vs ds) : Reps B' vs ds := r.mono le
theorem St.ev (S : St w env B0 h0 X B h ρ) (s : Stp B h B' h') {tk : Nat} (I : InvT w h' tk) : St w env B0 h0 X B' h' ρ :=
  ⟨S.base, S.stp.trans s, S.fm.step s I, by
    obtain ⟨a, b, m, c⟩ := S.loc
    obtain ⟨o, es, ep, e, dd, r⟩ := id c
    exact ⟨a, stp_none s b e (safe_dict dd), m, ns_up S.fm.inv s.up c⟩, fun x c k l => by
    obtain ⟨a, b, v, o, e, d⟩ := S.cel x c k l
    exact ⟨a, stp_none s b e (safe_cell d), v, cell_up S.fm.inv s.up ⟨o, e, d⟩⟩, S.apart, fun a ds m => by
    obtain ⟨x, y, vs, n, e, r⟩ := S.box a ds m
    exact ⟨x, stp_none s y e (safe_seq rfl), vs, n, s.up.keep _ _ (S.fm.inv.notTB e fun ps q => by cases q) e, r.mono s.le⟩, S.boxes⟩
theorem St.drop (S : St w env B0 h0 X B h ρ) {ρ' : Rho} (hρ : ∀ x d, ρ'.lookup x = some d → ρ.lookup x = some d) : St w env B0 h0 X B h ρ' :=
  ⟨S.base, S.stp, ⟨S.fm.inv, S.fm.inh, S.fm.kind, S.fm.glob, S.fm.blt, fun x d e => S.fm.vars x d (hρ x d e)⟩, S.loc, S.cel, S.apart, S.box, S.boxes⟩

theorem stp_but (i0 : Inv w h0) (I : Inv w h) (s : Stp B0 h0 B h) {a : Addr} {o : Obj} (ha : h0.get? a = none) (hB : B a = none) (ho : h.get? a = some o) (hn : Safe o) (k : ∀ b o, b ≠ a → h.get? b = some o → h'.get? b = some o) : Stp B0 h0 B h' ∧ Inv w h' := by
  have ne : ∀ {b : Addr} {o' : Obj}, h0.get? b = some o' → b ≠ a := fun e q => by rw [q, ha] at e; cases e
  refine ⟨⟨⟨fun b o n e => k _ _ (ne e) (s.up.keep b o n e), fun b vs m e => ?_, fun b e => ?_⟩, s.le, fun b o e => ?_, s.fresh⟩, i0.but I ha ho hn k⟩
  · obtain ⟨more, e'⟩ := s.up.tab b vs m e
    exact ⟨more, k _ _ (ne e) e'⟩
  · by_cases q : b = a
    · rw [q]; exact ha
    · refine s.up.none b ?_
      cases z : h.get? b with
      | none => rfl
      | some ob => rw [k b ob q z] at e; cases e
  · have q : b ≠ a := fun q => by rw [q, hB] at e; cases e
    exact ⟨k _ _ q (s.inh b o e).1, (s.inh b o e).2⟩

noncomputable abbrev okName (x : Str) : Prop := (x == ("__classdict__" : Str)) = false ∧ (x == ("__debug__" : Str)) = false
/-- a variable takes a value -/
theorem St.store {A : Around} {x : Str} {v : Value} {d : D} (S : St w env B0 h0 X B h ρ) (hx : env.kindOf x = some .local ∨ (env.kindOf x = some .cell ∧ ∃ c, env.cells.lookup x = some c)) (r : Rep B v d) (hn : okName x)
    (s : Shared) (Q : Unit → Shared → Prop) (E : Value → Shared → Prop) (at_ : At s h) (k : ∀ h' tk, St w env B0 h0 X B h' ((x, d) :: ρ) → Stp B0 h0 B h' → InvT w h' tk → (∀ b o, b ≠ env.locals → (∀ x c, env.kindOf x = some .cell → env.cells.lookup x = some c → b ≠ c) → h.get? b = some o → h'.get? b = some o) → Q () { s with heap := h', toks := tk }) : wpAny (Md w) A (storeName env x v) Q E s := by
  obtain ⟨eh, tkp⟩ := at_
  subst eh
  obtain ⟨l1, l2, m, l3⟩ := S.loc
  rcases hx with hl | ⟨hc, c, hl⟩
  · refine wpAny_storeName_local hl l3 (fun h' n' sb => ?_) (by rw [S.fm.kind]; rfl)
    obtain ⟨o, es, ep, e, de, _⟩ := id l3
    obtain ⟨st, I⟩ := stp_but S.base.1 S.fm.inv S.stp l1 l2 e (safe_dict de) fun b o n e => (sb.2 b n).trans e
    refine k h' _ ⟨S.base, st, ⟨I, st.inh, S.fm.kind, S.fm.glob, S.fm.blt, fun y dy ey => ?_⟩, ⟨l1, l2, _, n'⟩, fun y c kc lc => ?_, S.apart, fun a ds ma => ?_, S.boxes⟩ st ⟨I, Nat.le_succ_of_le tkp⟩ (fun b o n _ e => (sb.2 b n).trans e)
    · by_cases hyx : y = x
      · subst hyx
        have : dy = d := by simpa using ey.symm
        subst this
        exact ⟨v, .inl ⟨hl, _, n', by simp⟩, r, hn.2⟩
      · rw [List.lookup_cons, show (y == x) = false by simpa using hyx] at ey
        obtain ⟨u, vu, ru, du⟩ := S.fm.vars y dy ey
        refine ⟨u, ?_, ru, du⟩
        rcases vu with ⟨a, m', b, z⟩ | ⟨a, nn, c, b, dd⟩
        · refine .inl ⟨a, _, n', ?_⟩
          have : m' = m := by
            obtain ⟨o1, es1, ep1, q1, q2, _, q3⟩ := b
            obtain ⟨o2, es2, ep2, r1, r2, _, r3⟩ := l3
            rw [q1] at r1; cases r1
            rw [q2] at r2; cases r2
            exact funext fun nm => (q3 nm).symm.trans (r3 nm)
          subst this
          simpa [hyx] using z
        · refine .inr ⟨a, nn, c, b, dd.sameBut sb fun q => ?_⟩
          obtain ⟨oc, ec, dc⟩ := dd
          rw [q, e] at ec; cases ec; rw [de] at dc; cases dc
    · obtain ⟨x1, x2, vv, x3⟩ := S.cel y c kc lc
      refine ⟨x1, x2, vv, x3.sameBut sb fun q => ?_⟩
      obtain ⟨oc, ec, dc⟩ := x3
      rw [q, e] at ec; cases ec; rw [de] at dc; cases dc
    · obtain ⟨x1, x2, vs, n, x3, x4⟩ := S.box a ds ma
      exact ⟨x1, x2, vs, n, (sb.2 a fun q => by rw [q, e] at x3; cases x3; cases de).trans x3, x4⟩
  · obtain ⟨c1, c2, vv, c3⟩ := S.cel x c hc hl
    refine wpAny_storeName_cell S.fm.kind hc hl c3 fun h' n' sb => ?_
    obtain ⟨o, e, de⟩ := id c3
    obtain ⟨st, I⟩ := stp_but S.base.1 S.fm.inv S.stp c1 c2 e (safe_cell de) fun b o n e => (sb.2 b n).trans e
    have hns : ∀ {m'}, s.heap.Ns env.locals m' → h'.Ns env.locals m' := fun z => z.sameBut sb fun q => by
      obtain ⟨o2, es2, ep2, e2, d2, _⟩ := z
      rw [q, e] at e2; cases e2; rw [de] at d2; cases d2
    refine k h' _ ⟨S.base, st, ⟨I, st.inh, S.fm.kind, S.fm.glob, S.fm.blt, fun y dy ey => ?_⟩, ⟨l1, l2, _, hns l3⟩, fun y c' kc lc => ?_, S.apart, fun a ds ma => ?_, S.boxes⟩ st ⟨I, tkp⟩ (fun b o _ n e => (sb.2 b (n x c hc hl)).trans e)
    · by_cases hyx : y = x
      · subst hyx
        have : dy = d := by simpa using ey.symm
        subst this
        exact ⟨v, .inr ⟨.inl hc, hn.1, c, hl, n'⟩, r, hn.2⟩
      · rw [List.lookup_cons, show (y == x) = false by simpa using hyx] at ey
        obtain ⟨u, vu, ru, du⟩ := S.fm.vars y dy ey
        refine ⟨u, ?_, ru, du⟩
        rcases vu with ⟨a, m', b, z⟩ | ⟨a, nn, c', b, dd⟩
        · exact .inl ⟨a, _, hns b, z⟩
        · exact .inr ⟨a, nn, c', b, dd.sameBut sb fun q => hyx (S.apart y x c (q ▸ b) hl)⟩
    · by_cases hyx : c' = c
      · subst hyx; exact ⟨c1, c2, _, n'⟩
      · obtain ⟨x1, x2, vv, x3⟩ := S.cel y c' kc lc
        exact ⟨x1, x2, vv, x3.sameBut sb hyx⟩
    · obtain ⟨x1, x2, vs, n, x3, x4⟩ := S.box a ds ma
      exact ⟨x1, x2, vs, n, (sb.2 a fun q => by rw [q, e] at x3; cases x3; cases de).trans x3, x4⟩
end
end Tn
end
section
-- TnS2
open PySem PySem.W PySem.Calls PySem.Spec PyProof.Rows
set_option maxRecDepth 100000
set_option linter.unusedVariables false
namespace Tn
inductive FlowD where
  | next | brk | cont | ret (d : D)
noncomputable def FlowAt (B : Fz) : Flow → FlowD → Prop
  | .next, .next => True
  | .brk, .brk => True
  | .cont, .cont => True
  | .ret v, .ret d => Rep B v d
  | _, _ => False
noncomputable abbrev Post := FlowD → Boxes → Rho → Prop
/-- a tree of statements, from a frame's state -/
structure RunT (w : World) (A : Around) (env : Env) (t : Sem Flow) (X : Boxes) (ρ : Rho) (post : Post) : Prop where
  go : ∀ B0 h0 B h, St w env B0 h0 X B h ρ → ∀ (s : Shared) (E : Value → Shared → Prop), At s h →
    wpAny (Md w) A t (fun f s' => ∃ B' h' tk X' ρ' fd, s' = { s with heap := h', toks := tk } ∧ 1 ≤ tk ∧ (∀ a o, B a = some o → B' a = some o) ∧ St w env B0 h0 X' B' h' ρ' ∧ FlowAt B' f fd ∧ post fd X' ρ') E s
noncomputable abbrev Run (w : World) (A : Around) (env : Env) (ss : List Stmt) (X : Boxes) (ρ : Rho) (post : Post) : Prop := RunT w A env (execs ss env) X ρ post
noncomputable abbrev Run1 (w : World) (A : Around) (env : Env) (st : Stmt) (X : Boxes) (ρ : Rho) (post : Post) : Prop := RunT w A env (exec st env) X ρ post
noncomputable abbrev Post.seq (w : World) (A : Around) (env : Env) (rest : List Stmt) (post : Post) : Post := fun f X ρ => match f with
  | .next => Run w A env rest X ρ post
  | f => post f X ρ
section
variable {w : World} {A : Around} {env : Env} {X : Boxes} {ρ : Rho} {post : Post}
theorem RunT.mono {t : Sem Flow} {post' : Post} (x : RunT w A env t X ρ post) (m : ∀ f X ρ, post f X ρ → post' f X ρ) : RunT w A env t X ρ post' := .mk fun B0 h0 B h S s E e =>
  wpAny_mono (x.go B0 h0 B h S s E e) (fun f s' ⟨B', h', tk, X', ρ', fd, a, b, l, c, d, p⟩ => ⟨B', h', tk, X', ρ', fd, a, b, l, c, d, m _ _ _ p⟩) fun _ _ e => e
theorem RunT.weak {t : Sem Flow} {ρ' : Rho} (x : RunT w A env t X ρ' post) (m : ∀ x d, ρ'.lookup x = some d → ρ.lookup x = some d) : RunT w A env t X ρ post := .mk fun B0 h0 B h S s E e =>
  x.go B0 h0 B h (S.drop m) s E e
theorem run_nil (p : post .next X ρ) : Run w A env [] X ρ post := .mk fun B0 h0 B h S s E e => wpAny_execs_nil ⟨B, h, s.toks, X, ρ, .next, by rw [← e.eq], e.pos, fun _ _ e => e, S, trivial, p⟩
theorem run_cons {st : Stmt} {rest : List Stmt} (x : Run1 w A env st X ρ (post.seq w A env rest)) : Run w A env (st :: rest) X ρ post := .mk fun B0 h0 B h S s E e => by
  refine wpAny_execs_cons (wpAny_mono (x.go B0 h0 B h S s E e) (fun f s' ⟨B', h', tk, X', ρ', fd, a, b, l, c, d, p⟩ => ?_) fun _ _ e => e)
  cases f with
  | next =>
    cases fd with
    | next =>
      refine wpAny_mono (p.go B0 h0 B' h' c s' E (a ▸ ⟨rfl, b⟩)) (fun f s'' ⟨B'', h'', tk', X'', ρ'', fd', a', b', l', c', d', p'⟩ => ⟨B'', h'', tk', X'', ρ'', fd', by rw [a', a], b', fun x o e => l' x o (l x o e), c', d', p'⟩) fun _ _ e => e
    | brk => exact d.elim
    | cont => exact d.elim
    | ret _ => exact d.elim
  | brk => cases fd with
    | brk => exact ⟨B', h', tk, X', ρ', .brk, a, b, l, c, d, p⟩
    | next => exact d.elim
    | cont => exact d.elim
    | ret _ => exact d.elim
  | cont => cases fd with
    | cont => exact ⟨B', h', tk, X', ρ', .cont, a, b, l, c, d, p⟩
    | next => exact d.elim
    | brk => exact d.elim
    | ret _ => exact d.elim
  | ret v => cases fd with
    | ret dd => exact ⟨B', h', tk, X', ρ', .ret dd, a, b, l, c, d, p⟩
    | next => exact d.elim
    | cont => exact d.elim
    | brk => exact d.elim
noncomputable abbrev Stores (env : Env) (x : Str) : Prop := env.kindOf x = some .local ∨ (env.kindOf x = some .cell ∧ ∃ c, env.cells.lookup x = some c)
theorem r1_assign {x : Str} {p1 p2 : Pos} {e : Expr} {d : D} (hx : Stores env x) (ee : Ev w A env ρ e d) (p : post .next X ((x, d) :: ρ)) (hn : okName x := by decide)
    (hs : swapsWith e (some (.Name x p1)) p2.line env = pure false := by rfl) : Run1 w A env (.Assign [.Name x p1] e p2) X ρ post := .mk fun B0 h0 B h S s E e => by
  refine wpAny_Assign_Name (ee.go B h S.fm s _ E e fun v B₁ h₁ tk st I r => ?_) hs
  exact (S.ev st I).store hx r hn _ _ E I.at fun h₂ tk₂ S₂ _ I₂ _ => ⟨B₁, h₂, tk₂, X, _, .next, rfl, I₂.pos, st.le, S₂, trivial, p⟩
theorem ld_var {B : Fz} {h : Heap} {x : Str} {d : D} (F : Fm w env B h ρ) (e : ρ.lookup x = some d) : Does w A (loadName env x) B h (fun v B' _ => Rep B' v d) := by
  obtain ⟨v, y, r, hb⟩ := F.vars x d e
  refine .same F.inv F.inh fun s Q E hs _ k => ?_
  have kk := k v s.toks r
  rcases y with ⟨a, m, b, c⟩ | ⟨a, n, c, b, dd⟩
  · exact wpAny_loadName_local F.kind a (hs ▸ b) c kk
  · rcases a with a | a
    · exact wpAny_loadName_cell F.kind a b (hs ▸ dd) kk
    · exact wpAny_loadName_free F.kind a b (hs ▸ dd) kk n
theorem r1_aug {x : Str} {p1 p2 : Pos} {op : Operator} {e : Expr} {d0 d1 d : D} (hx : Stores env x) (h0 : ρ.lookup x = some d0) (ee : Ev w A env ρ e d1) (z : OpI w A op d0 d1 d) (p : post .next X ((x, d) :: ρ)) (hn : okName x := by decide) :
    Run1 w A env (.AugAssign (.Name x p1) op e p2) X ρ post := .mk fun B0 h0' B h S s E e => by
  refine wpAny_AugAssign_Name (ld_var S.fm h0 s _ E e fun v B₁ h₁ tk st I r => ee.go B₁ h₁ (S.fm.step st I) _ _ E I.at fun v₂ B₂ h₂ tk₂ st₂ I₂ r₂ => z.go B₂ h₂ v v₂ I₂.inv st₂.inh (r.mono st₂.le) r₂ _ _ E I₂.at fun v₃ B₃ h₃ tk₃ st₃ I₃ r₃ => ?_)
  exact (S.ev ((st.trans st₂).trans st₃) I₃).store hx r₃ hn _ _ E I₃.at fun h₄ tk₄ S₄ _ I₄ _ => ⟨B₃, h₄, tk₄, X, _, .next, rfl, I₄.pos, ((st.trans st₂).trans st₃).le, S₄, trivial, p⟩
theorem r1_if {t : Expr} {b o : List Stmt} {pos : Pos} {c : Bool} (x : EvT w A env ρ t c) (y : c = true → Run w A env b X ρ post) (z : c = false → Run w A env o X ρ post) : Run1 w A env (.If t b o pos) X ρ post := .mk fun B0 h0 B h S s E e => by
  refine wpAny_If (x.go B h S.fm s _ E e fun v B₁ h₁ tk st I r => ?_)
  subst r
  cases v with
  | true => simp only [if_true]; exact wpAny_mono ((y rfl).go B0 h0 B₁ h₁ (S.ev st I) _ E I.at) (fun f s' ⟨B', h', tk', X', ρ', fd, a, b, l, c⟩ => ⟨B', h', tk', X', ρ', fd, a, b, fun x o e => l x o (st.le x o e), c⟩) fun _ _ e => e
  | false => simp only [Bool.false_eq_true, if_false]; exact wpAny_mono ((z rfl).go B0 h0 B₁ h₁ (S.ev st I) _ E I.at) (fun f s' ⟨B', h', tk', X', ρ', fd, a, b, l, c⟩ => ⟨B', h', tk', X', ρ', fd, a, b, fun x o e => l x o (st.le x o e), c⟩) fun _ _ e => e
theorem r1_ret {e : Expr} {pos : Pos} {d : D} (x : Ev w A env ρ e d) (p : post (.ret d) X ρ) : Run1 w A env (.Return (some e) pos) X ρ post := .mk fun B0 h0 B h S s E e =>
  wpAny_Return_some (x.go B h S.fm s _ E e fun v B₁ h₁ tk st I r => ⟨B₁, h₁, tk, X, ρ, .ret d, rfl, I.pos, st.le, S.ev st I, r, p⟩)
theorem r1_ret_none {pos : Pos} (p : post (.ret .none) X ρ) : Run1 w A env (.Return none pos) X ρ post := .mk fun B0 h0 B h S s E e =>
  wpAny_Return_none ⟨B, h, s.toks, X, ρ, .ret .none, by rw [← e.eq], e.pos, fun _ _ e => e, S, .none, p⟩
theorem r1_brk {pos : Pos} (p : post .brk X ρ) : Run1 w A env (.Break pos) X ρ post := .mk fun B0 h0 B h S s E e =>
  fun _ _ _ => ⟨B, h, s.toks, X, ρ, .brk, by rw [← e.eq], e.pos, fun _ _ e => e, S, trivial, p⟩

/-- while -/
theorem r1_while {t : Expr} {body : List Stmt} {pos : Pos} (I : Nat → Boxes → Rho → Prop)
    (turn : ∀ n X ρ, I n X ρ → ∃ c, EvT w A env ρ t c ∧ (c = true → Run w A env body X ρ (fun f X' ρ' => match f with
      | .next | .cont => ∃ m, m < n ∧ I m X' ρ'
      | .brk => post .next X' ρ'
      | .ret d => post (.ret d) X' ρ')) ∧ (c = false → post .next X ρ)) (n : Nat) (h : I n X ρ) : Run1 w A env (.While t body [] pos) X ρ post := .mk fun B0 h0 B hp S s E e => by
  refine wpAny_While (codeAny_whileLoop (A := A) (fun n s' => ∃ B' h' tk X' ρ', s' = { s with heap := h', toks := tk } ∧ 1 ≤ tk ∧ (∀ a o, B a = some o → B' a = some o) ∧ St w env B0 h0 X' B' h' ρ' ∧ I n X' ρ') ?_ n ⟨B, hp, s.toks, X, ρ, by rw [← e.eq], e.pos, fun _ _ e => e, S, h⟩)
  rintro n _ ⟨B', h', tk, X', ρ', rfl, tp, le, S', i⟩
  obtain ⟨c, tc, ty, tn⟩ := turn n X' ρ' i
  refine tc.go B' h' S'.fm _ _ _ ⟨rfl, tp⟩ fun v B₁ h₁ tk₁ st I₁ r => ?_
  subst r
  cases v with
  | true =>
    simp only [if_true]
    refine wpAny_mono ((ty rfl).go B0 h0 B₁ h₁ (S'.ev st I₁) _ _ I₁.at) (fun f s₂ ⟨B₂, h₂, tk₂, X₂, ρ₂, fd, a, b, l, c, d, p⟩ => ?_) fun _ _ e => e
    have le₂ : ∀ a o, B a = some o → B₂ a = some o := fun a o e => l a o (st.le a o (le a o e))
    cases f <;> cases fd <;> first | exact d.elim | skip
    · obtain ⟨m, hm, im⟩ := p
      exact ⟨m, hm, B₂, h₂, tk₂, X₂, ρ₂, a, b, le₂, c, im⟩
    · exact ⟨B₂, h₂, tk₂, X₂, ρ₂, .next, a, b, le₂, c, trivial, p⟩
    · obtain ⟨m, hm, im⟩ := p
      exact ⟨m, hm, B₂, h₂, tk₂, X₂, ρ₂, a, b, le₂, c, im⟩
    · exact ⟨B₂, h₂, tk₂, X₂, ρ₂, _, a, b, le₂, c, d, p⟩
  | false =>
    simp only [Bool.false_eq_true, if_false]
    exact wpAny_execs_nil ⟨B₁, h₁, tk₁, X', ρ', .next, rfl, I₁.pos, fun a o e => st.le a o (le a o e), S'.ev st I₁, trivial, tn rfl⟩
end
end Tn
end
section
-- TnS3
open PySem PySem.W PySem.Calls PySem.Spec PyProof.Rows
set_option maxRecDepth 100000
set_option linter.unusedVariables false
namespace Tn
/-- an iterator at I over data, whose store is B0 -/
structure IterAt (w : World) (A : Around) (B0 : Fz) (I : Addr) (es : List D) (T : Nat → Heap → Prop) : Prop where
  obj : ∀ i h, T i h → ∃ o, h.get? I = some o ∧ Iterish o ∧ Safe o
  frame : ∀ i h h', T i h → (∀ a o, B0 a = some o → h.get? a = some o) → (∀ a o, B0 a = some o → h'.get? a = some o) → (∀ o, h.get? I = some o → h'.get? I = some o) → T i h'
  item : ∀ i d (s : Shared) (Q : Option Value → Shared → Prop) (E : Value → Shared → Prop), es[i]? = some d → T i s.heap → (∀ a o, B0 a = some o → s.heap.get? a = some o) →
    (∀ v h' tk, Rep B0 v d → T (i + 1) h' → (∀ b o, b ≠ I → s.heap.get? b = some o → h'.get? b = some o) → Q (some v) { s with heap := h', toks := tk }) → wpAny (Md w) A (pyNext (.ref I)) Q E s
  done : ∀ (s : Shared) (Q : Option Value → Shared → Prop) (E : Value → Shared → Prop), T es.length s.heap → (∀ a o, B0 a = some o → s.heap.get? a = some o) →
    (∀ h' tk, (∀ b o, b ≠ I → s.heap.get? b = some o → h'.get? b = some o) → Q none { s with heap := h', toks := tk }) → wpAny (Md w) A (pyNext (.ref I)) Q E s
  self : ∀ i (s : Shared) (Q : Value → Shared → Prop) (E : Value → Shared → Prop), T i s.heap → Q (.ref I) s → wpAny (Md w) A (pyIter (.ref I)) Q E s
/-- data that a loop can run over -/
structure Itb (w : World) (A : Around) (d : D) (es : List D) : Prop where
  go : ∀ B h v, Inv w h → InH B h → Rep B v d → ∀ (s : Shared) (Q : Value → Shared → Prop) (E : Value → Shared → Prop), At s h →
  (∀ o T, (∀ A', A'.handled = none → IterAt w A' B h.objs.size es T) → T 0 (h.push o) → o.isFreed = false → Q (.ref h.objs.size) { s with heap := h.push o }) → wpAny (Md w) A (pyIter v) Q E s

section
variable {w : World} {A : Around}
theorem safe_two {o : Obj} {x y : Value} (e : o.data = .fields #[x, y]) (hy : ∀ q t, y ≠ .str q t) : Safe o := ⟨by rw [e]; exact nofun, fun vs q t z u => by
  rw [e] at z; cases z
  exact hy q t (by simpa using u)⟩
theorem it_two {o : Obj} {x y : Value} (e : o.data = .fields #[x, y]) (hy : ∀ q t, y ≠ .str q t) : ∃ vs, o.data = .fields vs ∧ ∀ q t, vs[1]? ≠ some (.str q t) := ⟨_, e, fun q t => (safe_two e hy).2 _ q t e⟩
theorem itb_list {ds : List D} : Itb w A (.list ds) ds := .mk fun B h v I i r s Q E a k => by
  obtain ⟨l, vs, n, rfl, e1, e2, il, z, rs⟩ := r.isL i
  obtain ⟨rfl, tp⟩ := a
  have hl : l < s.heap.objs.size := Heap.lt_size e2
  refine wpAny_pyIter_list il (k _ (fun i h => h.IsListIter s.heap.objs.size l i) (fun A' hA => ?_) ⟨_, Heap.get?_push_size _ rfl, rfl, rfl⟩ rfl)
  have W := Walks.list (prog := pw) (w := w) (A := A') hA s.heap.objs.size l (Nat.ne_of_lt hl) vs
  refine ⟨fun i h t => ?_, fun i h h' t _ _ k => t.at k, fun i d s' Q E hd t b k => ?_, fun s' Q E t b k => ?_, fun i s' Q E t q => wpAny_pyIter_listiter t q⟩
  · obtain ⟨o, e, c, d⟩ := t
    exact ⟨o, e, ⟨it_two d fun _ _ => nofun, .inl c⟩, safe_two d fun _ _ => nofun⟩
  · have hlt : i < vs.size := by rw [z]; exact (List.getElem?_eq_some_iff.mp hd).1
    refine W.item i s' Q E hlt ⟨t, ⟨_, b _ _ e1, rfl, _, rfl⟩⟩ fun v h' tk p st kk => k v h' tk ?_ st.1 fun b o hb e => kk b o (by simpa using hb) e
    obtain ⟨d', q1, q2⟩ := rs.get' (i := i) (v := v) (by simpa using p)
    rw [hd] at q1; cases q1; exact q2
  · exact W.done s' Q E ⟨by rw [z]; exact t, ⟨_, b _ _ e1, rfl, _, rfl⟩⟩ fun h' tk kk => k h' tk fun b o hb e => kk b o (by simpa using hb) e
theorem itb_tup {ds : List D} : Itb w A (.tup ds) ds := .mk fun B h v I i r s Q E a k => by
  obtain ⟨l, vs, n, rfl, e1, e2, il, z, rs⟩ := r.isT i
  obtain ⟨rfl, tp⟩ := a
  have hl : l < s.heap.objs.size := Heap.lt_size e2
  have it : s.heap.IsTuple l vs := ⟨_, e2, rfl, n, rfl⟩
  refine wpAny_pyIter_tuple it (k _ (fun i h => h.IsTupleIter s.heap.objs.size l i) (fun A' hA => ?_) ⟨_, Heap.get?_push_size _ rfl, rfl, rfl⟩ rfl)
  have W := Walks.tuple (prog := pw) (w := w) (A := A') hA s.heap.objs.size l (Nat.ne_of_lt hl) vs
  refine ⟨fun i h t => ?_, fun i h h' t _ _ k => t.at k, fun i d s' Q E hd t b k => ?_, fun s' Q E t b k => ?_, fun i s' Q E t q => wpAny_pyIter_tupleiter t q⟩
  · obtain ⟨o, e, c, d⟩ := t
    exact ⟨o, e, ⟨it_two d fun _ _ => nofun, .inr (.inl c)⟩, safe_two d fun _ _ => nofun⟩
  · have hlt : i < vs.size := by rw [z]; exact (List.getElem?_eq_some_iff.mp hd).1
    refine W.item i s' Q E hlt ⟨t, ⟨_, b _ _ e1, rfl, _, rfl⟩⟩ fun v h' tk p st kk => k v h' tk ?_ st.1 fun b o hb e => kk b o (by simpa using hb) e
    obtain ⟨d', q1, q2⟩ := rs.get' (i := i) (v := v) (by simpa using p)
    rw [hd] at q1; cases q1; exact q2
  · exact W.done s' Q E ⟨by rw [z]; exact t, ⟨_, b _ _ e1, rfl, _, rfl⟩⟩ fun h' tk kk => k h' tk fun b o hb e => kk b o (by simpa using hb) e
theorem itb_str {l : List Nat} : Itb w A (.str (S l)) (l.map fun c => .str (S [c])) := .mk fun B h v I i r s Q E a k => by
  obtain ⟨t, rfl⟩ := r.str_inv
  obtain ⟨rfl, tp⟩ := a
  have hz : (S l).cps.size = l.length := by simp [S]
  have key : ∀ {T : Nat → Heap → Prop}, (∀ A' : Around, A'.handled = none → Walks pw w A' s.heap.objs.size [s.heap.objs.size] [s.heap.objs.size] (S l).cps.size (SignAt (S l)) T) →
      (∀ i h, T i h → ∃ o, h.get? s.heap.objs.size = some o ∧ Iterish o ∧ Safe o) → ∀ A' : Around, A'.handled = none → IterAt w A' B s.heap.objs.size (l.map fun c => .str (S [c])) T := fun {T} W ob A' hA => by
    refine ⟨ob, fun i h h' t _ _ k => (W A' hA).frame i h h' t fun b hb o e => ?_, fun i d s' Q E hd t b k => ?_, fun s' Q E t b k => ?_, fun i s' Q E t q => (W A' hA).self i s' Q E t q⟩
    · rw [show b = s.heap.objs.size by simpa using hb] at e ⊢; exact k o e
    · have hlt : i < l.length := by simpa using (List.getElem?_eq_some_iff.mp hd).1
      refine (W A' hA).item i s' Q E (by rw [hz]; exact hlt) t fun v h' tk p st kk => k v h' tk ?_ st fun b o hb e => kk b o (by simpa using hb) e
      obtain ⟨c, u, p1, rfl⟩ := p
      have p2 : l[i]? = some c := by simpa [S] using p1
      rw [List.getElem?_map, p2] at hd
      cases hd
      exact .str (S [c]) u
    · exact (W A' hA).done s' Q E (by rw [hz]; simpa using t) fun h' tk kk => k h' tk fun b o hb e => kk b o (by simpa using hb) e
  cases ha : (S l).cps.all (· < 128)
  · refine wpAny_pyIter_wide ha (k _ (fun i h => h.IsStrIter s.heap.objs.size "str_iterator" (S l) t i) (key (fun A' hA => Walks.strWide hA _ _ t) fun i h q => ?_) ⟨_, Heap.get?_push_size _ rfl, rfl, rfl⟩ rfl)
    obtain ⟨o, e, c, d⟩ := q
    exact ⟨o, e, ⟨it_two d fun _ _ => nofun, .inr (.inr (.inr (.inr c)))⟩, safe_two d fun _ _ => nofun⟩
  · refine wpAny_pyIter_ascii ha (k _ (fun i h => h.IsStrIter s.heap.objs.size "str_ascii_iterator" (S l) t i) (key (fun A' hA => Walks.strAscii hA _ _ t) fun i h q => ?_) ⟨_, Heap.get?_push_size _ rfl, rfl, rfl⟩ rfl)
    obtain ⟨o, e, c, d⟩ := q
    exact ⟨o, e, ⟨it_two d fun _ _ => nofun, .inr (.inr (.inr (.inl c)))⟩, safe_two d fun _ _ => nofun⟩
/-- the numbers of a range -/
noncomputable def rngD (a c : Int) (n : Nat) : List D := (List.range n).map fun i => .int (a + (i : Nat) * c)
theorem itb_rng {a b c : Int} (hs : Builtin.Range.small a b c = true) (n : Nat) (hn : Builtin.Range.rangeSize a b c = n) : Itb w A (.rng a b c) (rngD a c n) := .mk fun B h v I i r s Q E at_ k => by
  obtain ⟨x, t, u, v, rfl, e⟩ := r.rng_inv
  obtain ⟨rfl, tp⟩ := at_
  refine wpAny_pyIter_range (i _ _ e).1 hs (k _ (fun i h => IsRangeIter h s.heap.objs.size (a + (i : Nat) * c) ((n : Int) - (i : Nat)) c) (fun A' hA => ?_) ?_ rfl)
  · have W := Walks.range (prog := pw) (w := w) (A := A') hA s.heap.objs.size a c n
    refine ⟨fun i h t => ⟨_, t, ⟨⟨_, rfl, fun q t u => by simp [rawInt] at u⟩, .inr (.inr (.inl rfl))⟩, ?_⟩, fun i h h' t _ _ k => k _ t, fun i d s' Q E hd t b k => ?_, fun s' Q E t b k => ?_, fun i s' Q E t q => wpAny_pyIter_rangeiter t q⟩
    · refine ⟨nofun, fun vs q t z u => ?_⟩
      simp only [Data.fields.injEq] at z
      subst z
      simp [rawInt] at u
    · have hlt : i < n := by simpa [rngD] using (List.getElem?_eq_some_iff.mp hd).1
      refine W.item i s' Q E hlt t fun v h' tk p st kk => k v h' tk ?_ st fun b o hb e => kk b o (by simpa using hb) e
      obtain ⟨t', rfl⟩ := p
      rw [rngD, List.getElem?_map, List.getElem?_range hlt] at hd
      cases hd
      exact .int _ _
    · exact W.done s' Q E (by simpa [rngD] using t) fun h' tk kk => k h' tk fun b o hb e => kk b o (by simpa using hb) e
  · show IsRangeIter _ _ _ _ _
    rw [← hn]
    simpa using Heap.get?_push_size s.heap (o := ({ cls := .type "range_iterator", data := .fields #[rawInt a, rawInt (Builtin.Range.rangeSize a b c), rawInt c] } : Obj)) rfl
end
end Tn
end
section
-- TnS4
open PySem PySem.W PySem.Calls PySem.Spec PyProof.Rows
set_option maxRecDepth 100000
set_option linter.unusedVariables false
namespace Tn
section
variable {w : World} {env : Env} {B0 B B' : Fz} {h0 h h' : Heap} {X : Boxes} {ρ : Rho}
/-- an own, unfrozen object that is no variable and no box changes -/
theorem St.iter (S : St w env B0 h0 X B h ρ) {I : Addr} {o : Obj} (h0I : h0.get? I = none) (BI : B I = none) (e : h.get? I = some o) (io : Iterish o) (so : Safe o)
    (k : ∀ b o, b ≠ I → h.get? b = some o → h'.get? b = some o) : St w env B0 h0 X B h' ρ := by
  obtain ⟨⟨fs, fd, _⟩, _⟩ := io
  obtain ⟨st, Iv⟩ := stp_but S.base.1 S.fm.inv S.stp h0I BI e so k
  have kd : ∀ {b : Addr} {o' : Obj}, (∀ vs, o'.data ≠ .fields vs) → h.get? b = some o' → h'.get? b = some o' := fun {b o'} n q => k b o' (fun z => by rw [z, e] at q; cases q; exact n _ fd) q
  have kn : ∀ {b : Addr} {m : Str → Option Value}, h.Ns b m → h'.Ns b m := fun x => let ⟨o', es, ep, q, d, r⟩ := x; ⟨o', es, ep, kd (fun vs z => by rw [d] at z; cases z) q, d, r⟩
  have kc : ∀ {c : Addr} {v : Option Value}, h.IsCell c v → h'.IsCell c v := fun x => let ⟨o', q, d⟩ := x; ⟨o', kd (fun vs z => by rw [d] at z; cases z) q, d⟩
  obtain ⟨l1, l2, m, l3⟩ := S.loc
  refine ⟨S.base, st, ⟨Iv, st.inh, S.fm.kind, S.fm.glob, S.fm.blt, fun x d q => ?_⟩, ⟨l1, l2, m, kn l3⟩, fun x c q r => ?_, S.apart, fun a ds q => ?_, S.boxes⟩
  · obtain ⟨v, y, r, hb⟩ := S.fm.vars x d q
    refine ⟨v, ?_, r, hb⟩
    rcases y with ⟨a, m, b, c⟩ | ⟨a, n, c, b, dd⟩
    · exact .inl ⟨a, m, kn b, c⟩
    · exact .inr ⟨a, n, c, b, kc dd⟩
  · obtain ⟨a, b, v, c⟩ := S.cel x c q r
    exact ⟨a, b, v, kc c⟩
  · obtain ⟨a, b, vs, n, c, d⟩ := S.box a ds q
    exact ⟨a, b, vs, n, kd (fun vs z => by cases z) c, d⟩
/-- an own object is frozen -/
theorem St.put (S : St w env B0 h0 X B h ρ) {I : Addr} {o : Obj} (h0I : h0.get? I = none) (BI : B I = none) (e : h.get? I = some o) (nl : env.locals ≠ I)
    (nc : ∀ x c, env.kindOf x = some .cell → env.cells.lookup x = some c → c ≠ I) (nb : ∀ a ds, (a, ds) ∈ X → a ≠ I) : St w env B0 h0 X (B.put I o) h ρ := by
  have le : ∀ b o', B b = some o' → (B.put I o) b = some o' := fun b o' q => (if_neg (fun z => by rw [z, BI] at q; cases q)).trans q
  have st : Stp B0 h0 (B.put I o) h := ⟨S.stp.up, fun b o' q => le b o' (S.stp.le b o' q), fun b o' q => by
    by_cases hb : b = I
    · rw [hb] at q ⊢
      rw [Fz.put_self] at q; cases q
      exact ⟨e, S.base.1.fresh h0I⟩
    · rw [show (B.put I o) b = B b from if_neg hb] at q
      exact S.stp.inh b o' q, fun b o' q => by
    by_cases hb : b = I
    · exact .inr (.inl (hb ▸ h0I))
    · rw [show (B.put I o) b = B b from if_neg hb] at q
      exact S.stp.fresh b o' q⟩
  obtain ⟨l1, l2, m, l3⟩ := S.loc
  refine ⟨S.base, st, ⟨S.fm.inv, st.inh, S.fm.kind, S.fm.glob, S.fm.blt, fun x d q => ?_⟩, ⟨l1, (if_neg nl).trans l2, m, l3⟩, fun x c q r => ?_, S.apart, fun a ds q => ?_, S.boxes⟩
  · obtain ⟨v, y, r, hb⟩ := S.fm.vars x d q
    exact ⟨v, y, r.mono le, hb⟩
  · obtain ⟨a, b, v, cc⟩ := S.cel x c q r
    exact ⟨a, (if_neg (nc x c q r)).trans b, v, cc⟩
  · obtain ⟨a1, b, vs, n, c, d⟩ := S.box a ds q
    exact ⟨a1, (if_neg (nb a ds q)).trans b, vs, n, c, d.mono le⟩
/-- a frozen iterator is let go -/
theorem St.del (S : St w env B0 h0 X B h ρ) {I : Addr} {o : Obj} (h0I : h0.get? I = none) (BI : B I = some o) (io : Iterish o) : St w env B0 h0 X (B.del I) h ρ := by
  have dn : ∀ {b : Addr}, B b = none → (B.del I) b = none := fun {b} q => by
    by_cases hb : b = I
    · exact if_pos hb
    · exact (if_neg hb).trans q
  have st : Stp B0 h0 (B.del I) h := ⟨S.stp.up, fun b o' q => (if_neg (fun z => by
      have := (S.base.2 b o' q).1
      rw [z, h0I] at this; cases this)).trans (S.stp.le b o' q), fun b o' q => by
    by_cases hb : b = I
    · rw [hb, show (B.del I) I = none from if_pos rfl] at q; cases q
    · rw [show (B.del I) b = B b from if_neg hb] at q
      exact S.stp.inh b o' q, fun b o' q => by
    by_cases hb : b = I
    · exact .inr (.inl (hb ▸ h0I))
    · rw [show (B.del I) b = B b from if_neg hb] at q
      exact S.stp.fresh b o' q⟩
  obtain ⟨l1, l2, m, l3⟩ := S.loc
  refine ⟨S.base, st, ⟨S.fm.inv, st.inh, S.fm.kind, S.fm.glob, S.fm.blt, fun x d q => ?_⟩, ⟨l1, dn l2, m, l3⟩, fun x c q r => ?_, S.apart, fun a ds q => ?_, S.boxes⟩
  · obtain ⟨v, y, r, hb⟩ := S.fm.vars x d q
    exact ⟨v, y, r.del BI io, hb⟩
  · obtain ⟨a, b, v, cc⟩ := S.cel x c q r
    exact ⟨a, dn b, v, cc⟩
  · obtain ⟨a1, b, vs, n, c, d⟩ := S.box a ds q
    exact ⟨a1, dn b, vs, n, c, d.del BI io⟩
/-- the frame's state stands apart from an iterator -/
theorem St.apartI (S : St w env B0 h0 X B h ρ) {I : Addr} {o : Obj} (e : h.get? I = some o) (io : Iterish o) :
    env.locals ≠ I ∧ (∀ x c, env.kindOf x = some .cell → env.cells.lookup x = some c → c ≠ I) ∧ (∀ a ds, (a, ds) ∈ X → a ≠ I) := by
  obtain ⟨⟨fs, fd, _⟩, _⟩ := io
  obtain ⟨l1, l2, m, o', es, ep, q, d, _⟩ := S.loc
  refine ⟨fun z => ?_, fun x c a b z => ?_, fun a ds m z => ?_⟩
  · rw [z, e] at q; cases q; rw [fd] at d; cases d
  · obtain ⟨_, _, v, o', q, d⟩ := S.cel x c a b
    rw [z, e] at q; cases q; rw [fd] at d; cases d
  · obtain ⟨_, _, vs, n, q, _⟩ := S.box a ds m
    rw [z, e] at q; cases q; cases fd
end

section
variable {w : World} {A : Around} {env : Env} {X : Boxes} {ρ : Rho} {post : Post}
/-- for -/
theorem r1_for {x : Str} {px pos : Pos} {iter : Expr} {body : List Stmt} {d : D} {es : List D} (hA : A.handled = none) (hx : Stores env x) (ei : Ev w A env ρ iter d) (it : Itb w A d es) (Iv : Nat → Boxes → Rho → Prop) (i0 : Iv 0 X ρ)
    (turn : ∀ i X' ρ' e, es[i]? = some e → Iv i X' ρ' → Run w A env body X' ((x, e) :: ρ') (fun f X'' ρ'' => match f with
      | .next | .cont => Iv (i + 1) X'' ρ''
      | .brk => post .next X'' ρ''
      | .ret d => post (.ret d) X'' ρ''))
    (fin : ∀ X' ρ', Iv es.length X' ρ' → post .next X' ρ') (hn : okName x := by decide) (hs : ∀ x, foldedSetIterable iter env x = pure x := by intro _; rfl) :
    Run1 w A env (.For (.Name x px) iter body [] pos) X ρ post := .mk fun B0 h0 B h S s E e => by
  refine wpAny_For (ei.go B h S.fm s _ E e fun xv B₁ h₁ tk₁ st₁ I₁ r₁ => it.go B₁ h₁ xv I₁.inv st₁.inh r₁ _ _ E I₁.at fun o T IT t0 hf => ?_) hs
  have S₁ := S.ev st₁ I₁
  have hI₁ : h₁.get? h₁.objs.size = none := get_size h₁
  have h0I : h0.get? h₁.objs.size = none := S₁.stp.up.none _ hI₁
  have B₁I : B₁ h₁.objs.size = none := by
    cases q : B₁ h₁.objs.size with
    | none => rfl
    | some o' => rw [(st₁.inh _ _ q).1] at hI₁; cases hI₁
  have S₂ := S₁.ev (Stp.keep (w := w) st₁.inh (Up.push h₁ o)) ⟨I₁.inv.push o, I₁.pos⟩
  generalize hII : h₁.objs.size = I at *
  have IT := IT A hA
  refine codeAny_forLoop (A := A) (fun n s' => ∃ i B' h' tk X' ρ', n = es.length - i ∧ i ≤ es.length ∧ s' = { s with heap := h', toks := tk } ∧ 1 ≤ tk ∧ St w env B0 h0 X' B' h' ρ' ∧ (∀ a o, B₁ a = some o → B' a = some o) ∧ B' I = none ∧ T i h' ∧ Iv i X' ρ')
    ?_ (es.length - 0) ⟨0, B₁, h₁.push o, tk₁, X, ρ, rfl, Nat.zero_le _, rfl, I₁.pos, S₂, fun _ _ e => e, B₁I, t0, i0⟩
  rintro n _ ⟨i, B', h', tk, X', ρ', rfl, hi, rfl, tp, S', le, B'I, ti, iv⟩
  obtain ⟨oI, eI, ioI, soI⟩ := IT.obj i h' ti
  have inB : ∀ a o, B₁ a = some o → h'.get? a = some o := fun a o q => (S'.stp.inh a o (le a o q)).1
  by_cases hlt : i < es.length
  · obtain ⟨d', hd'⟩ : ∃ d', es[i]? = some d' := ⟨es[i], List.getElem?_eq_getElem hlt⟩
    refine wpAny_mono (wpAny_toks_of (n := 1) tp (IT.item i d' _ (fun r s' => 1 ≤ s'.toks → _) _ hd' ti inB fun v h₂ tk₂ rv t2 k2 tp₂ => ?_)) (fun a s' z => z.2 z.1) fun _ _ z => z.2
    dsimp only at tp₂ k2 ⊢
    have S₃ := S'.iter h0I B'I eI ioI soI k2
    obtain ⟨o2, e2, io2, so2⟩ := IT.obj _ _ t2
    obtain ⟨a1, a2, a3⟩ := S₃.apartI e2 io2
    have S₄ := S₃.put h0I B'I e2 a1 a2 a3
    have le4 : ∀ a o, B' a = some o → (B'.put I o2) a = some o := fun b o' q => (if_neg (fun z => by rw [z, B'I] at q; cases q)).trans q
    refine wpAny_assign_Name (S₄.store hx ((rv.mono le).mono le4) hn _ _ _ ⟨rfl, tp₂⟩ fun h₅ tk₅ S₅ st₅ I₅ _ => ?_)
    refine wpAny_mono ((turn i X' ρ' d' hd' iv).go B0 h0 _ h₅ S₅ _ _ I₅.at) (fun f s₆ ⟨B₆, h₆, tk₆, X₆, ρ₆, fd, a, b, l, c, dd, p⟩ => ?_) fun _ _ e => e
    have B₆I : B₆ I = some o2 := l _ _ (Fz.put_self _ _ _)
    have S₆ := c.del h0I B₆I io2
    have le6 : ∀ a o, B' a = some o → (B₆.del I) a = some o := fun b o' q => (if_neg (fun z => by rw [z, B'I] at q; cases q)).trans (l _ _ (le4 _ _ q))
    have t6 : T (i + 1) h₆ := IT.frame _ h₂ h₆ t2 (fun a o q => (S₃.stp.inh a o (le a o q)).1) (fun a o q => (S₆.stp.inh a o (le6 a o (le a o q))).1) fun o q => by
      rw [e2] at q; cases q; exact (c.stp.inh _ _ B₆I).1
    have leB : ∀ a o, B a = some o → (B₆.del I) a = some o := fun a o q => le6 a o (le a o (st₁.le a o q))
    cases f <;> cases fd <;> first | exact dd.elim | skip
    · exact ⟨_, by omega, i + 1, _, h₆, tk₆, X₆, ρ₆, rfl, hlt, a, b, S₆, fun a o q => le6 a o (le a o q), if_pos rfl, t6, p⟩
    · exact ⟨_, h₆, tk₆, X₆, ρ₆, .next, a, b, leB, S₆, trivial, p⟩
    · exact ⟨_, by omega, i + 1, _, h₆, tk₆, X₆, ρ₆, rfl, hlt, a, b, S₆, fun a o q => le6 a o (le a o q), if_pos rfl, t6, p⟩
    · exact ⟨_, h₆, tk₆, X₆, ρ₆, .ret _, a, b, leB, S₆, Rep.del B₆I io2 dd, p⟩
  · have hie : i = es.length := by omega
    subst hie
    refine wpAny_mono (wpAny_toks_of (n := 1) tp (IT.done _ (fun r s' => 1 ≤ s'.toks → _) _ ti inB fun h₂ tk₂ k2 tp₂ => ?_)) (fun a s' z => z.2 z.1) fun _ _ z => z.2
    exact wpAny_execs_nil ⟨B', h₂, tk₂, X', ρ', .next, rfl, tp₂, fun a o q => le a o (st₁.le a o q), S'.iter h0I B'I eI ioI soI k2, trivial, fin _ _ iv⟩
end
end Tn
end
section
-- TnC
open PySem PySem.W PySem.Calls PySem.Spec PyProof.Rows
set_option maxRecDepth 100000
set_option linter.unusedVariables false
namespace Tn
theorem cells_other {y : Str} : ∀ (names : List (Str × NameKind)) (n : Nat) (acc : List (Str × Addr)), (y, .cell) ∉ names → (cellsFrom n names acc).lookup y = acc.lookup y
  | [], _, _, _ => rfl
  | (x, k) :: r, n, acc, h => by
    have h' : (y, NameKind.cell) ∉ r := fun q => h (List.mem_cons_of_mem _ q)
    unfold cellsFrom
    split
    · rename_i hk
      have hk' : k = .cell := by simpa using hk
      rw [cells_other r _ _ h', List.lookup_cons]
      have : (y == x) = false := by
        cases q : y == x with
        | false => rfl
        | true => rw [hk', ← beq_iff_eq.mp q] at h; exact absurd List.mem_cons_self h
      rw [this]
    · exact cells_other r _ _ h'
theorem cells_own {x : Str} : ∀ (names : List (Str × NameKind)) (h : Heap) (acc : List (Str × Addr)), (x, .cell) ∈ names →
    ∃ c, (cellsFrom h.objs.size names acc).lookup x = some c ∧ h.objs.size ≤ c ∧ (pushCells h names).IsCell c none
  | [], _, _, m => by cases m
  | (y, k) :: r, h, acc, m => by
    unfold cellsFrom pushCells
    split
    · by_cases hr : (x, NameKind.cell) ∈ r
      · obtain ⟨c, a, b, d⟩ := cells_own r (h.push { cls := .type "cell", data := .cell none }) ((y, h.objs.size) :: acc) hr
        rw [Heap.size_push] at a b
        exact ⟨c, a, by omega, d⟩
      · rcases List.mem_cons.mp m with e | e
        · cases e
          refine ⟨h.objs.size, ?_, Nat.le_refl _, _, pushCells_keeps _ _ _ _ (Heap.get?_push_size _ rfl), rfl⟩
          rw [cells_other r _ _ hr]
          simp
        · exact absurd e hr
    · rename_i hk
      rcases List.mem_cons.mp m with e | e
      · cases e; exact absurd rfl hk
      · exact cells_own r h acc e
theorem wpAny_compEnv {M : Model} {A : Around} {E : Value → Shared → Prop} {s : Shared} {scope : Scope} {globals : Addr} {closure : List (Str × Addr)} {qual : Str} {env : Env} {Q : Env → Shared → Prop}
    (h : Q (newEnv scope s.heap.objs.size globals (cellsFrom (s.heap.objs.size + 1) scope.names closure) qual none .none (some env) builtinsNs) { s with heap := pushCells (s.heap.push { cls := .type "dict", data := .dict #[] }) scope.names }) :
    wpAny M A (newFunctionEnv scope globals closure [] qual none .none (some env)) Q E s := by
  simp only [newFunctionEnv, Option.isSome_some, if_true]
  refine wpAny_bind (wpAny_alloc ?_)
  refine wpAny_bind (wpAny_layCells _ (fun name kind cells => by cases hkc : kind == NameKind.cell <;> simp [hkc]) _ _ _ _ ?_)
  rw [show ({ s with heap := s.heap.push { cls := .type "dict", data := .dict #[] } } : Shared).heap.objs.size = s.heap.objs.size + 1 from Heap.size_push ..]
  refine wpAny_bind ?_
  rw [List.forIn_nil]
  exact wpAny_pure (wpAny_pure h)

theorem closure_go {env : Env} : ∀ (names : List (Str × NameKind)) (acc : List (Str × Addr)), (∀ y, (y, .free) ∈ names → ∃ c, env.cells.lookup y = some c) →
    ∃ cl, (forIn names acc fun (x : Str × NameKind) cs => (if x.2 == .free then (do let a ← cellOf env x.1; pure (.yield ((x.1, a) :: cs))) else pure (.yield cs) : Sem (ForInStep (List (Str × Addr))))) = pure cl ∧
      (∀ y c, (y, c) ∈ cl → (y, c) ∈ acc ∨ env.cells.lookup y = some c) ∧ (∀ y, (y, .free) ∈ names ∨ y ∈ acc.map (·.1) → y ∈ cl.map (·.1))
  | [], acc, _ => ⟨acc, rfl, fun y c m => .inl m, fun y m => m.elim (fun q => by cases q) id⟩
  | (x, k) :: r, acc, h => by
    have hr : ∀ y, (y, .free) ∈ r → ∃ c, env.cells.lookup y = some c := fun y m => h y (List.mem_cons_of_mem _ m)
    rw [List.forIn_cons]
    by_cases hk : (k == NameKind.free) = true
    · have hk' : k = .free := by simpa using hk
      subst hk'
      obtain ⟨c, hc⟩ := h x List.mem_cons_self
      obtain ⟨cl, e, a, b⟩ := closure_go r ((x, c) :: acc) hr
      refine ⟨cl, ?_, fun y c' m => ?_, fun y m => b y ?_⟩
      · simp only [hk, if_true]
        unfold cellOf at e ⊢
        rw [hc]
        exact e
      · rcases a y c' m with z | z
        · rcases List.mem_cons.mp z with z | z
          · cases z; exact .inr hc
          · exact .inl z
        · exact .inr z
      · rcases m with m | m
        · rcases List.mem_cons.mp m with m | m
          · cases m; exact .inr (by simp)
          · exact .inl m
        · exact .inr (by simp at m ⊢; exact .inr m)
    · obtain ⟨cl, e, a, b⟩ := closure_go r acc hr
      refine ⟨cl, ?_, a, fun y m => b y ?_⟩
      · simp only [hk]
        exact e
      · rcases m with m | m
        · rcases List.mem_cons.mp m with m | m
          · cases m; exact absurd rfl hk
          · exact .inl m
        · exact .inr m
theorem lookup_mem {l : List (Str × Addr)} {y : Str} {c : Addr} (h : ∀ c', (y, c') ∈ l → c' = c) (m : y ∈ l.map (·.1)) : l.lookup y = some c := by
  cases q : l.lookup y with
  | none =>
    obtain ⟨⟨y', c'⟩, a, b⟩ := List.mem_map.mp m
    simp only at b; subst b
    have : ∀ (l : List (Str × Addr)), (y', c') ∈ l → l.lookup y' ≠ none := fun l => by
      induction l with
      | nil => intro m; cases m
      | cons p r ih =>
        intro m e
        rw [List.lookup_cons] at e
        split at e
        · cases e
        · rename_i hb
          rcases List.mem_cons.mp m with m | m
          · rw [← m] at hb; simp at hb
          · exact ih m e
    exact absurd q (this l a)
  | some c' => rw [h c' (mem_of_lookup q)]
theorem closure_ok {scope : Scope} {env : Env} (h : ∀ y, (y, .free) ∈ scope.names → ∃ c, env.cells.lookup y = some c) : ∃ cl, closureFor scope env = pure cl ∧ ∀ y, (y, .free) ∈ scope.names → cl.lookup y = env.cells.lookup y := by
  obtain ⟨cl, e, a, b⟩ := closure_go scope.names [] h
  refine ⟨cl, ?_, fun y m => ?_⟩
  · unfold closureFor
    exact (congrArg (fun t => t >>= fun cs => pure cs) e).trans (pure_bind _ _)
  · obtain ⟨c, hc⟩ := h y m
    rw [hc]
    refine lookup_mem (fun c' m' => ?_) (b y (.inl m))
    rcases a y c' m' with z | z
    · cases z
    · rw [hc] at z; cases z; rfl

noncomputable def relab (env : Env) : Str × NameKind → Str × NameKind := fun (n, k) => if (k == NameKind.free && env.scope.kind == .function && env.kindOf n == some .cell) then (n, NameKind.cell) else (n, k)
theorem relab_fst (env : Env) (p : Str × NameKind) : (relab env p).1 = p.1 := by
  obtain ⟨n, k⟩ := p
  unfold relab
  dsimp only
  split <;> rfl
theorem relab_lookup {env : Env} {y : Str} {kd : NameKind} : ∀ {names : List (Str × NameKind)}, names.lookup y = some kd → (names.map (relab env)).lookup y = some (relab env (y, kd)).2
  | (n, k) :: r, h => by
    rw [List.lookup_cons] at h
    rw [List.map_cons, show relab env (n, k) = (n, (relab env (n, k)).2) from Prod.ext (relab_fst env (n, k)) rfl, List.lookup_cons]
    cases hx : y == n with
    | true => rw [hx] at h; cases h; rw [beq_iff_eq.mp hx]
    | false => rw [hx] at h; exact relab_lookup h
theorem relabel_free {env : Env} {y : Str} {names : List (Str × NameKind)} (h : names.lookup y = some .free) : (names.map (relab env)).lookup y = some .free ∨ (names.map (relab env)).lookup y = some .cell := by
  rw [relab_lookup h]
  unfold relab
  dsimp only
  split
  · exact .inr rfl
  · exact .inl rfl
theorem relabel_kept {env : Env} {y : Str} {kd : NameKind} (hk : kd ≠ .free) {names : List (Str × NameKind)} (h : names.lookup y = some kd) : (names.map (relab env)).lookup y = some kd := by
  rw [relab_lookup h]
  unfold relab
  dsimp only
  have : (kd == NameKind.free) = false := by simpa using hk
  rw [this]
  rfl

/-- a comprehension's own environment -/
structure CE (scope : Scope) (cenv : Env) : Prop where
  kind : ∀ y k, scope.names.lookup y = some k → k ≠ .free → cenv.kindOf y = some k
  free : ∀ y, scope.names.lookup y = some .free → cenv.kindOf y = some .free ∨ cenv.kindOf y = some .cell
  fn : cenv.scope.kind = .function
structure Tests (w : World) (A : Around) (env : Env) (ρ : Rho) (ifs : List Expr) (b : Bool) : Prop where
  go : ∀ B h, Fm w env B h ρ →
  Does w A (forIn ifs true fun c r => if r = true then do let ok ← isTrue c env (eval c env); pure (ForInStep.yield ok) else pure (ForInStep.yield r)) B h (fun ok _ _ => ok = b)
theorem tests_nil {w A env ρ} : Tests w A env ρ [] true := .mk fun B h F => .same F.inv F.inh fun s Q E hs _ k => by
  rw [List.forIn_nil]
  exact wpAny_pure (k _ s.toks rfl)
theorem tests_one {w A env ρ c b} (x : EvT w A env ρ c b) : Tests w A env ρ [c] b := .mk fun B h F s Q E hs k => by
  rw [List.forIn_cons]
  simp only [if_true]
  refine wpAny_bind (wpAny_bind (x.go B h F s _ E hs fun v B₁ h₁ tk st I r => wpAny_pure ?_))
  dsimp only
  rw [List.forIn_nil]
  exact wpAny_pure (k v B₁ h₁ tk st I r)
end Tn
end
section
-- TnC2
open PySem PySem.W PySem.Calls PySem.Spec PyProof.Rows
set_option maxRecDepth 100000
set_option linter.unusedVariables false
namespace Tn
theorem get_ge {h : Heap} {a : Addr} (ha : h.objs.size ≤ a) : h.get? a = none := by
  cases e : h.get? a with
  | none => rfl
  | some o => exact absurd (Heap.lt_size e) (Nat.not_lt.mpr ha)
theorem inh_none {B : Fz} {h : Heap} (i : InH B h) {a : Addr} (e : h.get? a = none) : B a = none := by
  cases q : B a with
  | none => rfl
  | some o => rw [(i a o q).1] at e; cases e
theorem fm_succ (out : Nat → Option D) (i : Nat) : (List.range (i + 1)).filterMap out = (List.range i).filterMap out ++ (match out i with | none => [] | some d => [d]) := by
  rw [List.range_succ, List.filterMap_append]
  congr 1
  cases h : out i <;> simp [h]
structure CSt (w : World) (cenv : Env) (B1 : Fz) (h1 : Heap) (I Dd C : Addr) (x : Str) (T : Nat → Heap → Prop) (i : Nat) (outs : List D) (B : Fz) (h : Heap) : Prop where
  stp : Stp B1 h1 B h
  inv : Inv w h
  oI : h1.get? I = none ∧ B I = none
  oD : h1.get? Dd = none ∧ B Dd = none
  oC : h1.get? C = none ∧ B C = none
  it : T i h
  acc : ∃ ys n, h.get? Dd = some (listO ys n) ∧ Reps B ys.toList outs
  loc : ∃ m, h.Ns C m
  tgt : cenv.kindOf x = some .local ∨ (cenv.kindOf x = some .cell ∧ ∃ c, cenv.cells.lookup x = some c ∧ h1.get? c = none ∧ B c = none ∧ ∃ v, h.IsCell c v)
noncomputable abbrev Frees (cenv : Env) (B1 : Fz) (h1 : Heap) (x : Str) (ρf : Rho) : Prop := ∀ y d, ρf.lookup y = some d → ∃ v c, y ≠ x ∧ (cenv.kindOf y = some .cell ∨ cenv.kindOf y = some .free) ∧ cenv.cells.lookup y = some c ∧ h1.IsCell c (some v) ∧ Rep B1 v d ∧ okName y

section
variable {w : World} {A : Around} {cenv : Env} {B1 B B' : Fz} {h1 h h' : Heap} {I Dd C : Addr} {x : Str} {T : Nat → Heap → Prop} {i : Nat} {outs es : List D} {ρf : Rho}
theorem CSt.ev (c : CSt w cenv B1 h1 I Dd C x T i outs B h) (I1 : Inv w h1) (IT : IterAt w A B1 I es T) (s : Stp B h B' h') (Iv : Inv w h') : CSt w cenv B1 h1 I Dd C x T i outs B' h' := by
  obtain ⟨oI, eI, _, soI⟩ := IT.obj _ _ c.it
  obtain ⟨ys, n, eD, rD⟩ := c.acc
  obtain ⟨m, nC⟩ := c.loc
  obtain ⟨oC, es', ep, eC, dC, rC⟩ := id nC
  have inB : ∀ a o, B1 a = some o → h.get? a = some o := fun a o q => (c.stp.inh a o (c.stp.le a o q)).1
  have st := c.stp.trans s
  refine ⟨st, Iv, ⟨c.oI.1, stp_none s c.oI.2 eI soI⟩, ⟨c.oD.1, stp_none s c.oD.2 eD (safe_seq rfl)⟩, ⟨c.oC.1, stp_none s c.oC.2 eC (safe_dict dC)⟩, ?_, ⟨ys, n, s.up.keep _ _ (I1.fresh c.oD.1) eD, rD.mono s.le⟩, ⟨m, ns_up c.inv s.up nC⟩, ?_⟩
  · exact IT.frame i h h' c.it inB (fun a o q => (st.inh a o (st.le a o q)).1) fun o q => s.up.keep _ _ (I1.fresh c.oI.1) q
  · rcases c.tgt with a | ⟨a, cc, b, d, e, v, f⟩
    · exact .inl a
    · obtain ⟨oc, ec, dc⟩ := id f
      exact .inr ⟨a, cc, b, d, stp_none s e ec (safe_cell dc), v, cell_up c.inv s.up f⟩
/-- the iterator moves on -/
theorem CSt.turn (c : CSt w cenv B1 h1 I Dd C x T i outs B h) (I1 : Inv w h1) (IT : IterAt w A B1 I es T) (k : ∀ b o, b ≠ I → h.get? b = some o → h'.get? b = some o) {j : Nat} (t : T j h') : CSt w cenv B1 h1 I Dd C x T j outs B h' := by
  obtain ⟨oI, eI, ioI, soI⟩ := IT.obj _ _ c.it
  obtain ⟨⟨fs, fd, _⟩, _⟩ := ioI
  obtain ⟨ys, n, eD, rD⟩ := c.acc
  obtain ⟨m, oC, es', ep, eC, dC, rC⟩ := c.loc
  obtain ⟨st, Iv⟩ := stp_but I1 c.inv c.stp c.oI.1 c.oI.2 eI soI k
  refine ⟨st, Iv, c.oI, c.oD, c.oC, t, ⟨ys, n, k _ _ (fun z => by rw [z, eI] at eD; cases eD; cases fd) eD, rD⟩, ⟨m, oC, es', ep, k _ _ (fun z => by rw [z, eI] at eC; cases eC; rw [fd] at dC; cases dC) eC, dC, rC⟩, ?_⟩
  rcases c.tgt with a | ⟨a, cc, b, d, e, v, oc, ec, dc⟩
  · exact .inl a
  · exact .inr ⟨a, cc, b, d, e, v, oc, k _ _ (fun z => by rw [z, eI] at ec; cases ec; rw [fd] at dc; cases dc) ec, dc⟩
/-- the list grows -/
theorem CSt.grow (c : CSt w cenv B1 h1 I Dd C x T i outs B h) (I1 : Inv w h1) (IT : IterAt w A B1 I es T) {ys : Array Value} {n : Nat} {v : Value} {d : D} (eD : h.get? Dd = some (listO ys n)) (rD : Reps B ys.toList outs) (rv : Rep B v d)
    (sb : Heap.SameBut Dd h h') (pl : h'.PlainList Dd (ys.push v)) : CSt w cenv B1 h1 I Dd C x T i (outs ++ [d]) B h' := by
  have k : ∀ b o, b ≠ Dd → h.get? b = some o → h'.get? b = some o := fun b o n e => (sb.2 b n).trans e
  obtain ⟨oI, eI, ioI, soI⟩ := IT.obj _ _ c.it
  obtain ⟨⟨fs, fd, _⟩, _⟩ := ioI
  obtain ⟨m, oC, es', ep, eC, dC, rC⟩ := c.loc
  obtain ⟨st, Iv⟩ := stp_but I1 c.inv c.stp c.oD.1 c.oD.2 eD (safe_seq rfl) k
  obtain ⟨n', pl⟩ := pl
  refine ⟨st, Iv, c.oI, c.oD, c.oC, ?_, ⟨_, n', pl, ?_⟩, ⟨m, oC, es', ep, k _ _ (fun z => by rw [z, eD] at eC; cases eC; cases dC) eC, dC, rC⟩, ?_⟩
  · exact IT.frame i h h' c.it (fun a o q => (c.stp.inh a o (c.stp.le a o q)).1) (fun a o q => (st.inh a o (st.le a o q)).1) fun o q => k _ _ (fun z => by rw [z, eD] at eI; cases eI; cases fd) q
  · rw [Array.toList_push]; exact rD.append (.cons rv .nil)
  rcases c.tgt with a | ⟨a, cc, b, d, e, v, oc, ec, dc⟩
  · exact .inl a
  · exact .inr ⟨a, cc, b, d, e, v, oc, k _ _ (fun z => by rw [z, eD] at ec; cases ec; cases dc) ec, dc⟩
/-- the target takes an item -/
theorem CSt.store (c : CSt w cenv B1 h1 I Dd C x T i outs B h) (hC : cenv.locals = C) (hg : cenv.globals = mainGlobals) (hb : cenv.builtins = builtinsNs) (hk : cenv.scope.kind = .function) (I1 : Inv w h1) (IT : IterAt w A B1 I es T) (FR : Frees cenv B1 h1 x ρf) (hx : okName x) {v : Value} {d : D} (r : Rep B v d)
    (s : Shared) (Q : Unit → Shared → Prop) (E : Value → Shared → Prop) (at_ : At s h)
    (kk : ∀ h' tk, CSt w cenv B1 h1 I Dd C x T i outs B h' → Fm w cenv B h' ((x, d) :: ρf) → 1 ≤ tk → Q () { s with heap := h', toks := tk }) : wpAny (Md w) A (storeName cenv x v) Q E s := by
  obtain ⟨rfl, tp⟩ := at_
  obtain ⟨oI, eI, ioI, soI⟩ := IT.obj _ _ c.it
  obtain ⟨⟨fs, fd, _⟩, _⟩ := ioI
  obtain ⟨ys, n, eD, rD⟩ := c.acc
  obtain ⟨m, nC⟩ := c.loc
  obtain ⟨oC, es', ep, eC, dC, rC⟩ := id nC
  have frees : ∀ {h' : Heap}, Stp B1 h1 B h' → ∀ y dy, ρf.lookup y = some dy → y ≠ x → ∃ v, VarAt cenv h' y v ∧ Rep B v dy ∧ (y == ("__debug__" : Str)) = false := fun {h'} st y dy ey _ => by
    obtain ⟨u, cc, _, kd, lk, ic, ru, ok⟩ := FR y dy ey
    exact ⟨u, .inr ⟨kd, ok.1, cc, lk, cell_up I1 st.up ic⟩, ru.mono st.le, ok.2⟩
  rcases c.tgt with hl | ⟨kc, cc, lk, n1, n2, vc, ic⟩
  · refine wpAny_storeName_local hl (hC.symm ▸ nC) (fun h' n' sb => ?_) (by rw [hk]; rfl)
    rw [hC] at n' sb
    have k : ∀ b o, b ≠ C → s.heap.get? b = some o → h'.get? b = some o := fun b o n e => (sb.2 b n).trans e
    obtain ⟨st, Iv⟩ := stp_but I1 c.inv c.stp c.oC.1 c.oC.2 eC (safe_dict dC) k
    refine kk h' _ ⟨st, Iv, c.oI, c.oD, c.oC, ?_, ⟨ys, n, k _ _ (fun z => by rw [z, eC] at eD; cases eD; cases dC) eD, rD⟩, ⟨_, n'⟩, .inl hl⟩ ⟨Iv, st.inh, hk, hg, hb, fun y dy ey => ?_⟩ (Nat.le_succ_of_le tp)
    · exact IT.frame i _ h' c.it (fun a o q => (c.stp.inh a o (c.stp.le a o q)).1) (fun a o q => (st.inh a o (st.le a o q)).1) fun o q => k _ _ (fun z => by rw [z, eC] at eI; cases eI; rw [fd] at dC; cases dC) q
    · by_cases hyx : y = x
      · subst hyx
        have : dy = d := by simpa using ey.symm
        subst this
        exact ⟨v, .inl ⟨hl, _, hC.symm ▸ n', by simp⟩, r, hx.2⟩
      · rw [List.lookup_cons, show (y == x) = false by simpa using hyx] at ey
        exact frees st y dy ey hyx
  · obtain ⟨oc, ec, dc⟩ := id ic
    refine wpAny_storeName_cell hk kc lk ic fun h' n' sb => ?_
    have k : ∀ b o, b ≠ cc → s.heap.get? b = some o → h'.get? b = some o := fun b o n e => (sb.2 b n).trans e
    obtain ⟨st, Iv⟩ := stp_but I1 c.inv c.stp n1 n2 ec (safe_cell dc) k
    refine kk h' _ ⟨st, Iv, c.oI, c.oD, c.oC, ?_, ⟨ys, n, k _ _ (fun z => by rw [z, ec] at eD; cases eD; cases dc) eD, rD⟩, ⟨m, oC, es', ep, k _ _ (fun z => by rw [z, ec] at eC; cases eC; rw [dc] at dC; cases dC) eC, dC, rC⟩, .inr ⟨kc, cc, lk, n1, n2, _, n'⟩⟩ ⟨Iv, st.inh, hk, hg, hb, fun y dy ey => ?_⟩ tp
    · exact IT.frame i _ h' c.it (fun a o q => (c.stp.inh a o (c.stp.le a o q)).1) (fun a o q => (st.inh a o (st.le a o q)).1) fun o q => k _ _ (fun z => by rw [z, ec] at eI; cases eI; rw [dc] at fd; cases fd) q
    · by_cases hyx : y = x
      · subst hyx
        have : dy = d := by simpa using ey.symm
        subst this
        exact ⟨v, .inr ⟨.inl kc, hx.1, cc, lk, n'⟩, r, hx.2⟩
      · rw [List.lookup_cons, show (y == x) = false by simpa using hyx] at ey
        exact frees st y dy ey hyx
end

section
variable {w : World} {A : Around} {env : Env} {ρf : Rho}
theorem comp_core {elt iter : Expr} {x : Str} {px : Pos} {ifs : List Expr} {scope : Scope} {pos : Pos} {cl : List (Str × Addr)} {es : List D} {out : Nat → Option D} {B1 : Fz} {h1 h2 : Heap} {I : Addr} {T : Nat → Heap → Prop} {RR : Value → Addr → Result → Shared → Prop}
    (hA : A.handled = none) (I1 : Inv w h1) (i1 : InH B1 h1) (IT : IterAt w A B1 I es T) (s2 : Stp B1 h1 B1 h2) (I2 : Inv w h2) (hI : h1.get? I = none) (t2 : T 0 h2) (hg : env.globals = mainGlobals) (hb : env.builtins = builtinsNs)
    (hkind : scope.kind = .function) (hx : scope.names.lookup x = some .local ∨ scope.names.lookup x = some .cell) (hn : okName x) (hz : es.length ≤ 1000000)
    (hfr : ∀ y d, ρf.lookup y = some d → ∃ v c, y ≠ x ∧ scope.names.lookup y = some .free ∧ (y, NameKind.cell) ∉ scope.names ∧ cl.lookup y = some c ∧ h1.IsCell c (some v) ∧ Rep B1 v d ∧ okName y)
    (turn : ∀ cenv, CE scope cenv → ∀ i e, es[i]? = some e → match out i with
      | none => Tests w A cenv ((x, e) :: ρf) ifs false
      | some d => Tests w A cenv ((x, e) :: ρf) ifs true ∧ Ev w A cenv ((x, e) :: ρf) elt d)
    (s : Shared) (E : Value → Shared → Prop) (at_ : At s h2)
    (hRR : ∀ Dd C B' h' tk ys n m, Stp B1 h1 B' h' → Inv w h' → h1.get? Dd = none → B' Dd = none → h'.get? Dd = some (listO ys n) → Reps B' ys.toList ((List.range es.length).filterMap out) →
      h1.get? C = none → B' C = none → h'.Ns C m → 1 ≤ tk → RR (.ref Dd) C (.ok .next) { s with heap := h', toks := tk }) :
    wpAny (Md w) A (newList []) (fun acc s₃ => wpAny (Md w) A (newFunctionEnv scope env.globals cl [] env.qual none .none (some env)) (fun cenv s₄ =>
      codeAny (Md w) A (.compStart (.ListComp elt [⟨.Name x px, iter, ifs, 0⟩] scope pos) 0 (.ref I) acc { cenv with scope := relabel scope env }) (RR acc cenv.locals) s₄) E s₃) E s := by
  obtain ⟨rfl, tp⟩ := at_
  refine wpAny_newObj_type (wpAny_compEnv ?_)
  dsimp only
  generalize hH3 : s.heap.push { cls := .type "list", dict := none, data := .seq ([] : List Value).toArray } = H3
  have hC : H3.objs.size = s.heap.objs.size + 1 := by rw [← hH3, Heap.size_push]
  generalize hH4 : H3.push { cls := .type "dict", data := .dict #[] } = H4
  have hS : H4.objs.size = H3.objs.size + 1 := by rw [← hH4, Heap.size_push]
  have k34 : ∀ b o, s.heap.get? b = some o → H3.get? b = some o := fun b o e => by rw [← hH3]; exact Heap.get?_push_of_some _ e
  have k45 : ∀ b o, H3.get? b = some o → (pushCells H4 scope.names).get? b = some o := fun b o e => pushCells_keeps _ _ _ _ (by rw [← hH4]; exact Heap.get?_push_of_some _ e)
  have k : ∀ b o, s.heap.get? b = some o → (pushCells H4 scope.names).get? b = some o := fun b o e => k45 _ _ (k34 _ _ e)
  have h1n : ∀ a, s.heap.objs.size ≤ a → h1.get? a = none := fun a ha => s2.up.none a (get_ge ha)
  have st : Stp B1 h1 B1 (pushCells H4 scope.names) := s2.trans (Stp.keep (w := w) s2.inh (.of_keeps k))
  have eD : (pushCells H4 scope.names).get? s.heap.objs.size = some (listO #[] 0) := k45 _ _ (by rw [← hH3]; exact Heap.get?_push_size _ rfl)
  have eC : (pushCells H4 scope.names).Ns H3.objs.size (fun _ => none) := by
    have := (Heap.Ns.new H3 (.type "dict")).keeps (pushCells_keeps scope.names _)
    rw [hH4] at this; exact this
  have e0 : ∀ names : List (Str × NameKind), names.map (relab env) = names.map fun (n, k) => if (k == NameKind.free && env.scope.kind == .function && env.kindOf n == some .cell) then (n, NameKind.cell) else (n, k) := fun _ => rfl
  have ce : CE scope { newEnv scope H3.objs.size env.globals (cellsFrom (H3.objs.size + 1) scope.names cl) env.qual none .none (some env) builtinsNs with scope := relabel scope env } :=
    ⟨fun y k h hk => relabel_kept hk h, fun y h => relabel_free h, hkind⟩
  have FR : Frees { newEnv scope H3.objs.size env.globals (cellsFrom (H3.objs.size + 1) scope.names cl) env.qual none .none (some env) builtinsNs with scope := relabel scope env } B1 h1 x ρf := fun y d ey => by
    obtain ⟨v, c, a1, a2, a3, a4, a5, a6, a7⟩ := hfr y d ey
    exact ⟨v, c, a1, (ce.free y a2).symm, (cells_other _ _ _ a3).trans a4, a5, a6, a7⟩
  have tg : (Env.kindOf { newEnv scope H3.objs.size env.globals (cellsFrom (H3.objs.size + 1) scope.names cl) env.qual none .none (some env) builtinsNs with scope := relabel scope env } x = some .local) ∨
      (Env.kindOf { newEnv scope H3.objs.size env.globals (cellsFrom (H3.objs.size + 1) scope.names cl) env.qual none .none (some env) builtinsNs with scope := relabel scope env } x = some .cell ∧
        ∃ c, (cellsFrom (H3.objs.size + 1) scope.names cl).lookup x = some c ∧ h1.get? c = none ∧ B1 c = none ∧ ∃ v, (pushCells H4 scope.names).IsCell c v) := by
    rcases hx with hx | hx
    · exact .inl (ce.kind x _ hx nofun)
    · obtain ⟨c, c1, c2, c3⟩ := cells_own scope.names H4 cl (mem_of_lookup hx)
      rw [hS] at c1 c2
      have : h1.get? c = none := h1n c (by lia)
      exact .inr ⟨ce.kind x _ hx nofun, c, c1, this, inh_none i1 this, _, c3⟩
  generalize hce : ({ newEnv scope H3.objs.size env.globals (cellsFrom (H3.objs.size + 1) scope.names cl) env.qual none .none (some env) builtinsNs with scope := relabel scope env } : Env) = cenv at ce FR tg
  have hcl : cenv.locals = H3.objs.size := by rw [← hce]; rfl
  have hcg : cenv.globals = mainGlobals := by rw [← hce]; exact hg
  have hcb : cenv.builtins = builtinsNs := by rw [← hce]; exact hb
  have tg' : cenv.kindOf x = some .local ∨ (cenv.kindOf x = some .cell ∧ ∃ c, cenv.cells.lookup x = some c ∧ h1.get? c = none ∧ B1 c = none ∧ ∃ v, (pushCells H4 scope.names).IsCell c v) := by
    rw [← hce] at tg ⊢; exact tg
  have n3 := h1n H3.objs.size (by lia)
  have nD := h1n s.heap.objs.size (Nat.le_refl _)
  have c0 : CSt w cenv B1 h1 I s.heap.objs.size H3.objs.size x T 0 [] B1 (pushCells H4 scope.names) :=
    ⟨st, I2.of_keeps k, ⟨hI, inh_none i1 hI⟩, ⟨nD, inh_none i1 nD⟩, ⟨n3, inh_none i1 n3⟩, IT.frame 0 _ _ t2 (fun a o q => (s2.inh a o q).1) (fun a o q => (st.inh a o q).1) (fun o q => k _ _ q), ⟨#[], 0, eD, .nil⟩, ⟨_, eC⟩, tg'⟩
  have loop : codeAny (Md w) A (.compLoop (.ListComp elt [⟨.Name x px, iter, ifs, 0⟩] scope pos) 0 (.ref I) (.ref s.heap.objs.size) cenv) (RR (.ref s.heap.objs.size) H3.objs.size) { s with heap := pushCells H4 scope.names } := by
    refine codeAny_compLoop_tests (fun n s' => ∃ i B' h' tk, n = es.length - i ∧ i ≤ es.length ∧ s' = { s with heap := h', toks := tk } ∧ 1 ≤ tk ∧ CSt w cenv B1 h1 I s.heap.objs.size H3.objs.size x T i ((List.range i).filterMap out) B' h')
      ?_ (es.length - 0) ⟨0, B1, _, s.toks, rfl, Nat.zero_le _, rfl, tp, c0⟩
    rintro n _ ⟨i, B', h', tk, rfl, hi, rfl, tp', c⟩
    have inB : ∀ a o, B1 a = some o → h'.get? a = some o := fun a o q => (c.stp.inh a o (c.stp.le a o q)).1
    by_cases hlt : i < es.length
    · obtain ⟨e, he⟩ : ∃ d', es[i]? = some d' := ⟨es[i], List.getElem?_eq_getElem hlt⟩
      refine wpAny_mono (wpAny_toks_of (n := 1) tp' (IT.item i e _ (fun r s' => 1 ≤ s'.toks → _) _ he c.it inB fun v h₂ tk₂ rv t2' k2 tp₂ => ?_)) (fun a s' z => z.2 z.1) fun _ _ z => z.2
      dsimp only at tp₂ k2 ⊢
      have c2 := c.turn I1 IT k2 t2'
      refine wpAny_assign_Name (c2.store hcl hcg hcb ce.fn I1 IT FR hn (rv.mono c.stp.le) _ _ _ ⟨rfl, tp₂⟩ fun h₃ tk₃ c3 F3 tp₃ => ?_)
      have tn := turn cenv ce i e he
      have step := fm_succ out i
      cases ho : out i with
      | none =>
        rw [ho] at tn step
        refine tn.go B' h₃ F3 _ _ _ ⟨rfl, tp₃⟩ fun ok B₄ h₄ tk₄ st₄ I₄ q => ?_
        subst q
        simp only [Bool.false_eq_true, if_false]
        refine ⟨_, by lia, i + 1, B₄, h₄, tk₄, rfl, hlt, rfl, I₄.pos, ?_⟩
        rw [step, List.append_nil]
        exact c3.ev I1 IT st₄ I₄.inv
      | some d =>
        rw [ho] at tn step
        refine tn.1.go B' h₃ F3 _ _ _ ⟨rfl, tp₃⟩ fun ok B₄ h₄ tk₄ st₄ I₄ q => ?_
        subst q
        simp only [if_true]
        refine tn.2.go B₄ h₄ (F3.step st₄ I₄) _ _ _ I₄.at fun y B₅ h₅ tk₅ st₅ I₅ ry => ?_
        have c5 := (c3.ev I1 IT st₄ I₄.inv).ev I1 IT st₅ I₅.inv
        obtain ⟨ys, nn, eD5, rD5⟩ := c5.acc
        have hlen : ys.size ≤ i := by
          have := rD5.length
          rw [Array.length_toList] at this
          rw [this]
          exact Nat.le_trans (List.length_filterMap_le _ _) (by simp)
        refine wpAny_list_append_plain ⟨nn, eD5⟩ (fun h₆ pl sb => ?_) (by rw [sizeLine_eq]; lia)
        refine ⟨_, by lia, i + 1, B₅, h₆, tk₅, rfl, hlt, rfl, I₅.pos, ?_⟩
        rw [step]
        exact c5.grow I1 IT eD5 rD5 ry sb pl
    · have hie : i = es.length := by lia
      subst hie
      refine wpAny_mono (wpAny_toks_of (n := 1) tp' (IT.done _ (fun r s' => 1 ≤ s'.toks → _) _ c.it inB fun h₂ tk₂ k2 tp₂ => ?_)) (fun a s' z => z.2 z.1) fun _ _ z => z.2
      obtain ⟨oI, eI, ioI, soI⟩ := IT.obj _ _ c.it
      obtain ⟨⟨fs, fd, _⟩, _⟩ := ioI
      obtain ⟨ys, n, eD, rD⟩ := c.acc
      obtain ⟨m, oC, es', ep, eC, dC, rC⟩ := c.loc
      obtain ⟨st, Iv⟩ := stp_but I1 c.inv c.stp c.oI.1 c.oI.2 eI soI k2
      exact hRR _ _ B' h₂ tk₂ ys n m st Iv c.oD.1 c.oD.2 (k2 _ _ (fun z => by rw [z, eI] at eD; cases eD; cases fd) eD) rD c.oC.1 c.oC.2
        ⟨oC, es', ep, k2 _ _ (fun z => by rw [z, eI] at eC; cases eC; rw [fd] at dC; cases dC) eC, dC, rC⟩ tp₂
  refine codeAny_compStart_list ?_ (IT.self 0 _ _ _ ?_ ?_)
  · exact loop
  · exact c0.it
  · exact loop
end
end Tn
end
section
-- TnC3
open PySem PySem.W PySem.Calls PySem.Spec PyProof.Rows
set_option maxRecDepth 100000
set_option linter.unusedVariables false
namespace Tn
/-- an expression that makes a new list, not yet frozen -/
structure EvN (w : World) (A : Around) (env : Env) (ρ : Rho) (e : Expr) (ds : List D) : Prop where
  go : ∀ B h, Fm w env B h ρ →
  Does w A (eval e env) B h (fun v B' h' => ∃ r vs n, v = .ref r ∧ h.get? r = none ∧ B' r = none ∧ h'.get? r = some (listO vs n) ∧ Reps B' vs.toList ds)
section
variable {w : World} {A : Around} {env : Env} {ρ ρf : Rho}
theorem put_new {B B' : Fz} {h h' : Heap} {r : Addr} {o : Obj} (st : Stp B h B' h') (hr : r ∉ TB) (h1 : h.get? r = none) (h2 : B' r = none) (h3 : h'.get? r = some o) : Stp B h (B'.put r o) h' ∧ ∀ a o', B' a = some o' → (B'.put r o) a = some o' := by
  have le : ∀ a o', B' a = some o' → (B'.put r o) a = some o' := fun b o' q => (if_neg (fun z => by rw [z, h2] at q; cases q)).trans q
  refine ⟨⟨st.up, fun a o' q => le a o' (st.le a o' q), fun b o' q => ?_, fun b o' q => ?_⟩, le⟩
  · by_cases hb : b = r
    · subst hb; rw [Fz.put_self] at q; cases q; exact ⟨h3, hr⟩
    · rw [show (B'.put r o) b = B' b from if_neg hb] at q; exact st.inh b o' q
  · by_cases hb : b = r
    · exact .inr (.inl (hb ▸ h1))
    · rw [show (B'.put r o) b = B' b from if_neg hb] at q; exact st.fresh b o' q
theorem EvN.ev {e : Expr} {ds : List D} (x : EvN w A env ρ e ds) : Ev w A env ρ e (.list ds) := .mk fun B h F s Q E a k =>
  x.go B h F s Q E a fun v B' h' tk st I ⟨r, vs, n, hv, h1, h2, h3, h4⟩ => by
    subst hv
    obtain ⟨st', le⟩ := put_new st (F.inv.fresh h1) h1 h2 h3
    exact k _ _ h' tk st' I (.list (Fz.put_self _ _ _) (h4.mono le))
/-- the free variables of a block, as data -/
inductive Fre (env : Env) (ρ : Rho) : Rho → Prop
  | nil : Fre env ρ []
  | cons {y : Str} {d : D} {fs : Rho} : ρ.lookup y = some d → (env.kindOf y = some .cell ∨ env.kindOf y = some .free) → Fre env ρ fs → Fre env ρ ((y, d) :: fs)
theorem Fre.get {fs : Rho} (f : Fre env ρ fs) : ∀ {y d}, fs.lookup y = some d → ρ.lookup y = some d ∧ (env.kindOf y = some .cell ∨ env.kindOf y = some .free) ∧ y ∈ fs.map (·.1) := by
  induction f with
  | nil => intro y d e; cases e
  | cons a b c ih =>
    intro y d e
    rw [List.lookup_cons] at e
    split at e
    · rename_i hb
      cases e; rw [beq_iff_eq.mp hb]; exact ⟨a, b, by simp⟩
    · obtain ⟨p, q, r⟩ := ih e
      exact ⟨p, q, by simp at r ⊢; exact .inr r⟩
theorem Fre.has {fs : Rho} (f : Fre env ρ fs) : ∀ {y}, y ∈ fs.map (·.1) → (∃ d, ρ.lookup y = some d) ∧ (env.kindOf y = some .cell ∨ env.kindOf y = some .free) := by
  induction f with
  | nil => intro y e; cases e
  | cons a b c ih =>
    intro y e
    rcases List.mem_cons.mp e with e | e
    · rw [e]; exact ⟨⟨_, a⟩, b⟩
    · exact ih e
theorem Fm.cellOf {B : Fz} {h : Heap} {y : Str} {d : D} (F : Fm w env B h ρ) (e : ρ.lookup y = some d) (k : env.kindOf y = some .cell ∨ env.kindOf y = some .free) :
    ∃ v c, env.cells.lookup y = some c ∧ h.IsCell c (some v) ∧ Rep B v d := by
  obtain ⟨v, y', r, _⟩ := F.vars y d e
  rcases y' with ⟨a, _⟩ | ⟨_, _, c, lk, ic⟩
  · rcases k with k | k <;> rw [k] at a <;> cases a
  · exact ⟨v, c, lk, ic, r⟩
noncomputable def frOk (scope : Scope) (ys : List Str) : Bool := scope.names.all (fun p => (p.2 != .free || ys.contains p.1)) && ys.all (fun y => scope.names.lookup y == some .free && !(scope.names.contains (y, .cell)) && !(y == ("__classdict__" : Str)) && !(y == ("__debug__" : Str)))
noncomputable def compOk (scope : Scope) (x : Str) (ys : List Str) : Bool := scope.kind == .function && (scope.names.lookup x == some .local || scope.names.lookup x == some .cell) && scope.names.all (fun p => p.2 != .local || scope.names.lookup p.1 == some .local) &&
  frOk scope ys && ys.all (fun y => y != x) && !(x == ("__classdict__" : Str)) && !(x == ("__debug__" : Str))
theorem frOk.get {scope : Scope} {ys : List Str} (h : frOk scope ys = true) : (∀ y, (y, NameKind.free) ∈ scope.names → y ∈ ys) ∧ ∀ y ∈ ys, scope.names.lookup y = some .free ∧ (y, NameKind.cell) ∉ scope.names ∧ okName y := by
  unfold frOk at h
  obtain ⟨h1, h2⟩ := Bool.and_eq_true_iff.mp h
  refine ⟨fun y m => ?_, fun y m => ?_⟩
  · have := List.all_eq_true.mp h1 _ m
    simpa using this
  · have := List.all_eq_true.mp h2 _ m
    simp only [Bool.and_eq_true, Bool.not_eq_true', beq_iff_eq] at this
    obtain ⟨⟨⟨a, b⟩, c⟩, d⟩ := this
    refine ⟨a, fun q => ?_, c, d⟩
    rw [List.contains_iff_mem.mpr q] at b; cases b
/-- the closure of a block -/
theorem fre_closure {B : Fz} {h : Heap} {scope : Scope} (F : Fm w env B h ρ) (f : Fre env ρ ρf) (ok : frOk scope (ρf.map (·.1)) = true) :
    ∃ cl, closureFor scope env = pure cl ∧ ∀ y d, ρf.lookup y = some d → ∃ v c, scope.names.lookup y = some .free ∧ (y, NameKind.cell) ∉ scope.names ∧ cl.lookup y = some c ∧ h.IsCell c (some v) ∧ Rep B v d ∧ okName y := by
  obtain ⟨o1, o2⟩ := frOk.get ok
  obtain ⟨cl, hcl, hl⟩ := closure_ok (scope := scope) (env := env) fun y m => by
    obtain ⟨⟨d, e⟩, k⟩ := f.has (o1 y m)
    obtain ⟨v, c, lk, _⟩ := F.cellOf e k
    exact ⟨c, lk⟩
  refine ⟨cl, hcl, fun y d e => ?_⟩
  obtain ⟨a, b, m⟩ := f.get e
  obtain ⟨v, c, lk, ic, r⟩ := F.cellOf a b
  obtain ⟨p1, p2, p3⟩ := o2 y m
  exact ⟨v, c, p1, p2, (hl y (mem_of_lookup p1)).trans lk, ic, r, p3⟩
theorem ev_comp {elt iter : Expr} {x : Str} {px : Pos} {ifs : List Expr} {scope : Scope} {pos : Pos} {d : D} {es : List D} (out : Nat → Option D) (ρf : Rho)
    (hA : A.handled = none) (ei : Ev w A env ρ iter d) (it : Itb w A d es) (hz : es.length ≤ 1000000) (fr : Fre env ρ ρf) (ok : compOk scope x (ρf.map (·.1)) = true)
    (turn : ∀ cenv, CE scope cenv → ∀ i e, es[i]? = some e → match out i with
      | none => Tests w A cenv ((x, e) :: ρf) ifs false
      | some d => Tests w A cenv ((x, e) :: ρf) ifs true ∧ Ev w A cenv ((x, e) :: ρf) elt d)
    (hs : ∀ x, foldedSetIterable iter env x = pure x := by intro _; rfl) :
    EvN w A env ρ (.ListComp elt [⟨.Name x px, iter, ifs, 0⟩] scope pos) ((List.range es.length).filterMap out) := .mk fun B h F s Q E a k => by
  unfold compOk at ok
  simp only [Bool.and_eq_true, Bool.not_eq_true', Bool.or_eq_true, beq_iff_eq] at ok
  obtain ⟨⟨⟨⟨⟨⟨o1, o2⟩, o3⟩, o4⟩, o5⟩, o6⟩, o7⟩ := ok
  obtain ⟨cl, hcl, hfr⟩ := fre_closure F fr o4
  rw [eval_ListComp]
  refine wpAny_comprehension_free (use := none) rfl hs hcl o1 (fun y m hl => ?_) (ei.go B h F s _ E a fun xv B₁ h₁ tk₁ st₁ I₁ r₁ => it.go B₁ h₁ xv I₁.inv st₁.inh r₁ _ _ E I₁.at fun o T IT t0 hf => ?_)
  · have := List.all_eq_true.mp o3 _ m
    rw [hl] at this
    simpa using this
  refine comp_core hA I₁.inv st₁.inh (IT A hA) (Stp.keep (w := w) st₁.inh (Up.push h₁ o)) (I₁.inv.push o) (get_size h₁) t0 F.glob F.blt o1 o2 ⟨o6, o7⟩ hz (fun y d e => ?_) turn _ E ⟨rfl, I₁.pos⟩ ?_
  · obtain ⟨v, c, p1, p2, p3, p4, p5, p6⟩ := hfr y d e
    obtain ⟨_, _, m⟩ := fr.get e
    have := List.all_eq_true.mp o5 _ m
    exact ⟨v, c, by simpa using this, p1, p2, p3, cell_up F.inv st₁.up p4, p5.mono st₁.le, p6⟩
  · intro Dd C B' h' tk ys n m st I nD bD eD rD nC bC hC tp
    refine ⟨m, hC, fun h'' sb => ?_⟩
    obtain ⟨oC, es', ep, eC, dC, rC⟩ := id hC
    obtain ⟨st'', I''⟩ := stp_but I₁.inv I st nC bC eC (safe_dict dC) fun b o n e => (sb.2 b n).trans e
    exact k _ B' h'' tk (st₁.trans st'') ⟨I'', tp⟩ ⟨Dd, ys, n, rfl, st₁.up.none _ nD, bD, (sb.2 _ (fun z => by rw [z, eC] at eD; cases eD; cases dC)).trans eD, rD⟩
end
end Tn
end
section
-- TnFn
open PySem PySem.W PySem.Calls PySem.Spec PyProof.Rows
set_option maxRecDepth 100000
set_option linter.unusedVariables false
namespace Tn
theorem lookup_zip {x : Str} : ∀ {ps : List Str} {vs : List Value}, ps.Nodup → ∀ {i : Nat} {v : Value}, ps[i]? = some x → vs[i]? = some v → (ps.zip vs).reverse.lookup x = some v
  | [], _, _, i, v, h, _ => by simp at h
  | p :: ps, [], _, i, v, _, h => by simp at h
  | p :: ps, u :: vs, nd, i, v, h1, h2 => by
    obtain ⟨n1, n2⟩ := List.nodup_cons.mp nd
    rw [List.zip_cons_cons, List.reverse_cons, List.lookup_append]
    cases i with
    | zero =>
      simp at h1 h2
      subst h1; subst h2
      have : ((ps.zip vs).reverse.lookup p) = none := by
        cases q : (ps.zip vs).reverse.lookup p with
        | none => rfl
        | some w =>
          have m := PySem.mem_of_lookup q
          rw [List.mem_reverse] at m
          exact absurd (List.of_mem_zip m).1 n1
      rw [this]
      simp
    | succ j =>
      have := lookup_zip n2 (i := j) (v := v) (by simpa using h1) (by simpa using h2)
      rw [this]; rfl
theorem zip_get {x : Str} {d : D} : ∀ {ps : List Str} {ds : List D}, (ps.zip ds).lookup x = some d → ∃ i : Nat, ps[i]? = some x ∧ ds[i]? = some d
  | [], _, h => by simp at h
  | p :: ps, [], h => by simp at h
  | p :: ps, e :: ds, h => by
    rw [List.zip_cons_cons, List.lookup_cons] at h
    split at h
    · rename_i hb
      cases h
      exact ⟨0, by simp [beq_iff_eq.mp hb], rfl⟩
    · obtain ⟨i, a, b⟩ := zip_get h
      exact ⟨i + 1, by simpa using a, by simpa using b⟩
noncomputable def endsIn (d : D) : Post := fun f X ρ => match f with
  | .ret d' => d' = d
  | .next => d = .none
  | _ => False
noncomputable def parOk (sc : Scope) (ps : List Str) : Bool := sc.kind == .function && !sc.isCoroutine && !sc.isGenerator && ps.all (fun x => !(x == ("__classdict__" : Str)) && !(x == ("__debug__" : Str))) && decide ps.Nodup
section
variable {w : World} {A : Around} {n : Nat} {B : Fz} {h : Heap} {a : Addr} {o : Obj} {fd : FuncData} {body : List Stmt} {ps : List Str} {ds : List D} {vs : List Value} {d : D}
/-- the end of a call's body -/
theorem ends_ok {env : Env} {s s₁ : Shared} {A : Around} {t : Sem Flow} {ρ : Rho} {Q : Value → Shared → Prop} {E : Value → Shared → Prop} {h₁ : Heap} {tk : Nat} (hs : s₁ = { s with heap := h₁, toks := tk }) (tp : 1 ≤ tk) (S : St w env B h [] B h₁ ρ)
    (r : RunT w A env t [] ρ (endsIn d)) (k : ∀ v B' h' tk, Stp B h B' h' → InvT w h' tk → Rep B' v d → Q v { s with heap := h', toks := tk }) :
    wpAny (Md w) A t (fun f s' => (match (Except.ok (Flow.ret (match f with | .ret v => v | _ => .none)) : Result) with | .ok (.ret v) => Q v s' | .ok _ => False | .error e => E e s')) E s₁ := by
  subst hs
  refine wpAny_mono (r.go B h B h₁ S _ E ⟨rfl, tp⟩) (fun f s' ⟨B', h', tk', X', ρ', fd, e1, e2, e3, e4, e5, e6⟩ => ?_) fun _ _ e => e
  subst e1
  cases f with
  | ret v => cases fd with
    | ret d' => have : d' = d := e6; subst this; exact k v B' h' tk' e4.stp ⟨e4.fm.inv, e2⟩ e5
    | next => exact e5.elim
    | brk => exact e5.elim
    | cont => exact e5.elim
  | next => cases fd with
    | next => have : d = .none := e6; subst this; exact k .none B' h' tk' e4.stp ⟨e4.fm.inv, e2⟩ .none
    | ret _ => exact e5.elim
    | brk => exact e5.elim
    | cont => exact e5.elim
  | brk => cases fd with
    | brk => exact (e6 : False).elim
    | next => exact e5.elim
    | ret _ => exact e5.elim
    | cont => exact e5.elim
  | cont => cases fd with
    | cont => exact (e6 : False).elim
    | next => exact e5.elim
    | ret _ => exact e5.elim
    | brk => exact e5.elim
theorem parOk.get {sc : Scope} (h : parOk sc ps = true) : sc.kind = .function ∧ sc.isCoroutine = false ∧ sc.isGenerator = false ∧ (∀ x ∈ ps, okName x) ∧ ps.Nodup := by
  unfold parOk at h
  simp only [Bool.and_eq_true, Bool.not_eq_true', beq_iff_eq, decide_eq_true_eq] at h
  obtain ⟨⟨⟨⟨a, b⟩, c⟩, d⟩, e⟩ := h
  refine ⟨a, b, c, fun x m => ?_, e⟩
  have := List.all_eq_true.mp d x m
  simpa [okName] using this
/-- a call of a def without cells of its own -/
theorem does_def {ρc : Rho} (hA : AOk A (n + 1)) (I : Inv w h) (i : InH B h) (ho : h.get? a = some o) (hd : o.data = .func fd) (hcd : h.CodeRec fd.code fd.qualname) (hb : fd.body = .stmts body) (hg : fd.globals = mainGlobals) (hbl : fd.builtins = builtinsNs)
    (hp : parOk fd.scope ps = true) (hcell : ∀ x ∈ fd.scope.names, x.2 ≠ .cell) (hloc : ∀ x ∈ ps, fd.scope.names.lookup x = some .local) (rv : Reps B vs ds) (hl : ps.length = ds.length) (bind : bindArgs fd ⟨vs, []⟩ = pure (ps.zip vs))
    (hc : ∀ y dy, ρc.lookup y = some dy → ∃ v c, fd.scope.names.lookup y = some .free ∧ fd.closure.lookup y = some c ∧ h.IsCell c (some v) ∧ Rep B v dy ∧ okName y)
    (ap : ∀ x y c, fd.closure.lookup x = some c → fd.closure.lookup y = some c → x = y)
    (run : ∀ A env, AOk A n → env = callEnv fd h.objs.size a → Run w A env body [] (ps.zip ds ++ ρc) (endsIn d)) : Does w A (call (.ref a) vs) B h (fun v B' _ => Rep B' v d) := fun s Q E at_ k => by
  obtain ⟨rfl, tp⟩ := at_
  obtain ⟨p1, p2, p3, p4, p5⟩ := parOk.get hp
  have lv : vs.length = ds.length := rv.length
  refine wpAny_call (codeAny_call_def hA.room ho hd I.lim hcd hb (.of_eq bind) hcell (fun x m => hloc x.1 (List.of_mem_zip m).1) (fun h₀ ns kp => ?_) p2 p3 p1)
  have nL : s.heap.get? s.heap.objs.size = none := get_size _
  have st := Stp.keep (w := w) i (.of_keeps kp)
  have S : St w (callEnv fd s.heap.objs.size a) B s.heap [] B h₀ (ps.zip ds ++ ρc) := by
    refine ⟨⟨I, i⟩, st, ⟨I.of_keeps kp, st.inh, p1, hg, hbl, fun x dx e => ?_⟩, ⟨nL, inh_none i nL, _, ns⟩, fun x c kc _ => ?_, ap, fun _ _ m => (by cases m), .nil⟩
    · rw [List.lookup_append] at e
      cases q : (ps.zip ds).lookup x with
      | some dx' =>
        rw [q] at e; cases e
        obtain ⟨j, j1, j2⟩ := zip_get q
        obtain ⟨v, v1, v2⟩ := rv.get j2
        have mx := List.mem_of_getElem? j1
        exact ⟨v, .inl ⟨hloc x mx, _, ns, lookup_zip p5 j1 v1⟩, v2, (p4 x mx).2⟩
      | none =>
        rw [q] at e
        obtain ⟨v, c, c1, c2, c3, c4, c5⟩ := hc x dx e
        exact ⟨v, .inr ⟨.inr c1, c5.1, c, c2, c3.keeps kp⟩, c4, c5.2⟩
    · exact absurd rfl (hcell _ (mem_of_lookup kc))
  exact wpAny_mono (ends_ok (E := fun _ _ => False) (Q := Q) rfl (Nat.le_trans tp (Nat.le_add_right _ _)) S (run _ _ (hA.deeper _) rfl) k) (fun f s' z => by
    cases f <;> exact z) fun _ _ z => z.elim
theorem bindL_get {kindOf : Str → Option NameKind} {x : Str} : ∀ {ps : List Str} {vs : List Value} {m : Str → Option Value}, x ∉ ps → bindL kindOf (ps.zip vs) m x = m x
  | [], _, _, _ => rfl
  | p :: ps, [], _, _ => rfl
  | p :: ps, u :: vs, m, h => by
    rw [List.zip_cons_cons]
    unfold bindL
    rw [bindL_get (fun q => h (List.mem_cons_of_mem _ q))]
    have : x ≠ p := fun q => h (q ▸ List.mem_cons_self)
    split <;> simp [this]
theorem bindC_get {kindOf : Str → Option NameKind} {x : Str} : ∀ {ps : List Str} {vs : List Value} {m : Str → Option Value}, x ∉ ps → bindC kindOf (ps.zip vs) m x = m x
  | [], _, _, _ => rfl
  | p :: ps, [], _, _ => rfl
  | p :: ps, u :: vs, m, h => by
    rw [List.zip_cons_cons]
    unfold bindC
    rw [bindC_get (fun q => h (List.mem_cons_of_mem _ q))]
    have : x ≠ p := fun q => h (q ▸ List.mem_cons_self)
    split <;> simp [this]
theorem bindL_at {kindOf : Str → Option NameKind} {x : Str} (hk : kindOf x = some .local) : ∀ {ps : List Str} {vs : List Value} {m : Str → Option Value}, ps.Nodup → ∀ {i : Nat} {v : Value}, ps[i]? = some x → vs[i]? = some v → bindL kindOf (ps.zip vs) m x = some v
  | [], _, _, _, i, v, h, _ => by simp at h
  | p :: ps, [], _, _, i, v, _, h => by simp at h
  | p :: ps, u :: vs, m, nd, i, v, h1, h2 => by
    obtain ⟨n1, n2⟩ := List.nodup_cons.mp nd
    rw [List.zip_cons_cons]
    unfold bindL
    cases i with
    | zero =>
      simp at h1 h2
      subst h1; subst h2
      rw [bindL_get n1, if_pos hk]
      simp
    | succ j => exact bindL_at hk n2 (i := j) (by simpa using h1) (by simpa using h2)
theorem bindC_at {kindOf : Str → Option NameKind} {x : Str} (hk : kindOf x ≠ some .local) : ∀ {ps : List Str} {vs : List Value} {m : Str → Option Value}, ps.Nodup → ∀ {i : Nat} {v : Value}, ps[i]? = some x → vs[i]? = some v → bindC kindOf (ps.zip vs) m x = some v
  | [], _, _, _, i, v, h, _ => by simp at h
  | p :: ps, [], _, _, i, v, _, h => by simp at h
  | p :: ps, u :: vs, m, nd, i, v, h1, h2 => by
    obtain ⟨n1, n2⟩ := List.nodup_cons.mp nd
    rw [List.zip_cons_cons]
    unfold bindC
    cases i with
    | zero =>
      simp at h1 h2
      subst h1; subst h2
      rw [bindC_get n1, if_neg hk]
      simp
    | succ j => exact bindC_at hk n2 (i := j) (by simpa using h1) (by simpa using h2)
theorem cells_has {x : Str} : ∀ (names : List (Str × NameKind)) (n : Nat) (acc : List (Str × Addr)), (x, .cell) ∈ names → ∃ c, (cellsFrom n names acc).lookup x = some c
  | [], _, _, m => by cases m
  | (y, k) :: r, n, acc, m => by
    unfold cellsFrom
    split
    · by_cases hr : (x, NameKind.cell) ∈ r
      · exact cells_has r _ _ hr
      · rcases List.mem_cons.mp m with e | e
        · cases e
          exact ⟨n, by rw [cells_other r _ _ hr]; simp⟩
        · exact absurd e hr
    · rename_i hk
      rcases List.mem_cons.mp m with e | e
      · cases e; exact absurd rfl hk
      · exact cells_has r n acc e
/-- the facts of a frame with cells of its own -/
structure FC (fd : FuncData) (env : Env) : Prop where
  scope : env.scope = fd.scope
  cell : ∀ x, fd.scope.names.lookup x = some .cell → ∃ c, env.cells.lookup x = some c
  code : env.code = fd.code
  qual : env.qual = fd.qualname ++ ".<locals>."
/-- a call of a def with cells of its own -/
theorem does_defC (hA : AOk A (n + 1)) (I : Inv w h) (i : InH B h) (ho : h.get? a = some o) (hd : o.data = .func fd) (hcd : h.CodeRec fd.code fd.qualname) (hb : fd.body = .stmts body) (hg : fd.globals = mainGlobals) (hbl : fd.builtins = builtinsNs) (hclo : fd.closure = [])
    (hp : parOk fd.scope ps = true) (hloc : ∀ x ∈ ps, fd.scope.names.lookup x = some .local ∨ fd.scope.names.lookup x = some .cell) (rv : Reps B vs ds) (hl : ps.length = ds.length) (bind : bindArgs fd ⟨vs, []⟩ = pure (ps.zip vs))
    (run : ∀ A env, AOk A n → FC fd env → Run w A env body [] (ps.zip ds) (endsIn d)) : Does w A (call (.ref a) vs) B h (fun v B' _ => Rep B' v d) := fun s Q E at_ k => by
  obtain ⟨rfl, tp⟩ := at_
  obtain ⟨p1, p2, p3, p4, p5⟩ := parOk.get hp
  have lv : vs.length = ds.length := rv.length
  refine wpAny_call (codeAny_call_function hA.room ho hd p2 p3 hb hcd ?_)
  rw [bind, hclo]
  refine wpAny_pure (wpAny_mono (wpAny_toks_of (n := 1) tp (wpAny_newFunctionEnv_cells (Q := fun env s' => 1 ≤ s'.toks → s'.heap.NoLimit ∧ codeAny (Md w) A (.func body env) _ s') p1 (fun x m => ?_) fun env he s₁ X tk1 => ?_)) (fun a s' z => z.2 z.1) fun _ _ z => z.2)
  · rcases hloc x.1 (List.of_mem_zip m).1 with q | q
    · exact .inl q
    · obtain ⟨c, hc⟩ := cells_has fd.scope.names (s.heap.objs.size + 1) [] (mem_of_lookup q)
      exact .inr ⟨q, by rw [hc]; rfl⟩
  have nL : s.heap.get? s.heap.objs.size = none := get_size _
  have hce : callEnvC fd s.heap.objs.size a = env := he.symm
  refine ⟨I.lim.keeps X.toInCall.keep, codeAny_func ?_⟩
  have hsc : env.scope = fd.scope := by rw [← hce]; rfl
  have hko : ∀ x, env.kindOf x = fd.scope.names.lookup x := fun x => by rw [← hce]; rfl
  have hL : env.locals = s.heap.objs.size := by rw [← hce]; rfl
  obtain ⟨h₁, tk, rfl⟩ := X.toInCall.same
  have kp := X.toInCall.keep
  dsimp only at kp
  have st := Stp.keep (w := w) i (.of_keeps kp)
  have cfr : ∀ x c, env.cells.lookup x = some c → s.heap.get? c = none := fun x c e => get_ge (Nat.le_of_lt (Nat.lt_of_le_of_lt (hL ▸ Nat.le_refl _) (X.above x c (mem_of_lookup e))))
  have S : St w env B s.heap [] B h₁ (ps.zip ds) := by
    refine ⟨⟨I, i⟩, st, ⟨I.of_keeps kp, st.inh, hsc ▸ p1, by rw [← hce]; exact hg, by rw [← hce]; exact hbl, fun x dx e => ?_⟩, ⟨hL.symm ▸ nL, hL.symm ▸ inh_none i nL, _, X.toInCall.ns⟩, fun x c kc lk => ?_, fun x y c l1 l2 => name_of_addr X.apart (mem_of_lookup l1) (mem_of_lookup l2), fun _ _ m => (by cases m), .nil⟩
    · obtain ⟨j, j1, j2⟩ := zip_get e
      obtain ⟨v, v1, v2⟩ := rv.get j2
      have mx := List.mem_of_getElem? j1
      refine ⟨v, ?_, v2, (p4 x mx).2⟩
      rcases hloc x mx with q | q
      · exact .inl ⟨(hko x).trans q, _, X.toInCall.ns, bindL_at ((hko x).trans q) p5 j1 v1⟩
      · obtain ⟨c, hc⟩ := cells_has fd.scope.names (s.heap.objs.size + 1) [] (mem_of_lookup q)
        have hc' : env.cells.lookup x = some c := by rw [← hce]; exact hc
        refine .inr ⟨.inl ((hko x).trans q), (p4 x mx).1, c, hc', ?_⟩
        have := X.cell x c hc'
        rw [bindC_at (by rw [hko x, q]; decide) p5 j1 v1] at this
        exact this
    · exact ⟨cfr x c lk, inh_none i (cfr x c lk), _, X.cell x c lk⟩
  have fc : FC fd env := ⟨hsc, fun x e => by
    obtain ⟨c, hc⟩ := cells_has fd.scope.names (s.heap.objs.size + 1) [] (mem_of_lookup e)
    exact ⟨c, by rw [← hce]; exact hc⟩, by rw [← hce]; rfl, by rw [← hce]; rfl⟩
  exact wpAny_mono (ends_ok (E := fun _ _ => False) (Q := Q) rfl tk1 S (run _ _ (hA.deeper _) fc) k) (fun f s' z => by
    cases f <;> exact z) fun _ _ z => z.elim
end
end Tn
end
section
-- TnB1
open PySem PySem.W PySem.Calls PySem.Spec PyProof.Rows
set_option maxRecDepth 100000
set_option linter.unusedVariables false
namespace Tn
section
variable {w : World} {n : Nat}
theorem Reps.one {B : Fz} {vs : List Value} {d : D} (r : Reps B vs [d]) : ∃ v, vs = [v] ∧ Rep B v d := by
  cases r with | cons a b => cases b; exact ⟨_, rfl, a⟩
theorem Reps.two {B : Fz} {vs : List Value} {d e : D} (r : Reps B vs [d, e]) : ∃ v u, vs = [v, u] ∧ Rep B v d ∧ Rep B u e := by
  cases r with | cons a b => obtain ⟨u, rfl, z⟩ := b.one; exact ⟨_, _, rfl, a, z⟩
theorem Reps.three {B : Fz} {vs : List Value} {d e f : D} (r : Reps B vs [d, e, f]) : ∃ v u t, vs = [v, u, t] ∧ Rep B v d ∧ Rep B u e ∧ Rep B t f := by
  cases r with | cons a b => obtain ⟨u, t, rfl, z⟩ := b.two; exact ⟨_, _, _, rfl, a, z⟩
theorem c_len_list {ds : List D} (h : ds.length ≤ 1000000) : Calls w (.builtin "len") n [.list ds] (.int ds.length) := .mk fun A B hp vs hA I i r0 => by
  obtain ⟨v, rfl, r⟩ := r0.one
  obtain ⟨a, ws, k, rfl, _, _, l, z, _⟩ := r.isL i
  refine .same I i fun s Q E hs _ k => ?_
  subst hs
  refine PyProof.Rows.len_list l (by rw [z]; lia) ?_
  rw [z]
  exact k _ _ (.int _ _)
theorem c_len_tup {ds : List D} (h : ds.length ≤ 1000000) : Calls w (.builtin "len") n [.tup ds] (.int ds.length) := .mk fun A B hp vs hA I i r0 => by
  obtain ⟨v, rfl, r⟩ := r0.one
  obtain ⟨a, ws, k, rfl, _, _, l, z, _⟩ := r.isT i
  refine .same I i fun s Q E hs _ k => ?_
  subst hs
  refine PyProof.Rows.len_tuple l (by rw [z]; lia) ?_
  rw [z]
  exact k _ _ (.int _ _)
theorem c_len_str {l : List Nat} (h : l.length ≤ 1000000) : Calls w (.builtin "len") n [.str (S l)] (.int l.length) := .mk fun A B hp vs hA I i r0 => by
  obtain ⟨v, rfl, r⟩ := r0.one
  obtain ⟨t, rfl⟩ := r.str_inv
  exact .same I i fun s Q E hs _ k => PyProof.Rows.len_str (by rw [S_len]; lia) (by rw [S_len]; exact k _ _ (.int _ _))
theorem c_ord {c : Nat} : Calls w (.builtin "ord") n [.str (S [c])] (.int c) := .mk fun A B hp vs hA I i r0 => by
  obtain ⟨v, rfl, r⟩ := r0.one
  obtain ⟨t, rfl⟩ := r.str_inv
  exact .same I i fun s Q E hs _ k => PyProof.Rows.ord_of_one (by rw [S_len]; rfl) (k _ _ (.int _ _))
theorem c_chr {i : Int} (h0 : 0 ≤ i) (h1 : i ≤ 1114111) : Calls w (.builtin "chr") n [.int i] (.str (S [i.toNat])) := .mk fun A B hp vs hA I j r0 => by
  obtain ⟨v, rfl, r⟩ := r0.one
  obtain ⟨t, rfl⟩ := r.int_inv
  exact .same I j fun s Q E hs _ k => PyProof.Rows.chr_of_range h0 h1 (k _ _ (.str (S [i.toNat]) _))
theorem c_rng1 {b : Int} : Calls w (.type "range") n [.int b] (.rng 0 b 1) := .mk fun A B hp vs hA I i r0 => by
  obtain ⟨v, rfl, r⟩ := r0.one
  obtain ⟨t, rfl⟩ := r.int_inv
  refine .of fun s Q E e k => call_range_1 ?_
  obtain ⟨rfl, tp⟩ := e
  exact k _ _ _ _ (Stp.put I i (Up.push _ _) (get_size _) (Heap.get?_push_size _ rfl)) (I.push _) (.rng (Fz.put_self _ _ _))
theorem c_rng2 {a b : Int} : Calls w (.type "range") n [.int a, .int b] (.rng a b 1) := .mk fun A B hp vs hA I i r0 => by
  obtain ⟨v, u, rfl, r, r'⟩ := r0.two
  obtain ⟨t, rfl⟩ := r.int_inv
  obtain ⟨t', rfl⟩ := r'.int_inv
  refine .of fun s Q E e k => call_range_2 ?_
  obtain ⟨rfl, tp⟩ := e
  exact k _ _ _ _ (Stp.put I i (Up.push _ _) (get_size _) (Heap.get?_push_size _ rfl)) (I.push _) (.rng (Fz.put_self _ _ _))
theorem c_rng3 {a b c : Int} (hc : c ≠ 0) (hs : c.natAbs < 2 ^ 64) : Calls w (.type "range") n [.int a, .int b, .int c] (.rng a b c) := .mk fun A B hp vs hA I i r0 => by
  obtain ⟨v, u, x, rfl, r, r', r''⟩ := r0.three
  obtain ⟨t, rfl⟩ := r.int_inv
  obtain ⟨t', rfl⟩ := r'.int_inv
  obtain ⟨t'', rfl⟩ := r''.int_inv
  refine .of fun s Q E e k => call_range_3 hc ?_ (.inl (pylong_small hs))
  obtain ⟨rfl, tp⟩ := e
  exact k _ _ _ _ (Stp.put I i (Up.push _ _) (get_size _) (Heap.get?_push_size _ rfl)) (I.push _) (.rng (Fz.put_self _ _ _))
theorem reps_of {B : Fz} : ∀ {vs : List Value} {ds : List D}, vs.length = ds.length → (∀ (i : Nat) v d, vs[i]? = some v → ds[i]? = some d → Rep B v d) → Reps B vs ds
  | [], [], _, _ => .nil
  | v :: vs, d :: ds, h, k => .cons (k 0 v d rfl rfl) (reps_of (by simpa using h) fun i v d a b => k (i + 1) v d (by simpa using a) (by simpa using b))
theorem c_list_rng {a b c : Int} {m : Nat} (hs : Builtin.Range.small a b c = true) (hn : Builtin.Range.rangeSize a b c = m) (hm : m ≤ 1000000) : Calls w (.type "list") n [.rng a b c] (.list (rngD a c m)) := .mk fun A B hp vs hA I i r0 => by
  obtain ⟨v, rfl, r⟩ := r0.one
  obtain ⟨x, t, u, v, rfl, e⟩ := r.rng_inv
  refine .of fun s Q E e' k => ?_
  obtain ⟨rfl, tp⟩ := e'
  refine call_list_range hA.hh (i _ _ e).1 hs hn (by lia) fun h' tk acc c' kp e2 it => ?_
  refine k _ _ h' tk (Stp.put I i (.of_keeps kp) (get_size _) e2) (I.of_keeps kp) (.list (Fz.put_self _ _ _) ?_)
  refine reps_of (by simp [rngD, it.1]) fun j v d h1 h2 => ?_
  obtain ⟨t, rfl⟩ := it.2 j v (by simpa using h1)
  have hj : j < m := by simpa [rngD] using (List.getElem?_eq_some_iff.mp h2).1
  rw [rngD, List.getElem?_map, List.getElem?_range hj] at h2
  cases h2
  exact .int _ _
theorem c_tup_list {ds : List D} (h : ds.length ≤ 1000000) : Calls w (.type "tuple") n [.list ds] (.tup ds) := .mk fun A B hp vs hA I i r0 => by
  obtain ⟨v, rfl, r⟩ := r0.one
  obtain ⟨a, ws, k, rfl, e1, e2, l, z, rs⟩ := r.isL i
  refine .of fun s Q E e k => ?_
  obtain ⟨rfl, tp⟩ := e
  refine call_tuple_list l (fun h' kp => ?_) (by rw [z, sizeLine_eq]; lia)
  have s1 := Stp.keep (w := w) i (.of_keeps kp)
  have I1 := I.of_keeps kp
  exact k _ _ _ _ (s1.trans (Stp.put I1 s1.inh (Up.push _ _) (get_size _) (Heap.get?_push_size _ rfl))) (I1.push _) (.tup (Fz.put_self _ _ _) (rs.mono (put_le s1.inh (get_size _) _)))
/-- the ints of a list -/
theorem reps_ints {B : Fz} : ∀ {vs : List Value} {ns : List Int}, Reps B vs (ns.map .int) → ∃ l : List (Int × Tok), vs = l.map (fun p => .int p.1 p.2) ∧ l.map (·.1) = ns
  | [], [], _ => ⟨[], rfl, rfl⟩
  | v :: vs, m :: ns, r => by
    cases r with
    | cons a b =>
      obtain ⟨t, rfl⟩ := a.int_inv
      obtain ⟨l, rfl, rfl⟩ := reps_ints b
      exact ⟨(m, t) :: l, rfl, rfl⟩
  | _ :: _, [], r => by cases r
  | [], _ :: _, r => by cases r
theorem c_sum {ns : List Int} : Calls w (.builtin "sum") n [.list (ns.map .int)] (.int ns.sum) := .mk fun A B hp vs hA I i r0 => by
  obtain ⟨v, rfl, r⟩ := r0.one
  obtain ⟨a, ws, k, rfl, e1, e2, l, z, rs⟩ := r.isL i
  obtain ⟨xl, h1, h2⟩ := reps_ints rs
  have hw : ws = intItems xl.toArray := by
    apply Array.ext'
    rw [h1]; simp [intItems]
  refine .keeps I i fun s Q E e tp k => ?_
  subst e
  subst hw
  refine sum_intListG hA.hh l fun h' tk t' kp => k _ h' tk kp ?_
  rw [preSum_eq, List.take_of_length_le (by simp)]
  simp only [h2]
  exact .int _ _
theorem c_max2 {a b : Int} : Calls w (.builtin "max") n [.int a, .int b] (.int (max a b)) := .mk fun A B hp vs hA I i r0 => by
  obtain ⟨v, u, rfl, r, r'⟩ := r0.two
  obtain ⟨t, rfl⟩ := r.int_inv
  obtain ⟨t', rfl⟩ := r'.int_inv
  refine .keeps I i fun s Q E e tp k => ?_
  subst e
  refine max_two_ints hA.hh fun h' tk kp => k _ h' tk kp ?_
  split
  · rw [show max a b = b by lia]; exact .int _ _
  · rw [show max a b = a by lia]; exact .int _ _
noncomputable def maxL : List Int → Int
  | [] => 0
  | [a] => a
  | a :: b :: l => max a (maxL (b :: l))
theorem maxL_ge : ∀ {l : List Int} {a : Int}, a ∈ l → a ≤ maxL l
  | [], _, h => by cases h
  | [x], a, h => by simp at h; simp [maxL, h]
  | x :: y :: l, a, h => by
    rw [maxL]
    rcases List.mem_cons.mp h with h | h
    · lia
    · have := maxL_ge h; lia
theorem maxL_mem : ∀ {l : List Int}, l ≠ [] → maxL l ∈ l
  | [], h => absurd rfl h
  | [x], _ => by simp [maxL]
  | x :: y :: l, _ => by
    rw [maxL]
    have := maxL_mem (l := y :: l) (by simp)
    by_cases h : x ≤ maxL (y :: l)
    · rw [show max x (maxL (y :: l)) = maxL (y :: l) by lia]; exact List.mem_cons_of_mem _ this
    · rw [show max x (maxL (y :: l)) = x by lia]; exact List.mem_cons_self
theorem argBest_ge (val : Nat → Int) : ∀ (j i : Nat), i ≤ j → val i ≤ val (argBest (fun i j => decide (val i > val j)) j) ∧ argBest (fun i j => decide (val i > val j)) j ≤ j
  | 0, i, h => by
    have : i = 0 := by lia
    subst this
    simp [argBest]
  | j + 1, i, h => by
    have ih := fun i h => argBest_ge val j i h
    unfold argBest
    split
    · rename_i hb
      have hb := of_decide_eq_true hb
      refine ⟨?_, Nat.le_refl _⟩
      rcases Nat.lt_or_ge j i with q | q
      · rw [show i = j + 1 by lia]; exact Int.le_refl _
      · have := (ih i q).1; lia
    · rename_i hb
      have hb : ¬ val (j + 1) > val (argBest (fun i j => decide (val i > val j)) j) := fun q => hb (decide_eq_true q)
      refine ⟨?_, Nat.le_succ_of_le (ih 0 (Nat.zero_le _)).2⟩
      rcases Nat.lt_or_ge j i with q | q
      · rw [show i = j + 1 by lia]; lia
      · exact (ih i q).1
theorem c_max {ns : List Int} (hne : ns ≠ []) : Calls w (.builtin "max") n [.list (ns.map .int)] (.int (maxL ns)) := .mk fun A B hp vs hA I i r0 => by
  obtain ⟨v, rfl, r⟩ := r0.one
  obtain ⟨a, ws, k, rfl, e1, e2, l, z, rs⟩ := r.isL i
  obtain ⟨xl, h1, h2⟩ := reps_ints rs
  have hw : ws = intItems xl.toArray := by
    apply Array.ext'
    rw [h1]; simp [intItems]
  have hlen : xl.length = ns.length := by rw [← h2]; simp
  have hpos : 0 < xl.length := by rw [hlen]; exact List.length_pos_iff.mpr hne
  refine .keeps I i fun s Q E e tp k => ?_
  subst e
  subst hw
  refine max_intList hA.hh l (by simpa using hpos) fun v h' tk hv kp => k _ h' tk kp ?_
  obtain ⟨t, rfl⟩ := intItems_at hv
  have hval : ∀ j, j < xl.length → ∃ x, ns[j]? = some x ∧ numAt xl.toArray j = x := fun j hj => by
    have : ns[j]? = some (xl[j].1) := by rw [← h2]; simp [hj]
    exact ⟨_, this, by simp [numAt, hj]⟩
  have hb : (xl.toArray.size - 1) < xl.length := by simp; lia
  obtain ⟨x, x1, x2⟩ := hval (argBest (fun i j => decide (numAt xl.toArray i > numAt xl.toArray j)) (xl.toArray.size - 1)) (Nat.lt_of_le_of_lt (argBest_ge (numAt xl.toArray) _ 0 (Nat.zero_le _)).2 hb)
  have hmax : maxL ns = x := by
    apply Int.le_antisymm
    · obtain ⟨j, hj, ej⟩ := List.getElem_of_mem (maxL_mem hne)
      obtain ⟨y, y1, y2⟩ := hval j (by lia)
      have := (argBest_ge (numAt xl.toArray) (xl.toArray.size - 1) j (by simp; lia)).1
      rw [x2, y2] at this
      rw [List.getElem?_eq_getElem hj, ej] at y1
      cases y1; exact this
    · exact maxL_ge (List.mem_of_getElem? x1)
  rw [x2, ← hmax]
  exact .int _ _
end
end Tn
end
section
-- TnK
open PySem PySem.W PySem.Calls PySem.Spec PyProof.Rows
set_option maxRecDepth 100000
set_option linter.unusedVariables false
namespace Tn
noncomputable def funD (o : Obj) : FuncData := match o.data with | .func fd => fd | _ => default
/-- what K tells of a def -/
noncomputable def fnK (K : Frag) (a c : Addr) (fd : FuncData) (body : List Stmt) : Prop := ∃ o oc cvs t, K.lookup a = some o ∧ o.data = .func fd ∧ fd.code = .ref c ∧ K.lookup c = some oc ∧ oc.data = .fields cvs ∧ cvs[1]? = some (.str fd.qualname t) ∧
  fd.body = .stmts body ∧ fd.globals = mainGlobals ∧ fd.builtins = builtinsNs ∧ fd.closure = []
section
variable {w : World} {n : Nat} {a c : Addr} {fd : FuncData} {body : List Stmt} {ps : List Str} {ds : List D} {d : D}
theorem calls_K (hk : fnK (K w.params) a c fd body) (hp : parOk fd.scope ps = true) (hcell : fd.scope.names.all (fun x => x.2 != .cell) = true) (hloc : ps.all (fun x => fd.scope.names.lookup x == some .local) = true)
    (hl : ps.length = ds.length) (bind : ∀ vs : List Value, vs.length = ps.length → bindArgs fd ⟨vs, []⟩ = pure (ps.zip vs))
    (run : ∀ A L, AOk A n → Run w A (callEnv fd L a) body [] (ps.zip ds) (endsIn d)) : Calls w (.ref a) (n + 1) ds d := .mk fun A B h vs hA I i r => by
  obtain ⟨o, oc, cvs, t, k1, k2, k3, k4, k5, k6, k7, k8, k9, k10⟩ := hk
  refine does_def (ρc := []) hA I i (I.k a o k1) k2 ⟨c, oc, cvs, t, k3, I.k c oc k4, k5, k6⟩ k7 k8 k9 hp (fun x m => ?_) (fun x m => ?_) r hl (bind vs (by rw [r.length, hl])) (fun y dy e => by cases e) (fun x y c e => by rw [k10] at e; cases e) fun A' env hA' he => ?_
  · have := List.all_eq_true.mp hcell x m
    simpa using this
  · have := List.all_eq_true.mp hloc x m
    simpa using this
  · rw [he, List.append_nil]; exact run A' _ hA'
theorem calls_KC (hk : fnK (K w.params) a c fd body) (hp : parOk fd.scope ps = true) (hloc : ps.all (fun x => fd.scope.names.lookup x == some .local || fd.scope.names.lookup x == some .cell) = true)
    (hl : ps.length = ds.length) (bind : ∀ vs : List Value, vs.length = ps.length → bindArgs fd ⟨vs, []⟩ = pure (ps.zip vs))
    (run : ∀ A env, AOk A n → FC fd env → Run w A env body [] (ps.zip ds) (endsIn d)) : Calls w (.ref a) (n + 1) ds d := .mk fun A B h vs hA I i r => by
  obtain ⟨o, oc, cvs, t, k1, k2, k3, k4, k5, k6, k7, k8, k9, k10⟩ := hk
  refine does_defC hA I i (I.k a o k1) k2 ⟨c, oc, cvs, t, k3, I.k c oc k4, k5, k6⟩ k7 k8 k9 k10 hp (fun x m => ?_) r hl (bind vs (by rw [r.length, hl])) run
  have := List.all_eq_true.mp hloc x m
  simpa using this
theorem bind1 {fd : FuncData} {p : Str} (h : ∀ v, bindArgs fd ⟨[v], []⟩ = pure [(p, v)]) : ∀ vs : List Value, vs.length = [p].length → bindArgs fd ⟨vs, []⟩ = pure ([p].zip vs)
  | [v], _ => h v
theorem bind2 {fd : FuncData} {p q : Str} (h : ∀ v u, bindArgs fd ⟨[v, u], []⟩ = pure [(p, v), (q, u)]) : ∀ vs : List Value, vs.length = [p, q].length → bindArgs fd ⟨vs, []⟩ = pure ([p, q].zip vs)
  | [v, u], _ => h v u
end
section
variable {w : World} {A : Around}
/-- a set of ints of K -/
theorem setOf_K {h : Heap} {a : Addr} {o : Obj} {es : Array (Int × Value)} {ep : Nat} {t : SetTable} (hk : h.get? a = some o) (hc : o.ExactSet) (hd : o.data = .set es ep t) (ns : List Int)
    (he : es.toList.all (fun e => match e.2 with | .int i _ => e.1 == (intKind pw w).hash i && ns.contains i | _ => false) = true) (hn : ns.all (fun i => es.toList.any fun e => match e.2 with | .int j _ => i == j | _ => false) = true)
    (hb : es.size < scanBound) (hf : t.fits es.size = true) : h.SetOf (intKind pw w) a (fun i => ns.contains i) es.size := by
  have key : ∀ e ∈ es.toList, ∃ i t, e.2 = .int i t ∧ e.1 = (intKind pw w).hash i ∧ i ∈ ns := fun e m => by
    have := List.all_eq_true.mp he e m
    split at this
    · rename_i i t hi
      simp only [Bool.and_eq_true, beq_iff_eq] at this
      exact ⟨i, t, hi, this.1, List.contains_iff_mem.mp this.2⟩
    · cases this
  refine ⟨o, es, ep, t, hk, hc, hd, fun e m => ?_, fun i => ?_, hb, hf, rfl⟩
  · obtain ⟨i, t, e1, e2, e3⟩ := key e m
    exact ⟨⟨i, by rw [e1]; exact intKind_is _ _ _ _, e2⟩, by rw [e1]; rfl⟩
  · constructor
    · intro hi
      have := List.all_eq_true.mp hn i (List.contains_iff_mem.mp hi)
      obtain ⟨e, m, q⟩ := List.any_eq_true.mp this
      refine ⟨e, m, ?_⟩
      split at q
      · rename_i j t hj
        rw [beq_iff_eq.mp q, hj]; exact intKind_is _ _ _ _
      · cases q
    · rintro ⟨e, m, q⟩
      obtain ⟨j, t, e1, e2, e3⟩ := key e m
      rw [e1] at q
      have : j = i := by simpa [intKind, Value.isInt] using q
      exact List.contains_iff_mem.mpr (this ▸ e3)
theorem op_in_set {a : Addr} {ns : List Int} {k : Nat} (hs : ∀ h, Inv w h → h.SetOf (intKind pw w) a (fun i => ns.contains i) k) {i : Int} : OpC w A .In (.int i) (.ref a) (.bool (ns.contains i)) := .mk fun B h va vb I j x y => by
  obtain ⟨t, rfl⟩ := x.int_inv
  rw [y.ref_inv]
  refine .same I j fun s Q E e _ k => ?_
  subst e
  exact wpAny_inSet_of (intKind_is _ _ _ _) rfl (hs _ I) (k _ _ (.bool _))
end
end Tn
end
section
-- TnW1
open PySem PySem.W PySem.Calls PySem.Spec PyProof.Rows
set_option maxRecDepth 100000
set_option linter.unusedVariables false
namespace Tn
section
variable {w : World} {n : Nat}
theorem fn_b1 : fnK (K w.params) 119 118 (funD (o_119 w.params)) (stmBody (stm 8)) := ⟨o_119 _, o_118 _, _, _, rfl, rfl, rfl, rfl, rfl, rfl, rfl, rfl, rfl, rfl⟩
theorem fn_c8 : fnK (K w.params) 143 142 (funD (o_143 w.params)) (stmBody (stm 10)) := ⟨o_143 _, o_142 _, _, _, rfl, rfl, rfl, rfl, rfl, rfl, rfl, rfl, rfl, rfl⟩
theorem fn_eof : fnK (K w.params) 153 152 (funD (o_153 w.params)) (stmBody (stm 62)) := ⟨o_153 _, o_152 _, _, _, rfl, rfl, rfl, rfl, rfl, rfl, rfl, rfl, rfl, rfl⟩
noncomputable def b1L : List Int := [173, 847, 6150, 6155, 6156, 6157, 8203, 8204, 8205, 8288, 65279] ++ (List.range 16).map fun i => ((65024 + i : Nat) : Int)
noncomputable def c8L : List Int := [832, 833, 8206, 8207] ++ (List.range 5).map (fun i => ((8234 + i : Nat) : Int)) ++ (List.range 6).map fun i => ((8298 + i : Nat) : Int)
theorem set_b1 {h : Heap} (I : Inv w h) : h.SetOf (intKind pw w) 109 (fun i => b1L.contains i) 27 :=
  setOf_K (I.k 109 (o_109 w.params) rfl) ⟨rfl, rfl, rfl⟩ rfl b1L (by kernel_rfl) (by kernel_rfl) (by decide +kernel) (by kernel_rfl)
theorem set_c8 {h : Heap} (I : Inv w h) : h.SetOf (intKind pw w) 133 (fun i => c8L.contains i) 15 :=
  setOf_K (I.k 133 (o_133 w.params) rfl) ⟨rfl, rfl, rfl⟩ rfl c8L (by kernel_rfl) (by kernel_rfl) (by decide +kernel) (by kernel_rfl)
theorem call_b1 {c : Nat} : Calls w (.ref 119) (n + 2) [.str (S [c])] (.bool (b1L.contains (c : Int))) := by
  refine calls_K (n := n + 1) (ps := ["code"]) fn_b1 rfl rfl rfl rfl (bind1 fun v => rfl) fun A L hA => ?_
  conv in (stmBody _) => whnf
  refine run_cons (r1_ret (ev_cmp (ev_call hA (ev_builtin rfl rfl rfl (fun B => .blt _) (by decide)) (fun B v r => r.blt_inv) (keep_blt _ _) (by simp) (evl_cons (ev_name rfl) evl_nil) c_ord) (ev_global rfl rfl) rfl (op_in_set fun h I => set_b1 I)) rfl)
theorem call_c8 {c : Nat} : Calls w (.ref 143) (n + 2) [.str (S [c])] (.bool (c8L.contains (c : Int))) := by
  refine calls_K (n := n + 1) (ps := ["code"]) fn_c8 rfl rfl rfl rfl (bind1 fun v => rfl) fun A L hA => ?_
  conv in (stmBody _) => whnf
  refine run_cons (r1_ret (ev_cmp (ev_call hA (ev_builtin rfl rfl rfl (fun B => .blt _) (by decide)) (fun B v r => r.blt_inv) (keep_blt _ _) (by simp) (evl_cons (ev_name rfl) evl_nil) c_ord) (ev_global rfl rfl) rfl (op_in_set fun h I => set_c8 I)) rfl)
theorem call_eof {i : Int} : Calls w (.ref 153) (n + 1) [.int i] (.bool (i == 0)) := by
  refine calls_K (n := n) (ps := ["x"]) fn_eof rfl rfl rfl rfl (bind1 fun v => rfl) fun A L hA => ?_
  conv in (stmBody _) => whnf
  refine run_cons (r1_ret (ev_cmp (ev_name rfl) (ev_globalV (v := .int 0 440) rfl rfl (fun B => .int _ _)) rfl op_eq) rfl)
end
end Tn
end
section
-- TnK2
open PySem PySem.W PySem.Calls PySem.Spec PyProof.Rows
set_option maxRecDepth 100000
set_option linter.unusedVariables false
namespace Tn
section
variable {w : World} {A : Around} {env : Env} {ρ ρ' : Rho} {X : Boxes} {post : Post}
theorem Ev.cast {e : Expr} {d d' : D} (x : Ev w A env ρ e d) (h : d = d') : Ev w A env ρ e d' := h ▸ x
theorem ev_S {i : Str} {l : List Nat} {k : Nat} {pos : Pos} (h : i = S l := by rfl) : Ev w A env ρ (.Constant (.str i) k pos) (.str (S l)) := h ▸ ev_str
noncomputable def Sub (a b : Rho) : Prop := ∀ x d, a.lookup x = some d → b.lookup x = some d
theorem Sub.refl (a : Rho) : Sub a a := fun _ _ h => h
theorem Sub.trans {a b c : Rho} (x : Sub a b) (y : Sub b c) : Sub a c := fun _ _ h => y _ _ (x _ _ h)
theorem sub_nil {b : Rho} : Sub [] b := fun _ _ h => by cases h
theorem sub_cons {a b : Rho} {x : Str} {d : D} (h : b.lookup x = some d) (s : Sub a b) : Sub ((x, d) :: a) b := fun y e h' => by
  rw [List.lookup_cons] at h'
  split at h'
  · rename_i hb
    cases h'; rw [beq_iff_eq.mp hb]; exact h
  · exact s y e h'
theorem sub_both {a b : Rho} {x : Str} {d : D} (s : Sub a b) : Sub ((x, d) :: a) ((x, d) :: b) := fun y e h => by
  rw [List.lookup_cons] at h ⊢
  split at h
  · exact h
  · exact s y e h
theorem sub_skip {a b : Rho} {x : Str} {d : D} (s : Sub a b) (n : a.lookup x = none) : Sub a ((x, d) :: b) := fun y e h => by
  rw [List.lookup_cons]
  split
  · rename_i hb
    rw [beq_iff_eq.mp hb, n] at h; cases h
  · exact s y e h
/-- a loop's state: these variables, no box -/
noncomputable abbrev Has (X : Boxes) (base : Rho) : Boxes → Rho → Prop := fun X' ρ => X' = X ∧ Sub base ρ
theorem run_base {ss : List Stmt} {base : Rho} {X' : Boxes} (h : Has X base X' ρ) (r : Run w A env ss X base post) : Run w A env ss X' ρ post := by
  rw [h.1]; exact r.weak h.2
theorem run_base1 {ss : List Stmt} {base : Rho} {x : Str} {e : D} {X' : Boxes} (h : Has X base X' ρ) (r : Run w A env ss X ((x, e) :: base) post) : Run w A env ss X' ((x, e) :: ρ) post := by
  rw [h.1]; exact r.weak (sub_both h.2)
theorem ev_callB {x : Str} {p pos : Pos} {id : String} {es : List Expr} {ds : List D} {d : D} {n : Nat} (hA : AOk A n) (c : Calls w (.builtin id) n ds d) (el : EvL w A env ρ es ds)
    (hx : env.kindOf x = some .globalImplicit := by rfl) (e : nsIn (K w.params) mainGlobals x = some none := by rfl) (hv : bootBuiltins x = some (.builtin id) := by rfl) (hn : x ≠ "__name__" := by decide) (hd : (x == ("__debug__" : Str)) = false := by decide)
    (hne : es ≠ [] := by simp)
    (hfe : eval (.Call (.Name x p) es [] pos) env = (do callWith pos (← eval (.Name x p) env) [] (backTo pos (starEach es env)) []) := by rfl) (hp : ∀ pos, (backTo pos (starEach es env)).any (·.1) = false := by exact fun _ => rfl)
    (he : ∀ pos, ∃ t r, backTo pos (starEach es env) = (false, t) :: r := by exact fun _ => ⟨_, _, rfl⟩) : Ev w A env ρ (.Call (.Name x p) es [] pos) d :=
  ev_call hA (ev_builtin hx e hv (fun B => .blt _) hn hd) (fun B v r => r.blt_inv) (keep_blt _ _) hne el c hfe hp he
theorem ev_callT {x : Str} {p pos : Pos} {id : String} {es : List Expr} {ds : List D} {d : D} {n : Nat} (hA : AOk A n) (c : Calls w (.type id) n ds d) (el : EvL w A env ρ es ds)
    (hx : env.kindOf x = some .globalImplicit := by rfl) (e : nsIn (K w.params) mainGlobals x = some none := by rfl) (hv : bootBuiltins x = some (.type id) := by rfl) (hn : x ≠ "__name__" := by decide) (hd : (x == ("__debug__" : Str)) = false := by decide)
    (hne : es ≠ [] := by simp)
    (hfe : eval (.Call (.Name x p) es [] pos) env = (do callWith pos (← eval (.Name x p) env) [] (backTo pos (starEach es env)) []) := by rfl) (hp : ∀ pos, (backTo pos (starEach es env)).any (·.1) = false := by exact fun _ => rfl)
    (he : ∀ pos, ∃ t r, backTo pos (starEach es env) = (false, t) :: r := by exact fun _ => ⟨_, _, rfl⟩) : Ev w A env ρ (.Call (.Name x p) es [] pos) d :=
  ev_call hA (ev_builtin hx e hv (fun B => .typ _) hn hd) (fun B v r => r.typ_inv) (keep_typ _ _) hne el c hfe hp he
theorem ev_callG {x : Str} {p pos : Pos} {a : Addr} {es : List Expr} {ds : List D} {d : D} {n : Nat} (hA : AOk A n) (c : Calls w (.ref a) n ds d) (el : EvL w A env ρ es ds)
    (hx : env.kindOf x = some .globalImplicit := by rfl) (e : nsIn (K w.params) mainGlobals x = some (some (.ref a)) := by rfl) (hk : keepIn (K w.params) (.ref a) = true := by kernel_rfl) (hd : (x == ("__debug__" : Str)) = false := by decide)
    (hne : es ≠ [] := by simp)
    (hfe : eval (.Call (.Name x p) es [] pos) env = (do callWith pos (← eval (.Name x p) env) [] (backTo pos (starEach es env)) []) := by rfl) (hp : ∀ pos, (backTo pos (starEach es env)).any (·.1) = false := by exact fun _ => rfl)
    (he : ∀ pos, ∃ t r, backTo pos (starEach es env) = (false, t) :: r := by exact fun _ => ⟨_, _, rfl⟩) : Ev w A env ρ (.Call (.Name x p) es [] pos) d :=
  ev_call hA (ev_global hx e hd) (fun B v r => r.ref_inv) (keep_K hk) hne el c hfe hp he
theorem small_ok {a b : Int} (ha : 0 ≤ a) (ha' : a ≤ 1000000) (hb : -1 ≤ b) (hb' : b ≤ 1000000) : Builtin.Range.small a b 1 = true := small_one (by lia) (by lia) (by lia) (by lia)
theorem itb_rng1 {a b : Int} {n : Nat} (ha : 0 ≤ a) (ha' : a ≤ 1000000) (hb : -1 ≤ b) (hb' : b ≤ 1000000) (hn : n = (b - a).toNat) : Itb w A (.rng a b 1) (rngD a 1 n) :=
  itb_rng (small_ok ha ha' hb hb') n (by rw [rangeSize_one, hn]; split <;> lia)
theorem rngD_len {a c : Int} {n : Nat} : (rngD a c n).length = n := by simp [rngD]
theorem rngD_get {a c : Int} {n i : Nat} {e : D} (h : (rngD a c n)[i]? = some e) : i < n ∧ e = .int (a + i * c) := by
  have hi : i < n := by simpa [rngD] using (List.getElem?_eq_some_iff.mp h).1
  rw [rngD, List.getElem?_map, List.getElem?_range hi] at h
  cases h
  exact ⟨hi, rfl⟩
end
end Tn
end
section
-- TnW2
open PySem PySem.W PySem.Calls PySem.Spec PyProof.Rows
set_option maxRecDepth 100000
set_option linter.unusedVariables false
namespace Tn
noncomputable def lackL : List Nat := [22, 15, 0, 38, 31, 4, 2]
noncomputable def unseenL : List Nat := [173, 847, 6150, 6155, 8203, 8205, 8288, 65279, 65024, 65039]
noncomputable def gapsL : List Nat := [832, 833, 8206, 8207, 8234, 8238, 8298, 8303]
noncomputable def xAt (sc : List Int) (p : Nat) : Nat := match sc[p]? with
  | some v => (v.fmod 1000000).toNat
  | none => lackL.getD p 0
noncomputable def pcS (x : Nat) : List Nat := if x % 4 = 0 then [45] else if x % 4 = 1 then [62] else if x % 4 = 2 then [45, unseenL.getD (x / 4 % 10) 0, 62] else [62, gapsL.getD (x / 4 % 8) 0, 62]
noncomputable def pcP (x : Nat) : List Nat := if x % 4 = 0 then [45] else if x % 4 = 1 then [62] else if x % 4 = 2 then [45, 62] else [62, 124, 62]
noncomputable def sgN (sc : List Int) (k : Nat) : List Nat := (List.range k).flatMap fun p => pcS (xAt sc p)
noncomputable def plN (sc : List Int) (k : Nat) : List Nat := (List.range k).flatMap fun p => pcP (xAt sc p)
theorem sgN_succ (sc : List Int) (k : Nat) : sgN sc (k + 1) = sgN sc k ++ pcS (xAt sc k) := by simp [sgN, List.range_succ]
theorem plN_succ (sc : List Int) (k : Nat) : plN sc (k + 1) = plN sc k ++ pcP (xAt sc k) := by simp [plN, List.range_succ]
theorem pcS_len (x : Nat) : (pcS x).length ≤ 3 := by unfold pcS; split <;> (try split) <;> (try split) <;> simp
theorem pcP_len (x : Nat) : (pcP x).length ≤ 3 := by unfold pcP; split <;> (try split) <;> (try split) <;> simp
theorem sgN_len (sc : List Int) : ∀ k, (sgN sc k).length ≤ 3 * k
  | 0 => by simp [sgN]
  | k + 1 => by rw [sgN_succ, List.length_append]; have := sgN_len sc k; have := pcS_len (xAt sc k); lia
theorem plN_len (sc : List Int) : ∀ k, (plN sc k).length ≤ 3 * k
  | 0 => by simp [plN]
  | k + 1 => by rw [plN_succ, List.length_append]; have := plN_len sc k; have := pcP_len (xAt sc k); lia
noncomputable def intsD (l : List Nat) : List D := l.map fun (n : Nat) => D.int (n : Int)
theorem getD_of {l : List Nat} {j : Nat} (h : j < l.length) : l.getD j 0 = l[j] := by simp [h]
theorem intsD_get {l : List Nat} {j : Nat} (h : j < l.length) : (intsD l)[((j : Nat) : Int).toNat]? = some (.int (l.getD j 0 : Nat)) := by
  simp [intsD, h]
section
variable {w : World} {n : Nat}
theorem fn_text : fnK (K w.params) 160 159 (funD (o_160 w.params)) (stmBody (stm 64)) := ⟨o_160 _, o_159 _, _, _, rfl, rfl, rfl, rfl, rfl, rfl, rfl, rfl, rfl, rfl⟩
theorem fmod4 (x k : Nat) (hk : 0 < k) : ((x : Int)).fmod (k : Int) = ((x % k : Nat) : Int) := by
  rw [Int.fmod_eq_emod_of_nonneg _ (by lia)]; rfl
theorem fdiv4 (x k : Nat) : ((x : Int)).fdiv (k : Int) = ((x / k : Nat) : Int) := by
  rw [Int.fdiv_eq_ediv_of_nonneg _ (by lia)]; rfl
noncomputable def baseT (sc : List Int) (k : Nat) : Rho := [("script", .list (sc.map .int)), ("unseen", .tup (intsD unseenL)), ("gaps", .tup (intsD gapsL)), ("lacking", .tup (intsD lackL)), ("signs", .str (S (sgN sc k))), ("plain", .str (S (plN sc k)))]
theorem call_text {sc : List Int} (hsc : sc.length ≤ 1000) : Calls w (.ref 160) (n + 2) [.list (sc.map .int)] (.tup [.str (S (sgN sc 7)), .str (S (plN sc 7))]) := by
  refine calls_K (n := n + 1) (ps := ["script"]) fn_text (by kernel_rfl) (by kernel_rfl) (by kernel_rfl) rfl (bind1 fun v => by kernel_rfl) fun A L hA => ?_
  conv in (stmBody _) => whnf
  refine run_cons (r1_assign (d := .tup (intsD unseenL)) (.inl rfl) ((ev_tup (evl_cons ev_int (evl_cons ev_int (evl_cons ev_int (evl_cons ev_int (evl_cons ev_int (evl_cons ev_int (evl_cons ev_int (evl_cons ev_int (evl_cons ev_int (evl_cons ev_int evl_nil)))))))))) (by decide)).cast (by simp [intsD, unseenL])) ?_)
  refine run_cons (r1_assign (d := .tup (intsD gapsL)) (.inl rfl) ((ev_tup (evl_cons ev_int (evl_cons ev_int (evl_cons ev_int (evl_cons ev_int (evl_cons ev_int (evl_cons ev_int (evl_cons ev_int (evl_cons ev_int evl_nil)))))))) (by decide)).cast (by simp [intsD, gapsL])) ?_)
  refine run_cons (r1_assign (d := .tup (intsD lackL)) (.inl rfl) ((ev_tup (evl_cons ev_int (evl_cons ev_int (evl_cons ev_int (evl_cons ev_int (evl_cons ev_int (evl_cons ev_int (evl_cons ev_int evl_nil))))))) (by decide)).cast (by simp [intsD, lackL])) ?_)
  refine run_cons (r1_assign (d := .str (S [])) (.inl rfl) ev_S ?_)
  refine run_cons (r1_assign (d := .str (S [])) (.inl rfl) ev_S ?_)
  refine run_cons (r1_for (d := .rng 0 7 1) hA.hh (.inl rfl) (ev_callT hA c_rng1 (evl_cons ev_int evl_nil)) (itb_rng1 (n := 7) (by decide) (by decide) (by decide) (by decide) rfl) (fun i => Has [] (baseT sc i)) ⟨rfl, ?_⟩ ?_ ?_)
  · exact sub_cons rfl (sub_cons rfl (sub_cons rfl (sub_cons rfl (sub_cons rfl (sub_cons rfl sub_nil)))))
  · intro i X' ρ' e he hv
    obtain ⟨hi, rfl⟩ := rngD_get he
    rw [show (0 : Int) + (i : Int) * 1 = (i : Int) by lia]
    refine run_base1 hv ?_
    have hx : ∀ a b c : Int, 0 ≤ a.fmod 1000000 ∧ a.fmod 1000000 < 1000000 := fun a _ _ => by
      rw [Int.fmod_eq_emod_of_nonneg _ (by decide)]; lia
    have hl := sgN_len sc i
    have hl' := plN_len sc i
    refine run_cons (r1_assign (d := .int (xAt sc i : Nat)) (.inl rfl) (ev_ifexp (evT_cmp (ev_name rfl) (ev_callB hA (c_len_list (by simp; lia)) (evl_cons (ev_name rfl) evl_nil)) rfl op_lt) (fun h => ?_) fun h => ?_) ?_)
    · have h : (i : Int) < ((sc.map D.int).length : Int) := of_decide_eq_true h
      simp at h
      refine (ev_bin (ev_litem (d := .int sc[i]) (ev_name rfl) (ev_name rfl) (by lia) (by lia) (by simp [h])) (ev_bin ev_int ev_int (op_pow (by decide) (by decide) (by decide))) (op_mod (by decide))).cast ?_
      have : xAt sc i = (sc[i].fmod 1000000).toNat := by unfold xAt; rw [List.getElem?_eq_getElem h]
      rw [this]
      congr 1
      have := hx sc[i] 0 0
      show sc[i].fmod 1000000 = _
      lia
    · have h : ¬ ((i : Int) < ((sc.map D.int).length : Int)) := of_decide_eq_false h
      simp at h
      refine (ev_titem (d := .int (lackL.getD i 0 : Nat)) (ev_name rfl) (ev_name rfl) (by lia) (by lia) ?_).cast ?_
      · match i, hi with
        | 0, _ => rfl
        | 1, _ => rfl
        | 2, _ => rfl
        | 3, _ => rfl
        | 4, _ => rfl
        | 5, _ => rfl
        | 6, _ => rfl
        | k + 7, h => exact absurd h (by lia)
      · unfold xAt; rw [List.getElem?_eq_none h]
    generalize hX : xAt sc i = x
    have s1 := sgN_succ sc i
    have p1 := plN_succ sc i
    rw [hX] at s1 p1
    have m4 : (x : Int).fmod 4 = ((x % 4 : Nat) : Int) := fmod4 x 4 (by decide)
    have d4 : (x : Int).fdiv 4 = ((x / 4 : Nat) : Int) := fdiv4 x 4
    have fin : ∀ (a b : List Nat) (ρ : Rho), pcS x = a → pcP x = b → ρ = (("plain" : Str), D.str (S (plN sc i ++ b))) :: (("signs" : Str), D.str (S (sgN sc i ++ a))) :: (("x" : Str), D.int (x : Nat)) :: (("place" : Str), D.int (i : Nat)) :: baseT sc i → Has [] (baseT sc (i + 1)) [] ρ := fun a b ρ ha hb hr => by
      subst hr
      refine ⟨rfl, ?_⟩
      unfold baseT
      rw [s1, p1, ha, hb]
      exact sub_cons rfl (sub_cons rfl (sub_cons rfl (sub_cons rfl (sub_cons rfl (sub_cons rfl sub_nil)))))
    refine run_cons (r1_if (evT_cmp (ev_bin (ev_name rfl) ev_int (op_mod (by decide))) ev_int rfl op_eq) (fun h => ?_) fun h => ?_)
    · have hm : x % 4 = 0 := by have := beq_iff_eq.mp h; lia
      refine run_cons (r1_aug (.inl rfl) rfl (ev_S (l := [45])) (op_isadd (by simp; lia)) ?_)
      refine run_cons (r1_aug (.inl rfl) rfl (ev_S (l := [45])) (op_isadd (by simp; lia)) ?_)
      exact run_nil (run_nil (fin _ _ _ (by simp [pcS, hm]) (by simp [pcP, hm]) rfl))
    have hm0 : x % 4 ≠ 0 := fun q => by rw [m4, q] at h; cases h
    refine run_cons (r1_if (evT_cmp (ev_bin (ev_name rfl) ev_int (op_mod (by decide))) ev_int rfl op_eq) (fun h => ?_) fun h => ?_)
    · have hm : x % 4 = 1 := by have := beq_iff_eq.mp h; lia
      refine run_cons (r1_aug (.inl rfl) rfl (ev_S (l := [62])) (op_isadd (by simp; lia)) ?_)
      refine run_cons (r1_aug (.inl rfl) rfl (ev_S (l := [62])) (op_isadd (by simp; lia)) ?_)
      exact run_nil (run_nil (run_nil (fin _ _ _ (by simp [pcS, hm]) (by simp [pcP, hm]) rfl)))
    have hm1 : x % 4 ≠ 1 := fun q => by rw [m4, q] at h; cases h
    refine run_cons (r1_if (evT_cmp (ev_bin (ev_name rfl) ev_int (op_mod (by decide))) ev_int rfl op_eq) (fun h => ?_) fun h => ?_)
    · have hm : x % 4 = 2 := by have := beq_iff_eq.mp h; lia
      have hj : x / 4 % 10 < unseenL.length := by simp [unseenL]; lia
      have e10 : ((x / 4 : Nat) : Int).fmod 10 = ((x / 4 % 10 : Nat) : Int) := fmod4 _ 10 (by decide)
      have hc : unseenL.getD (x / 4 % 10) 0 ≤ 1114111 := by
        rw [getD_of hj]
        have : ∀ a ∈ unseenL, a ≤ 1114111 := by decide
        exact this _ (List.getElem_mem hj)
      refine run_cons (r1_aug (.inl rfl) rfl (ev_bin (ev_bin (ev_S (l := [45])) (ev_callB hA (c_chr (i := (unseenL.getD (x / 4 % 10) 0 : Nat)) (by lia) (by lia)) (evl_cons (ev_titem (k := ((x / 4 % 10 : Nat) : Int)) (ev_name rfl)
        ((ev_bin (ev_bin (ev_name rfl) ev_int (op_div (by decide) (by decide))) ev_int (op_mod (by decide))).cast (by rw [d4, e10])) (by lia) (by lia) (intsD_get hj)) evl_nil)) (op_sadd (by simp))) (ev_S (l := [62])) (op_sadd (by simp))) (op_isadd (by simp; lia)) ?_)
      refine run_cons (r1_aug (.inl rfl) rfl (ev_S (l := [45, 62])) (op_isadd (by simp; lia)) ?_)
      exact run_nil (run_nil (run_nil (run_nil (fin _ _ _ (by simp [pcS, hm]) (by simp [pcP, hm]) rfl))))
    have hm2 : x % 4 ≠ 2 := fun q => by rw [m4, q] at h; cases h
    have hj : x / 4 % 8 < gapsL.length := by simp [gapsL]; lia
    have e8 : ((x / 4 : Nat) : Int).fmod 8 = ((x / 4 % 8 : Nat) : Int) := fmod4 _ 8 (by decide)
    have hc : gapsL.getD (x / 4 % 8) 0 ≤ 1114111 := by
      rw [getD_of hj]
      have : ∀ a ∈ gapsL, a ≤ 1114111 := by decide
      exact this _ (List.getElem_mem hj)
    refine run_cons (r1_aug (.inl rfl) rfl (ev_bin (ev_bin (ev_S (l := [62])) (ev_callB hA (c_chr (i := (gapsL.getD (x / 4 % 8) 0 : Nat)) (by lia) (by lia)) (evl_cons (ev_titem (k := ((x / 4 % 8 : Nat) : Int)) (ev_name rfl)
      ((ev_bin (ev_bin (ev_name rfl) ev_int (op_div (by decide) (by decide))) ev_int (op_mod (by decide))).cast (by rw [d4, e8])) (by lia) (by lia) (intsD_get hj)) evl_nil)) (op_sadd (by simp))) (ev_S (l := [62])) (op_sadd (by simp))) (op_isadd (by simp; lia)) ?_)
    refine run_cons (r1_aug (.inl rfl) rfl (ev_S (l := [62, 124, 62])) (op_isadd (by simp; lia)) ?_)
    exact run_nil (run_nil (run_nil (run_nil (fin _ _ _ (by simp [pcS, hm0, hm1, hm2]) (by simp [pcP, hm0, hm1, hm2]) rfl))))
  · intro X' ρ' hv
    refine run_base hv ?_
    refine run_cons (r1_ret (ev_tup (evl_cons (ev_name rfl) (evl_cons (ev_name rfl) evl_nil)) (by simp)) rfl)
end
end Tn
end
section
-- TnM
open PySem PySem.W PySem.Calls PySem.Spec PyProof.Rows
open Builtin Builtin.Str
set_option maxRecDepth 100000
set_option linter.unusedVariables false
namespace Tn
theorem clip_sub {l : List Nat} {a b : Nat} : strSliceIndices (some (a : Int)) (some (b : Int)) 1 l.length = strSliceIndices (some ((min a l.length : Nat) : Int)) (some ((min b l.length : Nat) : Int)) 1 l.length := by
  unfold strSliceIndices
  dsimp only
  have e1 : ¬ ((a : Int) < 0) := by lia
  have e2 : ¬ ((b : Int) < 0) := by lia
  have e3 : ¬ (((min a l.length : Nat) : Int) < 0) := by lia
  have e4 : ¬ (((min b l.length : Nat) : Int) < 0) := by lia
  simp only [e1, e2, e3, e4, if_false, show (1 : Int) > 0 by decide, if_true]
  congr 1 <;> lia
theorem empty_sub {a b len : Nat} (h : b < a) (ha : a ≤ len) : strSliceIndices (some (a : Int)) (some (b : Int)) 1 len = [] := by
  unfold strSliceIndices
  dsimp only
  have e1 : ¬ ((a : Int) < 0) := by lia
  have e2 : ¬ ((b : Int) < 0) := by lia
  simp only [e1, e2, if_false, show (1 : Int) > 0 by decide, if_true]
  rw [show max (0 : Int) (min (a : Int) (len : Int)) = (a : Int) by lia, show max (0 : Int) (min (b : Int) (len : Int)) = (b : Int) by lia]
  unfold sliceRange
  simp
  lia
theorem pick_sub {l : List Nat} {a b : Nat} : ((strSliceIndices (some (a : Int)) (some (b : Int)) 1 l.length).filterMap (fun i => (S l).cps[i]?)) = (l.take b).drop a := by
  rw [clip_sub]
  rcases Nat.lt_or_ge (min b l.length) (min a l.length) with h | h
  · rw [empty_sub h (by lia)]
    symm
    rw [List.filterMap_nil, List.drop_eq_nil_iff, List.length_take]
    lia
  · have := StrLaws.sliced_plain (S l) (a := min a l.length) (b := min b l.length) h (by rw [S_len]; lia)
    rw [S_len] at this
    rw [this, show (S l).cps.toList = l by simp [S], List.drop_take]
    rcases Nat.lt_or_ge l.length a with q | q
    · rw [List.drop_of_length_le (by lia : l.length ≤ min a l.length), List.drop_of_length_le (by lia : l.length ≤ a)]; simp
    · rw [show min a l.length = a by lia]
      apply List.ext_getElem?
      intro i
      simp only [List.getElem?_take, List.getElem?_drop]
      split <;> split <;> try rfl
      · lia
      · rw [List.getElem?_eq_none (by lia)]
section
variable {w : World} {A : Around} {env : Env} {ρ : Rho} {X : Boxes} {post : Post}
/-- x[a:b] of a text -/
theorem ev_sslice {x lo hi : Expr} {p pos : Pos} {l : List Nat} {a b : Nat} (ex : Ev w A env ρ x (.str (S l))) (ea : Ev w A env ρ lo (.int a)) (eb : Ev w A env ρ hi (.int b)) (hz : l.length ≤ 1000000)
    (hg : ∀ o r, letTemporaryGo x o r = pure () := by intros; rfl) : Ev w A env ρ (.Subscript x (.Slice (some lo) (some hi) none p) pos) (.str (S ((l.take b).drop a))) := .mk fun B h F s Q E hh kk =>
  wpAny_Subscript_str_slice (ex.go B h F s _ E hh fun vo B₁ h₁ tk st I r => ea.go B₁ h₁ (F.step st I) _ _ E I.at fun vi B₂ h₂ tk₂ st₂ I₂ ri => eb.go B₂ h₂ ((F.step st I).step st₂ I₂) _ _ E I₂.at fun vj B₃ h₃ tk₃ st₃ I₃ rj => by
    obtain ⟨t, rfl⟩ := r.str_inv
    obtain ⟨u, rfl⟩ := ri.int_inv
    obtain ⟨v, rfl⟩ := rj.int_inv
    refine ⟨S l, t, some (a, u), some (b, v), rfl, rfl, rfl, ?_⟩
    have I₄ := I₃.inv.push { cls := .type "slice", data := .fields #[.int (a : Nat) u, .int (b : Nat) v, .none] }
    have s₄ := ((st.trans st₂).trans st₃).trans (Stp.keep (w := w) st₃.inh (Up.push h₃ { cls := .type "slice", data := .fields #[.int (a : Nat) u, .int (b : Nat) v, .none] }))
    have hp : slicePicked (S l) (some ((a : Int), u)) (some ((b : Int), v)) none = strSliceIndices (some (a : Int)) (some (b : Int)) 1 l.length := by
      unfold slicePicked; rw [S_len]; rfl
    unfold sliceMade
    rw [hp, pick_sub, S_len]
    split
    · rename_i hc
      have hlen : (strSliceIndices (some (a : Int)) (some (b : Int)) 1 l.length).length = l.length := by simpa using hc
      have : (l.take b).drop a = l := by
        by_cases hq : min b l.length < min a l.length
        · rw [clip_sub, empty_sub hq (by lia)] at hlen
          simp at hlen
          lia
        · rw [clip_sub, StrLaws.strSliceIndices_plain (by lia) (by lia)] at hlen
          simp at hlen
          rcases Nat.eq_zero_or_pos l.length with z | z
          · rw [List.length_eq_zero_iff.mp z]; simp
          · rw [show a = 0 by lia, List.take_of_length_le (by lia)]; rfl
      show Q _ _
      rw [this] at kk
      exact kk _ _ _ tk₃ s₄ ⟨I₄, I₃.pos⟩ (.str _ _)
    · refine ⟨?_, kk _ _ _ _ s₄ ⟨I₄, Nat.le_succ_of_le I₃.pos⟩ (.str _ _)⟩
      show (S ((l.take b).drop a)).length ≤ sizeLine
      rw [S_len, sizeLine_eq, List.length_drop, List.length_take]; lia) hg
/-- a method's call -/
theorem ev_meth {o : Expr} {name : Str} {apos pos : Pos} {es : List Expr} {dd : D} {ds : List D} {d : D} {T id : String} {n : Nat} (hA : AOk A n) (eo : Ev w A env ρ o dd) (el : EvL w A env ρ es ds) (c : Calls w (.builtin id) n (dd :: ds) d)
    (pa : PlainAttrs T) (slot : Slot T name id) (ty : typeOf (.builtin id) = pure (.type "method_descriptor"))
    (hT : ∀ B (s : Shared) v, Inv w s.heap → InH B s.heap → Rep B v dd → s.TypeIs v T ∧ ∀ a, v = .ref a → ∃ ob, s.heap.get? a = some ob ∧ ob.dict = none)
    (hne : es ≠ [] := by simp)
    (hb : attributeBase o name env (eval o env) = eval o env := by rfl)
    (hform : ∀ pos, methodCallForm (es.length + ([] : List Keyword).length) (backTo pos (starEach es env)) (backToKw pos (keywordEach [] env)) = true := by exact fun _ => rfl)
    (hpos : methodCallPos true o env apos pos = pure pos := by rfl)
    (hp : ∀ pos, (backTo pos (starEach es env)).any (·.1) = false := by exact fun _ => rfl)
    (he : ∀ pos, ∃ t r, backTo pos (starEach es env) = (false, t) :: r := by exact fun _ => ⟨_, _, rfl⟩) : Ev w A env ρ (.Call (.Attribute o name apos) es [] pos) d := .mk fun B h F s Q E hs k => by
  rw [arm_eval_Call, hb]
  refine wpAny_bind (eo.go B h F s _ E hs fun v B₁ h₁ tk st I r => wpAny_bind (wpAny_standAt ?_))
  obtain ⟨t1, t2⟩ := hT B₁ { s with heap := h₁, toks := tk } v I.inv st.inh r
  unfold methodCall
  rw [hform]
  refine wpAny_bind (wpAny_holding (getMethod_builtin t1 pa slot ty t2 ?_))
  refine wpAny_bind (wpAny_of_eq hpos ?_)
  exact does_callWith hA (keep_blt _ _) (F.step st I) hne (.cons r .nil) el c (hp pos) (he pos) _ Q E I.at fun v B₂ h₂ tk₂ st₂ I₂ q => k v B₂ h₂ tk₂ (st.trans st₂) I₂ q
theorem hT_str {x : Str} : ∀ B (s : Shared) v, Inv w s.heap → InH B s.heap → Rep B v (.str x) → s.TypeIs v "str" ∧ ∀ a, v = .ref a → ∃ ob, s.heap.get? a = some ob ∧ ob.dict = none := fun B s v _ _ r => by
  obtain ⟨t, rfl⟩ := r.str_inv
  exact ⟨typeIs_str _ _ _, fun a e => nomatch e⟩
theorem hT_int {x : Int} : ∀ B (s : Shared) v, Inv w s.heap → InH B s.heap → Rep B v (.int x) → s.TypeIs v "int" ∧ ∀ a, v = .ref a → ∃ ob, s.heap.get? a = some ob ∧ ob.dict = none := fun B s v _ _ r => by
  obtain ⟨t, rfl⟩ := r.int_inv
  exact ⟨typeIs_int _ _ _, fun a e => nomatch e⟩
noncomputable def strsD (l : List (List Nat)) : List D := l.map fun x => .str (S x)
theorem reps_strs {B : Fz} : ∀ {vs : List Value} {ls : List (List Nat)}, Reps B vs (strsD ls) → ∃ l : List (Str × Tok), vs = strValues l ∧ l.map (·.1) = ls.map S
  | [], [], _ => ⟨[], rfl, rfl⟩
  | v :: vs, m :: ns, r => by
    cases r with
    | cons a b =>
      obtain ⟨t, rfl⟩ := a.str_inv
      obtain ⟨l, rfl, hl⟩ := reps_strs b
      exact ⟨(S m, t) :: l, rfl, by simp [hl]⟩
  | _ :: _, [], r => by cases r
  | [], _ :: _, r => by cases r
theorem join_S (ls : List (List Nat)) : Txt.join (S []) (ls.map S) = S ls.flatten := by
  unfold Txt.join glued
  have key : ∀ (rest : List (List Nat)) (acc : Array Nat), (rest.map S).foldl (fun acc p => acc ++ (S []).cps ++ p.cps) acc = acc ++ rest.flatten.toArray := by
    intro rest
    induction rest with
    | nil => intro acc; simp
    | cons a r ih => intro acc; rw [List.map_cons, List.foldl_cons, ih]; simp [S]
  cases ls with
  | nil => rfl
  | cons a r =>
    show (⟨_⟩ : Str) = ⟨_⟩
    congr 1
    simp only [List.map_cons, List.drop_one, List.tail_cons, List.headD_cons]
    rw [key]
    simp [S]
theorem c_join {ls : List (List Nat)} {n : Nat} (h : ls.flatten.length ≤ 1000000) : Calls w (.builtin "str.join") n [.str (S []), .list (strsD ls)] (.str (S ls.flatten)) := .mk fun A B hp vs hA I i r0 => by
  obtain ⟨v, u, rfl, r, r'⟩ := r0.two
  obtain ⟨t, rfl⟩ := r.str_inv
  obtain ⟨a, ws, k, rfl, e1, e2, l, z, rs⟩ := r'.isL i
  obtain ⟨xl, h1, h2⟩ := reps_strs rs
  refine .same I i fun s Q E e _ k => ?_
  subst e
  have hl : s.heap.IsList a (strValues xl).toArray := by rw [← h1]; simpa using l
  refine SC.join hl h2 ?_ fun t' tk => k _ tk (join_S ls ▸ .str _ _)
  unfold JoinOk tooLong
  have : ∀ (l : List (List Nat)) (acc : Nat), (l.map S).foldl (fun n (s : Str) => n + s.length + (S []).length) acc = acc + l.flatten.length := by
    intro l
    induction l with
    | nil => intro acc; simp
    | cons a r ih => intro acc; rw [List.map_cons, List.foldl_cons, ih, S_len, S_len]; simp; lia
  rw [List.foldl_toArray, this]
  simp only [sizeLine]
  exact Bool.not_eq_true' _ ▸ decide_eq_false (by lia)
/-- the dict of K -/
theorem dct_K {h : Heap} (I : Inv w h) : ∃ f, h.MapOf (strKind pw w) 144 f ∧ ∀ x r, nsIn (K w.params) 144 x = some r → f x = r := by
  refine ⟨_, mapOf_K (prog := pw) (w := w) I.k (a := 144) rfl ?_, fun x r e => find_K rfl e⟩
  repeat (first | exact trivial | refine ⟨⟨_, _, rfl, rfl⟩, ?_⟩)
end
end Tn
end
section
-- TnM2
open PySem PySem.W PySem.Calls PySem.Spec PyProof.Rows
set_option maxRecDepth 100000
set_option linter.unusedVariables false
namespace Tn
section
variable {w : World} {A : Around} {env : Env} {ρ : Rho} {X X₁ X₂ : Boxes} {post : Post} {B0 B B' : Fz} {h0 h h' : Heap} {a : Addr} {ds ds' : List D}
theorem St.apartL (S : St w env B0 h0 X B h ρ) {vs : Array Value} {n : Nat} (e : h.get? a = some (listO vs n)) :
    env.locals ≠ a ∧ (∀ x c, env.kindOf x = some .cell → env.cells.lookup x = some c → c ≠ a) := by
  obtain ⟨l1, l2, m, o', es, ep, q, d, _⟩ := S.loc
  refine ⟨fun z => ?_, fun x c k l z => ?_⟩
  · rw [z, e] at q; cases q; cases d
  · obtain ⟨_, _, v, o', q, d⟩ := S.cel x c k l
    rw [z, e] at q; cases q; cases d
/-- a box changes -/
theorem St.change (S : St w env B0 h0 (X₁ ++ (a, ds) :: X₂) B h ρ) {vs : Array Value} {n : Nat} (sb : Heap.SameBut a h h') (e' : h'.get? a = some (listO vs n)) (r : Reps B vs.toList ds') : St w env B0 h0 (X₁ ++ (a, ds') :: X₂) B h' ρ := by
  obtain ⟨a1, a2, vs0, n0, e0, r0⟩ := S.box a ds (by simp)
  have k : ∀ b o, b ≠ a → h.get? b = some o → h'.get? b = some o := fun b o n e => (sb.2 b n).trans e
  obtain ⟨st, Iv⟩ := stp_but S.base.1 S.fm.inv S.stp a1 a2 e0 (safe_seq rfl) k
  have kn : ∀ {b : Addr} {m : Str → Option Value}, h.Ns b m → h'.Ns b m := fun x => let ⟨o', es, ep, q, d, r⟩ := x; ⟨o', es, ep, k _ _ (fun z => by rw [z, e0] at q; cases q; cases d) q, d, r⟩
  have kc : ∀ {c : Addr} {v : Option Value}, h.IsCell c v → h'.IsCell c v := fun x => let ⟨o', q, d⟩ := x; ⟨o', k _ _ (fun z => by rw [z, e0] at q; cases q; cases d) q, d⟩
  obtain ⟨l1, l2, m, l3⟩ := S.loc
  have nod : ∀ b dd, (b, dd) ∈ X₁ ∨ (b, dd) ∈ X₂ → b ≠ a := fun b dd hm z => by
    have p := S.boxes
    rw [List.pairwise_append, List.pairwise_cons] at p
    rcases hm with hm | hm
    · exact p.2.2 _ hm (a, ds) (by simp) z
    · exact p.2.1.1 _ hm z.symm
  refine ⟨S.base, st, ⟨Iv, st.inh, S.fm.kind, S.fm.glob, S.fm.blt, fun x d q => ?_⟩, ⟨l1, l2, m, kn l3⟩, fun x c q r => ?_, S.apart, fun b dd q => ?_, ?_⟩
  · obtain ⟨v, y, r, hb⟩ := S.fm.vars x d q
    refine ⟨v, ?_, r, hb⟩
    rcases y with ⟨a, m, b, c⟩ | ⟨a, n, c, b, dd⟩
    · exact .inl ⟨a, m, kn b, c⟩
    · exact .inr ⟨a, n, c, b, kc dd⟩
  · obtain ⟨a, b, v, c⟩ := S.cel x c q r
    exact ⟨a, b, v, kc c⟩
  · have other : (b, dd) ∈ X₁ ∨ (b, dd) ∈ X₂ → h0.get? b = none ∧ B b = none ∧ ∃ vs n, h'.get? b = some (listO vs n) ∧ Reps B vs.toList dd := fun hm => by
      obtain ⟨x1, x2, ws, m', x3, x4⟩ := S.box b dd (by rcases hm with q | q <;> simp [q])
      exact ⟨x1, x2, ws, m', k _ _ (nod b dd hm) x3, x4⟩
    rcases List.mem_append.mp q with q | q
    · exact other (.inl q)
    · rcases List.mem_cons.mp q with q | q
      · cases q; exact ⟨a1, a2, vs, n, e', r⟩
      · exact other (.inr q)
  · have p := S.boxes
    rw [List.pairwise_append, List.pairwise_cons] at p ⊢
    refine ⟨p.1, ⟨p.2.1.1, p.2.1.2⟩, fun x hx y hy => ?_⟩
    rcases List.mem_cons.mp hy with z | z
    · rw [z]; exact p.2.2 x hx (a, ds) (by simp)
    · exact p.2.2 x hx y (by simp [z])
/-- a box is let go: what stood for its address may be a list -/
theorem St.freeze (S : St w env B0 h0 (X₁ ++ (a, ds) :: X₂) B h ρ) : ∃ B', (∀ b o, B b = some o → B' b = some o) ∧ St w env B0 h0 (X₁ ++ X₂) B' h ρ ∧ Rep B' (.ref a) (.list ds) := by
  obtain ⟨a1, a2, vs0, n0, e0, r0⟩ := S.box a ds (by simp)
  obtain ⟨p1, p2⟩ := S.apartL e0
  have p := S.boxes
  rw [List.pairwise_append, List.pairwise_cons] at p
  have S' : St w env B0 h0 (X₁ ++ X₂) B h ρ := ⟨S.base, S.stp, S.fm, S.loc, S.cel, S.apart, fun b dd q => S.box b dd (by rcases List.mem_append.mp q with q | q <;> simp [q]),
    List.pairwise_append.mpr ⟨p.1, p.2.1.2, fun x hx y hy => p.2.2 x hx y (by simp [hy])⟩⟩
  have le : ∀ b o', B b = some o' → (B.put a (listO vs0 n0)) b = some o' := fun b o' q => (if_neg (fun z => by rw [z, a2] at q; cases q)).trans q
  refine ⟨B.put a (listO vs0 n0), le, S'.put a1 a2 e0 p1 p2 fun b dd q z => ?_, .list (Fz.put_self _ _ _) (r0.mono le)⟩
  rcases List.mem_append.mp q with q | q
  · exact p.2.2 _ q (a, ds) (by simp) z
  · exact p.2.1.1 _ q z.symm
/-- a new list becomes a box -/
theorem r1_new {x : Str} {p1 p2 : Pos} {e : Expr} (hx : Stores env x) (ee : EvN w A env ρ e ds) (p : ∀ a, post .next ((a, ds) :: X) ((x, .ref a) :: ρ)) (hn : okName x := by decide)
    (hs : swapsWith e (some (.Name x p1)) p2.line env = pure false := by rfl) : Run1 w A env (.Assign [.Name x p1] e p2) X ρ post := .mk fun B0 h0 B h S s E e => by
  refine wpAny_Assign_Name (ee.go B h S.fm s _ E e fun v B₁ h₁ tk st I ⟨r, vs, n, hv, q1, q2, q3, q4⟩ => ?_) hs
  subst hv
  have S₁ := S.ev st I
  have S₂ : St w env B0 h0 ((r, ds) :: X) B₁ h₁ ρ := ⟨S₁.base, S₁.stp, S₁.fm, S₁.loc, S₁.cel, S₁.apart, fun b dd q => by
    rcases List.mem_cons.mp q with q | q
    · cases q; exact ⟨S.stp.up.none _ q1, q2, vs, n, q3, q4⟩
    · exact S₁.box b dd q, List.pairwise_cons.mpr ⟨fun y hy z => (by
      obtain ⟨_, _, ws, m, x3, _⟩ := S.box y.1 y.2 hy
      have z : r = y.1 := z
      rw [← z, q1] at x3; cases x3), S₁.boxes⟩⟩
  exact S₂.store hx (.ref r) hn _ _ E I.at fun h₂ tk₂ S₃ _ I₂ _ => ⟨B₁, h₂, tk₂, _, _, .next, rfl, I₂.pos, st.le, S₃, trivial, p r⟩
/-- x.append(e) -/
theorem r1_append {x : Str} {p1 p2 p3 p4 : Pos} {e : Expr} {d : D} (hx : ρ.lookup x = some (.ref a)) (ee : Ev w A env ρ e d) (hz : ds.length ≤ 1000000) (p : post .next (X₁ ++ (a, ds ++ [d]) :: X₂) ρ)
    (hst : isStar e = false := by rfl) (hi : interactive env = false := by rfl)
    (hline : (p2.endLine == p3.line) = true := by rfl) : Run1 w A env (.Expr (.Call (.Attribute (.Name x p1) "append" p2) [e] [] p3) p4) (X₁ ++ (a, ds) :: X₂) ρ post := .mk fun B0 h0 B h S s E e' => by
  have hs : starEach [e] env = [(false, eval e env)] := star_cons hst
  refine wpAny_Expr (wpAny_Call_append rfl (by rw [hs]; rfl) hline (by rw [hs]; rfl) ((ev_name (w := w) (A := A) (env := env) (pos := p1) hx).go B h S.fm s _ E e' fun v B₁ h₁ tk st I r => ?_)) hi rfl
  rw [r.ref_inv]
  have S₁ := S.ev st I
  obtain ⟨a1, a2, vs0, n0, e0, r0⟩ := S₁.box a ds (by simp)
  refine ⟨a, vs0, rfl, ⟨_, _, e0, rfl, rfl, rfl⟩, ee.go B₁ h₁ S₁.fm _ _ E I.at fun y B₂ h₂ tk₂ st₂ I₂ ry => ?_⟩
  have S₂ := S₁.ev st₂ I₂
  obtain ⟨b1, b2, vs1, n1, e1, r1⟩ := S₂.box a ds (by simp)
  have hlen : vs1.size = ds.length := by have := r1.length; simpa using this
  refine wpAny_list_append_plain ⟨n1, e1⟩ (fun h₃ pl sb => ?_) (by rw [hlen, sizeLine_eq]; omega)
  obtain ⟨n3, pl⟩ := pl
  exact ⟨B₂, h₃, tk₂, _, _, .next, rfl, I₂.pos, (st.trans st₂).le, S₂.change sb pl (by rw [Array.toList_push]; exact r1.append (.cons ry .nil)), trivial, p⟩
/-- a variable's box is let go -/
theorem run_freeze {t : Sem Flow} {x : Str} (hx : ρ.lookup x = some (.ref a)) (r : RunT w A env t (X₁ ++ X₂) ((x, .list ds) :: ρ) post) : RunT w A env t (X₁ ++ (a, ds) :: X₂) ρ post := .mk fun B0 h0 B h S s E e => by
  obtain ⟨B', le, S', rp⟩ := S.freeze
  have S'' : St w env B0 h0 (X₁ ++ X₂) B' h ((x, .list ds) :: ρ) := ⟨S'.base, S'.stp, ⟨S'.fm.inv, S'.fm.inh, S'.fm.kind, S'.fm.glob, S'.fm.blt, fun y d q => by
    rw [List.lookup_cons] at q
    split at q
    · rename_i hb
      cases q
      rw [beq_iff_eq.mp hb]
      obtain ⟨v, y', r', hb'⟩ := S'.fm.vars x _ hx
      rw [r'.ref_inv] at y'
      exact ⟨_, y', rp, hb'⟩
    · exact S'.fm.vars y d q⟩, S'.loc, S'.cel, S'.apart, S'.box, S'.boxes⟩
  exact wpAny_mono (r.go B0 h0 B' h S'' s E e) (fun f s' ⟨B2, h', tk, X', ρ', fd, q1, q2, q3, q4⟩ => ⟨B2, h', tk, X', ρ', fd, q1, q2, fun b o z => q3 b o (le b o z), q4⟩) fun _ _ e => e
theorem evn_list {es : List Expr} {pos : Pos} (x : EvL w A env ρ es ds) (hz : ds.length ≤ 1000000) : EvN w A env ρ (.List es pos) ds := .mk fun B h F s Q E hs k =>
  List_ (x.go pos B h F s _ E hs fun vs B₁ h₁ tk st I r => by
    refine wpAny_newObj_type ?_ (by show vs.toArray.size ≤ sizeLine; rw [List.size_toArray, r.length, sizeLine_eq]; omega)
    dsimp only
    have n1 : h₁.get? h₁.objs.size = none := get_size _
    exact k _ B₁ _ tk (st.trans (Stp.keep (w := w) st.inh (Up.push h₁ _))) ⟨I.inv.push _, I.pos⟩ ⟨h₁.objs.size, vs.toArray, 0, rfl, st.up.none _ n1, inh_none st.inh n1, Heap.get?_push_size _ rfl, by simpa using r⟩)
end
end Tn
end
section
-- TnW3
open PySem PySem.W PySem.Calls PySem.Spec PyProof.Rows
set_option maxRecDepth 100000
set_option linter.unusedVariables false
namespace Tn
noncomputable def isC8 (c : Nat) : Bool := c8L.contains (c : Int)
noncomputable def isB1 (c : Nat) : Bool := b1L.contains (c : Int)
/-- the words that are read -/
noncomputable def rd : List Nat → List (List Nat)
  | [] => []
  | [c] => if isC8 c then [] else [[c]]
  | c :: d :: r => if isC8 c then rd (d :: r) else if (c == 45 && d == 62) || (c == 62 && d == 62) then [c, d] :: rd r else [c] :: rd (d :: r)
noncomputable def seenOf (sg : List Nat) : List Nat := sg.filter fun c => !isB1 c
noncomputable def charL : List Nat := [45, 62] ++ gapsL
theorem range_fm {α β : Type} (l : List α) (g : α → Option β) (out : Nat → Option β) (h : ∀ i a, l[i]? = some a → out i = g a) : (List.range l.length).filterMap out = l.filterMap g := by
  induction l generalizing out with
  | nil => rfl
  | cons a r ih =>
    rw [List.length_cons, List.range_succ_eq_map, List.filterMap_cons, List.filterMap_cons, h 0 a rfl, List.filterMap_map]
    have := ih (out ∘ Nat.succ) fun i b hb => h (i + 1) b (by simpa using hb)
    rw [this]
theorem flat_single {α : Type} : ∀ l : List α, (l.map fun c => [c]).flatten = l
  | [] => rfl
  | a :: r => by rw [List.map_cons, List.flatten_cons, flat_single r]; rfl
theorem Tests.cast {w A env ρ ifs b b'} (x : Tests w A env ρ ifs b) (h : b = b') : Tests w A env ρ ifs b' := h ▸ x
theorem EvT.cast {w A env ρ e b b'} (x : EvT w A env ρ e b) (h : b = b') : EvT w A env ρ e b' := h ▸ x
theorem rd_c8 {c : Nat} {r : List Nat} (h : isC8 c = true) : rd (c :: r) = rd r := by cases r <;> simp [rd, h]
theorem rd_pair {c d : Nat} {r : List Nat} (h : isC8 c = false) (q : ((c == 45 && d == 62) || (c == 62 && d == 62)) = true) : rd (c :: d :: r) = [c, d] :: rd r := by
  rw [rd, h, q]
  rfl
theorem rd_single {c d : Nat} {r : List Nat} (h : isC8 c = false) (q : ((c == 45 && d == 62) || (c == 62 && d == 62)) = false) : rd (c :: d :: r) = [c] :: rd (d :: r) := by
  rw [rd, h, q]
  rfl
theorem rd_last {c : Nat} (h : isC8 c = false) : rd [c] = [[c]] := by simp [rd, h]
theorem gaps_c8 : ∀ c ∈ gapsL, isC8 c = true := by decide
theorem c8_45 : isC8 45 = false := by decide
theorem c8_62 : isC8 62 = false := by decide
section
variable {w : World} {n : Nat} {A : Around}
theorem fn_read : fnK (K w.params) 165 164 (funD (o_165 w.params)) (stmBody (stm 65)) := ⟨o_165 _, o_164 _, _, _, rfl, rfl, rfl, rfl, rfl, rfl, rfl, rfl, rfl, rfl⟩
theorem op_in_dct {x : Str} {r : Option Value} (e : nsIn (K w.params) 144 x = some r) : OpC w A .In (.str x) (.ref 144) (.bool r.isSome) := .mk fun B h va vb I j rx ry => by
  obtain ⟨t, rfl⟩ := rx.str_inv
  rw [ry.ref_inv]
  obtain ⟨f, hm, hf⟩ := dct_K I
  refine .same I j fun s Q E es _ k => ?_
  subst es
  exact wpAny_in_of (strKind_is _ _ _ _) (by decide) hm (by rw [hf _ _ e]; exact k _ _ (.bool _))
theorem d_45 : nsIn (K w.params) 144 (S [45]) = some (some (.int 15 458)) := by kernel_rfl
theorem d_62 : nsIn (K w.params) 144 (S [62]) = some (some (.int 21 470)) := by kernel_rfl
theorem d_45_62 : nsIn (K w.params) 144 (S [45, 62]) = some (some (.int 51 530)) := by kernel_rfl
theorem d_62_62 : nsIn (K w.params) 144 (S [62, 62]) = some (some (.int 34 496)) := by kernel_rfl
theorem d_45_45 : nsIn (K w.params) 144 (S [45, 45]) = some none := by kernel_rfl
theorem d_45_832 : nsIn (K w.params) 144 (S [45, 832]) = some none := by kernel_rfl
theorem d_45_833 : nsIn (K w.params) 144 (S [45, 833]) = some none := by kernel_rfl
theorem d_45_8206 : nsIn (K w.params) 144 (S [45, 8206]) = some none := by kernel_rfl
theorem d_45_8207 : nsIn (K w.params) 144 (S [45, 8207]) = some none := by kernel_rfl
theorem d_45_8234 : nsIn (K w.params) 144 (S [45, 8234]) = some none := by kernel_rfl
theorem d_45_8238 : nsIn (K w.params) 144 (S [45, 8238]) = some none := by kernel_rfl
theorem d_45_8298 : nsIn (K w.params) 144 (S [45, 8298]) = some none := by kernel_rfl
theorem d_45_8303 : nsIn (K w.params) 144 (S [45, 8303]) = some none := by kernel_rfl
theorem d_62_45 : nsIn (K w.params) 144 (S [62, 45]) = some none := by kernel_rfl
theorem d_62_832 : nsIn (K w.params) 144 (S [62, 832]) = some none := by kernel_rfl
theorem d_62_833 : nsIn (K w.params) 144 (S [62, 833]) = some none := by kernel_rfl
theorem d_62_8206 : nsIn (K w.params) 144 (S [62, 8206]) = some none := by kernel_rfl
theorem d_62_8207 : nsIn (K w.params) 144 (S [62, 8207]) = some none := by kernel_rfl
theorem d_62_8234 : nsIn (K w.params) 144 (S [62, 8234]) = some none := by kernel_rfl
theorem d_62_8238 : nsIn (K w.params) 144 (S [62, 8238]) = some none := by kernel_rfl
theorem d_62_8298 : nsIn (K w.params) 144 (S [62, 8298]) = some none := by kernel_rfl
theorem d_62_8303 : nsIn (K w.params) 144 (S [62, 8303]) = some none := by kernel_rfl
theorem d_two {c d : Nat} (hc : c = 45 ∨ c = 62) (hd : d ∈ charL) : ∃ r, nsIn (K w.params) 144 (S [c, d]) = some r ∧ r.isSome = ((c == 45 && d == 62) || (c == 62 && d == 62)) := by
  simp only [charL, gapsL, List.cons_append, List.nil_append, List.mem_cons, List.not_mem_nil, or_false] at hd
  rcases hc with rfl | rfl <;> rcases hd with rfl | rfl | rfl | rfl | rfl | rfl | rfl | rfl | rfl | rfl
  · exact ⟨_, d_45_45, rfl⟩
  · exact ⟨_, d_45_62, rfl⟩
  · exact ⟨_, d_45_832, rfl⟩
  · exact ⟨_, d_45_833, rfl⟩
  · exact ⟨_, d_45_8206, rfl⟩
  · exact ⟨_, d_45_8207, rfl⟩
  · exact ⟨_, d_45_8234, rfl⟩
  · exact ⟨_, d_45_8238, rfl⟩
  · exact ⟨_, d_45_8298, rfl⟩
  · exact ⟨_, d_45_8303, rfl⟩
  · exact ⟨_, d_62_45, rfl⟩
  · exact ⟨_, d_62_62, rfl⟩
  · exact ⟨_, d_62_832, rfl⟩
  · exact ⟨_, d_62_833, rfl⟩
  · exact ⟨_, d_62_8206, rfl⟩
  · exact ⟨_, d_62_8207, rfl⟩
  · exact ⟨_, d_62_8234, rfl⟩
  · exact ⟨_, d_62_8238, rfl⟩
  · exact ⟨_, d_62_8298, rfl⟩
  · exact ⟨_, d_62_8303, rfl⟩
theorem d_one {c : Nat} (hc : c = 45 ∨ c = 62) : ∃ r, nsIn (K w.params) 144 (S [c]) = some r ∧ r.isSome = true := by
  rcases hc with rfl | rfl
  · exact ⟨_, d_45, rfl⟩
  · exact ⟨_, d_62, rfl⟩
theorem char_cases {c : Nat} (h : c ∈ charL) (h8 : isC8 c = false) : c = 45 ∨ c = 62 := by
  simp only [charL, List.cons_append, List.nil_append, List.mem_cons] at h
  rcases h with h | h | h
  · exact .inl h
  · exact .inr h
  · rw [gaps_c8 c h] at h8; cases h8
theorem rd_len : ∀ (l : List Nat), (rd l).length ≤ l.length
  | [] => Nat.le_refl _
  | [c] => by unfold rd; split <;> simp
  | c :: d :: r => by
    have h1 := rd_len (d :: r)
    have h2 := rd_len r
    unfold rd
    simp only [List.length_cons] at h1 ⊢
    split
    · lia
    · split <;> simp only [List.length_cons] <;> lia
theorem call_read {sg : List Nat} (hz : sg.length ≤ 1000) (hc : ∀ c ∈ seenOf sg, c ∈ charL) : Calls w (.ref 165) (n + 4) [.str (S sg)] (.list (strsD (rd (seenOf sg)))) := by
  have hsl : (seenOf sg).length ≤ sg.length := List.length_filter_le _ _
  refine calls_K (n := n + 3) (ps := ["signs"]) fn_read (by kernel_rfl) (by kernel_rfl) (by kernel_rfl) rfl (bind1 fun v => by kernel_rfl) fun A L hA => ?_
  conv in (stmBody _) => whnf
  have hcomp : (List.range (sg.map fun c => D.str (S [c])).length).filterMap (fun i => if isB1 (sg.getD i 0) then none else some (D.str (S [sg.getD i 0]))) = strsD ((seenOf sg).map fun c => [c]) := by
    rw [List.length_map, range_fm sg (fun c => if isB1 c then none else some (D.str (S [c]))) _ fun i a ha => by simp [List.getD, ha]]
    unfold seenOf strsD
    clear hz hc hsl
    induction sg with
    | nil => rfl
    | cons a r ih =>
      rw [List.filterMap_cons, ih, List.filter_cons]
      cases h : isB1 a <;> simp
  refine run_cons (r1_assign (d := .str (S (seenOf sg))) (.inl rfl) ((ev_meth hA (ev_S (l := [])) (evl_cons ((EvN.ev (ev_comp (fun i => if isB1 (sg.getD i 0) then none else some (D.str (S [sg.getD i 0]))) [] hA.hh (ev_name rfl) itb_str (by simp; lia) .nil (by kernel_rfl) ?_)).cast (congrArg D.list hcomp)) evl_nil)
    (c_join (by rw [flat_single]; lia)) PySem.F.plainAttrs_str PySem.F.slot_str_join PySem.F.type_str_join hT_str).cast ?_) ?_)
  · intro cenv ce i e he
    rw [List.getElem?_map] at he
    obtain ⟨c, hc', rfl⟩ : ∃ c, sg[i]? = some c ∧ D.str (S [c]) = e := by
      cases q : sg[i]? with
      | none => rw [q] at he; cases he
      | some c => rw [q] at he; cases he; exact ⟨c, rfl, rfl⟩
    have hg : sg.getD i 0 = c := by simp [List.getD, hc']
    rw [hg]
    cases hb : isB1 c
    · exact ⟨Tests.cast (b := !isB1 c) (tests_one (evT_not (evT_bool (ev_callG hA (call_b1 (n := n + 1)) (evl_cons (ev_name rfl) evl_nil) (ce.kind _ _ (by kernel_rfl) nofun)) fun _ => rfl))) (by rw [hb]; rfl), ev_name rfl⟩
    · exact Tests.cast (b := !isB1 c) (tests_one (evT_not (evT_bool (ev_callG hA (call_b1 (n := n + 1)) (evl_cons (ev_name rfl) evl_nil) (ce.kind _ _ (by kernel_rfl) nofun)) fun _ => rfl))) (by rw [hb]; rfl)
  · rw [flat_single]
  generalize hse : seenOf sg = se at *
  refine run_cons (r1_new (ds := []) (.inl rfl) (evn_list evl_nil (by simp)) fun a => ?_)
  refine run_cons (r1_assign (d := .int 0) (.inl rfl) ev_int ?_)
  refine run_cons (r1_while (fun m X ρ => ∃ p ws, X = [(a, strsD ws)] ∧ p ≤ se.length ∧ ws.length ≤ p ∧ ws ++ rd (se.drop p) = rd se ∧ m = se.length - p ∧ Sub [("seen", .str (S se)), ("words", .ref a), ("place", .int (p : Nat))] ρ) ?_ (se.length - 0)
    ⟨0, [], rfl, by lia, by simp, by simp, rfl, sub_cons rfl (sub_cons rfl (sub_cons rfl sub_nil))⟩)
  rintro m X' ρ' ⟨p, ws, rfl, hp, hw, hrd, rfl, hsub⟩
  have hse1 : se.length ≤ 1000 := by lia
  refine ⟨decide ((p : Int) < (se.length : Nat)), evT_cmp (ev_name (hsub _ _ rfl)) (ev_callB hA (c_len_str (by lia)) (evl_cons (ev_name (hsub _ _ rfl)) evl_nil)) rfl op_lt, fun h => ?_, fun h => ?_⟩
  · have h : (p : Int) < (se.length : Nat) := of_decide_eq_true h
    have hlt : p < se.length := by lia
    refine RunT.weak ?_ hsub
    have hdrop : se.drop p = se[p] :: se.drop (p + 1) := List.drop_eq_getElem_cons hlt
    have hget : se[p]? = some se[p] := List.getElem?_eq_getElem hlt
    have hmem : se[p] ∈ charL := hc _ (List.getElem_mem hlt)
    generalize hcc : se[p] = c at *
    have inv : ∀ (q : Nat) (ws' : List (List Nat)) (ρ : Rho), p < q → q ≤ se.length → ws'.length ≤ q → ws' ++ rd (se.drop q) = rd se → List.lookup (Str.ofString "seen") ρ = some (.str (S se)) → List.lookup (Str.ofString "words") ρ = some (.ref a) → List.lookup (Str.ofString "place") ρ = some (.int (q : Nat)) →
        ∃ m, m < se.length - p ∧ ∃ p ws, [(a, strsD ws')] = [(a, strsD ws)] ∧ p ≤ se.length ∧ ws.length ≤ p ∧ ws ++ rd (se.drop p) = rd se ∧ m = se.length - p ∧ Sub [("seen", .str (S se)), ("words", .ref a), ("place", .int (p : Nat))] ρ :=
      fun q ws' ρ h1 h2 h3 h4 h5 h6 h7 => ⟨se.length - q, by lia, q, ws', rfl, h2, h3, h4, rfl, sub_cons h5 (sub_cons h6 (sub_cons h7 sub_nil))⟩
    have e1 : ((p : Int) + 1) = ((p + 1 : Nat) : Int) := by lia
    have e2 : ((p : Int) + 2) = ((p + 2 : Nat) : Int) := by lia
    refine run_cons (r1_assign (d := .str (S ((se.take (p + 2)).drop p))) (.inl rfl) (ev_sslice (ev_name rfl) (ev_name rfl) ((ev_bin (ev_name rfl) ev_int op_add).cast (congrArg D.int e2)) (by lia)) ?_)
    refine run_cons (r1_if (evT_bool (ev_callG hA (call_c8 (n := n + 1)) (evl_cons (ev_sitem (c := c) (ev_name rfl) (ev_name rfl) (by lia) (by lia) (by simpa using hget)) evl_nil)) fun _ => rfl) (fun h8 => ?_) fun h8 => ?_)
    · refine run_cons (r1_aug (.inl rfl) rfl ev_int op_iadd ?_)
      refine run_nil (run_nil ?_)
      exact inv (p + 1) ws _ (by lia) (by lia) (by lia) (by rw [← hrd, hdrop, rd_c8 h8]) rfl rfl (congrArg (fun x => some (D.int x)) e1)
    have h8 : isC8 c = false := h8
    have hcc2 := char_cases hmem h8
    have single : ∀ (ρ : Rho), ws ++ [[c]] ++ rd (se.drop (p + 1)) = rd se → Sub [("seen", .str (S se)), ("words", .ref a), ("place", .int (p : Nat))] ρ → True := fun _ _ _ => trivial
    have hz1 : (strsD ws).length ≤ 1000000 := by simp [strsD]; lia
    have app : ∀ x : List Nat, strsD ws ++ [D.str (S x)] = strsD (ws ++ [x]) := fun x => by simp [strsD]
    by_cases hl1 : p + 1 < se.length
    · have hdrop2 : se.drop (p + 1) = se[p + 1] :: se.drop (p + 2) := List.drop_eq_getElem_cons hl1
      have hmem2 : se[p + 1] ∈ charL := hc _ (List.getElem_mem hl1)
      generalize hdd : se[p + 1] = d at *
      have hboth : (se.take (p + 2)).drop p = [c, d] := by
        rw [List.drop_take, hdrop, hdrop2, show p + 2 - p = 2 by lia]; rfl
      rw [hboth]
      obtain ⟨r, r1, r2⟩ := d_two (w := w) hcc2 hmem2
      refine run_cons (r1_if (evT_cmp (ev_name rfl) (ev_global rfl rfl) rfl (op_in_dct r1)) (fun hin => ?_) fun hin => ?_)
      · rw [r2] at hin
        refine run_cons (r1_append (X₁ := []) (X₂ := []) rfl (ev_name rfl) hz1 ?_)
        refine run_cons (r1_aug (.inl rfl) rfl (ev_callB hA (c_len_str (by simp)) (evl_cons (ev_name rfl) evl_nil)) op_iadd ?_)
        refine run_nil (run_nil (run_nil ?_))
        show ∃ m, _
        rw [List.nil_append, app]
        exact inv (p + 2) (ws ++ [[c, d]]) _ (by lia) (by lia) (by simp; lia) (by rw [← hrd, hdrop, hdrop2, rd_pair h8 hin]; simp) rfl rfl (congrArg (fun x => some (D.int x)) e2)
      · rw [r2] at hin
        refine run_cons (r1_append (X₁ := []) (X₂ := []) rfl (ev_sitem (c := c) (ev_name rfl) (ev_name rfl) (by lia) (by lia) (by simpa using hget)) hz1 ?_)
        refine run_cons (r1_aug (.inl rfl) rfl ev_int op_iadd ?_)
        refine run_nil (run_nil (run_nil ?_))
        show ∃ m, _
        rw [List.nil_append, app]
        exact inv (p + 1) (ws ++ [[c]]) _ (by lia) (by lia) (by simp; lia) (by rw [← hrd, hdrop, hdrop2, rd_single h8 hin]; simp) rfl rfl (congrArg (fun x => some (D.int x)) e1)
    · have hnil : se.drop (p + 1) = [] := List.drop_of_length_le (by lia)
      have hboth : (se.take (p + 2)).drop p = [c] := by
        rw [List.drop_take, hdrop, hnil, show p + 2 - p = 2 by lia]; rfl
      rw [hboth]
      obtain ⟨r, r1, r2⟩ := d_one (w := w) hcc2
      refine run_cons (r1_if (evT_cmp (ev_name rfl) (ev_global rfl rfl) rfl (op_in_dct r1)) (fun hin => ?_) fun hin => ?_)
      · refine run_cons (r1_append (X₁ := []) (X₂ := []) rfl (ev_name rfl) hz1 ?_)
        refine run_cons (r1_aug (.inl rfl) rfl (ev_callB hA (c_len_str (by simp)) (evl_cons (ev_name rfl) evl_nil)) op_iadd ?_)
        refine run_nil (run_nil (run_nil ?_))
        show ∃ m, _
        rw [List.nil_append, app]
        exact inv (p + 1) (ws ++ [[c]]) _ (by lia) (by lia) (by simp; lia) (by rw [← hrd, hdrop, hnil, rd_last h8]; simp [rd]) rfl rfl (congrArg (fun x => some (D.int x)) e1)
      · rw [r2] at hin; cases hin
  · have h : ¬ ((p : Int) < (se.length : Nat)) := of_decide_eq_false h
    have hpl : p = se.length := by lia
    refine RunT.weak ?_ hsub
    rw [hpl, List.drop_length] at hrd
    have hrd : ws = rd se := by simpa [rd] using hrd
    rw [hrd]
    refine run_freeze (X₁ := []) (X₂ := []) (x := "words") rfl ?_
    exact run_cons (r1_ret (ev_name rfl) rfl)
end
end Tn
end
section
-- TnP1
open PySem PySem.W PySem.Calls PySem.Spec PyProof.Rows
open Builtin Builtin.Str
set_option maxRecDepth 100000
set_option linter.unusedVariables false
namespace Tn
noncomputable def rp (a b c : Nat) : List Nat → List Nat
  | [] => []
  | [u] => [u]
  | u :: v :: r => if u == a && v == b then c :: rp a b c r else u :: rp a b c (v :: r)
noncomputable def PairAt (a b : Nat) (l : List Nat) (k : Nat) : Prop := (l.drop k).take 2 = [a, b]
theorem rp_none {a b c : Nat} : ∀ (l : List Nat), (∀ k, ¬ PairAt a b l k) → rp a b c l = l
  | [], _ => rfl
  | [u], _ => rfl
  | u :: v :: r, h => by
    rw [rp]
    have h0 := h 0
    have : ¬ ((u == a && v == b) = true) := fun q => by
      simp only [Bool.and_eq_true, beq_iff_eq] at q
      exact h0 (by unfold PairAt; simp [q.1, q.2])
    rw [if_neg this, rp_none (v :: r) fun k hk => h (k + 1) (by unfold PairAt at hk ⊢; simpa using hk)]
theorem rp_step {a b c : Nat} : ∀ (n : Nat) (l : List Nat), (∀ k, k < n → ¬ PairAt a b l k) → PairAt a b l n → rp a b c l = l.take n ++ c :: rp a b c (l.drop (n + 2))
  | 0, l, _, h => by
    unfold PairAt at h
    match l, h with
    | u :: v :: r, h =>
      simp at h
      rw [rp, h.1, h.2]
      simp
    | [u], h => simp at h
    | [], h => simp at h
  | n + 1, l, hn, h => by
    match l, hn, h with
    | u :: v :: r, hn, h =>
      rw [rp]
      have h0 := hn 0 (by lia)
      have : ¬ ((u == a && v == b) = true) := fun q => by
        simp only [Bool.and_eq_true, beq_iff_eq] at q
        exact h0 (by unfold PairAt; simp [q.1, q.2])
      rw [if_neg this, rp_step n (v :: r) (fun k hk hp => hn (k + 1) (by lia) (by unfold PairAt at hp ⊢; simpa using hp)) (by unfold PairAt at h ⊢; simpa using h)]
      simp
    | [u], _, h => unfold PairAt at h; simp at h
    | [], _, h => unfold PairAt at h; simp at h
theorem at_pair {x : List Nat} {a b k : Nat} : StrLaws.At (S x) (S [a, b]) (S x).length k ↔ PairAt a b x k := by
  unfold StrLaws.At PairAt
  rw [StrLaws.subAt_eq]
  have e1 : (S x).cps.toList = x := by simp [S]
  have e2 : (S [a, b]).cps.toList = [a, b] := by simp [S]
  rw [e1, e2, S_len, S_len]
  constructor
  · rintro ⟨_, h⟩
    simpa using h
  · intro h
    refine ⟨?_, by simpa using h⟩
    have := congrArg List.length h
    simp at this
    simp
    lia
theorem strSub_S (x : List Nat) (i j : Nat) : strSub (S x) i j = S ((x.drop i).take (j - i)) := by
  show (⟨_⟩ : Str) = ⟨_⟩
  congr 1
  apply Array.toList_inj.mp
  have := StrLaws.strSub_toList (S x) i j
  simpa [S] using this
theorem join_rp {x : List Nat} {a b c : Nat} : ∀ (cuts : List Nat) (s f : Nat), StrLaws.ChainG (S x) (S [a, b]) (S x).length s cuts f → (∀ k, f ≤ k → ¬ StrLaws.At (S x) (S [a, b]) (S x).length k) →
    Str.join (S [c]) (StrLaws.partsFrom (S x) 2 s cuts) = S (rp a b c (x.drop s))
  | [], s, f, h, hn => by
    have e : f = s := h
    subst e
    show strSub (S x) f (S x).length = _
    rw [strSub_S, S_len, List.take_of_length_le (by simp), rp_none _ fun k hk => hn (f + k) (by lia) (at_pair.mpr (by unfold PairAt at hk ⊢; simpa [List.drop_drop] using hk))]
  | q :: r, s, f, h, hn => by
    obtain ⟨h1, h2, h3, h4⟩ := h
    have ih := join_rp (c := c) r (q + 2) f h4 hn
    obtain ⟨p, t, e⟩ := StrLaws.partsFrom_ne (S x) 2 (q + 2) r
    show Str.join (S [c]) (strSub (S x) s q :: StrLaws.partsFrom (S x) 2 (q + 2) r) = _
    rw [e] at ih ⊢
    show strSub (S x) s q ++ S [c] ++ Str.join (S [c]) (p :: t) = _
    rw [ih, strSub_S, S_add, S_add]
    have h2' := at_pair.mp h2
    rw [rp_step (q - s) (x.drop s) (fun k hk hp => h3 (s + k) (by lia) (by lia) (at_pair.mpr (by unfold PairAt at hp ⊢; simpa [List.drop_drop] using hp)))
      (by unfold PairAt at h2' ⊢; rw [List.drop_drop, show s + (q - s) = q by lia]; exact h2')]
    rw [List.drop_drop, show s + (q - s + 2) = q + 2 by lia]
    simp
theorem replace_two (x : List Nat) (a b c : Nat) : Txt.replace (S x) (S [a, b]) (S [c]) = S (rp a b c x) := by
  obtain ⟨f, h, hn⟩ := StrLaws.occ_tight (S x) (S [a, b]) (by rw [S_len]; simp)
  have key := join_rp (c := c) _ 0 f h hn
  unfold Txt.replace
  have h10 : ((S [a, b]).length == 0) = false := rfl
  rw [h10, Bool.false_and, Bool.or_false]
  cases he : (occurrences (S x) (S [a, b]) 0 (S x).length ((S x).length + 1)).isEmpty
  · rw [if_neg Bool.false_ne_true, StrLaws.glued_eq_join, StrLaws.partsBetween_eq]
    exact key
  · rw [if_pos rfl]
    have hnil := List.isEmpty_iff.mp he
    rw [hnil] at key
    rw [show rp a b c x = rp a b c (x.drop 0) by simp, ← key]
    show S x = strSub (S x) 0 (S x).length
    rw [strSub_S, S_len]
    simp
theorem rp_len {a b c : Nat} : ∀ l : List Nat, (rp a b c l).length ≤ l.length
  | [] => Nat.le_refl _
  | [u] => Nat.le_refl _
  | u :: v :: r => by
    have h1 := rp_len (a := a) (b := b) (c := c) r
    have h2 := rp_len (a := a) (b := b) (c := c) (v :: r)
    rw [rp]
    split
    · simp only [List.length_cons] at h1 ⊢; lia
    · simp only [List.length_cons] at h2 ⊢; lia
end Tn
end
section
-- TnW4
open PySem PySem.W PySem.Calls PySem.Spec PyProof.Rows
set_option maxRecDepth 100000
set_option linter.unusedVariables false
namespace Tn
section
variable {w : World} {A : Around} {env : Env} {ρ : Rho} {n : Nat}
theorem FC.kind {fd : FuncData} (f : FC fd env) {x : Str} {k : NameKind} (h : fd.scope.names.lookup x = some k) : env.kindOf x = some k := by
  unfold Env.kindOf; rw [f.scope]; exact h
theorem FC.cst {fd : FuncData} (f : FC fd env) {x : Str} (h : fd.scope.names.lookup x = some .cell) : Stores env x := .inr ⟨f.kind h, f.cell x h⟩
theorem FC.lst {fd : FuncData} (f : FC fd env) {x : Str} (h : fd.scope.names.lookup x = some .local) : Stores env x := .inl (f.kind h)
/-- x.replace of two literals -/
theorem ev_replace {o : Expr} {apos p1 p2 pos : Pos} {i1 i2 : Str} {k1 k2 : Nat} {l : List Nat} {a b c : Nat} (h1 : i1 = S [a, b]) (h2 : i2 = S [c]) (hl : l.length ≤ 100000) (eo : Ev w A env ρ o (.str (S l)))
    (hb : attributeBase o "replace" env (eval o env) = eval o env := by rfl) (hpos : methodCallPos true o env apos pos = pure pos := by rfl) :
    Ev w A env ρ (.Call (.Attribute o "replace" apos) [.Constant (.str i1) k1 p1, .Constant (.str i2) k2 p2] [] pos) (.str (S (rp a b c l))) := .mk fun B h F => .of fun s Q E hs k => by
  subst h1; subst h2
  rw [arm_eval_Call, hb]
  refine wpAny_bind (eo.go B h F s _ E hs fun v B₁ h₁ tk st I r => wpAny_bind (wpAny_standAt ?_))
  obtain ⟨t, rfl⟩ := r.str_inv
  unfold methodCall
  refine wpAny_bind (wpAny_holding (getMethod_builtin (typeIs_str _ _ _) PySem.F.plainAttrs_str PySem.F.slot_str_replace PySem.F.type_str_replace (fun a e => nomatch e) ?_))
  refine wpAny_bind (wpAny_of_eq hpos ?_)
  refine callWith_of (P := fun h => Inv w h) rfl (fun h I => keep_blt w _ h I) ?_
  have y : wpAny (Md w) A (spliced (backTo pos (starEach [.Constant (.str (S [a, b])) k1 p1, .Constant (.str (S [c])) k2 p2] env)))
      (fun vs s₁ => Inv w s₁.heap ∧ wpAny (Md w) A (call (.builtin "str.replace") ([.str (S l) t] ++ vs)) Q E s₁) E { s with heap := h₁, toks := tk } := by
    refine wpAny_items_cons (wpAny_Constant_str (wpAny_items_cons (wpAny_Constant_str (wpAny_items_nil ⟨I.inv, ?_⟩)) (star_cons rfl))) (star_cons rfl)
    have hp := I.pos
    refine SC.replace (by show tk ≠ 0; omega) (by show tk + 1 ≠ 0; omega) (by show tk ≠ tk + 1; omega) ?_ ?_ fun t' tk' => ?_
    · cases q : (S [a, b] == S [c]) with
      | false => rfl
      | true => have := S_inj (eq_of_beq q); simp at this
    · rw [S_len, S_len]; simp; omega
    · exact k _ B₁ h₁ tk' st I.inv (replace_two l a b c ▸ .str _ _)
  obtain ⟨t0, r0, he⟩ : ∃ t r, backTo pos (starEach [.Constant (.str (S [a, b])) k1 p1, .Constant (.str (S [c])) k2 p2] env) = (false, t) :: r := ⟨_, _, rfl⟩
  show wpAny (Md w) A (evalArgs _ true (backTo pos (starEach [.Constant (.str (S [a, b])) k1 p1, .Constant (.str (S [c])) k2 p2] env)) _) _ E _
  rw [he] at y ⊢
  exact evalArgs_plain y
end
end Tn
end
section
-- TnW5
open PySem PySem.W PySem.Calls PySem.Spec PyProof.Rows
set_option maxRecDepth 100000
set_option linter.unusedVariables false
namespace Tn
/-- the dict of numbers -/
noncomputable def NumP (w : World) : Fz → Value → Prop := fun B v => ∃ (a : Addr) (o : Obj) (es : Array DictEntry) (ep : Nat) (f : Str → Option Value), v = .ref a ∧ B a = some o ∧ o.ExactDict ∧ o.data = .dict es ep ∧ PySem.KeysOf (strKind pw w) es ∧ (∀ k, findBy (strKind pw w).is es k = f k) ∧
  (∃ t, f (S [45]) = some (.int 15 t)) ∧ (∃ t, f (S [62]) = some (.int 21 t)) ∧ (∃ t, f (S [98]) = some (.int 34 t)) ∧ (∃ t, f (S [97]) = some (.int 51 t))
theorem numP_mono (w : World) : Mono (NumP w) := ⟨fun B B' v le ⟨a, o, es, ep, f, h1, h2, r⟩ => ⟨a, o, es, ep, f, h1, le _ _ h2, r⟩, fun B I o' v hI ⟨⟨vs, hd, _⟩, _⟩ ⟨a, o, es, ep, f, h1, h2, h3, h4, r⟩ =>
  ⟨a, o, es, ep, f, h1, (if_neg (fun z => by rw [z, hI] at h2; cases h2; rw [hd] at h4; cases h4)).trans h2, h3, h4, r⟩⟩
noncomputable def numD (w : World) : D := .prd (NumP w)
noncomputable def numOf (c : Nat) : Nat := if c = 45 then 15 else if c = 62 then 21 else if c = 98 then 34 else 51
section
variable {w : World} {A : Around} {env : Env} {ρ : Rho} {n : Nat}
/-- a tree that gives one value -/
noncomputable def Lit1 (w : World) (A : Around) (t : Sem Value) (v : Tok → Value) : Prop := ∀ (s : Shared) (Q : Value → Shared → Prop) (E : Value → Shared → Prop), (∀ k tk, Q (v k) { s with toks := tk }) → wpAny (Md w) A t Q E s
theorem evp4 {t1 t2 t3 t4 u1 u2 u3 u4 : Sem Value} {x1 x2 x3 x4 y1 y2 y3 y4 : Tok → Value} (a1 : Lit1 w A t1 x1) (a2 : Lit1 w A t2 x2) (a3 : Lit1 w A t3 x3) (a4 : Lit1 w A t4 x4)
    (b1 : Lit1 w A u1 y1) (b2 : Lit1 w A u2 y2) (b3 : Lit1 w A u3 y3) (b4 : Lit1 w A u4 y4) {s : Shared} {E : Value → Shared → Prop} {Q : List (Value × Value) → Shared → Prop}
    (h : ∀ k1 k2 k3 k4 l1 l2 l3 l4 tk, Q [(x1 k1, y1 l1), (x2 k2, y2 l2), (x3 k3, y3 l3), (x4 k4, y4 l4)] { s with toks := tk }) : wpAny (Md w) A (evalPairs [(t1, u1), (t2, u2), (t3, u3), (t4, u4)]) Q E s :=
  evalPairs_cons (a1 _ _ _ fun _ _ => b1 _ _ _ fun _ _ => evalPairs_cons (a2 _ _ _ fun _ _ => b2 _ _ _ fun _ _ => evalPairs_cons (a3 _ _ _ fun _ _ => b3 _ _ _ fun _ _ => evalPairs_cons (a4 _ _ _ fun _ _ => b4 _ _ _ fun _ _ => evalPairs_nil (h _ _ _ _ _ _ _ _ _)))))
theorem lit_str {x : Str} {k : Nat} {pos : Pos} : Lit1 w A (eval (.Constant (.str x) k pos) env) (.str x) := fun s Q E h => wpAny_Constant_str (h _ _)
theorem lit_int {x : Int} {k : Nat} {pos : Pos} : Lit1 w A (eval (.Constant (.int x) k pos) env) (.int x) := fun s Q E h => wpAny_Constant_int (h _ _)
theorem lit_std {t : Sem Value} {v : Tok → Value} {pos : Pos} (x : Lit1 w A t v) : Lit1 w A (do let r ← t; standAt pos; pure r) v := fun s Q E h => wpAny_bind (x _ _ _ fun k tk => wpAny_bind (wpAny_standAt (wpAny_pure (h k tk))))
theorem pairTrees4 {k1 k2 k3 k4 v1 v2 v3 v4 : Expr} {pos : Pos} : pairTrees [some k1, some k2, some k3, some k4] [v1, v2, v3, v4] env pos = [(eval k1 env, do let r ← eval v1 env; standAt pos; pure r), (eval k2 env, do let r ← eval v2 env; standAt pos; pure r), (eval k3 env, do let r ← eval v3 env; standAt pos; pure r), (eval k4 env, do let r ← eval v4 env; standAt pos; pure r)] := rfl
theorem ev_numbersG {k1 k2 k3 k4 v1 v2 v3 v4 : Expr} {x1 x2 x3 x4 : Str} {i1 i2 i3 i4 : Int} {p1 p2 p3 p4 q1 q2 q3 q4 pos : Pos} {c1 c2 c3 c4 l1 l2 l3 l4 : Nat}
    (hk1 : k1 = .Constant (.str x1) c1 p1) (hk2 : k2 = .Constant (.str x2) c2 p2) (hk3 : k3 = .Constant (.str x3) c3 p3) (hk4 : k4 = .Constant (.str x4) c4 p4)
    (hv1 : v1 = .Constant (.int i1) l1 q1) (hv2 : v2 = .Constant (.int i2) l2 q2) (hv3 : v3 = .Constant (.int i3) l3 q3) (hv4 : v4 = .Constant (.int i4) l4 q4)
    (hx : x1 = S [45] ∧ x2 = S [62] ∧ x3 = S [98] ∧ x4 = S [97]) (hi : i1 = 15 ∧ i2 = 21 ∧ i3 = 34 ∧ i4 = 51) :
    Ev w A env ρ (.Dict [some k1, some k2, some k3, some k4] [v1, v2, v3, v4] pos) (numD w) := .mk fun B h F => .of fun s Q E hs k => by
  have g1 : Lit1 w A (eval k1 env) (.str x1) := hk1 ▸ lit_str
  have g2 : Lit1 w A (eval k2 env) (.str x2) := hk2 ▸ lit_str
  have g3 : Lit1 w A (eval k3 env) (.str x3) := hk3 ▸ lit_str
  have g4 : Lit1 w A (eval k4 env) (.str x4) := hk4 ▸ lit_str
  have h1 : Lit1 w A (do let r ← eval v1 env; standAt pos; pure r) (.int i1) := lit_std (hv1 ▸ lit_int)
  have h2 : Lit1 w A (do let r ← eval v2 env; standAt pos; pure r) (.int i2) := lit_std (hv2 ▸ lit_int)
  have h3 : Lit1 w A (do let r ← eval v3 env; standAt pos; pure r) (.int i3) := lit_std (hv3 ▸ lit_int)
  have h4 : Lit1 w A (do let r ← eval v4 env; standAt pos; pure r) (.int i4) := lit_std (hv4 ▸ lit_int)
  obtain ⟨rfl, rfl, rfl, rfl⟩ := hx
  obtain ⟨rfl, rfl, rfl, rfl⟩ := hi
  obtain ⟨rfl, tp⟩ := hs
  refine wpAny_Dict_walk (knd := strKind pw w) rfl rfl (by simp) (by simp) ?_
  rw [pairTrees4]
  refine evp4 g1 g2 g3 g4 h1 h2 h3 h4 fun k1 k2 k3 k4 l1 l2 l3 l4 tk => ?_
  refine ⟨[(S [45], _), (S [62], _), (S [98], _), (S [97], _)], ⟨strKind_is _ _ _ _, rfl, strKind_is _ _ _ _, rfl, strKind_is _ _ _ _, rfl, strKind_is _ _ _ _, rfl, trivial⟩, Heap.DictOf.new _, fun h' hd sb => ?_⟩
  have hm : ∀ v1 v2 v3 v4 : Value, merged [] [(S [45], v1), (S [62], v2), (S [98], v3), (S [97], v4)] = [(S [45], v1), (S [62], v2), (S [98], v3), (S [97], v4)] := fun v1 v2 v3 v4 => by
    simp [merged, stored]
  rw [hm] at hd
  obtain ⟨o, es, ep, ho, hc, hdat, hk, hf⟩ := hd.mapOf
  have kp : ∀ b o, s.heap.get? b = some o → h'.get? b = some o := fun b o e => sb.extBut b o (fun z => by rw [z, get_size] at e; cases e) (Heap.get?_push_of_some _ e)
  exact k _ _ h' _ (Stp.put F.inv F.inh (.of_keeps kp) (get_size _) ho) (F.inv.of_keeps kp) (.prd (numP_mono w) ⟨_, o, es, ep, _, rfl, Fz.put_self _ _ _, hc, hdat, hk, hf, ⟨_, by simp [valueAt]; rfl⟩, ⟨_, by simp [valueAt]; rfl⟩, ⟨_, by simp [valueAt]; rfl⟩, ⟨_, by simp [valueAt]; rfl⟩⟩)
theorem ev_numbers {p1 p2 p3 p4 q1 q2 q3 q4 pos : Pos} {k1 k2 k3 k4 l1 l2 l3 l4 : Nat} :
    Ev w A env ρ (.Dict [some (.Constant (.str "-") k1 p1), some (.Constant (.str ">") k2 p2), some (.Constant (.str "b") k3 p3), some (.Constant (.str "a") k4 p4)]
      [.Constant (.int 15) l1 q1, .Constant (.int 21) l2 q2, .Constant (.int 34) l3 q3, .Constant (.int 51) l4 q4] pos) (numD w) :=
  ev_numbersG rfl rfl rfl rfl rfl rfl rfl rfl ⟨rfl, rfl, rfl, rfl⟩ ⟨rfl, rfl, rfl, rfl⟩
/-- numbers[sign] -/
theorem ev_numAt {x sl : Expr} {pos : Pos} {c : Nat} (hc : c = 45 ∨ c = 62 ∨ c = 98 ∨ c = 97) (ex : Ev w A env ρ x (numD w)) (es : Ev w A env ρ sl (.str (S [c]))) (hs : PlainSl sl := by exact fun _ _ => rfl) :
    Ev w A env ρ (.Subscript x sl pos) (.int (numOf c : Nat)) := .mk fun B h F => .of fun s Q E hh kk =>
  Subscript_ (ex.go B h F s _ E hh fun vo B₁ h₁ tk st I r => es.go B₁ h₁ (F.step st I) _ _ E I.at fun vi B₂ h₂ tk₂ st₂ I₂ ri => by
    obtain ⟨u, rfl⟩ := ri.str_inv
    obtain ⟨m, a, o, es', ep, f, h1, h2, h3, h4, h5, h6, f1, f2, f3, f4⟩ := (r.mono st₂.le).prd_inv
    subst h1
    have hm : h₂.MapOf (strKind pw w) a f := ⟨o, es', ep, (st₂.inh _ _ h2).1, h3, h4, h5, h6⟩
    have hv : ∃ t, f (S [c]) = some (.int (numOf c : Nat) t) := by
      rcases hc with rfl | rfl | rfl | rfl
      · exact f1
      · exact f2
      · exact f3
      · exact f4
    obtain ⟨t, hv⟩ := hv
    exact tail_any hm.typeIs slot_dict_getitem.lookup (wpAny_getItem_of (strKind_is _ _ _ _) hm hv (kk _ B₂ h₂ _ (st.trans st₂) I₂.inv (.int _ _))) (hs _ _))
end
end Tn
end
section
-- TnW6
open PySem PySem.W PySem.Calls PySem.Spec PyProof.Rows
set_option maxRecDepth 100000
set_option linter.unusedVariables false
namespace Tn
noncomputable def shortOf (pl : List Nat) : List Nat := rp 62 62 98 (rp 45 62 97 pl)
noncomputable def meantOf (pl : List Nat) : List Nat := ((shortOf pl).filter fun c => c != 124).map numOf
section
variable {w : World} {A : Around} {n : Nat}
theorem fn_meant : fnK (K w.params) 170 169 (funD (o_170 w.params)) (stmBody (stm 66)) := ⟨o_170 _, o_169 _, _, _, rfl, rfl, rfl, rfl, rfl, rfl, rfl, rfl, rfl, rfl⟩
theorem call_meant {pl : List Nat} (hz : pl.length ≤ 1000) (hc : ∀ c ∈ shortOf pl, c = 45 ∨ c = 62 ∨ c = 98 ∨ c = 97 ∨ c = 124) : Calls w (.ref 170) (n + 2) [.str (S pl)] (.list (intsD (meantOf pl))) := by
  have hs1 : (rp 45 62 97 pl).length ≤ pl.length := rp_len _
  have hs2 : (shortOf pl).length ≤ (rp 45 62 97 pl).length := rp_len _
  refine calls_KC (n := n + 1) (ps := ["plain"]) fn_meant (by kernel_rfl) (by kernel_rfl) rfl (bind1 fun v => by kernel_rfl) fun A env hA fc => ?_
  conv in (stmBody _) => whnf
  refine run_cons (r1_assign (d := numD w) (fc.cst (by kernel_rfl)) ev_numbers ?_)
  refine run_cons (r1_assign (d := .str (S (shortOf pl))) (fc.lst (by kernel_rfl)) (ev_replace rfl rfl (by lia) (ev_replace rfl rfl (by lia) (ev_name rfl))) ?_)
  have hcomp : (List.range ((shortOf pl).map fun c => D.str (S [c])).length).filterMap (fun i => if (shortOf pl).getD i 0 != 124 then some (D.int (numOf ((shortOf pl).getD i 0) : Nat)) else none) = intsD (meantOf pl) := by
    rw [List.length_map, range_fm (shortOf pl) (fun c => if c != 124 then some (D.int (numOf c : Nat)) else none) _ fun i a ha => by simp [List.getD, ha]]
    unfold meantOf intsD
    generalize shortOf pl = l
    induction l with
    | nil => rfl
    | cons a r ih =>
      rw [List.filterMap_cons, ih, List.filter_cons]
      cases h : a != 124 <;> simp
  refine run_cons (r1_ret ((EvN.ev (ev_comp (fun i => if (shortOf pl).getD i 0 != 124 then some (D.int (numOf ((shortOf pl).getD i 0) : Nat)) else none) [("numbers", numD w)] hA.hh (ev_name rfl) itb_str (by simp; lia)
    (.cons rfl (.inl (fc.kind (by kernel_rfl))) .nil) (by kernel_rfl) ?_)).cast (congrArg D.list hcomp)) rfl)
  intro cenv ce i e he
  rw [List.getElem?_map] at he
  obtain ⟨c, hc', rfl⟩ : ∃ c, (shortOf pl)[i]? = some c ∧ D.str (S [c]) = e := by
    cases q : (shortOf pl)[i]? with
    | none => rw [q] at he; cases he
    | some c => rw [q] at he; cases he; exact ⟨c, rfl, rfl⟩
  have hg : (shortOf pl).getD i 0 = c := by simp [List.getD, hc']
  rw [hg]
  have hcc := hc c (List.mem_of_getElem? hc')
  cases hb : c != 124
  · exact Tests.cast (b := c != 124) (tests_one (EvT.cast (evT_cmp (ev_name rfl) (ev_S (l := [124])) rfl op_sne) (by simp [bne]))) hb
  · refine ⟨Tests.cast (b := c != 124) (tests_one (EvT.cast (evT_cmp (ev_name rfl) (ev_S (l := [124])) rfl op_sne) (by simp [bne]))) hb, ev_numAt ?_ (ev_name rfl) (ev_name rfl)⟩
    have : c ≠ 124 := by simpa using hb
    lia
end
end Tn
end
section
-- TnT1
open PySem PySem.W PySem.Calls PySem.Spec PyProof.Rows
set_option maxRecDepth 100000
set_option linter.unusedVariables false
namespace Tn
/-- lists of one's own, not frozen -/
structure BxOk (h1 : Heap) (B : Fz) (h : Heap) (bx : Boxes) : Prop where
  box : ∀ a ds, (a, ds) ∈ bx → h1.get? a = none ∧ B a = none ∧ ∃ vs n, h.get? a = some (listO vs n) ∧ Reps B vs.toList ds
  nod : bx.Pairwise (fun x y => x.1 ≠ y.1)
theorem BxOk.keep {h1 h h' : Heap} {B : Fz} {bx : Boxes} (x : BxOk h1 B h bx) (k : ∀ b vs n, h.get? b = some (listO vs n) → (∃ ds, (b, ds) ∈ bx) → h'.get? b = some (listO vs n)) : BxOk h1 B h' bx :=
  ⟨fun a ds m => let ⟨p, q, vs, n, e, r⟩ := x.box a ds m; ⟨p, q, vs, n, k _ _ _ e ⟨ds, m⟩, r⟩, x.nod⟩
structure CSN (w : World) (cenv : Env) (B1 : Fz) (h1 : Heap) (I Dd C : Addr) (x : Str) (T : Nat → Heap → Prop) (i : Nat) (bx : Boxes) (B : Fz) (h : Heap) : Prop where
  stp : Stp B1 h1 B h
  inv : Inv w h
  oI : h1.get? I = none ∧ B I = none
  oD : h1.get? Dd = none ∧ B Dd = none
  oC : h1.get? C = none ∧ B C = none
  it : T i h
  acc : ∃ n, h.get? Dd = some (listO (bx.map fun p => Value.ref p.1).toArray n)
  notD : ∀ a ds, (a, ds) ∈ bx → a ≠ Dd
  bxs : BxOk h1 B h bx
  loc : ∃ m, h.Ns C m
section
variable {w : World} {A : Around} {cenv : Env} {B1 B B' : Fz} {h1 h h' : Heap} {I Dd C : Addr} {x : Str} {T : Nat → Heap → Prop} {i : Nat} {bx : Boxes} {es : List D} {ρf : Rho}
theorem CSN.ev (c : CSN w cenv B1 h1 I Dd C x T i bx B h) (I1 : Inv w h1) (IT : IterAt w A B1 I es T) (s : Stp B h B' h') (Iv : Inv w h') : CSN w cenv B1 h1 I Dd C x T i bx B' h' := by
  obtain ⟨oI, eI, _, soI⟩ := IT.obj _ _ c.it
  obtain ⟨n, eD⟩ := c.acc
  obtain ⟨m, nC⟩ := c.loc
  obtain ⟨oC, es', ep, eC, dC, rC⟩ := id nC
  have inB : ∀ a o, B1 a = some o → h.get? a = some o := fun a o q => (c.stp.inh a o (c.stp.le a o q)).1
  have st := c.stp.trans s
  refine ⟨st, Iv, ⟨c.oI.1, stp_none s c.oI.2 eI soI⟩, ⟨c.oD.1, stp_none s c.oD.2 eD (safe_seq rfl)⟩, ⟨c.oC.1, stp_none s c.oC.2 eC (safe_dict dC)⟩, ?_, ⟨n, s.up.keep _ _ (I1.fresh c.oD.1) eD⟩, c.notD, ⟨fun a ds q => ?_, c.bxs.nod⟩, ⟨m, ns_up c.inv s.up nC⟩⟩
  · exact IT.frame i h h' c.it inB (fun a o q => (st.inh a o (st.le a o q)).1) fun o q => s.up.keep _ _ (I1.fresh c.oI.1) q
  · obtain ⟨p1, p2, vs, k, p3, p4⟩ := c.bxs.box a ds q
    exact ⟨p1, stp_none s p2 p3 (safe_seq rfl), vs, k, s.up.keep _ _ (I1.fresh p1) p3, p4.mono s.le⟩
theorem CSN.turn (c : CSN w cenv B1 h1 I Dd C x T i bx B h) (I1 : Inv w h1) (IT : IterAt w A B1 I es T) (k : ∀ b o, b ≠ I → h.get? b = some o → h'.get? b = some o) {j : Nat} (t : T j h') : CSN w cenv B1 h1 I Dd C x T j bx B h' := by
  obtain ⟨oI, eI, ioI, soI⟩ := IT.obj _ _ c.it
  obtain ⟨⟨fs, fd, _⟩, _⟩ := ioI
  obtain ⟨n, eD⟩ := c.acc
  obtain ⟨m, oC, es', ep, eC, dC, rC⟩ := c.loc
  obtain ⟨st, Iv⟩ := stp_but I1 c.inv c.stp c.oI.1 c.oI.2 eI soI k
  exact ⟨st, Iv, c.oI, c.oD, c.oC, t, ⟨n, k _ _ (fun z => by rw [z, eI] at eD; cases eD; cases fd) eD⟩, c.notD, c.bxs.keep fun b vs n e _ => k _ _ (fun z => by rw [z, eI] at e; cases e; cases fd) e,
    ⟨m, oC, es', ep, k _ _ (fun z => by rw [z, eI] at eC; cases eC; rw [fd] at dC; cases dC) eC, dC, rC⟩⟩
/-- the list grows by a new list -/
theorem CSN.grow (c : CSN w cenv B1 h1 I Dd C x T i bx B h) (I1 : Inv w h1) (IT : IterAt w A B1 I es T) {r : Addr} {vs : Array Value} {k : Nat} {ds : List D} {n : Nat} (eD : h.get? Dd = some (listO (bx.map fun p => Value.ref p.1).toArray n))
    (r1 : h1.get? r = none) (r2 : B r = none) (r3 : h.get? r = some (listO vs k)) (r4 : Reps B vs.toList ds) (r5 : r ≠ Dd) (r6 : ∀ a ds, (a, ds) ∈ bx → a ≠ r)
    (sb : Heap.SameBut Dd h h') (pl : h'.PlainList Dd ((bx.map fun p => Value.ref p.1).toArray.push (.ref r))) : CSN w cenv B1 h1 I Dd C x T i (bx ++ [(r, ds)]) B h' := by
  have kp : ∀ b o, b ≠ Dd → h.get? b = some o → h'.get? b = some o := fun b o n e => (sb.2 b n).trans e
  obtain ⟨oI, eI, ioI, soI⟩ := IT.obj _ _ c.it
  obtain ⟨⟨fs, fd, _⟩, _⟩ := ioI
  obtain ⟨m, oC, es', ep, eC, dC, rC⟩ := c.loc
  obtain ⟨st, Iv⟩ := stp_but I1 c.inv c.stp c.oD.1 c.oD.2 eD (safe_seq rfl) kp
  obtain ⟨n', pl⟩ := pl
  refine ⟨st, Iv, c.oI, c.oD, c.oC, ?_, ⟨n', ?_⟩, fun a ds q => ?_, ⟨fun a ds' q => ?_, ?_⟩, ⟨m, oC, es', ep, kp _ _ (fun z => by rw [z, eD] at eC; cases eC; cases dC) eC, dC, rC⟩⟩
  · exact IT.frame i h h' c.it (fun a o q => (c.stp.inh a o (c.stp.le a o q)).1) (fun a o q => (st.inh a o (st.le a o q)).1) fun o q => kp _ _ (fun z => by rw [z, eD] at eI; cases eI; cases fd) q
  · rw [pl]; simp
  · rcases List.mem_append.mp q with q | q
    · exact c.notD a ds q
    · rw [List.mem_singleton] at q; cases q; exact r5
  · rcases List.mem_append.mp q with q | q
    · obtain ⟨p1, p2, ws, k', p3, p4⟩ := c.bxs.box a ds' q
      exact ⟨p1, p2, ws, k', kp _ _ (c.notD a ds' q) p3, p4⟩
    · rw [List.mem_singleton] at q; cases q; exact ⟨r1, r2, vs, k, kp _ _ r5 r3, r4⟩
  · rw [List.pairwise_append]
    exact ⟨c.bxs.nod, List.pairwise_singleton _ _, fun x hx y hy => by rw [List.mem_singleton] at hy; rw [hy]; exact r6 x.1 x.2 hx⟩
theorem CSN.store (c : CSN w cenv B1 h1 I Dd C x T i bx B h) (hl : cenv.kindOf x = some .local) (hC : cenv.locals = C) (hg : cenv.globals = mainGlobals) (hb : cenv.builtins = builtinsNs) (hk : cenv.scope.kind = .function) (I1 : Inv w h1) (IT : IterAt w A B1 I es T) (FR : Frees cenv B1 h1 x ρf) (hx : okName x) {v : Value} {d : D} (r : Rep B v d)
    (s : Shared) (Q : Unit → Shared → Prop) (E : Value → Shared → Prop) (at_ : At s h)
    (kk : ∀ h' tk, CSN w cenv B1 h1 I Dd C x T i bx B h' → Fm w cenv B h' ((x, d) :: ρf) → 1 ≤ tk → Q () { s with heap := h', toks := tk }) : wpAny (Md w) A (storeName cenv x v) Q E s := by
  obtain ⟨rfl, tp⟩ := at_
  obtain ⟨oI, eI, ioI, soI⟩ := IT.obj _ _ c.it
  obtain ⟨⟨fs, fd, _⟩, _⟩ := ioI
  obtain ⟨n, eD⟩ := c.acc
  obtain ⟨m, nC⟩ := c.loc
  obtain ⟨oC, es', ep, eC, dC, rC⟩ := id nC
  refine wpAny_storeName_local hl (hC.symm ▸ nC) (fun h' n' sb => ?_) (by rw [hk]; rfl)
  rw [hC] at n' sb
  have k : ∀ b o, b ≠ C → s.heap.get? b = some o → h'.get? b = some o := fun b o n e => (sb.2 b n).trans e
  obtain ⟨st, Iv⟩ := stp_but I1 c.inv c.stp c.oC.1 c.oC.2 eC (safe_dict dC) k
  refine kk h' _ ⟨st, Iv, c.oI, c.oD, c.oC, ?_, ⟨n, k _ _ (fun z => by rw [z, eC] at eD; cases eD; cases dC) eD⟩, c.notD, c.bxs.keep fun b vs n e _ => k _ _ (fun z => by rw [z, eC] at e; cases e; cases dC) e, ⟨_, n'⟩⟩ ⟨Iv, st.inh, hk, hg, hb, fun y dy ey => ?_⟩ (Nat.le_succ_of_le tp)
  · exact IT.frame i _ h' c.it (fun a o q => (c.stp.inh a o (c.stp.le a o q)).1) (fun a o q => (st.inh a o (st.le a o q)).1) fun o q => k _ _ (fun z => by rw [z, eC] at eI; cases eI; rw [fd] at dC; cases dC) q
  · by_cases hyx : y = x
    · subst hyx
      have : dy = d := by simpa using ey.symm
      subst this
      exact ⟨v, .inl ⟨hl, _, hC.symm ▸ n', by simp⟩, r, hx.2⟩
    · rw [List.lookup_cons, show (y == x) = false by simpa using hyx] at ey
      obtain ⟨u, cc, _, kd, lk, ic, ru, ok⟩ := FR y dy ey
      exact ⟨u, .inr ⟨kd, ok.1, cc, lk, cell_up I1 st.up ic⟩, ru.mono st.le, ok.2⟩
end

section
variable {w : World} {A : Around} {env : Env} {ρf : Rho}
theorem comp_coreN {elt iter : Expr} {x : Str} {px : Pos} {scope : Scope} {pos : Pos} {cl : List (Str × Addr)} {es : List D} {out : Nat → List D} {B1 : Fz} {h1 h2 : Heap} {I : Addr} {T : Nat → Heap → Prop} {RR : Value → Addr → Result → Shared → Prop}
    (hA : A.handled = none) (I1 : Inv w h1) (i1 : InH B1 h1) (IT : IterAt w A B1 I es T) (s2 : Stp B1 h1 B1 h2) (I2 : Inv w h2) (hI : h1.get? I = none) (t2 : T 0 h2) (hg : env.globals = mainGlobals) (hb : env.builtins = builtinsNs)
    (hkind : scope.kind = .function) (hx : scope.names.lookup x = some .local) (hn : okName x) (hz : es.length ≤ 1000000)
    (hfr : ∀ y d, ρf.lookup y = some d → ∃ v c, y ≠ x ∧ scope.names.lookup y = some .free ∧ (y, NameKind.cell) ∉ scope.names ∧ cl.lookup y = some c ∧ h1.IsCell c (some v) ∧ Rep B1 v d ∧ okName y)
    (turn : ∀ cenv, CE scope cenv → ∀ i e, es[i]? = some e → EvN w A cenv ((x, e) :: ρf) elt (out i))
    (s : Shared) (E : Value → Shared → Prop) (at_ : At s h2)
    (hRR : ∀ Dd C B' h' tk n m bx, Stp B1 h1 B' h' → Inv w h' → h1.get? Dd = none → B' Dd = none → h'.get? Dd = some (listO (bx.map fun p => Value.ref p.1).toArray n) → bx.map (·.2) = (List.range es.length).map out → (∀ a ds, (a, ds) ∈ bx → a ≠ Dd) → BxOk h1 B' h' bx →
      h1.get? C = none → B' C = none → h'.Ns C m → 1 ≤ tk → RR (.ref Dd) C (.ok .next) { s with heap := h', toks := tk }) :
    wpAny (Md w) A (newList []) (fun acc s₃ => wpAny (Md w) A (newFunctionEnv scope env.globals cl [] env.qual none .none (some env)) (fun cenv s₄ =>
      codeAny (Md w) A (.compStart (.ListComp elt [⟨.Name x px, iter, [], 0⟩] scope pos) 0 (.ref I) acc { cenv with scope := relabel scope env }) (RR acc cenv.locals) s₄) E s₃) E s := by
  obtain ⟨rfl, tp⟩ := at_
  refine wpAny_newObj_type (wpAny_compEnv ?_)
  dsimp only
  generalize hH3 : s.heap.push { cls := .type "list", dict := none, data := .seq ([] : List Value).toArray } = H3
  have hC : H3.objs.size = s.heap.objs.size + 1 := by rw [← hH3, Heap.size_push]
  generalize hH4 : H3.push { cls := .type "dict", data := .dict #[] } = H4
  have hS : H4.objs.size = H3.objs.size + 1 := by rw [← hH4, Heap.size_push]
  have k34 : ∀ b o, s.heap.get? b = some o → H3.get? b = some o := fun b o e => by rw [← hH3]; exact Heap.get?_push_of_some _ e
  have k45 : ∀ b o, H3.get? b = some o → (pushCells H4 scope.names).get? b = some o := fun b o e => pushCells_keeps _ _ _ _ (by rw [← hH4]; exact Heap.get?_push_of_some _ e)
  have k : ∀ b o, s.heap.get? b = some o → (pushCells H4 scope.names).get? b = some o := fun b o e => k45 _ _ (k34 _ _ e)
  have h1n : ∀ a, s.heap.objs.size ≤ a → h1.get? a = none := fun a ha => s2.up.none a (get_ge ha)
  have st : Stp B1 h1 B1 (pushCells H4 scope.names) := s2.trans (Stp.keep (w := w) s2.inh (.of_keeps k))
  have eD : (pushCells H4 scope.names).get? s.heap.objs.size = some (listO #[] 0) := k45 _ _ (by rw [← hH3]; exact Heap.get?_push_size _ rfl)
  have eC : (pushCells H4 scope.names).Ns H3.objs.size (fun _ => none) := by
    have := (Heap.Ns.new H3 (.type "dict")).keeps (pushCells_keeps scope.names _)
    rw [hH4] at this; exact this
  have e0 : ∀ names : List (Str × NameKind), names.map (relab env) = names.map fun (n, k) => if (k == NameKind.free && env.scope.kind == .function && env.kindOf n == some .cell) then (n, NameKind.cell) else (n, k) := fun _ => rfl
  have ce : CE scope { newEnv scope H3.objs.size env.globals (cellsFrom (H3.objs.size + 1) scope.names cl) env.qual none .none (some env) builtinsNs with scope := relabel scope env } :=
    ⟨fun y k h hk => relabel_kept hk h, fun y h => relabel_free h, hkind⟩
  have FR : Frees { newEnv scope H3.objs.size env.globals (cellsFrom (H3.objs.size + 1) scope.names cl) env.qual none .none (some env) builtinsNs with scope := relabel scope env } B1 h1 x ρf := fun y d ey => by
    obtain ⟨v, c, a1, a2, a3, a4, a5, a6, a7⟩ := hfr y d ey
    exact ⟨v, c, a1, (ce.free y a2).symm, (cells_other _ _ _ a3).trans a4, a5, a6, a7⟩
  generalize hce : ({ newEnv scope H3.objs.size env.globals (cellsFrom (H3.objs.size + 1) scope.names cl) env.qual none .none (some env) builtinsNs with scope := relabel scope env } : Env) = cenv at ce FR
  have hcl : cenv.locals = H3.objs.size := by rw [← hce]; rfl
  have hcg : cenv.globals = mainGlobals := by rw [← hce]; exact hg
  have hcb : cenv.builtins = builtinsNs := by rw [← hce]; exact hb
  have hlx := ce.kind x _ hx nofun
  have n3 := h1n H3.objs.size (by lia)
  have nD := h1n s.heap.objs.size (Nat.le_refl _)
  have c0 : CSN w cenv B1 h1 I s.heap.objs.size H3.objs.size x T 0 [] B1 (pushCells H4 scope.names) :=
    ⟨st, I2.of_keeps k, ⟨hI, inh_none i1 hI⟩, ⟨nD, inh_none i1 nD⟩, ⟨n3, inh_none i1 n3⟩, IT.frame 0 _ _ t2 (fun a o q => (s2.inh a o q).1) (fun a o q => (st.inh a o q).1) (fun o q => k _ _ q), ⟨0, eD⟩, fun _ _ m => (by cases m), ⟨fun _ _ m => (by cases m), .nil⟩, ⟨_, eC⟩⟩
  have loop : codeAny (Md w) A (.compLoop (.ListComp elt [⟨.Name x px, iter, [], 0⟩] scope pos) 0 (.ref I) (.ref s.heap.objs.size) cenv) (RR (.ref s.heap.objs.size) H3.objs.size) { s with heap := pushCells H4 scope.names } := by
    refine codeAny_compLoop_tests (fun n s' => ∃ i B' h' tk, n = es.length - i ∧ i ≤ es.length ∧ s' = { s with heap := h', toks := tk } ∧ 1 ≤ tk ∧ ∃ bx, bx.map (·.2) = (List.range i).map out ∧ CSN w cenv B1 h1 I s.heap.objs.size H3.objs.size x T i bx B' h')
      ?_ (es.length - 0) ⟨0, B1, _, s.toks, rfl, Nat.zero_le _, rfl, tp, [], rfl, c0⟩
    rintro n _ ⟨i, B', h', tk, rfl, hi, rfl, tp', bx, hbx, c⟩
    have inB : ∀ a o, B1 a = some o → h'.get? a = some o := fun a o q => (c.stp.inh a o (c.stp.le a o q)).1
    by_cases hlt : i < es.length
    · obtain ⟨e, he⟩ : ∃ d', es[i]? = some d' := ⟨es[i], List.getElem?_eq_getElem hlt⟩
      refine wpAny_mono (wpAny_toks_of (n := 1) tp' (IT.item i e _ (fun r s' => 1 ≤ s'.toks → _) _ he c.it inB fun v h₂ tk₂ rv t2' k2 tp₂ => ?_)) (fun a s' z => z.2 z.1) fun _ _ z => z.2
      dsimp only at tp₂ k2 ⊢
      have c2 := c.turn I1 IT k2 t2'
      refine wpAny_assign_Name (c2.store hlx hcl hcg hcb ce.fn I1 IT FR hn (rv.mono c.stp.le) _ _ _ ⟨rfl, tp₂⟩ fun h₃ tk₃ c3 F3 tp₃ => ?_)
      have tn := turn cenv ce i e he
      refine (tests_nil (w := w) (A := A)).go B' h₃ F3 _ _ _ ⟨rfl, tp₃⟩ fun ok B₄ h₄ tk₄ st₄ I₄ q => ?_
      subst q
      simp only [if_true]
      have c4 := c3.ev I1 IT st₄ I₄.inv
      refine tn.go B₄ h₄ (F3.step st₄ I₄) _ _ _ I₄.at fun y B₅ h₅ tk₅ st₅ I₅ ⟨r, vs, k, hy, r1, r2, r3, r4⟩ => ?_
      subst hy
      have c5 := c4.ev I1 IT st₅ I₅.inv
      obtain ⟨nn, eD5⟩ := c5.acc
      have hlen : bx.length = i := by have := congrArg List.length hbx; simpa using this
      refine wpAny_list_append_plain ⟨nn, eD5⟩ (fun h₆ pl sb => ?_) (by simp; rw [hlen, sizeLine_eq]; lia)
      refine ⟨_, by lia, i + 1, B₅, h₆, tk₅, rfl, hlt, rfl, I₅.pos, bx ++ [(r, out i)], ?_, ?_⟩
      · rw [List.map_append, hbx, List.range_succ, List.map_append]; rfl
      · refine c5.grow I1 IT eD5 (c4.stp.up.none _ r1) r2 r3 r4 (fun z => ?_) (fun a ds q z => ?_) sb pl
        · obtain ⟨n4, e4⟩ := c4.acc
          rw [← z, r1] at e4; cases e4
        · obtain ⟨_, _, ws, n4, e4, _⟩ := c4.bxs.box a ds q
          rw [z, r1] at e4; cases e4
    · have hie : i = es.length := by lia
      subst hie
      refine wpAny_mono (wpAny_toks_of (n := 1) tp' (IT.done _ (fun r s' => 1 ≤ s'.toks → _) _ c.it inB fun h₂ tk₂ k2 tp₂ => ?_)) (fun a s' z => z.2 z.1) fun _ _ z => z.2
      obtain ⟨oI, eI, ioI, soI⟩ := IT.obj _ _ c.it
      obtain ⟨⟨fs, fd, _⟩, _⟩ := ioI
      obtain ⟨n, eD⟩ := c.acc
      obtain ⟨m, oC, es', ep, eC, dC, rC⟩ := c.loc
      obtain ⟨st, Iv⟩ := stp_but I1 c.inv c.stp c.oI.1 c.oI.2 eI soI k2
      exact hRR _ _ B' h₂ tk₂ n m bx st Iv c.oD.1 c.oD.2 (k2 _ _ (fun z => by rw [z, eI] at eD; cases eD; cases fd) eD) hbx c.notD (c.bxs.keep fun b vs n e _ => k2 _ _ (fun z => by rw [z, eI] at e; cases e; cases fd) e) c.oC.1 c.oC.2
        ⟨oC, es', ep, k2 _ _ (fun z => by rw [z, eI] at eC; cases eC; rw [fd] at dC; cases dC) eC, dC, rC⟩ tp₂
  refine codeAny_compStart_list ?_ (IT.self 0 _ _ _ ?_ ?_)
  · exact loop
  · exact c0.it
  · exact loop
end
end Tn
end
section
-- TnT2
open PySem PySem.W PySem.Calls PySem.Spec PyProof.Rows
set_option maxRecDepth 100000
set_option linter.unusedVariables false
namespace Tn
section
variable {w : World} {A : Around} {env : Env} {B0 B B' : Fz} {h0 h h' : Heap} {X : Boxes} {ρ ρf : Rho} {post : Post}
/-- another frame's names change -/
theorem St.dict (S : St w env B0 h0 X B h ρ) {C : Addr} {o : Obj} {es ep} (h0C : h0.get? C = none) (BC : B C = none) (e : h.get? C = some o) (d : o.data = .dict es ep) (nl : env.locals ≠ C)
    (k : ∀ b o, b ≠ C → h.get? b = some o → h'.get? b = some o) : St w env B0 h0 X B h' ρ := by
  obtain ⟨st, Iv⟩ := stp_but S.base.1 S.fm.inv S.stp h0C BC e (safe_dict d) k
  have kc : ∀ {c : Addr} {v : Option Value}, h.IsCell c v → h'.IsCell c v := fun x => let ⟨o', q, dd⟩ := x; ⟨o', k _ _ (fun z => by rw [z, e] at q; cases q; rw [d] at dd; cases dd) q, dd⟩
  obtain ⟨l1, l2, m, l3⟩ := S.loc
  have kl : ∀ {m}, h.Ns env.locals m → h'.Ns env.locals m := fun x => let ⟨o', es', ep', q, dd, r⟩ := x; ⟨o', es', ep', k _ _ nl q, dd, r⟩
  refine ⟨S.base, st, ⟨Iv, st.inh, S.fm.kind, S.fm.glob, S.fm.blt, fun x d' q => ?_⟩, ⟨l1, l2, m, kl l3⟩, fun x c q r => ?_, S.apart, fun a ds q => ?_, S.boxes⟩
  · obtain ⟨v, y, r, hb⟩ := S.fm.vars x d' q
    refine ⟨v, ?_, r, hb⟩
    rcases y with ⟨a, m, b, c⟩ | ⟨a, n, c, b, dd⟩
    · exact .inl ⟨a, m, kl b, c⟩
    · exact .inr ⟨a, n, c, b, kc dd⟩
  · obtain ⟨a, b, v, c⟩ := S.cel x c q r
    exact ⟨a, b, v, kc c⟩
  · obtain ⟨a1, b, vs, n, c, dd⟩ := S.box a ds q
    exact ⟨a1, b, vs, n, k _ _ (fun z => by rw [z, e] at c; cases c; cases d) c, dd⟩
/-- y = [new list for x in ..] : each list is a box -/
theorem r1_compN {elt iter : Expr} {x y : Str} {px py : Pos} {scope : Scope} {pos spos : Pos} {d : D} {es : List D} (out : Nat → List D) (ρf : Rho)
    (hA : A.handled = none) (hy : env.kindOf y = some .local) (hn : okName y) (hsw : swapsWith (.ListComp elt [⟨.Name x px, iter, [], 0⟩] scope pos) (some (.Name y py)) spos.line env = pure true)
    (ei : Ev w A env ρ iter d) (it : Itb w A d es) (hz : es.length ≤ 1000000) (fr : Fre env ρ ρf) (ok : compOk scope x (ρf.map (·.1)) = true) (hx : scope.names.lookup x = some .local)
    (turn : ∀ cenv, CE scope cenv → ∀ i e, es[i]? = some e → EvN w A cenv ((x, e) :: ρf) elt (out i))
    (p : ∀ bx : Boxes, bx.map (·.2) = (List.range es.length).map out → post .next (bx ++ X) ((y, .list (bx.map fun p => .ref p.1)) :: ρ))
    (hs : ∀ x, foldedSetIterable iter env x = pure x := by intro _; rfl) :
    Run1 w A env (.Assign [.Name y py] (.ListComp elt [⟨.Name x px, iter, [], 0⟩] scope pos) spos) X ρ post := .mk fun B0 h0 B h S s E a => by
  unfold compOk at ok
  simp only [Bool.and_eq_true, Bool.not_eq_true', Bool.or_eq_true, beq_iff_eq] at ok
  obtain ⟨⟨⟨⟨⟨⟨o1, o2⟩, o3⟩, o4⟩, o5⟩, o6⟩, o7⟩ := ok
  obtain ⟨cl, hcl, hfr⟩ := fre_closure S.fm fr o4
  rw [exec_Assign_Name_used _ _ _ _ hsw]
  refine wpAny_bind (wpAny_standAt (wpAny_bind ?_))
  show wpAny _ A (do let _ ← comprehension (.ListComp elt [⟨.Name x px, iter, [], 0⟩] scope pos) scope env _ (newList []) false (eval iter env) (some (assign (.Name y py) env))) _ _ s
  refine wpAny_bind (wpAny_mono (wpAny_comprehension_free (use := some (assign (.Name y py) env)) (Q := fun _ s' => ∃ B' h' tk X' ρ' fd, s' = { s with heap := h', toks := tk } ∧ 1 ≤ tk ∧ (∀ a o, B a = some o → B' a = some o) ∧ St w env B0 h0 X' B' h' ρ' ∧ FlowAt B' .next fd ∧ post fd X' ρ')
    rfl hs hcl o1 (fun y m hl => ?_) (ei.go B h S.fm s _ E a fun xv B₁ h₁ tk₁ st₁ I₁ r₁ => it.go B₁ h₁ xv I₁.inv st₁.inh r₁ _ _ E I₁.at fun o T IT t0 hf => ?_)) (fun _ s' hq => wpAny_pure (wpAny_pure hq)) fun _ _ e => e)
  · have := List.all_eq_true.mp o3 _ m
    rw [hl] at this
    simpa using this
  refine comp_coreN hA I₁.inv st₁.inh (IT A hA) (Stp.keep (w := w) st₁.inh (Up.push h₁ o)) (I₁.inv.push o) (get_size h₁) t0 S.fm.glob S.fm.blt o1 hx ⟨o6, o7⟩ hz (fun y d e => ?_) turn _ E ⟨rfl, I₁.pos⟩ ?_
  · obtain ⟨v, c, p1, p2, p3, p4, p5, p6⟩ := hfr y d e
    obtain ⟨_, _, m⟩ := fr.get e
    have := List.all_eq_true.mp o5 _ m
    exact ⟨v, c, by simpa using this, p1, p2, p3, cell_up S.fm.inv st₁.up p4, p5.mono st₁.le, p6⟩
  · intro Dd C B' h' tk n m bx st I nD bD eD hbx notD bxo nC bC hC tp
    have S₁ := S.ev st₁ I₁
    have S₂ := S₁.ev st ⟨I, tp⟩
    obtain ⟨l1, l2, ml, l3⟩ := S₁.loc
    obtain ⟨ol, _, _, el, _⟩ := id l3
    have lD : env.locals ≠ Dd := fun z => by rw [z, nD] at el; cases el
    have lC : env.locals ≠ C := fun z => by rw [z, nC] at el; cases el
    have h0n : ∀ a, h₁.get? a = none → h0.get? a = none := fun a e => S₁.stp.up.none a e
    have S₃ : St w env B0 h0 (bx ++ X) B' h' ρ := ⟨S₂.base, S₂.stp, S₂.fm, S₂.loc, S₂.cel, S₂.apart, fun a ds q => by
      rcases List.mem_append.mp q with q | q
      · obtain ⟨p1, p2, p3⟩ := bxo.box a ds q
        exact ⟨h0n a p1, p2, p3⟩
      · exact S₂.box a ds q, List.pairwise_append.mpr ⟨bxo.nod, S₂.boxes, fun x hx y hy z => by
      obtain ⟨p1, _⟩ := bxo.box x.1 x.2 hx
      obtain ⟨_, _, vs, k, e, _⟩ := S₁.box y.1 y.2 hy
      rw [z, e] at p1; cases p1⟩⟩
    have S₄ := S₃.put (h0n _ nD) bD eD lD (fun x c q r z => by
      obtain ⟨_, _, v, oc, ec, _⟩ := S₁.cel x c q r
      rw [z, nD] at ec; cases ec) (fun a ds q z => by
      rcases List.mem_append.mp q with q | q
      · exact notD a ds q z
      · obtain ⟨_, _, vs, k, e, _⟩ := S₁.box a ds q
        rw [z, nD] at e; cases e)
    have hDC : Dd ≠ C := fun z => by
      obtain ⟨oC, _, _, eC, dC, _⟩ := hC
      rw [z, eC] at eD; cases eD; cases dC
    have rD : Rep (B'.put Dd (listO (bx.map fun p => Value.ref p.1).toArray n)) (.ref Dd) (.list (bx.map fun p => .ref p.1)) := .list (Fz.put_self _ _ _) (by
      clear hbx notD bxo S₃ S₄ eD
      rw [List.toList_toArray]
      have : ∀ (B : Fz) (l : Boxes), Reps B (l.map fun p => Value.ref p.1) (l.map fun p => D.ref p.1) := fun B l => by
        induction l with
        | nil => exact .nil
        | cons a r ih => exact .cons (.ref _) ih
      exact this _ _)
    show wpAny _ A (assign (.Name y py) env (.ref Dd)) _ _ _
    refine wpAny_assign_Name (S₄.store (.inl hy) rD hn _ _ _ ⟨rfl, tp⟩ fun h₅ tk₅ S₅ st₅ I₅ kp₅ => ?_)
    have hbc : (B'.put Dd (listO (bx.map fun p => Value.ref p.1).toArray n)) C = none := (if_neg (fun z => hDC z.symm)).trans bC
    obtain ⟨oC, esC, epC, eC, dC, rC⟩ := id hC
    have eC5 : h₅.get? C = some oC := kp₅ C oC lC.symm (fun x c q r z => by
      obtain ⟨_, _, v, oc, ec, _⟩ := S₁.cel x c q r
      rw [← z, nC] at ec; cases ec) eC
    refine ⟨m, ⟨oC, esC, epC, eC5, dC, rC⟩, fun h₆ sb₆ => ?_⟩
    have S₆ := S₅.dict (h0n _ nC) hbc eC5 dC lC fun b o n e => (sb₆.2 b n).trans e
    exact ⟨_, h₆, tk₅, _, _, .next, rfl, I₅.pos, fun b o q => (if_neg (fun z => by rw [z] at q; rw [st.le _ _ (st₁.le _ _ q)] at bD; cases bD)).trans (st.le _ _ (st₁.le _ _ q)), S₆, trivial, p bx hbx⟩
end
end Tn
end
section
-- TnT3
open PySem PySem.W PySem.Calls PySem.Spec PyProof.Rows
set_option maxRecDepth 100000
set_option linter.unusedVariables false
namespace Tn
/-- the store with the boxes frozen -/
noncomputable def frzB (X : Boxes) (B : Fz) (h : Heap) : Fz := fun b => if X.any (fun p => p.1 == b) then h.get? b else B b
noncomputable def thwB (X : Boxes) (B : Fz) : Fz := fun b => if X.any (fun p => p.1 == b) then none else B b
theorem any_box {X : Boxes} {b : Addr} : X.any (fun p => p.1 == b) = true ↔ ∃ ds, (b, ds) ∈ X := by
  rw [List.any_eq_true]
  constructor
  · rintro ⟨⟨a, ds⟩, m, q⟩
    have : a = b := by simpa using q
    exact ⟨ds, this ▸ m⟩
  · rintro ⟨ds, m⟩
    exact ⟨_, m, by simp⟩
/-- what a datum is while the boxes are frozen -/
inductive FzD (X : Boxes) : D → D → Prop
  | same (d : D) : FzD X d d
  | box {a : Addr} {ds : List D} : (a, ds) ∈ X → FzD X (.ref a) (.list ds)
  | rows {bx : Boxes} : (∀ p ∈ bx, p ∈ X) → FzD X (.list (bx.map fun p => .ref p.1)) (.list (bx.map fun p => .list p.2))
section
variable {w : World} {A : Around} {env : Env} {B0 B B' : Fz} {h0 h h' : Heap} {X X₁ X₂ : Boxes} {ρ ρ' : Rho} {post : Post}
theorem St.frz_le (S : St w env B0 h0 X B h ρ) : ∀ b o, B b = some o → frzB X B h b = some o := fun b o e => by
  unfold frzB
  split
  · exact (S.stp.inh b o e).1
  · exact e
theorem St.frz_inh (S : St w env B0 h0 X B h ρ) : InH (frzB X B h) h := fun b o e => by
  unfold frzB at e
  split at e
  · rename_i hb
    obtain ⟨ds, m⟩ := any_box.mp hb
    exact ⟨e, S.base.1.fresh (S.box b ds m).1⟩
  · exact S.stp.inh b o e
theorem St.frz_box (S : St w env B0 h0 X B h ρ) {a : Addr} {ds : List D} (m : (a, ds) ∈ X) : Rep (frzB X B h) (.ref a) (.list ds) := by
  obtain ⟨_, _, vs, n, e, r⟩ := S.box a ds m
  refine .list (n := n) ?_ (r.mono S.frz_le)
  unfold frzB
  rw [if_pos (any_box.mpr ⟨ds, m⟩)]; exact e
theorem St.frz_rows (S : St w env B0 h0 X B h ρ) : ∀ (bx : Boxes) (l : List Value), (∀ p ∈ bx, p ∈ X) → Reps B l (bx.map fun p => .ref p.1) → Reps (frzB X B h) l (bx.map fun p => .list p.2)
  | [], l, _, r => by cases r; exact .nil
  | p :: bx, l, hb, r => by
    cases r with
    | cons x y =>
      rw [x.ref_inv]
      exact .cons (S.frz_box (hb p (by simp))) (S.frz_rows bx _ (fun q m => hb q (by simp [m])) y)
theorem St.frz_rep (S : St w env B0 h0 X B h ρ) {v : Value} {d d' : D} (r : Rep B v d) (f : FzD X d d') : Rep (frzB X B h) v d' := by
  cases f with
  | same => exact r.mono S.frz_le
  | box m => rw [r.ref_inv]; exact S.frz_box m
  | rows hb =>
    cases r with
    | list e rs => exact .list (S.frz_le _ _ e) (S.frz_rows _ _ hb rs)
theorem St.frz_fm (S : St w env B0 h0 X B h ρ) (hρ : ∀ x d', ρ'.lookup x = some d' → ∃ d, ρ.lookup x = some d ∧ FzD X d d') : Fm w env (frzB X B h) h ρ' :=
  ⟨S.fm.inv, S.frz_inh, S.fm.kind, S.fm.glob, S.fm.blt, fun x d' e => by
    obtain ⟨d, e', f⟩ := hρ x d' e
    obtain ⟨v, y, r, hb⟩ := S.fm.vars x d e'
    exact ⟨v, y, S.frz_rep r f, hb⟩⟩
theorem St.thaw (S : St w env B0 h0 X B h ρ) (s : Stp (frzB X B h) h B' h') {tk : Nat} (I : InvT w h' tk) : St w env B0 h0 X (thwB X B') h' ρ ∧ ∀ b o, B b = some o → thwB X B' b = some o := by
  have nb : ∀ {b o}, B b = some o → ¬ (X.any (fun p => p.1 == b) = true) := fun {b o} e q => by
    obtain ⟨ds, m⟩ := any_box.mp q
    rw [(S.box b ds m).2.1] at e; cases e
  have le : ∀ b o, B b = some o → thwB X B' b = some o := fun b o e => by
    unfold thwB
    rw [if_neg (nb e)]
    exact s.le b o (S.frz_le b o e)
  have sub : ∀ b o, thwB X B' b = some o → B' b = some o ∧ ¬ (X.any (fun p => p.1 == b) = true) := fun b o e => by
    unfold thwB at e
    split at e
    · cases e
    · rename_i q; exact ⟨e, q⟩
  have fr : ∀ b o, thwB X B' b = some o → B b = some o ∨ h.get? b = none ∨ (h.get? b = some o ∧ IsCd o) := fun b o e => by
    obtain ⟨e', q⟩ := sub b o e
    rcases s.fresh b o e' with z | z
    · unfold frzB at z
      rw [if_neg q] at z
      exact .inl z
    · exact .inr z
  have st : Stp B h (thwB X B') h' := ⟨s.up, le, fun b o e => s.inh b o (sub b o e).1, fr⟩
  exact ⟨S.ev st I, le⟩
/-- an int is worked out while the boxes are frozen -/
theorem St.evZ (S : St w env B0 h0 X B h ρ) {e : Expr} {k : Int} (hρ : ∀ x d', ρ'.lookup x = some d' → ∃ d, ρ.lookup x = some d ∧ FzD X d d') (ev : Ev w A env ρ' e (.int k))
    (s : Shared) (Q : Value → Shared → Prop) (E : Value → Shared → Prop) (at_ : At s h) (kk : ∀ t B' h' tk, St w env B0 h0 X B' h' ρ → (∀ b o, B b = some o → B' b = some o) → InvT w h' tk → Q (.int k t) { s with heap := h', toks := tk }) :
    wpAny (Md w) A (eval e env) Q E s :=
  ev.go _ h (S.frz_fm hρ) s Q E at_ fun v B' h' tk st I r => by
    obtain ⟨t, rfl⟩ := r.int_inv
    obtain ⟨S', le⟩ := S.thaw st I
    exact kk t _ h' tk S' le I
/-- all boxes are let go -/
theorem run_frz {t : Sem Flow} (hρ : ∀ x d', ρ'.lookup x = some d' → ∃ d, ρ.lookup x = some d ∧ FzD X d d') (r : RunT w A env t [] ρ' post) : RunT w A env t X ρ post := .mk fun B0 h0 B h S s E e => by
  have key : ∀ {a : Addr} {o : Obj}, h.get? a = some o → (∀ vs n, o ≠ listO vs n) → B a = none → frzB X B h a = none := fun {a o} e n hb => by
    unfold frzB
    split
    · rename_i q
      obtain ⟨ds, m⟩ := any_box.mp q
      obtain ⟨_, _, vs, k, e', _⟩ := S.box a ds m
      rw [e] at e'; cases e'
      exact absurd rfl (n vs k)
    · exact hb
  obtain ⟨l1, l2, m, o', es, ep, q, d, r'⟩ := S.loc
  have fm := S.frz_fm hρ
  have S' : St w env B0 h0 [] (frzB X B h) h ρ' := ⟨S.base, ⟨S.stp.up, fun a o q => S.frz_le a o (S.stp.le a o q), S.frz_inh, fun a o q => by
      unfold frzB at q
      split at q
      · rename_i hb
        obtain ⟨ds, m⟩ := any_box.mp hb
        exact .inr (.inl (S.box a ds m).1)
      · exact S.stp.fresh a o q⟩, fm, ⟨l1, key q (fun vs n z => by rw [z] at d; cases d) l2, m, o', es, ep, q, d, r'⟩, fun x c k l => by
    obtain ⟨a, b, v, oc, ec, dc⟩ := S.cel x c k l
    exact ⟨a, key ec (fun vs n z => by rw [z] at dc; cases dc) b, v, oc, ec, dc⟩, S.apart, fun _ _ m => (by cases m), .nil⟩
  exact wpAny_mono (r.go B0 h0 _ h S' s E e) (fun f s' ⟨B2, h', tk, X', ρ', fd, q1, q2, q3, q4⟩ => ⟨B2, h', tk, X', ρ', fd, q1, q2, fun b o z => q3 b o (S.frz_le b o z), q4⟩) fun _ _ e => e
/-- o[i] = value, o a box, the value an int -/
theorem r1_setZ {o ix value : Expr} {p1 p2 : Pos} {a : Addr} {ds : List D} {i v : Int} (hρ : ∀ x d', ρ'.lookup x = some d' → ∃ d, ρ.lookup x = some d ∧ FzD (X₁ ++ (a, ds) :: X₂) d d')
    (ev : Ev w A env ρ' value (.int v)) (eo : Ev w A env ρ o (.ref a)) (ei : Ev w A env ρ ix (.int i)) (h0' : 0 ≤ i) (h1 : i < ds.length) (hz : ds.length ≤ 1000000) (p : post .next (X₁ ++ (a, ds.set i.toNat (.int v)) :: X₂) ρ)
    (hs : swapsWith value (some (.Subscript o ix p1)) p2.line env = pure false := by rfl) : Run1 w A env (.Assign [.Subscript o ix p1] value p2) (X₁ ++ (a, ds) :: X₂) ρ post := .mk fun B0 h0 B h S s E e => by
  refine wpAny_Assign_Subscript (S.evZ hρ ev s _ E e fun t B₁ h₁ tk₁ S₁ le₁ I₁ => eo.go B₁ h₁ S₁.fm _ _ E I₁.at fun vo B₂ h₂ tk₂ st₂ I₂ ro => ei.go B₂ h₂ (S₁.fm.step st₂ I₂) _ _ E I₂.at fun vi B₃ h₃ tk₃ st₃ I₃ ri => ?_) hs
  rw [ro.ref_inv]
  obtain ⟨u, rfl⟩ := ri.int_inv
  have S₃ := (S₁.ev st₂ I₂).ev st₃ I₃
  obtain ⟨b1, b2, vs, n, e3, r3⟩ := S₃.box a ds (by simp)
  have hlen : vs.size = ds.length := by have := r3.length; simpa using this
  refine ki_setAt e3 h0' (by omega) (by rw [hlen]; exact h1) ?_
  have em : ∃ m, Obj.mapSeq (·.setIfInBounds i.toNat (.int v t)) (listO vs n) = listO (vs.setIfInBounds i.toNat (.int v t)) m := by
    unfold Obj.mapSeq
    exact ⟨_, rfl⟩
  obtain ⟨m, em⟩ := em
  have e4 := Heap.get?_update_self (Obj.mapSeq (·.setIfInBounds i.toNat (.int v t))) e3 (by rw [em]; rfl)
  rw [em] at e4
  refine ⟨B₃, _, tk₃, _, ρ, .next, rfl, I₃.pos, fun b o q => st₃.le b o (st₂.le b o (le₁ b o q)), S₃.change (Heap.SameBut.update ..) e4 ?_, trivial, p⟩
  rw [Array.toList_setIfInBounds]
  generalize vs.toList = l at r3
  have : ∀ {l : List Value} {ds : List D} (k : Nat), Reps B₃ l ds → Reps B₃ (l.set k (.int v t)) (ds.set k (.int v)) := fun {l ds} => by
    induction l generalizing ds with
    | nil => intro k r; cases r; simpa using Reps.nil
    | cons x xs ih =>
      intro k r
      cases r with
      | cons p q =>
        cases k with
        | zero => exact .cons (.int _ _) q
        | succ k => exact .cons p (ih k q)
  exact this _ r3
end
end Tn
end
section
-- TnW7
open PySem PySem.W PySem.Calls PySem.Spec PyProof.Rows
set_option maxRecDepth 100000
set_option linter.unusedVariables false
namespace Tn
/-- the beginning that is shared -/
noncomputable def lcp : List Nat → List Nat → Nat
  | a :: r, b :: t => if a = b then 1 + lcp r t else 0
  | _, _ => 0
theorem lcp_nil (l : List Nat) : lcp l [] = 0 := by cases l <;> rfl
theorem lcp_len : ∀ (a b : List Nat), lcp a b ≤ a.length
  | [], _ => by simp [lcp]
  | _ :: _, [] => by simp [lcp]
  | a :: r, b :: t => by have := lcp_len r t; simp only [lcp]; split <;> simp; lia
noncomputable def Lt (row : List Nat) (i j : Nat) : Nat := lcp (row.drop i) (row.drop j)
theorem Lt_step {row : List Nat} {i j : Nat} (hi : i < row.length) (hj : j < row.length) : Lt row i j = if row[i] = row[j] then 1 + Lt row (i + 1) (j + 1) else 0 := by
  unfold Lt
  rw [List.drop_eq_getElem_cons hi, List.drop_eq_getElem_cons hj, lcp]
theorem Lt_out {row : List Nat} {i j : Nat} (h : row.length ≤ j) : Lt row i j = 0 := by
  unfold Lt
  rw [List.drop_of_length_le h, lcp_nil]
/-- the table when rows from p on are done, and of the row ahead the places from q on -/
noncomputable def Tst (row : List Nat) (p q a b : Nat) : Nat := if p ≤ a ∨ (a + 1 = p ∧ q ≤ b) then Lt row a b else 0
noncomputable def rowD (n : Nat) (f : Nat → Nat) : List D := (List.range (n + 1)).map fun j => .int (f j : Nat)
noncomputable def boxT (ad : Nat → Addr) (n : Nat) (f : Nat → Nat → Nat) : Boxes := (List.range (n + 1)).map fun i => (ad i, rowD n (f i))
theorem range_split {α : Type} (f : Nat → α) {m i : Nat} (h : i < m) : (List.range m).map f = (List.range i).map f ++ f i :: (List.range (m - i - 1)).map fun k => f (i + 1 + k) := by
  have : m = i + (1 + (m - i - 1)) := by lia
  rw [this, List.range_add, List.map_append, List.map_map, Nat.add_comm 1, List.range_succ_eq_map, List.map_cons, List.map_map]
  congr 2
  · simp
    intro a _
    congr 1
    lia
theorem boxT_set (ad : Nat → Addr) {n i : Nat} {f g : Nat → Nat → Nat} (hi : i ≤ n) (h : ∀ a, a ≠ i → f a = g a) :
    ∃ X₁ X₂, boxT ad n f = X₁ ++ (ad i, rowD n (f i)) :: X₂ ∧ boxT ad n g = X₁ ++ (ad i, rowD n (g i)) :: X₂ := by
  refine ⟨_, _, range_split (fun i => (ad i, rowD n (f i))) (Nat.lt_succ_of_le hi), ?_⟩
  have := range_split (fun i => (ad i, rowD n (g i))) (Nat.lt_succ_of_le hi)
  unfold boxT
  rw [this]
  congr 1
  · apply List.map_congr_left
    intro k hk
    rw [h k (by have := List.mem_range.mp hk; lia)]
  · congr 1
    apply List.map_congr_left
    intro k _
    show (_, rowD n (g _)) = (_, rowD n (f _))
    rw [h (i + 1 + k) (by lia)]
theorem rowD_set {n j : Nat} {f g : Nat → Nat} (hj : j ≤ n) (h : ∀ b, b ≠ j → f b = g b) : (rowD n f).set j (.int (g j : Nat)) = rowD n g := by
  unfold rowD
  apply List.ext_getElem?
  intro k
  rw [List.getElem?_set]
  by_cases hk : k < n + 1
  · simp only [List.length_map, List.length_range, List.getElem?_map, List.getElem?_range hk, Option.map_some]
    split
    · rename_i hjk; subst hjk; simp [hk]
    · rename_i hjk; rw [h k (fun q => hjk q.symm)]
  · rw [if_neg (by lia)]
    rw [List.getElem?_eq_none (by simp; lia), List.getElem?_eq_none (by simp; lia)]
theorem range_get {α : Type} (f : Nat → α) {n i : Nat} (h : i ≤ n) : ((List.range (n + 1)).map f)[((i : Nat) : Int).toNat]? = some (f i) := by
  rw [show ((i : Nat) : Int).toNat = i by lia, List.getElem?_map, List.getElem?_range (Nat.lt_succ_of_le h)]
  rfl
theorem boxes_of {bx : Boxes} {n : Nat} {f : Nat → Nat → Nat} (h : bx.map (·.2) = (List.range (n + 1)).map fun i => rowD n (f i)) : ∃ ad, bx = boxT ad n f := by
  refine ⟨fun i => (bx[i]?.map (·.1)).getD 0, ?_⟩
  have hl : bx.length = n + 1 := by have := congrArg List.length h; simpa using this
  unfold boxT
  apply List.ext_getElem?
  intro k
  by_cases hk : k < n + 1
  · rw [List.getElem?_map, List.getElem?_range hk, List.getElem?_eq_getElem (by lia)]
    have h2 := congrArg (fun l => l[k]?) h
    simp only [List.getElem?_map, List.getElem?_range hk, List.getElem?_eq_getElem (by lia : k < bx.length), Option.map_some, Option.some.injEq] at h2
    simp only [Option.map_some, Option.getD_some, Option.some.injEq]
    rw [← h2, List.getElem?_eq_getElem (by lia : k < bx.length)]
    rfl
  · rw [List.getElem?_eq_none (by lia), List.getElem?_eq_none (by simp; lia)]
noncomputable def tabD (ad : Nat → Addr) (n : Nat) : D := .list ((List.range (n + 1)).map fun i => .ref (ad i))
noncomputable def tabF (n : Nat) (f : Nat → Nat → Nat) : D := .list ((List.range (n + 1)).map fun i => .list (rowD n (f i)))
theorem tab_fz (ad : Nat → Addr) (n : Nat) (f : Nat → Nat → Nat) : FzD (boxT ad n f) (tabD ad n) (tabF n f) := by
  have := FzD.rows (X := boxT ad n f) (bx := boxT ad n f) fun p m => m
  unfold boxT at this ⊢
  rw [List.map_map, List.map_map] at this
  exact this
theorem fzs_nil {X : Boxes} {ρ : Rho} : ∀ x d', List.lookup x ([] : Rho) = some d' → ∃ d, ρ.lookup x = some d ∧ FzD X d d' := fun _ _ h => by cases h
theorem fzs_cons {X : Boxes} {ρ r : Rho} {x : Str} {d d' : D} (h : ρ.lookup x = some d) (f : FzD X d d') (s : ∀ x d', r.lookup x = some d' → ∃ d, ρ.lookup x = some d ∧ FzD X d d') : ∀ y e, List.lookup y ((x, d') :: r) = some e → ∃ d, ρ.lookup y = some d ∧ FzD X d e := fun y e h' => by
  rw [List.lookup_cons] at h'
  split at h'
  · rename_i hb
    cases h'; rw [beq_iff_eq.mp hb]; exact ⟨d, h, f⟩
  · exact s y e h'
section
variable {w : World} {A : Around} {env : Env} {ρ : Rho} {n : Nat}
theorem ev_neg {e : Expr} {pos : Pos} {a : Int} (x : Ev w A env ρ e (.int a)) : Ev w A env ρ (.UnaryOp .USub e pos) (.int (-a)) := .mk fun B h F s Q E hs k => by
  refine UnaryOp_ (x.go B h F s _ E hs fun v B₁ h₁ tk st I r => ?_)
  obtain ⟨t, rfl⟩ := r.int_inv
  exact neg_int (k _ B₁ h₁ _ st ⟨I.inv, Nat.le_succ_of_le I.pos⟩ (.int _ _))
theorem c_rngDown {k : Nat} {a : Int} (ha : a = (k : Int) - 1) : Calls w (.type "range") n [.int a, .int (-1), .int (-1)] (.rng a (-1) (-1)) := c_rng3 (by decide) (by decide)
theorem itb_down {k : Nat} (hk : k ≤ 1000) : Itb w A (.rng ((k : Int) - 1) (-1) (-1)) (rngD ((k : Int) - 1) (-1) k) := by
  have hs : Builtin.Range.rangeSize ((k : Int) - 1) (-1) (-1) = k := by
    unfold Builtin.Range.rangeSize
    simp
    lia
  refine itb_rng ?_ k hs
  unfold Builtin.Range.small
  rw [hs]
  simp only [Builtin.Range.rangeFitsLong, Bool.and_eq_true, Bool.or_eq_true, decide_eq_true_eq, beq_iff_eq]
  refine ⟨⟨⟨⟨by lia, by decide⟩, by decide⟩, by lia⟩, .inr ?_⟩
  simp
theorem fn_table : fnK (K w.params) 182 181 (funD (o_182 w.params)) (stmBody (stm 68)) := ⟨o_182 _, o_181 _, _, _, rfl, rfl, rfl, rfl, rfl, rfl, rfl, rfl, rfl, rfl⟩
theorem zeros {n : Nat} {x : Int} (hx : x = (n : Int) + 1) : (List.replicate x.toNat [D.int 0]).flatten = rowD n fun _ => 0 := by
  subst hx
  unfold rowD
  rw [show ((n : Int) + 1).toNat = n + 1 by lia]
  apply List.ext_getElem?
  intro k
  by_cases hk : k < n + 1
  · rw [List.getElem?_map, List.getElem?_range hk]
    have : (List.replicate (n + 1) [D.int 0]).flatten = List.replicate (n + 1) (D.int 0) := by
      simp
    rw [this, List.getElem?_replicate, if_pos hk]
    rfl
  · rw [List.getElem?_eq_none (by simp; lia), List.getElem?_eq_none (by simp; lia)]
theorem lmul_wp {l : Addr} {vs : Array Value} {k : Nat} {x : Int} {u : Tok} {s : Shared} {Q : Value → Shared → Prop} {E : Value → Shared → Prop} (e1 : s.heap.get? l = some (listO vs k)) (hne : vs.size ≠ 0) (h : vs.size * x.toNat ≤ 1000000) (hx : x ≤ 1000000) (hx0 : -1000000 ≤ x)
    (kk : Q (.ref s.heap.objs.size) { s with heap := s.heap.push (listO (List.foldl (fun x1 x2 => x1 ++ x2) #[] (List.replicate x.toNat vs)) 0) }) : wpAny (Md w) A (binaryOp .Mult (.ref l) (.int x u)) Q E s := by
  have hemp : vs.isEmpty = false := by
    cases q : vs.isEmpty with
    | false => rfl
    | true => exact absurd (by rw [Array.isEmpty_iff.mp q]; rfl) hne
  refine wpAny_binaryOp_repeat_ref (T := "list") (U := "int") (by decide) ⟨_, e1, rfl⟩ (fun s' => typeIs_int s' x u) noFill_list_mul PySem.F.fills_int_mul PySem.F.slot_int_rmul repeat_list PySem.F.slot_int_index.lookup
    (call_meets PySem.F.slot_int_rmul (typeIs_int s x u) PySem.F.entry_int_rmul (PySem.F.args_int_rmul_2 _ _) (int___rmul___int_list x u l vs k)
      ⟨e1, rfl, ⟨_, e1, rfl⟩, call_meets PySem.F.slot_list_mul ⟨_, e1, rfl⟩ PySem.F.entry_list_mul (PySem.F.args_list_mul_2 _ _)
        (AutoListH.list___mul___list_int_3 l vs k x u (by simp [Builtin.List.listFitsIndex]; lia) (by lia) (by simp [Builtin.List.listTooLong, sizeLine]; lia)) ⟨e1, ?_⟩⟩)
  simp only [hemp, Bool.false_eq_true, if_false]
  exact kk
theorem evn_mul {e x : Expr} {pos : Pos} {a : List D} {k : Int} (ex : Ev w A env ρ e (.list a)) (ek : Ev w A env ρ x (.int k)) (hne : a ≠ []) (h : a.length * k.toNat ≤ 1000000) (h1 : k ≤ 1000000) (h2 : -1000000 ≤ k) :
    EvN w A env ρ (.BinOp e .Mult x pos) (List.replicate k.toNat a).flatten := .mk fun B hp F s Q E hs kk =>
  wpAny_BinOp (ex.go B hp F s _ E hs fun va B₁ h₁ tk st I ra => ek.go B₁ h₁ (F.step st I) _ _ E I.at fun vb B₂ h₂ tk₂ st₂ I₂ rb => by
    obtain ⟨u, rfl⟩ := rb.int_inv
    obtain ⟨l, vs, m, rfl, _, e2, _, z, rs⟩ := (ra.mono st₂.le).isL st₂.inh
    refine lmul_wp e2 (by rw [z]; intro q; exact hne (List.length_eq_zero_iff.mp q)) (by rw [z]; exact h) h1 h2 ?_
    dsimp only
    have n1 : h₂.get? h₂.objs.size = none := get_size _
    have st' := st.trans st₂
    exact kk _ B₂ _ tk₂ (st'.trans (Stp.keep (w := w) st₂.inh (Up.push h₂ _))) ⟨I₂.inv.push _, I₂.pos⟩ ⟨h₂.objs.size, _, 0, rfl, st'.up.none _ n1, inh_none st₂.inh n1, Heap.get?_push_size _ rfl, by rw [replicate_join]; simpa using rs.rep k.toNat⟩)
theorem call_table {row : List Nat} (hz : row.length ≤ 100) : Calls w (.ref 182) (n + 2) [.list (intsD row)] (tabF row.length (Lt row)) := by
  have hil : (intsD row).length = row.length := by simp [intsD]
  refine calls_KC (n := n + 1) (ps := ["row"]) fn_table (by kernel_rfl) (by kernel_rfl) rfl (bind1 fun v => by kernel_rfl) fun A env hA fc => ?_
  conv in (stmBody _) => whnf
  have bl : ∀ {x : Str}, (funD (o_182 w.params)).scope.names.lookup x = some .globalImplicit → env.kindOf x = some .globalImplicit := fun h => fc.kind h
  generalize hm : row.length = m at *
  refine run_cons (r1_assign (d := .int (m : Nat)) (fc.cst (by kernel_rfl)) ((ev_callB hA (c_len_list (by rw [hil]; lia)) (evl_cons (ev_name rfl) evl_nil) (bl (by kernel_rfl))).cast (by rw [hil])) ?_)
  refine run_cons (r1_compN (fun _ => rowD m fun _ => 0) [("size", .int (m : Nat))] hA.hh (fc.kind (by kernel_rfl)) (by decide) ?_ (ev_callT hA c_rng1 (evl_cons (ev_bin (ev_name rfl) ev_int op_add) evl_nil) (bl (by kernel_rfl)))
    (itb_rng1 (n := m + 1) (by decide) (by decide) (by lia) (by lia) (by lia)) (by simp [rngD]; lia) (.cons rfl (.inl (fc.kind (by kernel_rfl))) .nil) (by kernel_rfl) (by kernel_rfl) ?_ ?_)
  · obtain ⟨sc, _⟩ := env
    obtain ⟨rfl, _, _, _⟩ := fc
    rfl
  · intro cenv ce i e he
    exact zeros (n := m) (x := (m : Int) + 1) rfl ▸ evn_mul (EvN.ev (evn_list (evl_cons ev_int evl_nil) (by simp))) (ev_bin (ev_name rfl) ev_int op_add) (by simp) (by simp; lia) (by lia) (by lia)
  intro bx hbx
  rw [rngD_len] at hbx
  obtain ⟨ad, rfl⟩ := boxes_of hbx
  have hd : D.list ((boxT ad m fun _ _ => 0).map fun p => .ref p.1) = tabD ad m := by unfold boxT tabD; rw [List.map_map]; rfl
  rw [hd, List.append_nil]
  have h00 : (boxT ad m fun _ _ => 0) = boxT ad m (Tst row m m) := by
    congr 1
    funext a b
    unfold Tst
    split
    · rename_i h
      symm
      rcases h with h | ⟨_, h⟩
      · unfold Lt
        rw [List.drop_of_length_le (by lia)]
        cases row.drop b <;> rfl
      · exact Lt_out (by lia)
    · rfl
  rw [h00]
  have hbase : ∀ {x : Int}, x = (m : Int) - 1 → True := fun _ => trivial
  refine run_cons (r1_for (d := .rng ((m : Int) - 1) (-1) (-1)) hA.hh (fc.lst (by kernel_rfl)) (ev_callT hA (c_rngDown rfl) (evl_cons (ev_bin (ev_name rfl) ev_int op_sub) (evl_cons (ev_neg ev_int) (evl_cons (ev_neg ev_int) evl_nil))) (bl (by kernel_rfl)))
    (itb_down (by lia)) (fun i X ρ => X = boxT ad m (Tst row (m - i) m) ∧ Sub [("row", .list (intsD row)), ("size", .int (m : Nat)), ("table", tabD ad m)] ρ) ⟨rfl, sub_cons rfl (sub_cons rfl (sub_cons rfl sub_nil))⟩ ?_ ?_)
  · rintro k X' ρ' e he ⟨rfl, hsub⟩
    obtain ⟨hk, rfl⟩ := rngD_get he
    obtain ⟨i, hi⟩ : ∃ i, m = k + 1 + i := ⟨m - (k + 1), by lia⟩
    rw [show (m : Int) - 1 + (k : Int) * -1 = ((i : Nat) : Int) by lia, show m - k = i + 1 by lia]
    refine RunT.weak ?_ (sub_both hsub)
    refine run_cons (r1_for (d := .rng ((m : Int) - 1) (-1) (-1)) hA.hh (fc.lst (by kernel_rfl)) (ev_callT hA (c_rngDown rfl) (evl_cons (ev_bin (ev_name rfl) ev_int op_sub) (evl_cons (ev_neg ev_int) (evl_cons (ev_neg ev_int) evl_nil))) (bl (by kernel_rfl)))
      (itb_down (by lia)) (fun t X ρ => X = boxT ad m (Tst row (i + 1) (m - t)) ∧ Sub [("row", .list (intsD row)), ("size", .int (m : Nat)), ("table", tabD ad m), ("i", .int (i : Nat))] ρ) ⟨rfl, sub_cons rfl (sub_cons rfl (sub_cons rfl (sub_cons rfl sub_nil)))⟩ ?_ ?_)
    · rintro t X' ρ' e he ⟨rfl, hsub'⟩
      obtain ⟨ht, rfl⟩ := rngD_get he
      obtain ⟨j, hj⟩ : ∃ j, m = t + 1 + j := ⟨m - (t + 1), by lia⟩
      rw [show (m : Int) - 1 + (t : Int) * -1 = ((j : Nat) : Int) by lia, show m - t = j + 1 by lia]
      refine RunT.weak ?_ (sub_both hsub')
      have him : i < row.length := by lia
      have hjm : j < row.length := by lia
      have rget : ∀ {q : Nat} (hq : q < row.length), (intsD row)[((q : Nat) : Int).toNat]? = some (.int (row[q] : Nat)) := fun {q} hq => by simp [intsD, hq]
      have hL := Lt_step him hjm
      have fin : ∀ ρ : Rho, Sub [("row", .list (intsD row)), ("size", .int (m : Nat)), ("table", tabD ad m), ("i", .int (i : Nat))] ρ → boxT ad m (Tst row (i + 1) j) = boxT ad m (Tst row (i + 1) (m - (t + 1))) ∧ Sub [("row", .list (intsD row)), ("size", .int (m : Nat)), ("table", tabD ad m), ("i", .int (i : Nat))] ρ := fun ρ h => ⟨by rw [show m - (t + 1) = j by lia], h⟩
      have other : ∀ a b, ¬ (a = i ∧ b = j) → Tst row (i + 1) (j + 1) a b = Tst row (i + 1) j a b := fun a b h => by
        unfold Tst
        congr 1
        apply propext
        lia
      refine run_cons (r1_if (evT_cmp (ev_litem (d := .int (row[i] : Nat)) (ev_name rfl) (ev_name rfl) (by lia) (by lia) (rget him)) (ev_litem (d := .int (row[j] : Nat)) (ev_name rfl) (ev_name rfl) (by lia) (by lia) (rget hjm)) rfl op_eq) (fun h => ?_) fun h => ?_)
      · have h : row[i] = row[j] := by have := beq_iff_eq.mp h; lia
        rw [if_pos h] at hL
        obtain ⟨X₁, X₂, hX, hY⟩ := boxT_set ad (n := m) (i := i) (f := Tst row (i + 1) (j + 1)) (g := Tst row (i + 1) j) (by lia) fun a ha => funext fun b => other a b (fun q => ha q.1)
        have hfz := tab_fz ad m (Tst row (i + 1) (j + 1))
        rw [hX] at hfz
        have gij : Tst row (i + 1) j i j = 1 + Tst row (i + 1) (j + 1) (i + 1) (j + 1) := by
          unfold Tst
          rw [if_pos (.inr ⟨rfl, Nat.le_refl _⟩), if_pos (.inl (Nat.le_refl _)), hL]
        have hst := rowD_set (n := m) (j := j) (f := Tst row (i + 1) (j + 1) i) (g := Tst row (i + 1) j i) (by lia) fun b hb => other i b (fun q => hb q.2)
        rw [hX]
        refine run_cons (r1_setZ (ρ' := [("table", tabF m (Tst row (i + 1) (j + 1))), ("i", .int (i : Nat)), ("j", .int (j : Nat))]) (v := (1 + Tst row (i + 1) (j + 1) (i + 1) (j + 1) : Nat)) (fzs_cons rfl hfz (fzs_cons rfl (.same (.int (i : Nat))) (fzs_cons rfl (.same (.int (j : Nat))) fzs_nil)))
          ((ev_bin ev_int (ev_litem (d := .int (Tst row (i + 1) (j + 1) (i + 1) (j + 1) : Nat)) (k := ((j + 1 : Nat) : Int)) (ev_litem (d := .list (rowD m (Tst row (i + 1) (j + 1) (i + 1)))) (k := ((i + 1 : Nat) : Int)) (ev_name rfl) ((ev_bin (ev_name rfl) ev_int op_add).cast (by rfl)) (by lia) (by lia) ?_)
            ((ev_bin (ev_name rfl) ev_int op_add).cast (by rfl)) (by lia) (by lia) ?_) op_add).cast ?_)
          (ev_litem (d := .ref (ad i)) (k := ((i : Nat) : Int)) (ev_name rfl) (ev_name rfl) (by lia) (by lia) ?_) (ev_name rfl) (by lia) (by simp [rowD]; lia) (by simp [rowD]; lia) ?_)
        · exact range_get _ (by lia)
        · exact range_get (fun j => D.int (Tst row _ _ _ j : Nat)) (by lia)
        · congr 1
        · exact range_get _ (by lia)
        · refine run_nil (run_nil ?_)
          show _ ∧ _
          rw [show ((j : Nat) : Int).toNat = j by lia, ← gij, hst, ← hY]
          exact fin _ (sub_cons rfl (sub_cons rfl (sub_cons rfl (sub_cons rfl sub_nil))))
      · have h : ¬ (row[i] = row[j]) := fun q => by
          rw [q] at h; simp at h
        rw [if_neg h] at hL
        refine run_nil (run_nil ?_)
        show _ ∧ _
        have : Tst row (i + 1) (j + 1) = Tst row (i + 1) j := funext fun a => funext fun b => by
          by_cases q : a = i ∧ b = j
          · obtain ⟨rfl, rfl⟩ := q
            unfold Tst
            rw [if_neg (by lia), if_pos (.inr ⟨rfl, Nat.le_refl _⟩), hL]
          · exact other a b q
        rw [this]
        exact fin _ (sub_cons rfl (sub_cons rfl (sub_cons rfl (sub_cons rfl sub_nil))))
    · rintro X' ρ' ⟨rfl, hsub'⟩
      refine run_nil ?_
      show _ ∧ _
      rw [rngD_len]
      refine ⟨?_, sub_cons (hsub' _ _ rfl) (sub_cons (hsub' _ _ rfl) (sub_cons (hsub' _ _ rfl) sub_nil))⟩
      congr 1
      funext a b
      unfold Tst
      rw [show m - (k + 1) = i by lia, show m - m = 0 by lia]
      by_cases q : i ≤ a
      · rw [if_pos (by lia), if_pos (by lia)]
      · rw [if_neg (by lia)]
        split
        · rw [Lt_out (by lia)]
        · rfl
  · rintro X' ρ' ⟨rfl, hsub⟩
    refine RunT.weak ?_ hsub
    have hfin : Tst row (m - (rngD ((m : Int) - 1) (-1) m).length) m = Lt row := funext fun a => funext fun b => by
      unfold Tst
      rw [rngD_len, if_pos (by lia)]
    rw [hfin]
    exact run_frz (ρ' := [("table", tabF m (Lt row))]) (fzs_cons rfl (tab_fz ad m (Lt row)) fzs_nil) (run_cons (r1_ret (ev_name rfl) rfl))
end
end Tn
end
section
-- TnN
open PySem PySem.W PySem.Calls PySem.Spec PyProof.Rows
set_option maxRecDepth 100000
set_option linter.unusedVariables false
namespace Tn
theorem among_snoc {pos : Pos} {a b : Int} {c cv : Value} : ∀ (l : List Value), TriplesOk l → codeAmong pos (l ++ [rawInt a, rawInt b, c]) = some cv → codeAmong pos l = some cv ∨ cv = c
  | [], _, h => by
    simp only [List.nil_append, codeAmong, rawInt] at h
    split at h
    · cases h; exact .inr rfl
    · cases h
  | .int x _ :: .int y _ :: z :: r, ht, h => by
    simp only [List.cons_append, codeAmong] at h ⊢
    split at h
    · rename_i hy
      rw [if_pos hy]; exact .inl h
    · rename_i hn
      rw [if_neg hn]
      exact among_snoc r ht h
/-- the code tables are no part of K -/
theorem K_noTB {w : World} {P : Addr} (m : P ∈ TB) : (K w.params).lookup P = none := by
  simp only [TB, List.mem_cons, List.not_mem_nil, or_false] at m
  rcases m with rfl | rfl | rfl <;> rfl
theorem Inv.grow {w : World} {h h' : Heap} (I : Inv w h) (u : Up h h') (t : ∀ c P, P ∈ TB → TabOk h c P → TabOk h' c P) : Inv w h' := by
  obtain ⟨mg, g1, g2, g3, g4⟩ := I.g
  obtain ⟨mb, b1, b2⟩ := I.b
  obtain ⟨mc, l1, l2⟩ := I.lim
  have bt : ∀ {P : Addr}, h.BuiltinsAt mg P → h'.BuiltinsAt mg P := fun ⟨bm, ob, x1, x2, x3, x4, x5, x6, x7, x8⟩ => ⟨bm, ob, x1, x2, x3, x4, u.keep _ _ (I.notTB x5 fun ps q => by rw [q] at x8; cases x8) x5, x6, x7, x8⟩
  exact ⟨fun b o e => u.keep b o (fun m => by rw [K_noTB m] at e; cases e) (I.k b o e), ⟨mb, ns_up I u b1, b2⟩, ⟨mc, ns_up I u l1, l2⟩, ⟨mg, ns_up I u g1, bt g2, bt g3, bt g4⟩,
    t _ _ (by simp [TB]) I.t1, t _ _ (by simp [TB]) I.t2, t _ _ (by simp [TB]) I.t3⟩
theorem hd_up {w : World} {h h' : Heap} {c P : Addr} (I : Inv w h) (u : Up h h') (x : CodeHd h c P) : CodeHd h' c P := by
  obtain ⟨o, vs, file, tf, flags, tg, inF, text, tt, e, cl, r⟩ := x
  exact ⟨o, vs, file, tf, flags, tg, inF, text, tt, u.keep _ _ (I.notTB e fun ps q => by rw [q] at cl; cases cl) e, cl, r⟩
/-- a code record of the store -/
noncomputable def CodeB (B : Fz) (cv : Value) (q : Str) : Prop := ∃ c o vs t, cv = .ref c ∧ B c = some o ∧ o.data = .fields vs ∧ vs[1]? = some (.str q t)
theorem CodeB.rec {B : Fz} {h : Heap} {cv : Value} {q : Str} (x : CodeB B cv q) (i : InH B h) : h.CodeRec cv q := let ⟨c, o, vs, t, e1, e2, e3, e4⟩ := x; ⟨c, o, vs, t, e1, (i _ _ e2).1, e3, e4⟩
theorem CodeB.up {B B' : Fz} {cv : Value} {q : Str} (x : CodeB B cv q) (le : ∀ a o, B a = some o → B' a = some o) : CodeB B' cv q := let ⟨c, o, vs, t, e1, e2, e3, e4⟩ := x; ⟨c, o, vs, t, e1, le _ _ e2, e3, e4⟩
theorem CodeB.del {B : Fz} {I : Addr} {oI : Obj} {cv : Value} {q : Str} (e : B I = some oI) (io : Iterish oI) (x : CodeB B cv q) : CodeB (B.del I) cv q := by
  obtain ⟨c, o, vs, t, e1, e2, e3, e4⟩ := x
  refine ⟨c, o, vs, t, e1, (if_neg fun z => ?_).trans e2, e3, e4⟩
  rw [z, e] at e2; cases e2
  obtain ⟨⟨fs, fd, fn⟩, _⟩ := io
  rw [fd] at e3; cases e3
  exact fn _ _ e4
section
variable {w : World} {A : Around} {B : Fz} {h : Heap}
theorem mk_any {t : Sem Value} {c P : Addr} {pos : Pos} {ps : Array Value} {mg : Str → Option Value} {obj : Value → Value → Value → Value → Obj} (hf : ∀ a b c d, ∃ fd, (obj a b c d).data = .func fd) (m : P ∈ TB)
    (I : Inv w h) (i : InH B h) (T : TabOk h c P) (hP : h.get? P = some (tabObj ps)) (s : Shared) (Q : Value → Shared → Prop) (E : Value → Shared → Prop) (at_ : At s h)
    (miss : codeAmong pos ps.toList = none → (∀ (c' : Addr) (ctv doc : Value) (h' : Heap) (tk : Tok), Heap.ExtBut P s.heap h' → s.heap.objs.size ≤ c' → c' < h'.objs.size → h'.CodeRec (.ref c') (qualOf P) → h'.get? P = some (tabObj (ps ++ #[rawInt pos.line, rawInt pos.col, .ref c'])) →
      Q (.ref h'.objs.size) { s with heap := h'.push (obj doc ((mg "__name__").getD .none) (.ref c') ctv), toks := tk }) → wpAny (Md w) A t Q E s)
    (hit : ∀ cv, codeAmong pos ps.toList = some cv → (∀ (ctv doc : Value) (h' : Heap) (tk : Tok), (∀ b o, s.heap.get? b = some o → h'.get? b = some o) → s.heap.objs.size ≤ h'.objs.size →
      Q (.ref h'.objs.size) { s with heap := h'.push (obj doc ((mg "__name__").getD .none) cv ctv), toks := tk }) → wpAny (Md w) A t Q E s)
    (k : ∀ f cv doc pm ctv B' h' tk, Stp B h B' h' → Inv w h' → h.get? f = none → B' f = some (obj doc pm cv ctv) → CodeB B' cv (qualOf P) → Q (.ref f) { s with heap := h', toks := tk }) : wpAny (Md w) A t Q E s := by
  obtain ⟨rfl, tp⟩ := at_
  obtain ⟨hd, ps', hP', ht, hq⟩ := T
  have : ps' = ps := by rw [hP] at hP'; cases hP'; rfl
  subst this
  have nofree : ∀ a b c d, (obj a b c d).isFreed = false := fun a b c d => by
    obtain ⟨fd, e⟩ := hf a b c d
    generalize obj a b c d = o at e
    obtain ⟨cls, dict, data, slots⟩ := o
    cases e
    rfl
  cases hca : codeAmong pos ps'.toList with
  | some cv =>
    refine hit cv hca fun ctv doc h' tk kp hsz => ?_
    have s1 := Stp.keep (w := w) i (.of_keeps kp)
    have I1 := I.of_keeps kp
    have s2 := Stp.put I1 s1.inh (Up.push h' (obj doc ((mg "__name__").getD .none) cv ctv)) (get_size h') (Heap.get?_push_size _ (nofree _ _ _ _))
    have I2 := I1.push (obj doc ((mg "__name__").getD .none) cv ctv)
    obtain ⟨c', e1, e2, c'', oc, vs, tt, e3, e4, e5, e6⟩ := hq pos cv hca
    have hcc : c' = c'' := by rw [e1] at e3; cases e3; rfl
    subst hcc
    have fN : s.heap.get? h'.objs.size = none := by
      cases z : s.heap.get? h'.objs.size with
      | none => rfl
      | some o => have := kp _ _ z; rw [get_size] at this; cases this
    have s12 := s1.trans s2
    have hne : c' ≠ h'.objs.size := fun z => by rw [z, fN] at e4; cases e4
    have le : ∀ b o, (B.put h'.objs.size (obj doc ((mg "__name__").getD .none) cv ctv)) b = some o → ((B.put h'.objs.size (obj doc ((mg "__name__").getD .none) cv ctv)).put c' oc) b = some o := fun b o q => by
      by_cases hb : b = c'
      · subst hb
        rw [Fz.put_self]
        have h1 := (s12.inh _ _ q).1
        rw [s12.up.keep _ _ e2 e4] at h1
        exact h1
      · exact (if_neg hb).trans q
    have s3 : Stp B s.heap ((B.put h'.objs.size (obj doc ((mg "__name__").getD .none) cv ctv)).put c' oc) (h'.push (obj doc ((mg "__name__").getD .none) cv ctv)) := ⟨s12.up, fun b o q => le b o (s12.le b o q), fun b o q => by
      by_cases hb : b = c'
      · subst hb; rw [Fz.put_self] at q; cases q; exact ⟨s12.up.keep _ _ e2 e4, e2⟩
      · rw [show ((B.put h'.objs.size (obj doc ((mg "__name__").getD .none) cv ctv)).put c' oc) b = (B.put h'.objs.size (obj doc ((mg "__name__").getD .none) cv ctv)) b from if_neg hb] at q
        exact s12.inh b o q, fun b o q => by
      by_cases hb : b = c'
      · subst hb; rw [Fz.put_self] at q; cases q; exact .inr (.inr ⟨e4, vs, _, tt, e5, e6⟩)
      · rw [show ((B.put h'.objs.size (obj doc ((mg "__name__").getD .none) cv ctv)).put c' oc) b = (B.put h'.objs.size (obj doc ((mg "__name__").getD .none) cv ctv)) b from if_neg hb] at q
        exact s12.fresh b o q⟩
    exact k _ cv doc _ ctv _ _ tk s3 I2 fN (le _ _ (Fz.put_self _ _ _)) ⟨c', oc, vs, tt, e1, Fz.put_self _ _ _, e5, e6⟩
  | none =>
    refine miss hca fun c' ctv doc h' tk hx hge hlt hrec hP' => ?_
    obtain ⟨c0, oc, vs, tt, e1, e2, e3, e4⟩ := id hrec
    cases e1
    have cN : s.heap.get? c' = none := get_ge hge
    have hPs : P < s.heap.objs.size := Heap.lt_size hP
    have fN : s.heap.get? h'.objs.size = none := get_ge (Nat.le_trans hge (Nat.le_of_lt hlt))
    have u1 : Up s.heap h' := ⟨fun b o n e => hx b o (fun z => n (z ▸ m)) e, fun b vs mb e => by
      by_cases z : b = P
      · subst z; rw [hP] at e; cases e; exact ⟨_, hP'⟩
      · exact ⟨#[], by rw [Array.append_empty]; exact hx b _ z e⟩, fun a e => by
      cases z : s.heap.get? a with
      | none => rfl
      | some o =>
        by_cases q : a = P
        · rw [q, hP'] at e; cases e
        · rw [hx a o q z] at e; cases e⟩
    have tabs : ∀ d P', P' ∈ TB → TabOk s.heap d P' → TabOk h' d P' := fun d P' mP' T' => by
      obtain ⟨hd', ps1, p1, p2, p3⟩ := T'
      have rc : ∀ {cv : Value} {q : Str}, s.heap.CodeRec cv q → h'.CodeRec cv q := fun ⟨c2, o2, v2, t2, f1, f2, f3, f4⟩ => ⟨c2, o2, v2, t2, f1, hx _ _ (fun z => by
        rw [z, hP] at f2; cases f2; cases f3
        exact triples_no_str ht _ _ (by simpa using f4)) f2, f3, f4⟩
      by_cases z : P' = P
      · subst z
        rw [hP] at p1; cases p1
        refine ⟨hd_up I u1 hd', _, hP', ?_, fun pos' cv q => ?_⟩
        · rw [Array.toList_append]; exact TriplesOk_snoc _ _ _ _ p2
        · rw [Array.toList_append] at q
          rcases among_snoc _ p2 q with q | q
          · obtain ⟨c2, g1, g2, g3⟩ := p3 pos' cv q
            exact ⟨c2, g1, g2, rc g3⟩
          · subst q
            exact ⟨c', rfl, I.fresh cN, hrec⟩
      · exact ⟨hd_up I u1 hd', ps1, hx _ _ z p1, p2, fun pos' cv q => let ⟨c2, g1, g2, g3⟩ := p3 pos' cv q; ⟨c2, g1, g2, rc g3⟩⟩
    have I1 := I.grow u1 tabs
    have s1 : Stp B s.heap (B.put c' oc) h' := Stp.put I i u1 cN e2
    have s2 := Stp.put I1 s1.inh (Up.push h' (obj doc ((mg "__name__").getD .none) (.ref c') ctv)) (get_size h') (Heap.get?_push_size _ (nofree _ _ _ _))
    have I2 := I1.push (obj doc ((mg "__name__").getD .none) (.ref c') ctv)
    exact k _ (.ref c') doc _ ctv _ _ tk (s1.trans s2) I2 fN (Fz.put_self _ _ _) ⟨c', oc, vs, tt, rfl, put_le s1.inh (get_size h') _ _ _ (Fz.put_self _ _ _), e3, e4⟩
end
end Tn
end
section
-- TnN2
open PySem PySem.W PySem.Calls PySem.Spec PyProof.Rows
set_option maxRecDepth 100000
set_option linter.unusedVariables false
namespace Tn
open Classical in
noncomputable def frzP (p : Addr → Prop) (B : Fz) (h : Heap) : Fz := fun b => if p b then h.get? b else B b
open Classical in
noncomputable def thwP (p : Addr → Prop) (B : Fz) : Fz := fun b => if p b then none else B b
/-- data that no cell stands behind -/
inductive Simple : D → Prop
  | none : Simple .none
  | bool (b : Bool) : Simple (.bool b)
  | int (i : Int) : Simple (.int i)
  | str (s : Str) : Simple (.str s)
  | list {ds : List D} : (∀ d ∈ ds, Simple d) → Simple (.list ds)
  | tup {ds : List D} : (∀ d ∈ ds, Simple d) → Simple (.tup ds)
theorem rep_cut {B B' : Fz} (hB : ∀ a o, B a = some o → (∀ v, o.data ≠ .cell v) → (∀ vs q t, o.data = .fields vs → vs[1]? ≠ some (.str q t)) → B' a = some o) : ∀ {d : D} {v : Value}, Simple d → Rep B v d → Rep B' v d := by
  have key : ∀ (ds : List D) (vs : List Value), (∀ d ∈ ds, ∀ v, Rep B v d → Rep B' v d) → Reps B vs ds → Reps B' vs ds := fun ds => by
    induction ds with
    | nil => intro vs _ r; cases r; exact .nil
    | cons d ds ih =>
      intro vs k r
      cases r with
      | cons a b => exact .cons (k d (by simp) _ a) (ih _ (fun d m => k d (by simp [m])) b)
  intro d v s
  induction s generalizing v with
  | none => intro r; cases r; exact .none
  | bool b => intro r; cases r; exact .bool _
  | int i => intro r; cases r; exact .int _ _
  | str i => intro r; cases r; exact .str _ _
  | list hs ih =>
    intro r
    cases r with
    | list e rs => exact .list (hB _ _ e (fun v => nofun) (fun _ _ _ => nofun)) (key _ _ (fun d m v => ih d m) rs)
  | tup hs ih =>
    intro r
    cases r with
    | tup e rs => exact .tup (hB _ _ e (fun v => nofun) (fun _ _ _ => nofun)) (key _ _ (fun d m v => ih d m) rs)
section
variable {w : World} {A : Around} {env : Env} {B0 B B' : Fz} {h0 h h' : Heap} {X : Boxes} {ρ ρ' : Rho} {post : Post} {p : Addr → Prop}
noncomputable abbrev Hid (p : Addr → Prop) (h0 : Heap) (B : Fz) (h : Heap) : Prop := ∀ b, p b → h0.get? b = none ∧ B b = none ∧ ∃ o, h.get? b = some o
theorem frzP_le (i : InH B h) : ∀ b o, B b = some o → frzP p B h b = some o := fun b o e => by
  unfold frzP
  split
  · exact (i b o e).1
  · exact e
theorem St.frzP_inh (S : St w env B0 h0 X B h ρ) (hp : Hid p h0 B h) : InH (frzP p B h) h := fun b o e => by
  unfold frzP at e
  split at e
  · rename_i hb
    exact ⟨e, S.base.1.fresh (hp b hb).1⟩
  · exact S.stp.inh b o e
theorem St.thawP (S : St w env B0 h0 X B h ρ) (hp : Hid p h0 B h) (s : Stp (frzP p B h) h B' h') {tk : Nat} (I : InvT w h' tk) : St w env B0 h0 X (thwP p B') h' ρ ∧ ∀ b o, B b = some o → thwP p B' b = some o := by
  have nb : ∀ {b o}, B b = some o → ¬ p b := fun {b o} e q => by
    rw [(hp b q).2.1] at e; cases e
  have le : ∀ b o, B b = some o → thwP p B' b = some o := fun b o e => by
    unfold thwP
    rw [if_neg (nb e)]
    exact s.le b o (frzP_le S.stp.inh b o e)
  have sub : ∀ b o, thwP p B' b = some o → B' b = some o ∧ ¬ p b := fun b o e => by
    unfold thwP at e
    split at e
    · cases e
    · rename_i q; exact ⟨e, q⟩
  have st : Stp B h (thwP p B') h' := ⟨s.up, le, fun b o e => s.inh b o (sub b o e).1, fun b o e => by
    obtain ⟨e', q⟩ := sub b o e
    rcases s.fresh b o e' with z | z
    · unfold frzP at z
      rw [if_neg q] at z
      exact .inl z
    · exact .inr z⟩
  exact ⟨S.ev st I, le⟩
/-- a cell of the frame's own -/
noncomputable def OwnC (env : Env) (b : Addr) : Prop := ∃ x, env.kindOf x = some .cell ∧ env.cells.lookup x = some b
theorem St.hidC (S : St w env B0 h0 X B h ρ) : Hid (OwnC env) h0 B h := fun b ⟨x, k, l⟩ => by
  obtain ⟨a, c, v, o, e, _⟩ := S.cel x b k l
  exact ⟨a, c, o, e⟩
/-- what the variables stand for while the cells are frozen -/
noncomputable abbrev CellRho (w : World) (env : Env) (X : Boxes) (ρ ρ' : Rho) : Prop := ∀ B0 h0 B h, St w env B0 h0 X B h ρ → ∀ x d', ρ'.lookup x = some d' → ∃ d, ρ.lookup x = some d ∧ ∀ v, VarAt env h x v → Rep B v d → Rep (frzP (OwnC env) B h) v d'
theorem St.evC (S : St w env B0 h0 X B h ρ) {e : Expr} {d : D} (hs : Simple d) (hρ : CellRho w env X ρ ρ') (ev : Ev w A env ρ' e d)
    (s : Shared) (Q : Value → Shared → Prop) (E : Value → Shared → Prop) (at_ : At s h) (kk : ∀ v B' h' tk, St w env B0 h0 X B' h' ρ → (∀ b o, B b = some o → B' b = some o) → InvT w h' tk → Rep B' v d → Q v { s with heap := h', toks := tk }) :
    wpAny (Md w) A (eval e env) Q E s :=
  ev.go _ h ⟨S.fm.inv, S.frzP_inh S.hidC, S.fm.kind, S.fm.glob, S.fm.blt, fun x d' e => by
    obtain ⟨d, e', f⟩ := hρ _ _ _ _ S x d' e
    obtain ⟨v, y, r, hb⟩ := S.fm.vars x d e'
    exact ⟨v, y, f v y r, hb⟩⟩ s Q E at_ fun v B' h' tk st I r => by
    obtain ⟨S', le⟩ := S.thawP S.hidC st I
    refine kk v _ h' tk S' le I (rep_cut (fun a o e hc _ => ?_) hs r)
    unfold thwP
    rw [if_neg]
    · exact e
    · rintro ⟨x, k, l⟩
      obtain ⟨_, _, u, oc, ec, dc⟩ := S.cel x a k l
      have : frzP (OwnC env) B h a = some oc := by
        unfold frzP; rw [if_pos ⟨x, k, l⟩]; exact ec
      have := st.le _ _ this
      rw [this] at e; cases e
      exact hc _ dc
theorem r1_retC {e : Expr} {pos : Pos} {d : D} (hs : Simple d) (hρ : CellRho w env X ρ ρ') (x : Ev w A env ρ' e d) (p : post (.ret d) X ρ) : Run1 w A env (.Return (some e) pos) X ρ post := .mk fun B0 h0 B h S s E a =>
  wpAny_Return_some (S.evC hs hρ x s _ E a fun v B₁ h₁ tk S' le I r => ⟨B₁, h₁, tk, X, ρ, .ret d, rfl, I.pos, le, S', r, p⟩)
theorem r1_assignC {x : Str} {p1 p2 : Pos} {e : Expr} {d : D} (hsd : Simple d) (hρ : CellRho w env X ρ ρ') (hx : Stores env x) (ee : Ev w A env ρ' e d) (p : post .next X ((x, d) :: ρ)) (hn : okName x := by decide)
    (hs : swapsWith e (some (.Name x p1)) p2.line env = pure false := by rfl) : Run1 w A env (.Assign [.Name x p1] e p2) X ρ post := .mk fun B0 h0 B h S s E a => by
  refine wpAny_Assign_Name (S.evC hsd hρ ee s _ E a fun v B₁ h₁ tk S' le I r => ?_) hs
  exact S'.store hx r hn _ _ E I.at fun h₂ tk₂ S₂ _ I₂ _ => ⟨B₁, h₂, tk₂, X, _, .next, rfl, I₂.pos, le, S₂, trivial, p⟩
end
end Tn
end
section
-- TnN3
open PySem PySem.W PySem.Calls PySem.Spec PyProof.Rows
set_option maxRecDepth 100000
set_option linter.unusedVariables false
namespace Tn
theorem closure_go2 {env : Env} {names : List (Str × NameKind)} (h : ∀ y, (y, .free) ∈ names → ∃ c, env.cells.lookup y = some c) {scope : Scope} (hs : scope.names = names) :
    ∃ cl, closureFor scope env = pure cl ∧ (∀ y, (y, .free) ∈ names → cl.lookup y = env.cells.lookup y) ∧ ∀ y c, cl.lookup y = some c → env.cells.lookup y = some c := by
  subst hs
  obtain ⟨cl, e, a, b⟩ := closure_go scope.names [] h
  refine ⟨cl, ?_, fun y m => ?_, fun y c q => ?_⟩
  · unfold closureFor
    exact (congrArg (fun t => t >>= fun cs => pure cs) e).trans (pure_bind _ _)
  · obtain ⟨c, hc⟩ := h y m
    rw [hc]
    refine lookup_mem (fun c' m' => ?_) (b y (.inl m))
    rcases a y c' m' with z | z
    · cases z
    · rw [hc] at z; cases z; rfl
  · rcases a y c (PySem.mem_of_lookup q) with z | z
    · cases z
    · exact z
noncomputable abbrev Gen := List (Str × Addr) → Value → Value → Value → Value → Obj
/-- a function with this closure -/
noncomputable def FnU (g : Gen) (q : Str) (clos : List (Str × Addr)) : Fz → Value → Prop := fun B v => ∃ (f : Addr) (doc pm cv ctv : Value), v = .ref f ∧ B f = some (g clos doc pm cv ctv) ∧ CodeB B cv q
noncomputable def IsFnG (g : Gen) : Prop := ∀ a b c d e, ∃ fd, (g a b c d e).data = .func fd
theorem fnU_mono {g : Gen} {q : Str} {clos} (hg : IsFnG g) : Mono (FnU g q clos) := ⟨fun B B' v le ⟨f, doc, pm, cv, ctv, h1, h2, h3⟩ => ⟨f, doc, pm, cv, ctv, h1, le _ _ h2, h3.up le⟩, fun B I o v e io ⟨f, doc, pm, cv, ctv, h1, h2, h3⟩ => ⟨f, doc, pm, cv, ctv, h1, (if_neg fun z => by
  obtain ⟨fd, hfd⟩ := hg clos doc pm cv ctv
  obtain ⟨⟨vs, d, _⟩, _⟩ := io
  rw [z, e] at h2; cases h2; rw [hfd] at d; cases d).trans h2, h3.del e io⟩⟩
/-- a function whose free variables stand -/
noncomputable def FnC (g : Gen) (q : Str) (fv : Rho) (self : List Str) : Fz → Value → Prop := fun B v => ∃ (clos : List (Str × Addr)), FnU g q clos B v ∧
  (∀ y d, fv.lookup y = some d → ∃ c oc u, clos.lookup y = some c ∧ B c = some oc ∧ oc.data = .cell (some u) ∧ Rep B u d) ∧
  (∀ y, y ∈ self → ∃ c oc, clos.lookup y = some c ∧ B c = some oc ∧ oc.data = .cell (some v)) ∧ ∀ x y c, clos.lookup x = some c → clos.lookup y = some c → x = y
theorem fnC_mono {g : Gen} {q : Str} {fv self} (hg : IsFnG g) : Mono (FnC g q fv self) := ⟨fun B B' v le ⟨clos, h1, h2, h3, h4⟩ => ⟨clos, (fnU_mono hg).up _ _ _ le h1, fun y d e => let ⟨c, oc, u, a1, a2, a3, a4⟩ := h2 y d e; ⟨c, oc, u, a1, le _ _ a2, a3, a4.mono le⟩,
    fun y m => let ⟨c, oc, a1, a2, a3⟩ := h3 y m; ⟨c, oc, a1, le _ _ a2, a3⟩, h4⟩, fun B I o v e io ⟨clos, h1, h2, h3, h4⟩ => by
  have cut : ∀ {c oc u}, B c = some oc → oc.data = .cell u → (B.del I) c = some oc := fun {c oc u} a2 a3 => (if_neg fun z => by
    obtain ⟨⟨vs, d, _⟩, _⟩ := io
    rw [z, e] at a2; cases a2; rw [d] at a3; cases a3).trans a2
  exact ⟨clos, (fnU_mono hg).del _ _ _ _ e io h1, fun y d ey => let ⟨c, oc, u, a1, a2, a3, a4⟩ := h2 y d ey; ⟨c, oc, u, a1, cut a2 a3, a3, a4.del e io⟩, fun y m => let ⟨c, oc, a1, a2, a3⟩ := h3 y m; ⟨c, oc, a1, cut a2 a3, a3⟩, h4⟩⟩
/-- a nested def's object -/
noncomputable abbrev gN (name qual : Str) (params : Arguments) (body : List Stmt) (scope : Scope) : Gen := fun clos doc pm cv ctv => { cls := .type "function", data := .func (fnX name qual params body scope clos .none .none doc pm none cv ctv) }
theorem gN_fn {name qual params body scope} : IsFnG (gN name qual params body scope) := fun _ _ _ _ _ => ⟨_, rfl⟩
section
variable {w : World} {A : Around} {env : Env} {B0 B B' : Fz} {h0 h h' : Heap} {X : Boxes} {ρ ρ' : Rho} {post : Post} {n : Nat}
/-- a nested def -/
theorem r1_def {name : Str} {params : Arguments} {body : List Stmt} {scope : Scope} {pos : Pos} {fdO : FuncData} {c P : Addr} (fc : FC fdO env) (hcode : fdO.code = .ref c) (m : P ∈ TB) (hT : ∀ h, Inv w h → TabOk h c P)
    (hq : qualnameIn env name name = qualOf P) (hst : Stores env name) (hd0 : params.defaults = []) (hk0 : params.kw_defaults = []) (ha : annTrees params none env = [])
    (hfr : scope.names.all (fun p => p.2 != .free || fdO.scope.names.lookup p.1 == some .cell) = true)
    (p : ∀ clos, (∀ y, (y, .free) ∈ scope.names → clos.lookup y = env.cells.lookup y) → (∀ y c, clos.lookup y = some c → env.cells.lookup y = some c) → post .next X ((name, .prd (FnU (gN name (qualOf P) params body scope) (qualOf P) clos)) :: ρ))
    (hn : okName name := by decide) : Run1 w A env (.FunctionDef name params body [] none [] scope none name pos) X ρ post := .mk fun B0 h0 B h S s E a => by
  obtain ⟨cl, hcl, h1, h2⟩ := closure_go2 (env := env) (names := scope.names) (fun y my => by
    have := List.all_eq_true.mp hfr _ my
    exact fc.cell y (by simpa using this)) rfl
  have I := S.fm.inv
  obtain ⟨ps, hP⟩ := I.tabAt m
  obtain ⟨mg, g1, g2, g3, g4⟩ := I.g
  have hb : h.BuiltinsAt mg P := by
    simp only [TB, List.mem_cons, List.not_mem_nil, or_false] at m
    rcases m with rfl | rfl | rfl
    · exact g2
    · exact g3
    · exact g4
  have hgP : mainGlobals ≠ P := fun z => by
    obtain ⟨o, es, ep, e, d, _⟩ := g1
    rw [z, hP] at e; cases e; cases d
  have T := hT h I
  obtain ⟨C, ps', hP', ht, _⟩ := id T
  have : ps' = ps := by rw [hP] at hP'; cases hP'; rfl
  subst this
  refine nestDef_K hd0 hk0 ha ?_
  rw [hq]
  obtain ⟨eh, tp⟩ := id a
  subst eh
  refine wpAny_mono (wpAny_toks_of (n := 1) tp (mk_any (c := c) (P := P) (pos := pos) (ps := ps') (mg := mg) (obj := gN name (qualOf P) params body scope cl) (gN_fn cl) m I S.stp.inh T hP s (fun v s' => 1 ≤ s'.toks → _) E a
    (fun hnf kk => makeFunction_K hcl S.fm.glob g1 (fc.code.trans hcode) C hP ht hnf hgP hb fun c' ctv doc h' tk x1 x2 x3 x4 x5 => kk c' ctv doc h' tk x1 x2 x3 x4 x5)
    (fun cv hf kk => makeFunction_hit hcl S.fm.glob g1 (fc.code.trans hcode) C hP ht hf hb fun ctv doc h' tk x1 x2 => kk ctv doc h' tk x1 x2) fun f cv doc pm ctv B' h' tk st I' hN hB hc tk1 => ?_)) (fun a s' z => z.2 z.1) fun _ _ z => z.2
  refine (S.ev st ⟨I', tk1⟩).store hst (.prd (fnU_mono gN_fn) ⟨f, doc, pm, cv, ctv, rfl, hB, hc⟩) hn _ _ E ⟨rfl, tk1⟩ fun h₂ tk₂ S₂ _ I₂ _ => ⟨B', h₂, tk₂, X, _, .next, rfl, I₂.pos, st.le, S₂, trivial, p cl h1 h2⟩
theorem fvc_nil : ∀ y d, List.lookup y ([] : Rho) = some d → ρ.lookup y = some d ∧ env.kindOf y = some .cell := fun _ _ h => by cases h
theorem fvc_cons {x : Str} {d : D} {r : Rho} (h : ρ.lookup x = some d) (k : env.kindOf x = some .cell) (s : ∀ y d, r.lookup y = some d → ρ.lookup y = some d ∧ env.kindOf y = some .cell) :
    ∀ y e, List.lookup y ((x, d) :: r) = some e → ρ.lookup y = some e ∧ env.kindOf y = some .cell := fun y e h' => by
  rw [List.lookup_cons] at h'
  split at h'
  · rename_i hb
    cases h'; rw [beq_iff_eq.mp hb]; exact ⟨h, k⟩
  · exact s y e h'
/-- a function's free variables stand, once the cells are frozen -/
theorem rep_FnC (S : St w env B0 h0 X B h ρ) {clos : List (Str × Addr)} {g : Gen} {q : Str} {fv : Rho} {self : List Str} {x : Str} (hg : IsFnG g) (h2 : ∀ y c, clos.lookup y = some c → env.cells.lookup y = some c)
    (h1 : ∀ y, y ∈ fv.map (·.1) ∨ y ∈ self → clos.lookup y = env.cells.lookup y) (hfv : ∀ y d, fv.lookup y = some d → ρ.lookup y = some d ∧ env.kindOf y = some .cell)
    (hself : ∀ y ∈ self, y = x ∧ env.kindOf x = some .cell) {v : Value} (va : VarAt env h x v) (r : Rep B v (.prd (FnU g q clos))) : Rep (frzP (OwnC env) B h) v (.prd (FnC g q fv self)) := by
  obtain ⟨mm, u⟩ := r.prd_inv
  have le := frzP_le (p := OwnC env) S.stp.inh
  have fc : ∀ {y c oc}, env.kindOf y = some .cell → env.cells.lookup y = some c → h.get? c = some oc → frzP (OwnC env) B h c = some oc := fun {y c oc} k l e => by
    unfold frzP; rw [if_pos ⟨y, k, l⟩]; exact e
  refine .prd (fnC_mono hg) ⟨clos, (fnU_mono hg).up _ _ _ le u, fun y d e => ?_, fun y m => ?_, fun a b c ha hb => S.apart a b c (h2 _ _ ha) (h2 _ _ hb)⟩
  · obtain ⟨e', k⟩ := hfv y d e
    obtain ⟨vy, c, l, ⟨oc, ec, dc⟩, ry⟩ := S.fm.cellOf e' (.inl k)
    have my : y ∈ fv.map (·.1) := by
      clear e' k l ec dc ry hfv h1
      induction fv with
      | nil => cases e
      | cons p r ih =>
        rw [List.lookup_cons] at e
        split at e
        · rename_i hb; simp [beq_iff_eq.mp hb]
        · simp only [List.map_cons, List.mem_cons]; exact .inr (ih e)
    exact ⟨c, oc, vy, (h1 y (.inl my)).trans l, fc k l ec, dc, ry.mono le⟩
  · obtain ⟨rfl, k⟩ := hself y m
    rcases va with ⟨k', _⟩ | ⟨_, _, c, l, oc, ec, dc⟩
    · rw [k] at k'; cases k'
    · exact ⟨c, oc, (h1 y (.inr m)).trans l, fc k l ec, dc⟩
theorem self_lookup {y : Str} {dy dd : D} : ∀ (self : List Str) (x : Unit), List.lookup y (self.map fun y => (y, dd)) = some dy → y ∈ self ∧ dy = dd
  | [], _, e => by cases e
  | p :: r, x, e => by
    rw [List.map_cons, List.lookup_cons] at e
    split at e
    · rename_i hb; cases e; simp [beq_iff_eq.mp hb]
    · obtain ⟨z1, z2⟩ := self_lookup r x e; exact ⟨by simp [z1], z2⟩
/-- a call of such a function -/
theorem does_FnC {name q : Str} {params : Arguments} {body : List Stmt} {sc : Scope} {fv : Rho} {self : List Str} {ps : List Str} {ds : List D} {d : D} {vs : List Value} {v : Value}
    (hA : AOk A (n + 1)) (I : Inv w h) (i : InH B h) (r : Rep B v (.prd (FnC (gN name q params body sc) q fv self))) (rv : Reps B vs ds)
    (hp : parOk sc ps = true) (hcell : sc.names.all (fun x => x.2 != .cell) = true) (hloc : ps.all (fun x => sc.names.lookup x == some .local) = true) (hl : ps.length = ds.length)
    (bind : ∀ clos doc pm cv ctv (vs : List Value), vs.length = ps.length → bindArgs (fnX name q params body sc clos .none .none doc pm none cv ctv) ⟨vs, []⟩ = pure (ps.zip vs))
    (hfree : (fv.map (·.1) ++ self).all (fun y => sc.names.lookup y == some .free && !(y == ("__classdict__" : Str)) && !(y == ("__debug__" : Str))) = true)
    (run : ∀ A env, AOk A n → env.scope = sc → Run w A env body [] (ps.zip ds ++ (fv ++ self.map fun y => (y, D.prd (FnC (gN name q params body sc) q fv self)))) (endsIn d)) : Does w A (call v vs) B h (fun v B' _ => Rep B' v d) := by
  obtain ⟨mm, clos, ⟨f, doc, pm, cv, ctv, rfl, hB, hc⟩, h2, h3, h4⟩ := r.prd_inv
  have fr : ∀ y, y ∈ fv.map (·.1) ∨ y ∈ self → sc.names.lookup y = some .free ∧ okName y := fun y m => by
    have := List.all_eq_true.mp hfree y (by rcases m with m | m <;> simp [m])
    simp only [Bool.and_eq_true, beq_iff_eq, Bool.not_eq_true'] at this
    exact ⟨this.1.1, this.1.2, this.2⟩
  have mem_of : ∀ (l : Rho) y d, l.lookup y = some d → y ∈ l.map (·.1) := fun l y d e => by
    induction l with
    | nil => cases e
    | cons p r ih =>
      rw [List.lookup_cons] at e
      split at e
      · rename_i hb; simp [beq_iff_eq.mp hb]
      · simp only [List.map_cons, List.mem_cons]; exact .inr (ih e)
  refine does_def (fd := fnX name q params body sc clos .none .none doc pm none cv ctv) hA I i (i _ _ hB).1 rfl (hc.rec i) rfl rfl rfl hp (fun x m => ?_) (fun x m => ?_) rv hl (bind _ _ _ _ _ vs (by rw [rv.length, hl])) (fun y dy e => ?_) h4 fun A' env hA' he => run A' env hA' (by rw [he]; rfl)
  · have := List.all_eq_true.mp hcell x m
    simpa using this
  · have := List.all_eq_true.mp hloc x m
    simpa using this
  · rw [List.lookup_append] at e
    cases q' : fv.lookup y with
    | some d' =>
      rw [q'] at e; cases e
      obtain ⟨c, oc, u, a1, a2, a3, a4⟩ := h2 y _ q'
      obtain ⟨f1, f2⟩ := fr y (.inl (mem_of _ _ _ q'))
      exact ⟨u, c, f1, a1, ⟨oc, (i _ _ a2).1, a3⟩, a4, f2⟩
    | none =>
      rw [q'] at e
      have my := self_lookup _ () e
      obtain ⟨my, rfl⟩ := my
      obtain ⟨c, oc, a1, a2, a3⟩ := h3 y my
      obtain ⟨f1, f2⟩ := fr y (.inr my)
      exact ⟨_, c, f1, a1, ⟨oc, (i _ _ a2).1, a3⟩, r, f2⟩
end
end Tn
end
section
-- TnW8
open PySem PySem.W PySem.Calls PySem.Spec PyProof.Rows
set_option maxRecDepth 100000
set_option linter.unusedVariables false
namespace Tn
section
variable {w : World} {A : Around} {env : Env} {ρ : Rho} {n : Nat}
structure CallD (w : World) (fd : D) (k : Nat) (ds : List D) (d : D) : Prop where
  go : ∀ A B h v vs, AOk A k → Inv w h → InH B h → Rep B v fd → Reps B vs ds → Does w A (call v vs) B h (fun v B' _ => Rep B' v d)
theorem ev_callD {fe : Expr} {es : List Expr} {pos : Pos} {fd : D} {ds : List D} {d : D} (hA : AOk A n) (hf : Ev w A env ρ fe fd) (hfn : ∀ B v, Rep B v fd → ∃ f o fdd, v = .ref f ∧ B f = some o ∧ o.data = .func fdd) (hne : es ≠ []) (x : EvL w A env ρ es ds) (c : CallD w fd n ds d)
    (hfe : eval (.Call fe es [] pos) env = (do callWith pos (← eval fe env) [] (backTo pos (starEach es env)) []) := by rfl) (hp : ∀ pos, (backTo pos (starEach es env)).any (·.1) = false := by exact fun _ => rfl)
    (he : ∀ pos, ∃ t r, backTo pos (starEach es env) = (false, t) :: r := by exact fun _ => ⟨_, _, rfl⟩) : Ev w A env ρ (.Call fe es [] pos) d := .mk fun B h F s Q E hs k => by
  rw [hfe]
  refine wpAny_bind (hf.go B h F s _ E hs fun v B₁ h₁ tk st I r => ?_)
  obtain ⟨f, o, fdd, rfl, hB, hd⟩ := hfn _ _ r
  obtain ⟨t, rr, he'⟩ := he pos
  refine callWith_of (P := fun h => FnAt f h) (by rw [hp]; rfl) keeps_F ?_
  have y := x.go pos B₁ h₁ (F.step st I) { s with heap := h₁, toks := tk } (fun vs s₁ => FnAt f s₁.heap ∧ wpAny (Md w) A (call (.ref f) ([] ++ vs)) Q E s₁) E I.at fun vs B₂ h₂ tk₂ st₂ I₂ rs => by
    refine ⟨?_, c.go A B₂ h₂ _ vs hA I₂.inv st₂.inh (r.mono st₂.le) rs _ Q E I₂.at fun v B₃ h₃ tk₃ st₃ I₃ q => k v B₃ h₃ tk₃ ((st.trans st₂).trans st₃) I₃ q⟩
    have e := (st₂.inh f o (st₂.le f o hB)).1
    obtain ⟨c1, c2, c3, c4⟩ := o
    exact ⟨c1, c2, fdd, c4, by rw [show h₂.get? f = _ from e]; simp only at hd; rw [hd]⟩
  rw [he'] at y ⊢
  exact evalArgs_plain y
theorem fnC_isfn {g : Gen} {q : Str} {fv self} (hg : IsFnG g) : ∀ B v, Rep B v (.prd (FnC g q fv self)) → ∃ f o fdd, v = .ref f ∧ B f = some o ∧ o.data = .func fdd := fun B v r => by
  obtain ⟨_, clos, ⟨f, doc, pm, cv, ctv, e1, e2, _⟩, _⟩ := r.prd_inv
  obtain ⟨fd, e3⟩ := hg clos doc pm cv ctv
  exact ⟨f, _, fd, e1, e2, e3⟩
theorem evT_list {e : Expr} {ds : List D} (x : Ev w A env ρ e (.list ds)) (hz : ds.length ≤ 1000000) (he : ∀ whole, isTrue e env whole = (do let v ← whole; standAt e.pos; holding [v] (truthy v)) := by exact fun _ => rfl) : EvT w A env ρ e (!ds.isEmpty) := .mk fun B h F s Q E hs k => by
  rw [he]
  refine wpAny_bind (x.go B h F s _ E hs fun v B₁ h₁ tk st I r => wpAny_bind (wpAny_standAt (wpAny_holding ?_)))
  obtain ⟨a, vs, m, rfl, _, _, il, z, _⟩ := r.isL st.inh
  refine wpAny_truthy_list il (by rw [z]; lia) ?_
  refine k _ B₁ h₁ _ st ⟨I.inv, by have := I.pos; show 1 ≤ tk + 1 + 1; lia⟩ ?_
  have : vs.isEmpty = ds.isEmpty := by
    unfold Array.isEmpty
    rw [z]
    cases ds <;> rfl
  rw [this]
end
/-- the number whose digits these are -/
noncomputable def val64 : List Nat → Nat
  | [] => 0
  | d :: r => d + 64 * val64 r
theorem val64_app : ∀ (a b : List Nat), val64 (a ++ b) = val64 a + 64 ^ a.length * val64 b
  | [], b => by simp [val64]
  | d :: r, b => by
    rw [List.cons_append, val64, val64, val64_app r b, List.length_cons, Nat.pow_succ, Nat.mul_add, Nat.add_assoc]
    congr 2
    rw [Nat.mul_comm (64 ^ r.length) 64, Nat.mul_assoc]
theorem val64_lt : ∀ {l : List Nat}, (∀ d ∈ l, d < 64) → val64 l < 64 ^ l.length
  | [], _ => by simp [val64]
  | d :: r, h => by
    have h1 := h d (by simp)
    have h2 := val64_lt (l := r) fun x m => h x (by simp [m])
    rw [val64, List.length_cons, Nat.pow_succ]
    lia
noncomputable def sl (l : List Nat) (a b : Nat) : List Nat := (l.drop a).take (b - a)
theorem sl_split {l : List Nat} {a m b : Nat} (h1 : a ≤ m) (h2 : m ≤ b) : sl l a b = sl l a m ++ sl l m b := by
  unfold sl
  rw [show b - a = (m - a) + (b - m) by lia, List.take_add, List.drop_drop, show a + (m - a) = m by lia]
theorem sl_len {l : List Nat} {a b : Nat} (h : b ≤ l.length) : (sl l a b).length = b - a := by unfold sl; simp; lia
theorem sl_mem {l : List Nat} {a b d : Nat} (h : d ∈ sl l a b) : d ∈ l := List.mem_of_mem_drop (List.mem_of_mem_take h)
noncomputable def in5 : Stmt := (stmBody (stm 5)).headD default
noncomputable def ret5 : Stmt := (stmBody (stm 5)).getD 1 default
noncomputable abbrev g5 : Gen := gN "inner" (qualOf 96) (stmArgs in5) (stmBody in5) (stmScope in5)
theorem body5 : stmBody (stm 5) = [.FunctionDef "inner" (stmArgs in5) (stmBody in5) [] none [] (stmScope in5) none "inner" ⟨77, 4, 82, 55⟩, ret5] := by kernel_rfl
noncomputable abbrev d5 (row : List Nat) : D := .prd (FnC g5 (qualOf 96) [("digits", .list (intsD row)), ("n", .int 6)] ["inner"])
section
variable {w : World} {n : Nat}
theorem sc_kind {env : Env} {sc : Scope} (he : env.scope = sc) {x : Str} {k : NameKind} (h : sc.names.lookup x = some k) : env.kindOf x = some k := by
  unfold Env.kindOf; rw [he]; exact h
theorem inner5 {row : List Nat} (hr : ∀ d ∈ row, d < 64) (hz : row.length ≤ 14) : ∀ m L R, R - L ≤ m → L < R → R ≤ row.length → CallD w (d5 row) (m + 1) [.int (L : Nat), .int (R : Nat)] (.int (val64 (sl row L R) : Nat)) := by
  intro m
  induction m with
  | zero => intro L R h1 h2 _; lia
  | succ m ih =>
    intro L R h1 h2 h3
    refine .mk fun A B h v vs hA I i r rv => ?_
    refine does_FnC (ps := ["L", "R"]) hA I i r rv (by kernel_rfl) (by kernel_rfl) (by kernel_rfl) rfl (fun clos doc pm cv ctv => bind2 fun v u => by kernel_rfl) (by kernel_rfl) fun A env hA he => ?_
    conv in (stmBody _) => whnf
    have eR : (L : Int) + 1 = ((L + 1 : Nat) : Int) := by lia
    refine run_cons (r1_if (evT_cmp (ev_bin (ev_name rfl) ev_int op_add) (ev_name rfl) rfl op_eq) (fun h => ?_) fun h => ?_)
    · have hLR : L + 1 = R := by have := beq_iff_eq.mp h; lia
      subst hLR
      have hL : L < row.length := by lia
      have hv : val64 (sl row L (L + 1)) = row[L] := by
        unfold sl
        rw [show L + 1 - L = 1 by lia, List.drop_eq_getElem_cons hL, List.take_succ_cons, List.take_zero]
        show row[L] + 64 * 0 = row[L]
        lia
      rw [hv]
      exact run_cons (r1_ret (ev_litem (d := .int (row[L] : Nat)) (ev_name rfl) (ev_name rfl) (by lia) (by lia) (by simp [intsD, hL])) rfl)
    · have hLR : L + 1 ≠ R := fun q => by
        subst q
        rw [eR] at h
        simp at h
      obtain ⟨mid, hm⟩ : ∃ mid, mid = (L + R) / 2 := ⟨_, rfl⟩
      refine run_nil ?_
      refine run_cons (r1_assign (d := .int (mid : Nat)) (.inl (sc_kind he (by kernel_rfl))) ((ev_bin (ev_bin (ev_name rfl) (ev_name rfl) op_add) ev_int (op_shr (by decide))).cast ?_) ?_)
      · congr 1
        rw [hm, show ((2 : Int) ^ (1 : Int).toNat) = ((2 : Nat) : Int) from rfl, show (L : Int) + (R : Int) = ((L + R : Nat) : Int) by lia, fdiv4]
      have m1 : L < mid := by lia
      have m2 : mid < R := by lia
      refine run_cons (r1_assign (d := .int ((mid - L) * 6 : Nat)) (.inl (sc_kind he (by kernel_rfl))) ((ev_bin (ev_bin (ev_name rfl) (ev_name rfl) op_sub) (ev_name rfl) (op_mul (by lia))).cast ?_) ?_)
      · congr 1; lia
      have c1 := ih mid R (by lia) m2 h3
      have c2 := ih L mid (by lia) m1 (by lia)
      have b1 : val64 (sl row mid R) < 64 ^ 14 := by
        have := val64_lt (l := sl row mid R) fun d hd => hr d (sl_mem hd)
        rw [sl_len h3] at this
        exact Nat.lt_of_lt_of_le this (Nat.pow_le_pow_right (by decide) (by lia))
      refine run_cons (r1_ret ((ev_bin (ev_bin (ev_callD (hA.le (Nat.le_refl _)) (ev_name rfl) (fnC_isfn gN_fn) (by simp) (evl_cons (ev_name rfl) (evl_cons (ev_name rfl) evl_nil)) c1) (ev_name rfl) (op_shl hA.hh ?_ (by lia) (by lia)))
        (ev_callD hA (ev_name rfl) (fnC_isfn gN_fn) (by simp) (evl_cons (ev_name rfl) (evl_cons (ev_name rfl) evl_nil)) c2) op_add).cast ?_) rfl)
      · have : (64 : Nat) ^ 14 < 2 ^ 100 := by decide
        lia
      · congr 1
        rw [sl_split (Nat.le_of_lt m1) (Nat.le_of_lt m2), val64_app, sl_len (by lia), show (((mid - L) * 6 : Nat) : Int).toNat = (mid - L) * 6 by lia]
        have : (2 : Int) ^ ((mid - L) * 6) = ((64 ^ (mid - L) : Nat) : Int) := by
          rw [Nat.mul_comm, Int.pow_mul]; push_cast; rfl
        rw [this]
        push_cast
        rw [Int.add_comm, Int.mul_comm]
theorem cr_nil {env : Env} {X : Boxes} {ρ : Rho} : CellRho w env X ρ [] := fun _ _ _ _ _ _ _ h => by cases h
theorem cr_cons {env : Env} {X : Boxes} {ρ r : Rho} {x : Str} {d d' : D} (h : ρ.lookup x = some d) (k : ∀ B0 h0 B h (S : St w env B0 h0 X B h ρ) v, VarAt env h x v → Rep B v d → Rep (frzP (OwnC env) B h) v d') (s : CellRho w env X ρ r) : CellRho w env X ρ ((x, d') :: r) := fun B0 h0 B h' S y e h'' => by
  rw [List.lookup_cons] at h''
  split at h''
  · rename_i hb
    cases h''; rw [beq_iff_eq.mp hb]; exact ⟨d, h, fun v va rv => k B0 h0 B h' S v va rv⟩
  · exact s B0 h0 B h' S y e h''
theorem cr_same {env : Env} {X : Boxes} {ρ r : Rho} {x : Str} {d : D} (h : ρ.lookup x = some d) (s : CellRho w env X ρ r) : CellRho w env X ρ ((x, d) :: r) :=
  cr_cons h (fun B0 h0 B h' S v va rv => rv.mono (frzP_le S.stp.inh)) s
theorem all5 : ∀ y ∈ ((["digits", "n", "inner"] : List Str)), (y, NameKind.free) ∈ (stmScope in5).names := by decide +kernel
theorem fn_d2i : fnK (K w.params) 101 100 (funD (o_101 w.params)) (stmBody (stm 5)) := ⟨o_101 _, o_100 _, _, _, rfl, rfl, rfl, rfl, rfl, rfl, rfl, rfl, rfl, rfl⟩
theorem call_d2i {row : List Nat} (hr : ∀ d ∈ row, d < 64) (hz : row.length ≤ 14) (h0 : row ≠ []) : Calls w (.ref 101) (n + 20) [.list (intsD row), .int 6] (.int (val64 row : Nat)) := by
  refine calls_KC (n := n + 19) (ps := ["digits", "n"]) fn_d2i (by kernel_rfl) (by kernel_rfl) rfl (bind2 fun v u => by kernel_rfl) fun A env hA fc => ?_
  have hil : (intsD row).length = row.length := by simp [intsD]
  rw [body5]
  refine run_cons (r1_def (P := 96) fc rfl (by simp [TB]) (fun h I => I.t2) ?_ (fc.cst (by kernel_rfl)) rfl rfl rfl (by kernel_rfl) fun clos h1 h2 => ?_)
  · unfold qualnameIn
    rw [fc.kind (k := .cell) (by kernel_rfl), fc.qual]
    kernel_rfl
  have kd : env.kindOf "digits" = some .cell := fc.kind (by kernel_rfl)
  have kn : env.kindOf "n" = some .cell := fc.kind (by kernel_rfl)
  have ki : env.kindOf "inner" = some .cell := fc.kind (by kernel_rfl)
  have hro : CellRho w env [] ([("inner", .prd (FnU g5 (qualOf 96) clos)), ("digits", .list (intsD row)), ("n", .int 6)]) [("inner", d5 row), ("digits", .list (intsD row))] :=
    cr_cons rfl (fun B0 h0 B h S v va r => rep_FnC S gN_fn h2 (fun y m => h1 y (all5 y (by simpa [or_assoc] using m))) (fvc_cons rfl kd (fvc_cons rfl kn fvc_nil)) (fun y m => ⟨by simpa using m, ki⟩) va r) (cr_same rfl cr_nil)
  conv in ret5 => whnf
  refine run_cons (r1_retC (.int _) hro (ev_ifexp (evT_list (ev_name rfl) (by rw [hil]; lia)) (fun h => ?_) fun h => ?_) rfl)
  · have c := inner5 (w := w) hr hz (n + 18) 0 row.length (by lia) (by cases row with | nil => exact absurd rfl h0 | cons a r => simp) (Nat.le_refl _)
    refine (ev_callD hA (ev_name rfl) (fnC_isfn gN_fn) (by simp) (evl_cons (ev_int.cast rfl) (evl_cons ((ev_callB hA (c_len_list (by rw [hil]; lia)) (evl_cons (ev_name rfl) evl_nil) (fc.kind (by kernel_rfl))).cast (by rw [hil])) evl_nil)) c).cast ?_
    congr 2
    unfold sl
    simp
  · cases row with
    | nil => exact absurd rfl h0
    | cons a r => cases h
end
end Tn
end
section
-- TnX1
open PySem PySem.W PySem.Calls PySem.Spec PyProof.Rows
set_option maxRecDepth 100000
set_option linter.unusedVariables false
namespace Tn
theorem hide_none (h : Heap) (a : Addr) : (h.hide a).get? a = none := hideAll_none (h := h) [a] (.head _)
theorem hide_get {h : Heap} {a b : Addr} {o : Obj} (e : h.get? b = some o) (n : b ≠ a) : (h.hide a).get? b = some o := hideAll_get [a] e (by simpa using n)
theorem hide_of {h : Heap} {a b : Addr} {o : Obj} (e : (h.hide a).get? b = some o) : h.get? b = some o := of_hideAll [a] e
section
variable {w : World} {A : Around} {env : Env} {B0 B B' : Fz} {h0 h h' : Heap} {X X₁ X₂ : Boxes} {ρ ρ' : Rho} {post : Post} {a : Addr} {ds ds' : List D}
theorem inv_hide {hb : Heap} (I0 : Inv w hb) (ha : hb.get? a = none) (I : Inv w h) {vs : Array Value} {n : Nat} (e : h.get? a = some (listO vs n)) : Inv w (h.hide a) :=
  I0.but I ha e (safe_seq rfl) fun b o nb eb => hide_get eb nb
theorem St.hide (S : St w env B0 h0 (X₁ ++ (a, ds) :: X₂) B h ρ) : St w env B0 h0 (X₁ ++ X₂) B (h.hide a) ρ := by
  obtain ⟨a1, a2, vs, n, e, r⟩ := S.box a ds (by simp)
  obtain ⟨p1, p2⟩ := S.apartL e
  have Iv := inv_hide S.base.1 a1 S.fm.inv e
  have ne : ∀ {b : Addr} {o' : Obj}, h0.get? b = some o' → b ≠ a := fun e q => by rw [q, a1] at e; cases e
  have st : Stp B0 h0 B (h.hide a) := ⟨⟨fun b o nb eb => hide_get (S.stp.up.keep b o nb eb) (ne eb), fun b vs m eb => by
      obtain ⟨more, e'⟩ := S.stp.up.tab b vs m eb
      exact ⟨more, hide_get e' (ne eb)⟩, fun b eb => by
      by_cases q : b = a
      · rw [q]; exact a1
      · refine S.stp.up.none b ?_
        cases z : h.get? b with
        | none => rfl
        | some o => rw [hide_get z q] at eb; cases eb⟩, S.stp.le, fun b o eb => ⟨hide_get (S.stp.inh b o eb).1 (fun z => by rw [z, a2] at eb; cases eb), (S.stp.inh b o eb).2⟩, S.stp.fresh⟩
  have kn : ∀ {b : Addr} {m : Str → Option Value}, h.Ns b m → (h.hide a).Ns b m := fun x => let ⟨o', es, ep, q, d, r⟩ := x; ⟨o', es, ep, hide_get q (fun z => by rw [z, e] at q; cases q; cases d), d, r⟩
  have kc : ∀ {c : Addr} {v : Option Value}, h.IsCell c v → (h.hide a).IsCell c v := fun x => let ⟨o', q, d⟩ := x; ⟨o', hide_get q (fun z => by rw [z, e] at q; cases q; cases d), d⟩
  obtain ⟨l1, l2, m, l3⟩ := S.loc
  have p := S.boxes
  rw [List.pairwise_append, List.pairwise_cons] at p
  refine ⟨S.base, st, ⟨Iv, st.inh, S.fm.kind, S.fm.glob, S.fm.blt, fun x d q => ?_⟩, ⟨l1, l2, m, kn l3⟩, fun x c q r => ?_, S.apart, fun b dd q => ?_, List.pairwise_append.mpr ⟨p.1, p.2.1.2, fun x hx y hy => p.2.2 x hx y (by simp [hy])⟩⟩
  · obtain ⟨v, y, r, hb⟩ := S.fm.vars x d q
    refine ⟨v, ?_, r, hb⟩
    rcases y with ⟨a, m, b, c⟩ | ⟨a, n, c, b, dd⟩
    · exact .inl ⟨a, m, kn b, c⟩
    · exact .inr ⟨a, n, c, b, kc dd⟩
  · obtain ⟨a, b, v, c⟩ := S.cel x c q r
    exact ⟨a, b, v, kc c⟩
  · obtain ⟨x1, x2, ws, k, x3, x4⟩ := S.box b dd (by rcases List.mem_append.mp q with q | q <;> simp [q])
    refine ⟨x1, x2, ws, k, hide_get x3 fun z => ?_, x4⟩
    rcases List.mem_append.mp q with q | q
    · exact p.2.2 _ q (a, ds) (by simp) z
    · exact p.2.1.1 _ q z.symm
theorem St.show' (S : St w env B0 h0 (X₁ ++ X₂) B h ρ) (a1 : h0.get? a = none) (a2 : B a = none) {vs : Array Value} {n : Nat} (e : h.get? a = some (listO vs n)) (r : Reps B vs.toList ds) (nd : ∀ p ∈ X₁ ++ X₂, p.1 ≠ a) : St w env B0 h0 (X₁ ++ (a, ds) :: X₂) B h ρ := by
  have p := S.boxes
  rw [List.pairwise_append] at p
  refine ⟨S.base, S.stp, S.fm, S.loc, S.cel, S.apart, fun b dd q => ?_, ?_⟩
  · rcases List.mem_append.mp q with q | q
    · exact S.box b dd (by simp [q])
    · rcases List.mem_cons.mp q with q | q
      · cases q; exact ⟨a1, a2, vs, n, e, r⟩
      · exact S.box b dd (by simp [q])
  · rw [List.pairwise_append, List.pairwise_cons]
    refine ⟨p.1, ⟨fun y hy z => nd y (by simp [hy]) z.symm, p.2.1⟩, fun x hx y hy => ?_⟩
    rcases List.mem_cons.mp hy with z | z
    · rw [z]; exact nd x (by simp [hx])
    · exact p.2.2 x hx y z
/-- a contract of a function that changes the list at a -/
structure CallX (w : World) (fd : D) (k : Nat) (args : List D) (a : Addr) (ds ds' : List D) : Prop where
  go : ∀ A B h v vs, AOk A k → Inv w h → Inv w (h.hide a) → InH B (h.hide a) → (∃ ws m, h.get? a = some (listO ws m) ∧ Reps B ws.toList ds) → Rep B v fd → Reps B vs args →
    ∀ (s : Shared) (Q : Value → Shared → Prop) (E : Value → Shared → Prop), At s h →
      (∀ B' h' tk, Stp B (h.hide a) B' h' → InvT w h' tk → B' a = none → (∃ ws m, h'.get? a = some (listO ws m) ∧ Reps B' ws.toList ds') → Q .none { s with heap := h', toks := tk }) → wpAny (Md w) A (call v vs) Q E s
end
end Tn
end
section
-- TnX2
open PySem PySem.W PySem.Calls PySem.Spec PyProof.Rows
set_option maxRecDepth 100000
set_option linter.unusedVariables false
namespace Tn
noncomputable def endsX (a : Addr) (ds : List D) : Post := fun f X ρ => (match f with
  | .ret d => d = .none
  | .next => True
  | _ => False) ∧ X = [(a, ds)]
section
variable {w : World} {A : Around} {env : Env} {ρ : Rho} {post : Post} {n : Nat} {a : Addr} {ds ds' : List D}
theorem callX_FnC {name q : Str} {params : Arguments} {body : List Stmt} {sc : Scope} {fv : Rho} {self : List Str} {ps : List Str} {args : List D}
    (hp : parOk sc ps = true) (hcell : sc.names.all (fun x => x.2 != .cell) = true) (hloc : ps.all (fun x => sc.names.lookup x == some .local) = true) (hl : ps.length = args.length)
    (bind : ∀ clos doc pm cv ctv (vs : List Value), vs.length = ps.length → bindArgs (fnX name q params body sc clos .none .none doc pm none cv ctv) ⟨vs, []⟩ = pure (ps.zip vs))
    (hfree : (fv.map (·.1) ++ self).all (fun y => sc.names.lookup y == some .free && !(y == ("__classdict__" : Str)) && !(y == ("__debug__" : Str))) = true)
    (run : ∀ A env, AOk A n → env.scope = sc → Run w A env body [(a, ds)] (ps.zip args ++ (fv ++ self.map fun y => (y, D.prd (FnC (gN name q params body sc) q fv self)))) (endsX a ds')) : CallX w (.prd (FnC (gN name q params body sc) q fv self)) (n + 1) args a ds ds' := by
  refine .mk fun A B h v vs hA I Ih i ⟨ws, m, eb, rb⟩ r rv s Q E at_ k => ?_
  obtain ⟨mm, clos, ⟨f, doc, pm, cv, ctv, rfl, hB, hc⟩, h2, h3, h4⟩ := id r.prd_inv
  obtain ⟨p1, p2, p3, p4, p5⟩ := parOk.get hp
  obtain ⟨rfl, tp⟩ := at_
  have fr : ∀ y, y ∈ fv.map (·.1) ∨ y ∈ self → sc.names.lookup y = some .free ∧ okName y := fun y m => by
    have := List.all_eq_true.mp hfree y (by rcases m with m | m <;> simp [m])
    simp only [Bool.and_eq_true, beq_iff_eq, Bool.not_eq_true'] at this
    exact ⟨this.1.1, this.1.2, this.2⟩
  have mem_of : ∀ (l : Rho) y d, l.lookup y = some d → y ∈ l.map (·.1) := fun l y d e => by
    induction l with
    | nil => cases e
    | cons p r ih =>
      rw [List.lookup_cons] at e
      split at e
      · rename_i hb; simp [beq_iff_eq.mp hb]
      · simp only [List.map_cons, List.mem_cons]; exact .inr (ih e)
  have hl' : ∀ x ∈ ps, sc.names.lookup x = some .local := fun x m => by
    have := List.all_eq_true.mp hloc x m
    simpa using this
  have inh : ∀ {b o}, B b = some o → s.heap.get? b = some o := fun {b o} e => hide_of (i b o e).1
  have hcd : s.heap.CodeRec cv q := by
    obtain ⟨c0, oc, vs0, tt, e1, e2, e3, e4⟩ := hc.rec i
    exact ⟨c0, oc, vs0, tt, e1, hide_of e2, e3, e4⟩
  refine wpAny_call (codeAny_call_def (fd := fnX name q params body sc clos .none .none doc pm none cv ctv) hA.room (inh hB) rfl I.lim hcd rfl (.of_eq (bind _ _ _ _ _ vs (by rw [rv.length, hl]))) (fun x m => by
    have := List.all_eq_true.mp hcell x m
    simpa using this) (fun x m => hl' x.1 (List.of_mem_zip m).1) (fun h₀ ns kp => ?_) p2 p3 p1)
  generalize he : callEnv (fnX name q params body sc clos .none .none doc pm none cv ctv) s.heap.objs.size f = env'
  have hL : env'.locals = s.heap.objs.size := by rw [← he]; rfl
  have hsc : env'.scope = sc := by rw [← he]; rfl
  have hcl : env'.cells = clos := by rw [← he]; rfl
  have nL : (s.heap.hide a).get? s.heap.objs.size = none := by
    cases z : (s.heap.hide a).get? s.heap.objs.size with
    | none => rfl
    | some o => have := hide_of z; rw [get_size] at this; cases this
  have st := Stp.keep (w := w) i (.of_keeps (h' := h₀) fun b o e => kp b o (hide_of e))
  have S : St w env' B (s.heap.hide a) [(a, ds)] B h₀ (ps.zip args ++ (fv ++ self.map fun y => (y, D.prd (FnC (gN name q params body sc) q fv self)))) := by
    refine ⟨⟨Ih, i⟩, st, ⟨I.of_keeps kp, st.inh, hsc ▸ p1, by rw [← he]; rfl, by rw [← he]; rfl, fun x dx e => ?_⟩, ⟨hL.symm ▸ nL, hL.symm ▸ inh_none i nL, _, hL.symm ▸ ns⟩, fun x c kc _ => ?_, fun x y c e1 e2 => h4 x y c (hcl ▸ e1) (hcl ▸ e2), fun b dd q => ?_, List.pairwise_singleton _ _⟩
    · have kd : ∀ {y k}, sc.names.lookup y = some k → env'.kindOf y = some k := fun h => sc_kind hsc h
      rw [List.lookup_append] at e
      cases q1 : (ps.zip args).lookup x with
      | some dx' =>
        rw [q1] at e; cases e
        obtain ⟨j, j1, j2⟩ := zip_get q1
        obtain ⟨v, v1, v2⟩ := rv.get j2
        have mx := List.mem_of_getElem? j1
        exact ⟨v, .inl ⟨kd (hl' x mx), _, hL.symm ▸ ns, lookup_zip p5 j1 v1⟩, v2, (p4 x mx).2⟩
      | none =>
        rw [q1] at e
        have e : (fv ++ self.map fun y => (y, D.prd (FnC (gN name q params body sc) q fv self))).lookup x = some dx := e
        rw [List.lookup_append] at e
        cases q' : fv.lookup x with
        | some d' =>
          rw [q'] at e; cases e
          obtain ⟨c, oc, u, a1, a2, a3, a4⟩ := h2 x _ q'
          obtain ⟨f1, f2⟩ := fr x (.inl (mem_of _ _ _ q'))
          exact ⟨u, .inr ⟨.inr (kd f1), f2.1, c, hcl ▸ a1, ⟨oc, kp _ _ (inh a2), a3⟩⟩, a4, f2.2⟩
        | none =>
          rw [q'] at e
          have my := self_lookup _ () e
          obtain ⟨my, rfl⟩ := my
          obtain ⟨c, oc, a1, a2, a3⟩ := h3 x my
          obtain ⟨f1, f2⟩ := fr x (.inr my)
          exact ⟨_, .inr ⟨.inr (kd f1), f2.1, c, hcl ▸ a1, ⟨oc, kp _ _ (inh a2), a3⟩⟩, r, f2.2⟩
    · have hk : sc.names.lookup x = some .cell := by
        have : env'.scope.names.lookup x = some .cell := kc
        rw [hsc] at this; exact this
      have := List.all_eq_true.mp hcell _ (PySem.mem_of_lookup hk)
      simp at this
    · rw [List.mem_singleton] at q; cases q
      exact ⟨hide_none _ _, inh_none i (hide_none _ _), ws, m, kp _ _ eb, rb⟩
  refine wpAny_mono ((run _ _ (hA.deeper _) hsc).go B (s.heap.hide a) B h₀ S _ (fun _ _ => False) ⟨rfl, Nat.le_trans tp (Nat.le_add_right _ _)⟩) (fun f s' ⟨B', h', tk', X', ρ', fd, e1, e2, e3, e4, e5, e6⟩ => ?_) fun _ _ z => z.elim
  subst e1
  obtain ⟨e7, rfl⟩ := e6
  obtain ⟨b1, b2, ws', m', b3, b4⟩ := e4.box a ds' (by simp)
  have fin := k B' h' tk' e4.stp ⟨e4.fm.inv, e2⟩ b2 ⟨ws', m', b3, b4⟩
  cases f with
  | ret v => cases fd with
    | ret d' =>
      have : d' = .none := e7
      subst this
      have : v = .none := by cases (show Rep B' v .none from e5); rfl
      subst this
      exact fin
    | next => exact e5.elim
    | brk => exact e5.elim
    | cont => exact e5.elim
  | next => cases fd with
    | next => exact fin
    | ret _ => exact e5.elim
    | brk => exact e5.elim
    | cont => exact e5.elim
  | brk => cases fd with
    | brk => exact e7.elim
    | next => exact e5.elim
    | ret _ => exact e5.elim
    | cont => exact e5.elim
  | cont => cases fd with
    | cont => exact e7.elim
    | next => exact e5.elim
    | ret _ => exact e5.elim
    | brk => exact e5.elim
end
end Tn
end
section
-- TnX3
open PySem PySem.W PySem.Calls PySem.Spec PyProof.Rows
set_option maxRecDepth 100000
set_option linter.unusedVariables false
namespace Tn
section
variable {w : World} {A : Around} {env : Env} {ρ : Rho} {post : Post} {n : Nat} {a : Addr} {ds ds' : List D}
/-- a call, as a statement, of a function that changes a box -/
theorem r1_callX {x : Str} {p1 pos p2 : Pos} {es : List Expr} {fd : D} {args : List D} (hA : AOk A n) (hx : ρ.lookup x = some fd) (hfn : ∀ B v, Rep B v fd → ∃ f o fdd, v = .ref f ∧ B f = some o ∧ o.data = .func fdd)
    (el : EvL w A env ρ es args) (c : CallX w fd n args a ds ds') (p : post .next [(a, ds')] ρ) (hne : es ≠ [] := by simp)
    (hfe : eval (.Call (.Name x p1) es [] pos) env = (do callWith pos (← eval (.Name x p1) env) [] (backTo pos (starEach es env)) []) := by rfl) (hp : ∀ pos, (backTo pos (starEach es env)).any (·.1) = false := by exact fun _ => rfl)
    (he : ∀ pos, ∃ t r, backTo pos (starEach es env) = (false, t) :: r := by exact fun _ => ⟨_, _, rfl⟩) (hi : interactive env = false := by rfl) : Run1 w A env (.Expr (.Call (.Name x p1) es [] pos) p2) [(a, ds)] ρ post := .mk fun B0 h0 B h S s E at_ => by
  refine wpAny_Expr ?_ hi rfl
  rw [hfe]
  refine wpAny_bind ((ev_name (w := w) (A := A) (env := env) (pos := p1) hx).go B h S.fm s _ E at_ fun v B₁ h₁ tk st I r => ?_)
  have S₁ := S.ev st I
  obtain ⟨f, o, fdd, rfl, hB, hd⟩ := hfn _ _ r
  obtain ⟨t, rr, he'⟩ := he pos
  refine callWith_of (P := fun h => FnAt f h) (by rw [hp]; rfl) keeps_F ?_
  have y := el.go pos B₁ h₁ S₁.fm { s with heap := h₁, toks := tk } (fun vs s₁ => FnAt f s₁.heap ∧ wpAny (Md w) A (call (.ref f) ([] ++ vs)) (fun v s' => match v with | .ref _ => False | _ => (fun fl s' => ∃ B' h' tk X' ρ' fd, s' = { s with heap := h', toks := tk } ∧ 1 ≤ tk ∧ (∀ a o, B a = some o → B' a = some o) ∧ St w env B0 h0 X' B' h' ρ' ∧ FlowAt B' fl fd ∧ post fd X' ρ') Flow.next s') E s₁) E I.at fun vs B₂ h₂ tk₂ st₂ I₂ rs => by
    have S₂ := S₁.ev st₂ I₂
    refine ⟨?_, ?_⟩
    · have e := (st₂.inh f o (st₂.le f o hB)).1
      obtain ⟨c1, c2, c3, c4⟩ := o
      exact ⟨c1, c2, fdd, c4, by rw [show h₂.get? f = _ from e]; simp only at hd; rw [hd]⟩
    · obtain ⟨a1, a2, ws, m, a3, a4⟩ := S₂.box a ds (by simp)
      have SH : St w env B0 h0 [] B₂ (h₂.hide a) ρ := (show St w env B0 h0 ([] ++ (a, ds) :: []) B₂ h₂ ρ from S₂).hide
      refine c.go A B₂ h₂ _ vs hA I₂.inv SH.fm.inv SH.fm.inh ⟨ws, m, a3, a4⟩ (r.mono st₂.le) rs _ _ E I₂.at fun B' h' tk' st' I' nB ⟨ws', m', b3, b4⟩ => ?_
      have SE := SH.ev st' I'
      exact ⟨B', h', tk', [(a, ds')], ρ, .next, rfl, I'.pos, fun b o q => st'.le b o (st₂.le b o (st.le b o q)), St.show' (X₁ := []) (X₂ := []) SE a1 nB b3 b4 (by simp), trivial, p⟩
  rw [he'] at y ⊢
  exact evalArgs_plain y
end
theorem xor_sum (a b : Nat) : (a ^^^ b) + 2 * (a &&& b) = a + b := by
  induction a using Nat.strongRecOn generalizing b with
  | _ a ih =>
    by_cases h : a = 0
    · subst h; simp
    · have i := ih (a / 2) (by lia) (b / 2)
      have h1 : (a ^^^ b) / 2 = a / 2 ^^^ b / 2 := Nat.xor_div_two
      have h2 : (a &&& b) / 2 = a / 2 &&& b / 2 := Nat.and_div_two
      have h3 : (a ^^^ b) % 2 = 1 ↔ ¬ (a % 2 = 1 ↔ b % 2 = 1) := Nat.xor_mod_two_eq_one
      have h4 : (a &&& b) % 2 = 1 ↔ (a % 2 = 1 ∧ b % 2 = 1) := Nat.and_mod_two_eq_one
      rw [← h1, ← h2] at i
      lia
theorem bitXor_nat (a b : Nat) : Builtin.bitXor (a : Int) (b : Int) = ((a ^^^ b : Nat) : Int) := by
  rw [bitXor_and, bitAnd_pp (by lia) (by lia)]
  have := xor_sum a b
  simp
  lia
theorem xor_low (x s : Nat) : x ^^^ (x / 2 ^ s * 2 ^ s) = x % 2 ^ s := by
  apply Nat.eq_of_testBit_eq
  intro i
  rw [Nat.testBit_xor, Nat.testBit_mod_two_pow, Nat.testBit_mul_two_pow, Nat.testBit_div_two_pow]
  by_cases h : i < s
  · have h' : ¬ s ≤ i := by lia
    simp [h, h']
  · simp [h, show s ≤ i by lia, show i - s + s = i by lia]
/-- the digits -/
noncomputable def dig (x i : Nat) : Nat := x / 64 ^ i % 64
/-- the places L to R are filled with x -/
noncomputable def fill (ds : List D) (x L R : Nat) : List D := ds.mapIdx fun i d => if L ≤ i ∧ i < R then D.int (dig x (i - L) : Nat) else d
theorem fill_len (ds : List D) (x L R : Nat) : (fill ds x L R).length = ds.length := by simp [fill]
theorem fill_get (ds : List D) (x L R i : Nat) : (fill ds x L R)[i]? = ds[i]?.map fun d => if L ≤ i ∧ i < R then D.int (dig x (i - L) : Nat) else d := by simp [fill, List.getElem?_mapIdx]
theorem fill_one {ds : List D} {x L : Nat} (hx : x < 64) : ds.set L (.int (x : Nat)) = fill ds x L (L + 1) := by
  apply List.ext_getElem?
  intro i
  rw [fill_get, List.getElem?_set]
  by_cases h : L = i
  · subst h
    by_cases hl : L < ds.length
    · simp [hl, dig, Nat.mod_eq_of_lt hx]
    · simp [hl]
  · rw [if_neg h]
    cases ds[i]? with
    | none => rfl
    | some d =>
      rw [Option.map_some, if_neg (by lia)]
theorem fill_two {ds : List D} {x L m R : Nat} (h1 : L ≤ m) (h2 : m ≤ R) : fill (fill ds (x % 64 ^ (m - L)) L m) (x / 64 ^ (m - L)) m R = fill ds x L R := by
  apply List.ext_getElem?
  intro i
  rw [fill_get, fill_get, fill_get, Option.map_map]
  congr 1
  funext d
  show (if m ≤ i ∧ i < R then _ else if L ≤ i ∧ i < m then _ else d) = _
  by_cases a : m ≤ i ∧ i < R
  · rw [if_pos a, if_pos (by lia)]
    unfold dig
    rw [Nat.div_div_eq_div_mul, ← Nat.pow_add, show m - L + (i - m) = i - L by lia]
  · rw [if_neg a]
    by_cases b : L ≤ i ∧ i < m
    · rw [if_pos b, if_pos (by lia)]
      unfold dig
      obtain ⟨k, hk⟩ : ∃ k, m - L = (i - L) + 1 + k := ⟨m - L - (i - L) - 1, by lia⟩
      rw [hk, Nat.add_assoc, Nat.pow_add, Nat.mod_mul_right_div_self, Nat.pow_add, Nat.pow_one, Nat.mod_mul_right_mod]
    · rw [if_neg b, if_neg (by lia)]
end Tn
end
section
-- TnX4
open PySem PySem.W PySem.Calls PySem.Spec PyProof.Rows
set_option maxRecDepth 100000
set_option linter.unusedVariables false
namespace Tn
noncomputable def in4 : Stmt := (stmBody (stm 4)).getD 1 default
noncomputable abbrev g4 : Gen := gN "inner" (qualOf 89) (stmArgs in4) (stmBody in4) (stmScope in4)
noncomputable abbrev d4 (a : Addr) : D := .prd (FnC g4 (qualOf 89) [("a_digits", .ref a), ("n", .int 6)] ["inner"])
theorem bind3 {fd : FuncData} {p q r : Str} (h : ∀ v u t, bindArgs fd ⟨[v, u, t], []⟩ = pure [(p, v), (q, u), (r, t)]) : ∀ vs : List Value, vs.length = [p, q, r].length → bindArgs fd ⟨vs, []⟩ = pure ([p, q, r].zip vs)
  | [v, u, t], _ => h v u t
section
variable {w : World} {n : Nat} {a : Addr}
theorem inner4 : ∀ m x L R ds, R - L ≤ m → m ≤ 16 → L < R → R ≤ ds.length → ds.length ≤ 1000 → x < 64 ^ (R - L) → CallX w (d4 a) (m + 1) [.int (x : Nat), .int (L : Nat), .int (R : Nat)] a ds (fill ds x L R) := by
  intro m
  induction m with
  | zero => intro x L R ds h1 _ h2; lia
  | succ m ih =>
    intro x L R ds h1 hm16 h2 h3 h4 hx
    refine callX_FnC (ps := ["x", "L", "R"]) (by kernel_rfl) (by kernel_rfl) (by kernel_rfl) rfl (fun clos doc pm cv ctv => bind3 fun v u t => by kernel_rfl) (by kernel_rfl) fun A env hA he => ?_
    conv in (stmBody _) => whnf
    have eR : (L : Int) + 1 = ((L + 1 : Nat) : Int) := by lia
    refine run_cons (r1_if (evT_cmp (ev_bin (ev_name rfl) ev_int op_add) (ev_name rfl) rfl op_eq) (fun h => ?_) fun h => ?_)
    · have hLR : L + 1 = R := by have := beq_iff_eq.mp h; lia
      subst hLR
      have hx64 : x < 64 := by rw [show L + 1 - L = 1 by lia] at hx; simpa using hx
      refine run_cons (r1_setZ (X₁ := []) (X₂ := []) (ρ' := [("x", .int (x : Nat))]) (v := (x : Nat)) (fzs_cons rfl (.same _) fzs_nil) (ev_name rfl) (ev_name rfl) (ev_name rfl) (by lia) (by lia) (by lia) ?_)
      refine run_cons (r1_ret_none ?_)
      show _ ∧ _
      refine ⟨rfl, ?_⟩
      rw [show ((L : Nat) : Int).toNat = L by lia, fill_one hx64]
      rfl
    · have hLR : L + 1 ≠ R := fun q => by
        subst q
        rw [eR] at h
        simp at h
      obtain ⟨mid, hm⟩ : ∃ mid, mid = (L + R) / 2 := ⟨_, rfl⟩
      have m1 : L < mid := by lia
      have m2 : mid < R := by lia
      refine run_nil ?_
      refine run_cons (r1_assign (d := .int (mid : Nat)) (.inl (sc_kind he (by kernel_rfl))) ((ev_bin (ev_bin (ev_name rfl) (ev_name rfl) op_add) ev_int (op_shr (by decide))).cast ?_) ?_)
      · congr 1
        rw [hm, show ((2 : Int) ^ (1 : Int).toNat) = ((2 : Nat) : Int) from rfl, show (L : Int) + (R : Int) = ((L + R : Nat) : Int) by lia, fdiv4]
      refine run_cons (r1_assign (d := .int ((mid - L) * 6 : Nat)) (.inl (sc_kind he (by kernel_rfl))) ((ev_bin (ev_bin (ev_name rfl) (ev_name rfl) op_sub) (ev_name rfl) (op_mul (by lia))).cast ?_) ?_)
      · congr 1; lia
      have p2 : (2 : Nat) ^ ((mid - L) * 6) = 64 ^ (mid - L) := by rw [Nat.mul_comm, Nat.pow_mul]
      have ts : (((mid - L) * 6 : Nat) : Int).toNat = (mid - L) * 6 := by lia
      have p2i : (2 : Int) ^ ((mid - L) * 6) = ((64 ^ (mid - L) : Nat) : Int) := by rw [← p2]; push_cast; rfl
      have hxb : x < 2 ^ 100 := Nat.lt_of_lt_of_le hx (Nat.le_trans (Nat.pow_le_pow_right (by decide) (by lia : R - L ≤ 16)) (by decide))
      have hub : x / 64 ^ (mid - L) ≤ x := Nat.div_le_self _ _
      refine run_cons (r1_assign (d := .int (x / 64 ^ (mid - L) : Nat)) (.inl (sc_kind he (by kernel_rfl))) ((ev_bin (ev_name rfl) (ev_name rfl) (op_shr (by lia))).cast ?_) ?_)
      · congr 1
        rw [ts, p2i, fdiv4]
      refine run_cons (r1_assign (d := .int (x % 64 ^ (mid - L) : Nat)) (.inl (sc_kind he (by kernel_rfl))) ((ev_bin (ev_name rfl) (ev_bin (ev_name rfl) (ev_name rfl) (op_shl hA.hh (by rw [Int.natAbs_natCast]; exact Nat.lt_of_le_of_lt hub hxb) (by lia) (by lia))) op_xor).cast ?_) ?_)
      · congr 1
        rw [ts, p2i, show ((x / 64 ^ (mid - L) : Nat) : Int) * ((64 ^ (mid - L) : Nat) : Int) = ((x / 64 ^ (mid - L) * 64 ^ (mid - L) : Nat) : Int) by push_cast; rfl, bitXor_nat, ← p2, xor_low]
      have hpos : 0 < 64 ^ (mid - L) := Nat.pow_pos (by decide)
      have c1 := ih (x % 64 ^ (mid - L)) L mid ds (by lia) (by lia) m1 (by lia) h4 (Nat.mod_lt _ hpos)
      have c2 := ih (x / 64 ^ (mid - L)) mid R (fill ds (x % 64 ^ (mid - L)) L mid) (by lia) (by lia) m2 (by rw [fill_len]; lia) (by rw [fill_len]; lia) (by
        rw [Nat.div_lt_iff_lt_mul hpos, ← Nat.pow_add, show R - mid + (mid - L) = R - L by lia]; exact hx)
      rw [fill_two (Nat.le_of_lt m1) (Nat.le_of_lt m2)] at c2
      refine run_cons (r1_callX hA rfl (fnC_isfn gN_fn) (evl_cons (ev_name rfl) (evl_cons (ev_name rfl) (evl_cons (ev_name rfl) evl_nil))) c1 ?_ (hi := ?_))
      · refine run_cons (r1_callX hA rfl (fnC_isfn gN_fn) (evl_cons (ev_name rfl) (evl_cons (ev_name rfl) (evl_cons (ev_name rfl) evl_nil))) c2 ?_ (hi := ?_))
        · exact run_nil ⟨trivial, rfl⟩
        · unfold interactive; rw [he]; rfl
      · unfold interactive; rw [he]; rfl
theorem all4 : ∀ y ∈ ((["a_digits", "n", "inner"] : List Str)), (y, NameKind.free) ∈ (stmScope in4).names := by decide +kernel
theorem fn_i2d : fnK (K w.params) 94 93 (funD (o_94 w.params)) (stmBody (stm 4)) := ⟨o_94 _, o_93 _, _, _, rfl, rfl, rfl, rfl, rfl, rfl, rfl, rfl, rfl, rfl⟩
end
end Tn
end
section
-- TnX5
open PySem PySem.W PySem.Calls PySem.Spec PyProof.Rows
set_option maxRecDepth 100000
set_option linter.unusedVariables false
namespace Tn
theorem reps_cut {B B' : Fz} (hB : ∀ a o, B a = some o → (∀ v, o.data ≠ .cell v) → (∀ vs q t, o.data = .fields vs → vs[1]? ≠ some (.str q t)) → B' a = some o) : ∀ {ds : List D} {vs : List Value}, (∀ d ∈ ds, Simple d) → Reps B vs ds → Reps B' vs ds
  | [], _, _, r => by cases r; exact .nil
  | d :: ds, _, h, r => by
    cases r with
    | cons a b => exact .cons (rep_cut hB (h d (by simp)) a) (reps_cut hB (fun d m => h d (by simp [m])) b)
section
variable {w : World} {A : Around} {env : Env} {ρ ρ' : Rho} {post : Post} {n : Nat} {a : Addr} {ds ds' : List D} {B0 B B' : Fz} {h0 h h' : Heap} {X : Boxes}
/-- ints, worked out while the boxes are frozen -/
theorem St.evlZ (S : St w env B0 h0 X B h ρ) {es : List Expr} {ks : List Int} (hρ : ∀ x d', ρ'.lookup x = some d' → ∃ d, ρ.lookup x = some d ∧ FzD X d d') (ev : EvL w A env ρ' es (ks.map .int)) (pos : Pos)
    (s : Shared) (Q : List Value → Shared → Prop) (E : Value → Shared → Prop) (at_ : At s h) (kk : ∀ vs B' h' tk, St w env B0 h0 X B' h' ρ → Stp B h B' h' → InvT w h' tk → Reps B' vs (ks.map .int) → Q vs { s with heap := h', toks := tk }) :
    wpAny (Md w) A (spliced (backTo pos (starEach es env))) Q E s :=
  ev.go pos _ h (S.frz_fm hρ) s Q E at_ fun vs B' h' tk st I r => by
    obtain ⟨S', le⟩ := S.thaw st I
    refine kk vs _ h' tk S' ⟨st.up, le, S'.stp.inh, fun b o e => ?_⟩ I ?_
    · unfold thwB at e
      split at e
      · cases e
      · rename_i q
        rcases st.fresh b o e with z | z
        · unfold frzB at z
          rw [if_neg q] at z
          exact .inl z
        · exact .inr z
    · have : ∀ (ks : List Int) (vs : List Value), Reps B' vs (ks.map .int) → Reps (thwB X B') vs (ks.map .int) := fun ks => by
        induction ks with
        | nil => intro vs r; cases r; exact .nil
        | cons k ks ih => intro vs r; cases r with | cons x y => obtain ⟨t, rfl⟩ := x.int_inv; exact .cons (.int _ _) (ih _ y)
      exact this ks vs r
/-- a call, as a statement, of a nested function that changes a box of this frame -/
theorem r1_callXC {x : Str} {p1 pos p2 : Pos} {es : List Expr} {fdU fd : D} {ks : List Int} (hA : AOk A n) (hx : ρ.lookup x = some fdU) (hfn : ∀ B v, Rep B v fdU → ∃ f o fdd, v = .ref f ∧ B f = some o ∧ o.data = .func fdd)
    (hρ : ∀ x d', ρ'.lookup x = some d' → ∃ d, ρ.lookup x = some d ∧ FzD [(a, ds)] d d') (el : EvL w A env ρ' es (ks.map .int)) (c : CallX w fd n (ks.map .int) a ds ds') (hsi : ∀ d ∈ ds, Simple d) (hsi' : ∀ d ∈ ds', Simple d)
    (hC : ∀ B0 h0 B h (S : St w env B0 h0 [] B h ρ) v, VarAt env h x v → Rep B v fdU → Rep (frzP (OwnC env) B h) v fd) (p : post .next [(a, ds')] ρ) (hne : es ≠ [] := by simp)
    (hfe : eval (.Call (.Name x p1) es [] pos) env = (do callWith pos (← eval (.Name x p1) env) [] (backTo pos (starEach es env)) []) := by rfl) (hp : ∀ pos, (backTo pos (starEach es env)).any (·.1) = false := by exact fun _ => rfl)
    (he : ∀ pos, ∃ t r, backTo pos (starEach es env) = (false, t) :: r := by exact fun _ => ⟨_, _, rfl⟩) (hi : interactive env = false := by rfl) : Run1 w A env (.Expr (.Call (.Name x p1) es [] pos) p2) [(a, ds)] ρ post := .mk fun B0 h0 B h S s E at_ => by
  obtain ⟨v, va, r, hb⟩ := S.fm.vars x fdU hx
  obtain ⟨f, o, fdd, rfl, hB, hd⟩ := hfn _ _ r
  refine wpAny_Expr ?_ hi rfl
  rw [hfe]
  have nm : ∀ (Q : Value → Shared → Prop), Q (.ref f) s → wpAny (Md w) A (eval (.Name x p1) env) Q E s := fun Q hq => by
    obtain ⟨rfl, tp⟩ := at_
    rcases va with ⟨a, m, b, c⟩ | ⟨a, n, c, b, dd⟩
    · exact wpAny_Name (wpAny_loadName_local S.fm.kind a b c hq) hb
    · rcases a with a | a
      · exact wpAny_Name (wpAny_loadName_cell S.fm.kind a b dd hq) hb
      · exact wpAny_Name (wpAny_loadName_free S.fm.kind a b dd hq n) hb
  refine wpAny_bind (nm _ ?_)
  obtain ⟨t, rr, he'⟩ := he pos
  refine callWith_of (P := fun h => FnAt f h) (by rw [hp]; rfl) keeps_F ?_
  have y := S.evlZ hρ el pos s (fun vs s₁ => FnAt f s₁.heap ∧ wpAny (Md w) A (call (.ref f) ([] ++ vs)) (fun v s' => match v with | .ref _ => False | _ => (fun fl s' => ∃ B' h' tk X' ρ' fd, s' = { s with heap := h', toks := tk } ∧ 1 ≤ tk ∧ (∀ a o, B a = some o → B' a = some o) ∧ St w env B0 h0 X' B' h' ρ' ∧ FlowAt B' fl fd ∧ post fd X' ρ') Flow.next s') E s₁) E at_ fun vs B₂ h₂ tk₂ S₂ st₂ I₂ rs => by
    refine ⟨?_, ?_⟩
    · have e := (st₂.inh f o (st₂.le f o hB)).1
      obtain ⟨c1, c2, c3, c4⟩ := o
      exact ⟨c1, c2, fdd, c4, by rw [show h₂.get? f = _ from e]; simp only at hd; rw [hd]⟩
    · obtain ⟨a1, a2, ws, m, a3, a4⟩ := S₂.box a ds (by simp)
      have SH : St w env B0 h0 [] B₂ (h₂.hide a) ρ := (show St w env B0 h0 ([] ++ (a, ds) :: []) B₂ h₂ ρ from S₂).hide
      have le2 := frzP_le (p := OwnC env) SH.stp.inh
      have va2 : VarAt env (h₂.hide a) x (.ref f) := by
        have va1 := va.up S.fm.inv st₂.up
        have nl := S₂.apartL a3
        rcases va1 with ⟨k, m', b, cc⟩ | ⟨k, nn, cc, b, oc, ec, dc⟩
        · refine .inl ⟨k, m', ?_, cc⟩
          obtain ⟨o', es', ep, q, d, r'⟩ := b
          exact ⟨o', es', ep, hide_get q nl.1, d, r'⟩
        · exact .inr ⟨k, nn, cc, b, oc, hide_get ec (fun z => by rw [z, a3] at ec; cases ec; cases dc), dc⟩
      refine c.go A (frzP (OwnC env) B₂ (h₂.hide a)) h₂ _ vs hA I₂.inv SH.fm.inv (SH.frzP_inh SH.hidC) ⟨ws, m, a3, a4.mono le2⟩ (hC _ _ _ _ SH _ va2 (r.mono st₂.le)) (rs.mono le2) _ _ E I₂.at fun B' h' tk' st' I' nB ⟨ws', m', b3, b4⟩ => ?_
      obtain ⟨SE, le3⟩ := SH.thawP SH.hidC st' I'
      refine ⟨thwP (OwnC env) B', h', tk', [(a, ds')], ρ, .next, rfl, I'.pos, fun b o q => le3 b o (st₂.le b o q), St.show' (X₁ := []) (X₂ := []) SE a1 ?_ b3 (reps_cut (fun b o e hc _ => ?_) hsi' b4) (by simp), trivial, p⟩
      · unfold thwP
        split
        · rfl
        · exact nB
      · unfold thwP
        rw [if_neg]
        · exact e
        · rintro ⟨x, k, l⟩
          obtain ⟨_, _, u, oc, ec, dc⟩ := SH.cel x b k l
          have : frzP (OwnC env) B₂ (h₂.hide a) b = some oc := by
            unfold frzP; rw [if_pos ⟨x, k, l⟩]; exact ec
          have := st'.le _ _ this
          rw [this] at e; cases e
          exact hc _ dc
  rw [he'] at y ⊢
  exact evalArgs_plain y
end
end Tn
end
section
-- TnX6
open PySem PySem.W PySem.Calls PySem.Spec PyProof.Rows
set_option maxRecDepth 100000
set_option linter.unusedVariables false
namespace Tn
section
variable {w : World} {A : Around} {env : Env} {ρ ρ' : Rho} {n : Nat}
theorem ev_meth0 {o : Expr} {name : Str} {apos pos : Pos} {dd d : D} {T id : String} (hA : AOk A n) (eo : Ev w A env ρ o dd) (c : Calls w (.builtin id) n [dd] d)
    (pa : PlainAttrs T) (slot : Slot T name id) (ty : typeOf (.builtin id) = pure (.type "method_descriptor"))
    (hT : ∀ B (s : Shared) v, Inv w s.heap → InH B s.heap → Rep B v dd → s.TypeIs v T ∧ ∀ a, v = .ref a → ∃ ob, s.heap.get? a = some ob ∧ ob.dict = none)
    (hb : attributeBase o name env (eval o env) = eval o env := by rfl)
    (hpos : methodCallPos true o env apos pos = pure pos := by rfl) : Ev w A env ρ (.Call (.Attribute o name apos) [] [] pos) d := .mk fun B h F s Q E hs k => by
  rw [arm_eval_Call, hb]
  refine wpAny_bind (eo.go B h F s _ E hs fun v B₁ h₁ tk st I r => wpAny_bind (wpAny_standAt ?_))
  obtain ⟨t1, t2⟩ := hT B₁ { s with heap := h₁, toks := tk } v I.inv st.inh r
  unfold methodCall
  refine wpAny_bind (wpAny_holding (getMethod_builtin t1 pa slot ty t2 ?_))
  refine wpAny_bind (wpAny_of_eq hpos ?_)
  refine callWith_of (P := fun h => Inv w h) rfl (fun h I => keep_blt w _ h I) (evalArgs_nil3 ⟨I.inv, ?_⟩)
  exact c.go A B₁ h₁ [v] hA I.inv st.inh (.cons r .nil) _ Q E I.at fun v B₂ h₂ tk₂ st₂ I₂ q => k v B₂ h₂ tk₂ (st.trans st₂) I₂ q
theorem evT_int {e : Expr} {k : Int} (x : Ev w A env ρ e (.int k)) (he : ∀ whole, isTrue e env whole = (do let v ← whole; standAt e.pos; holding [v] (truthy v)) := by exact fun _ => rfl) : EvT w A env ρ e (k != 0) := .mk fun B h F s Q E hs kk => by
  rw [he]
  refine wpAny_bind (x.go B h F s _ E hs fun v B₁ h₁ tk st I r => wpAny_bind (wpAny_standAt (wpAny_holding ?_)))
  obtain ⟨t, rfl⟩ := r.int_inv
  exact PyProof.Rows.truthy_int (kk _ B₁ h₁ tk st I rfl)
theorem EvN.cast {e : Expr} {ds ds' : List D} (x : EvN w A env ρ e ds) (h : ds = ds') : EvN w A env ρ e ds' := h ▸ x
theorem fnU_isfn {g : Gen} {q : Str} {clos} (hg : IsFnG g) : ∀ B v, Rep B v (.prd (FnU g q clos)) → ∃ f o fdd, v = .ref f ∧ B f = some o ∧ o.data = .func fdd := fun B v r => by
  obtain ⟨_, f, doc, pm, cv, ctv, e1, e2, _⟩ := r.prd_inv
  obtain ⟨fd, e3⟩ := hg clos doc pm cv ctv
  exact ⟨f, _, fd, e1, e2, e3⟩
theorem c_bitlen {a : Int} : Calls w (.builtin "int.bit_length") n [.int a] (.int (Builtin.Int.intBits a : Nat)) := .mk fun A B hp vs hA I i r0 => by
  obtain ⟨v, rfl, r⟩ := r0.one
  obtain ⟨t, rfl⟩ := r.int_inv
  exact .same I i fun s Q E hs _ k => call_gives PySem.F.slot_int_bit_length (typeIs_int _ _ _) PySem.F.entry_int_bit_length (PySem.F.args_int_bit_length_1 _) (AutoIntG2.int_bit_length_int_0 a t) (k _ _ (.int _ _))
noncomputable def nDig (x : Nat) : Nat := (Builtin.Int.intBits (x : Int) + 5) / 6
noncomputable def digs (x : Nat) : List Nat := (List.range (nDig x)).map (dig x)
theorem bits_nat (x : Nat) : x < 2 ^ Builtin.Int.intBits (x : Int) ∧ ∀ k, x < 2 ^ k → Builtin.Int.intBits (x : Int) ≤ k := by
  unfold Builtin.Int.intBits
  split
  · rename_i hz
    have : x = 0 := by simpa using hz
    subst this
    simp
  · rename_i hz
    have hx : x ≠ 0 := fun q => hz (by simp [q])
    rw [Int.natAbs_natCast]
    exact ⟨Nat.lt_log2_self, fun k hk => (Nat.log2_lt hx).mpr hk⟩
theorem nDig_lt (x : Nat) : x < 64 ^ nDig x := by
  have h := (bits_nat x).1
  refine Nat.lt_of_lt_of_le h ?_
  rw [show (64 : Nat) = 2 ^ 6 from rfl, ← Nat.pow_mul]
  refine Nat.pow_le_pow_right (by decide) ?_
  unfold nDig
  lia
theorem nDig_le {x : Nat} (h : x < 2 ^ 96) : nDig x ≤ 16 := by
  have := (bits_nat x).2 96 h
  unfold nDig
  lia
theorem fill_all (x m : Nat) : fill (List.replicate m (.int 0)) x 0 m = intsD ((List.range m).map (dig x)) := by
  apply List.ext_getElem?
  intro i
  rw [fill_get]
  unfold intsD
  by_cases h : i < m
  · simp [h, List.getElem?_range h]
  · simp [h, List.getElem?_eq_none (show (List.range m).length ≤ i by simp; lia)]
theorem flat_rep (m : Nat) : (List.replicate m [D.int 0]).flatten = List.replicate m (D.int 0) := by simp
theorem call_i2d {x : Nat} (hx : x < 2 ^ 96) : Calls w (.ref 94) (n + 20) [.int (x : Nat), .int 6] (.list (intsD (digs x))) := by
  refine calls_KC (n := n + 19) (ps := ["a", "n"]) fn_i2d (by kernel_rfl) (by kernel_rfl) rfl (bind2 fun v u => by kernel_rfl) fun A env hA fc => ?_
  have hm := nDig_le hx
  have hb4 : stmBody (stm 4) = (stmBody (stm 4)).getD 0 default :: .FunctionDef "inner" (stmArgs in4) (stmBody in4) [] none [] (stmScope in4) none "inner" ⟨62, 4, 71, 28⟩ :: (stmBody (stm 4)).drop 2 := by kernel_rfl
  rw [hb4]
  conv in List.getD _ _ _ => whnf
  have e6 : (((Builtin.Int.intBits (x : Int) : Nat) : Int) + 6 - 1).fdiv 6 = (nDig x : Nat) := by
    unfold nDig
    rw [show ((Builtin.Int.intBits (x : Int) : Nat) : Int) + 6 - 1 = ((Builtin.Int.intBits (x : Int) + 5 : Nat) : Int) by lia]
    exact fdiv4 _ 6
  refine run_cons (r1_new (ds := List.replicate (nDig x) (.int 0)) (fc.cst (by kernel_rfl)) ?_ fun a => ?_)
  · exact EvN.cast (evn_mul (a := [D.int 0]) (k := (nDig x : Nat)) (EvN.ev (evn_list (evl_cons ev_int evl_nil) (by simp))) ((ev_bin (ev_bin (ev_bin (ev_meth0 hA (ev_name rfl) c_bitlen PySem.F.plainAttrs_int PySem.F.slot_int_bit_length PySem.F.type_int_bit_length hT_int) (ev_name rfl) op_add) ev_int op_sub) (ev_name rfl) (op_div (by decide) (by decide))).cast (by rw [e6]))
      (by simp) (by simp; lia) (by lia) (by lia)) (by rw [show ((nDig x : Nat) : Int).toNat = nDig x by lia, flat_rep])
  refine run_cons (r1_def (P := 89) fc rfl (by simp [TB]) (fun h I => I.t1) ?_ (fc.cst (by kernel_rfl)) rfl rfl rfl (by kernel_rfl) fun clos h1 h2 => ?_)
  · unfold qualnameIn
    rw [fc.kind (k := .cell) (by kernel_rfl), fc.qual]
    kernel_rfl
  have kd : env.kindOf "a_digits" = some .cell := fc.kind (by kernel_rfl)
  have kn : env.kindOf "n" = some .cell := fc.kind (by kernel_rfl)
  have ki : env.kindOf "inner" = some .cell := fc.kind (by kernel_rfl)
  conv in List.drop _ _ => whnf
  refine run_cons (r1_if (evT_int (ev_name rfl)) (fun h => ?_) fun h => ?_)
  · have hm0 : 0 < nDig x := by
      rcases Nat.eq_zero_or_pos (nDig x) with z | z
      · have := nDig_lt x
        rw [z] at this
        simp at this
        subst this
        simp at h
      · exact z
    have c := inner4 (w := w) (a := a) 16 x 0 (nDig x) (List.replicate (nDig x) (.int 0)) (by lia) (by lia) hm0 (by simp) (by simp; lia) (nDig_lt x)
    refine run_cons (r1_callXC (n := 17) (ks := [(x : Nat), 0, (nDig x : Nat)]) (fd := d4 a) (ρ' := [("a", .int (x : Nat)), ("a_digits", .list (List.replicate (nDig x) (.int 0)))]) (hA.le (by lia)) rfl (fnU_isfn gN_fn) (fzs_cons rfl (.same _) (fzs_cons rfl (.box (by simp)) fzs_nil))
      (evl_cons (ev_name rfl) (evl_cons ev_int (evl_cons ((ev_callB hA (c_len_list (by simp; lia)) (evl_cons (ev_name rfl) evl_nil) (fc.kind (by kernel_rfl))).cast (by simp)) evl_nil))) c (fun d hd => ?_) (fun d hd => ?_) (fun B0 h0 B h S v va r => rep_FnC S gN_fn h2 (fun y m => h1 y (all4 y (by simpa [or_assoc] using m))) (fvc_cons rfl kd (fvc_cons rfl kn fvc_nil)) (fun y m => ⟨by simpa using m, ki⟩) va r) ?_ (hi := ?_))
    · rw [List.eq_of_mem_replicate hd]; exact .int _
    · rw [fill_all] at hd
      unfold intsD at hd
      obtain ⟨q, _, rfl⟩ := List.mem_map.mp hd
      exact .int _
    · rw [fill_all]
      refine run_nil (run_freeze (X₁ := []) (X₂ := []) (x := "a_digits") rfl ?_)
      exact run_cons (r1_ret (ev_name rfl) rfl)
    · unfold interactive; rw [fc.scope]; rfl
  · have hx0 : x = 0 := by simpa using h
    subst hx0
    refine run_nil (run_freeze (X₁ := []) (X₂ := []) (x := "a_digits") rfl ?_)
    exact run_cons (r1_ret (ev_name rfl) rfl)
end
end Tn
end
section
-- TnX7
open PySem PySem.W PySem.Calls PySem.Spec PyProof.Rows
set_option maxRecDepth 100000
set_option linter.unusedVariables false
namespace Tn
noncomputable def lead0 : List Nat → Nat
  | [] => 0
  | d :: r => if d = 0 then lead0 r + 1 else 0
section
variable {w : World} {n : Nat}
theorem fn_shared : fnK (K w.params) 177 176 (funD (o_177 w.params)) (stmBody (stm 67)) := ⟨o_177 _, o_176 _, _, _, rfl, rfl, rfl, rfl, rfl, rfl, rfl, rfl, rfl, rfl⟩
theorem lead0_drop {l : List Nat} {i : Nat} (h : i < l.length) : lead0 (l.drop i) = if l[i] = 0 then lead0 (l.drop (i + 1)) + 1 else 0 := by
  rw [List.drop_eq_getElem_cons h, lead0]
theorem call_shared {a b : Nat} (hx : a ^^^ b < 2 ^ 96) : Calls w (.ref 177) (n + 22) [.int (a : Nat), .int (b : Nat)] (.int (lead0 (digs (a ^^^ b)) : Nat)) := by
  refine calls_K (n := n + 21) (ps := ["one", "other"]) fn_shared (by kernel_rfl) (by kernel_rfl) (by kernel_rfl) rfl (bind2 fun v u => by kernel_rfl) fun A L hA => ?_
  conv in (stmBody _) => whnf
  have hm := nDig_le hx
  generalize hl : digs (a ^^^ b) = l
  have hll : l.length ≤ 16 := by rw [← hl]; simpa [digs] using hm
  refine run_cons (r1_assign (d := .int 0) (.inl rfl) ev_int ?_)
  refine run_cons (r1_for (d := .list (intsD l)) hA.hh (.inl rfl) (ev_callG hA (hl ▸ call_i2d (n := n + 1) hx) (evl_cons ((ev_bin (ev_name rfl) (ev_name rfl) op_xor).cast (by rw [bitXor_nat])) (evl_cons ev_int evl_nil))) itb_list
    (fun i X ρ => lead0 l = i + lead0 (l.drop i) ∧ Has [] [("shared", .int (i : Nat))] X ρ) ⟨by simp, rfl, sub_cons rfl sub_nil⟩ ?_ ?_)
  · rintro i X' ρ' e he ⟨hi, hv⟩
    have hlt : i < l.length := by have := (List.getElem?_eq_some_iff.mp he).1; simpa [intsD] using this
    have : e = .int (l[i] : Nat) := by
      simp [intsD, hlt] at he
      exact he.symm
    subst this
    have hd := lead0_drop hlt
    refine run_base1 hv ?_
    refine run_cons (r1_if (evT_not (evT_bool (ev_callG hA (call_eof (n := n + 20)) (evl_cons (ev_name rfl) evl_nil)) fun _ => rfl)) (fun h => ?_) fun h => ?_)
    · have h0 : l[i] ≠ 0 := by
        intro q; rw [q] at h; simp at h
      rw [if_neg h0] at hd
      rw [hd] at hi
      refine run_cons (r1_ret (ev_name rfl) ?_)
      show D.int (i : Nat) = _
      rw [hi]; rfl
    · have h0 : l[i] = 0 := by simpa using h
      rw [if_pos h0] at hd
      refine run_nil ?_
      refine run_cons (r1_aug (.inl rfl) rfl ev_int op_iadd (run_nil ⟨by lia, rfl, sub_cons ?_ sub_nil⟩))
      show some (D.int ((i : Int) + 1)) = some (D.int ((i + 1 : Nat) : Int))
      rfl
  · rintro X' ρ' ⟨hi, hv⟩
    refine run_base hv ?_
    refine run_cons (r1_ret (ev_name rfl) ?_)
    show D.int ((intsD l).length : Nat) = _
    have : (intsD l).length = l.length := by simp [intsD]
    rw [this] at hi ⊢
    rw [List.drop_length] at hi
    rw [hi]; rfl
end
end Tn
end
section
-- TnP2
open PySem PySem.W PySem.Calls PySem.Spec PyProof.Rows
set_option maxRecDepth 100000
set_option linter.unusedVariables false
namespace Tn
theorem dig_val : ∀ (l : List Nat) (k : Nat), (∀ d ∈ l, d < 64) → dig (val64 l) k = l.getD k 0
  | [], k, _ => by simp [val64, dig]
  | d :: r, 0, h => by
    have := h d (by simp)
    simp [val64, dig]
    lia
  | d :: r, k + 1, h => by
    have h1 := h d (by simp)
    have ih := dig_val r k fun x m => h x (by simp [m])
    have e : (d + 64 * val64 r) / 64 = val64 r := by lia
    unfold dig at ih ⊢
    rw [Nat.pow_succ, Nat.mul_comm, ← Nat.div_div_eq_div_mul, val64, e, ih]
    simp
theorem dig_xor (x y k : Nat) : dig (x ^^^ y) k = dig x k ^^^ dig y k := by
  unfold dig
  have : (64 : Nat) ^ k = 2 ^ (6 * k) := by rw [Nat.pow_mul]
  rw [this, Nat.xor_div_two_pow, show (64 : Nat) = 2 ^ 6 from rfl, Nat.xor_mod_two_pow]
theorem xor_zero_iff {a b : Nat} : a ^^^ b = 0 ↔ a = b := by
  constructor
  · intro h
    have := congrArg (fun x => x ^^^ b) h
    simpa [Nat.xor_assoc] using this
  · rintro rfl; simp
theorem lead0_spec : ∀ (l : List Nat) (k d : Nat), (∀ i, i < k → l[i]? = some 0) → l[k]? = some d → d ≠ 0 → lead0 l = k
  | [], k, d, _, h, _ => by simp at h
  | a :: r, 0, d, _, h, hd => by
    have : a = d := by simpa using h
    subst this
    simp [lead0, hd]
  | a :: r, k + 1, d, h0, h, hd => by
    have : a = 0 := by simpa using h0 0 (by lia)
    subst this
    rw [lead0, if_pos rfl, lead0_spec r k d (fun i hi => by simpa using h0 (i + 1) (by lia)) (by simpa using h) hd]
theorem lcp_same : ∀ (a b : List Nat) (i : Nat), i < lcp a b → a.getD i 0 = b.getD i 0
  | [], _, i, h => by simp [lcp] at h
  | _ :: _, [], i, h => by simp [lcp] at h
  | x :: r, y :: t, i, h => by
    rw [lcp] at h
    split at h
    · rename_i e
      subst e
      cases i with
      | zero => rfl
      | succ i => simpa using lcp_same r t i (by lia)
    · lia
theorem lcp_diff : ∀ (a b : List Nat), (∀ d ∈ a, d ≠ 0) → (∀ d ∈ b, d ≠ 0) → a ≠ b → a.getD (lcp a b) 0 ≠ b.getD (lcp a b) 0
  | [], [], _, _, h => absurd rfl h
  | [], y :: t, _, hb, _ => by have := hb y (by simp); simpa [lcp] using this.symm
  | x :: r, [], ha, _, _ => by have := ha x (by simp); simpa [lcp] using this
  | x :: r, y :: t, ha, hb, h => by
    rw [lcp]
    split
    · rename_i e
      subst e
      have := lcp_diff r t (fun d m => ha d (by simp [m])) (fun d m => hb d (by simp [m])) fun q => h (by rw [q])
      rw [Nat.add_comm]
      simpa using this
    · rename_i e
      simpa using e
theorem lead_lcp {a b : List Nat} (ha : ∀ d ∈ a, d < 64 ∧ d ≠ 0) (hb : ∀ d ∈ b, d < 64 ∧ d ≠ 0) (h : a ≠ b) : lead0 (digs (val64 a ^^^ val64 b)) = lcp a b := by
  have hd : ∀ k, dig (val64 a ^^^ val64 b) k = a.getD k 0 ^^^ b.getD k 0 := fun k => by
    rw [dig_xor, dig_val _ _ fun d m => (ha d m).1, dig_val _ _ fun d m => (hb d m).1]
  have hk : dig (val64 a ^^^ val64 b) (lcp a b) ≠ 0 := by
    rw [hd]
    exact fun q => lcp_diff a b (fun d m => (ha d m).2) (fun d m => (hb d m).2) h (xor_zero_iff.mp q)
  have hlt : lcp a b < nDig (val64 a ^^^ val64 b) := by
    rcases Nat.lt_or_ge (lcp a b) (nDig (val64 a ^^^ val64 b)) with z | z
    · exact z
    · exfalso
      apply hk
      unfold dig
      rw [Nat.div_eq_of_lt (Nat.lt_of_lt_of_le (nDig_lt _) (Nat.pow_le_pow_right (by decide) z))]
  have hg : ∀ i, i < nDig (val64 a ^^^ val64 b) → (digs (val64 a ^^^ val64 b))[i]? = some (dig (val64 a ^^^ val64 b) i) := fun i hi => by
    unfold digs
    rw [List.getElem?_map, List.getElem?_range hi]; rfl
  refine lead0_spec _ _ _ (fun i hi => ?_) (hg _ hlt) hk
  rw [hg i (by lia), hd, xor_zero_iff.mpr (lcp_same a b i hi)]
end Tn
end
section
-- TnP3
open PySem PySem.W PySem.Calls PySem.Spec PyProof.Rows
set_option maxRecDepth 100000
set_option linter.unusedVariables false
namespace Tn
theorem rp_ne {a b c u : Nat} (h : u ≠ a) : ∀ (l : List Nat), rp a b c (u :: l) = u :: rp a b c l
  | [] => rfl
  | v :: r => by rw [rp, if_neg (by simp [h])]
theorem rp_ne2 {a b c u v : Nat} (h : v ≠ b) (l : List Nat) : rp a b c (u :: v :: l) = u :: rp a b c (v :: l) := by rw [rp, if_neg (by simp [h])]
theorem rp_hit {a b c : Nat} (l : List Nat) : rp a b c (a :: b :: l) = c :: rp a b c l := by rw [rp, if_pos (by simp)]
/-- the letters that the text is read as -/
noncomputable def tk : List Nat → List Nat
  | [] => []
  | [c] => [c]
  | c :: d :: r => if c = 45 ∧ d = 62 then 97 :: tk r else if c = 62 ∧ d = 62 then 98 :: tk r else c :: tk (d :: r)
noncomputable def In3 (c : Nat) : Prop := c = 45 ∨ c = 62 ∨ c = 124
theorem rp_head {d : Nat} (hd : d ≠ 62) (r : List Nat) : ∃ e Z, rp 45 62 97 (d :: r) = e :: Z ∧ e ≠ 62 := by
  cases r with
  | nil => exact ⟨d, [], rfl, hd⟩
  | cons v r =>
    rw [rp]
    split
    · exact ⟨97, _, rfl, by decide⟩
    · exact ⟨d, _, rfl, hd⟩
theorem short_tk : ∀ (n : Nat) (p : List Nat), p.length ≤ n → (∀ c ∈ p, In3 c) → shortOf p = tk p
  | _, [], _, _ => rfl
  | 0, _ :: _, h, _ => by simp at h
  | n + 1, [c], _, h => by simp [shortOf, rp, tk]
  | n + 1, c :: d :: r, hl, h => by
    have ih1 : shortOf r = tk r := short_tk n r (by simp at hl; omega) fun x m => h x (by simp [m])
    have ih2 : shortOf (d :: r) = tk (d :: r) := short_tk n (d :: r) (by simp at hl ⊢; omega) fun x m => h x (by simp at m ⊢; exact .inr m)
    unfold shortOf at ih1 ih2 ⊢
    rw [tk]
    by_cases h1 : c = 45 ∧ d = 62
    · obtain ⟨rfl, rfl⟩ := h1
      rw [if_pos ⟨rfl, rfl⟩, rp_hit, rp_ne (by decide), ih1]
    · rw [if_neg h1]
      by_cases h2 : c = 62 ∧ d = 62
      · obtain ⟨rfl, rfl⟩ := h2
        rw [if_pos ⟨rfl, rfl⟩, rp_ne (a := 45) (by decide), rp_ne (a := 45) (by decide), rp_hit, ih1]
      · rw [if_neg h2]
        by_cases hc : c = 62
        · subst hc
          have hd : d ≠ 62 := fun q => h2 ⟨rfl, q⟩
          obtain ⟨e, Z, he, hn⟩ := rp_head hd r
          rw [rp_ne (by decide), he, rp_ne2 hn, ← he, ih2]
        · have : rp 45 62 97 (c :: d :: r) = c :: rp 45 62 97 (d :: r) := by
            rw [rp, if_neg]
            intro q
            simp only [Bool.and_eq_true, beq_iff_eq] at q
            exact h1 q
          rw [this, rp_ne hc, ih2]
noncomputable def nmOf (x : List Nat) : Nat := if x = [45] then 15 else if x = [62] then 21 else if x = [45, 62] then 51 else 34
/-- a sign read and its letter -/
inductive Rl : List Nat → List Nat → Prop
  | nil : Rl [] []
  | same {c : Nat} {s p : List Nat} : (c = 45 ∨ c = 62) → Rl s p → Rl (c :: s) (c :: p)
  | gap {g : Nat} {s p : List Nat} : isC8 g = true → Rl s p → Rl (g :: s) (124 :: p)
theorem Rl.app {a b s p : List Nat} (x : Rl a b) (y : Rl s p) : Rl (a ++ s) (b ++ p) := by
  induction x with
  | nil => exact y
  | same h _ ih => exact .same h ih
  | gap h _ ih => exact .gap h ih
theorem c8_no {c : Nat} (h : c = 45 ∨ c = 62) : isC8 c = false := by rcases h with rfl | rfl <;> decide
theorem rd_tk : ∀ (n : Nat) (s p : List Nat), s.length ≤ n → Rl s p → (rd s).map nmOf = ((tk p).filter fun c => c != 124).map numOf := by
  intro n
  induction n with
  | zero =>
    intro s p h x
    cases x with
    | nil => rfl
    | same _ _ => simp at h
    | gap _ _ => simp at h
  | succ n IH =>
    intro s p h x
    cases x with
    | nil => rfl
    | gap hg x =>
      rename_i g s p
      have ih := IH s p (by simp at h; omega) x
      rw [rd_c8 hg]
      cases p with
      | nil => cases x; rfl
      | cons d r => rw [tk, if_neg (by simp), if_neg (by simp), List.filter_cons_of_neg (by simp), ih]
    | same hc x =>
      rename_i c s p
      have h8 := c8_no hc
      have ih := IH s p (by simp at h; omega) x
      cases x with
      | nil => rcases hc with rfl | rfl <;> rfl
      | gap hg y =>
        rename_i g s' p'
        have hn : ((c == 45 && g == 62) || (c == 62 && g == 62)) = false := by
          have : g ≠ 62 := fun q => by subst q; exact absurd hg (by decide)
          simp [this]
        rw [rd_single h8 hn, tk, if_neg (by simp), if_neg (by simp), List.map_cons, List.filter_cons_of_pos (by rcases hc with rfl | rfl <;> decide), List.map_cons, ih]
        rcases hc with rfl | rfl <;> rfl
      | same hd y =>
        rename_i d s' p'
        have ih2 := IH s' p' (by simp at h; omega) y
        rcases hc with rfl | rfl <;> rcases hd with rfl | rfl
        · rw [rd_single h8 (by decide), tk, if_neg (by decide), if_neg (by decide), List.map_cons, List.filter_cons_of_pos (by decide), List.map_cons, ih]; rfl
        · rw [rd_pair h8 (by decide), tk, if_pos (by decide), List.map_cons, List.filter_cons_of_pos (by decide), List.map_cons, ih2]; rfl
        · rw [rd_single h8 (by decide), tk, if_neg (by decide), if_neg (by decide), List.map_cons, List.filter_cons_of_pos (by decide), List.map_cons, ih]; rfl
        · rw [rd_pair h8 (by decide), tk, if_neg (by decide), if_pos (by decide), List.map_cons, List.filter_cons_of_pos (by decide), List.map_cons, ih2]; rfl
end Tn
end
section
-- TnP4
open PySem PySem.W PySem.Calls PySem.Spec PyProof.Rows
set_option maxRecDepth 100000
set_option linter.unusedVariables false
namespace Tn
theorem unseen_b1 : ∀ c ∈ unseenL, isB1 c = true := by decide
theorem gaps_b1 : ∀ c ∈ gapsL, isB1 c = false := by decide
theorem b1_45 : isB1 45 = false := by decide
theorem b1_62 : isB1 62 = false := by decide
theorem getD_mem {l : List Nat} {j : Nat} (h : j < l.length) : l.getD j 0 ∈ l := by rw [getD_of h]; exact List.getElem_mem h
/-- what is left of a piece -/
noncomputable def pcQ (x : Nat) : List Nat := if x % 4 = 0 then [45] else if x % 4 = 1 then [62] else if x % 4 = 2 then [45, 62] else [62, gapsL.getD (x / 4 % 8) 0, 62]
theorem seen_pc (x : Nat) : seenOf (pcS x) = pcQ x := by
  unfold pcS pcQ seenOf
  split
  · rfl
  · split
    · rfl
    · split
      · have := unseen_b1 _ (getD_mem (l := unseenL) (j := x / 4 % 10) (by simp [unseenL]; lia))
        simp only [List.filter_cons, List.filter_nil, b1_45, b1_62, this]
        rfl
      · have := gaps_b1 _ (getD_mem (l := gapsL) (j := x / 4 % 8) (by simp [gapsL]; lia))
        simp only [List.filter_cons, List.filter_nil, b1_62, this]
        rfl
theorem rl_pc (x : Nat) : Rl (pcQ x) (pcP x) := by
  unfold pcQ pcP
  split
  · exact .same (.inl rfl) .nil
  · split
    · exact .same (.inr rfl) .nil
    · split
      · exact .same (.inl rfl) (.same (.inr rfl) .nil)
      · exact .same (.inr rfl) (.gap (gaps_c8 _ (getD_mem (by simp [gapsL]; lia))) (.same (.inr rfl) .nil))
noncomputable def seN (sc : List Int) (k : Nat) : List Nat := (List.range k).flatMap fun p => pcQ (xAt sc p)
theorem seN_succ (sc : List Int) (k : Nat) : seN sc (k + 1) = seN sc k ++ pcQ (xAt sc k) := by simp [seN, List.range_succ]
theorem seen_sg (sc : List Int) : ∀ k, seenOf (sgN sc k) = seN sc k
  | 0 => rfl
  | k + 1 => by
    rw [sgN_succ, seN_succ, ← seen_sg sc k, ← seen_pc]
    unfold seenOf
    rw [List.filter_append]
theorem rl_sg (sc : List Int) : ∀ k, Rl (seN sc k) (plN sc k)
  | 0 => .nil
  | k + 1 => by rw [seN_succ, plN_succ]; exact (rl_sg sc k).app (rl_pc _)
theorem char_pc (x : Nat) : ∀ c ∈ pcQ x, c ∈ charL := by
  unfold pcQ
  have h := getD_mem (l := gapsL) (j := x / 4 % 8) (by simp [gapsL]; lia)
  intro c hc
  split at hc
  · simp at hc; subst hc; simp [charL]
  · split at hc
    · simp at hc; subst hc; simp [charL]
    · split at hc
      · simp at hc; rcases hc with rfl | rfl <;> simp [charL]
      · simp only [List.mem_cons, List.not_mem_nil, or_false] at hc
        rcases hc with rfl | rfl | rfl
        · simp [charL]
        · exact List.mem_append_right _ h
        · simp [charL]
theorem char_sg (sc : List Int) (k : Nat) : ∀ c ∈ seenOf (sgN sc k), c ∈ charL := by
  rw [seen_sg]
  intro c hc
  unfold seN at hc
  obtain ⟨p, _, h⟩ := List.mem_flatMap.mp hc
  exact char_pc _ c h
theorem in3_pl (sc : List Int) (k : Nat) : ∀ c ∈ plN sc k, In3 c := by
  intro c hc
  unfold plN at hc
  obtain ⟨p, _, h⟩ := List.mem_flatMap.mp hc
  unfold pcP at h
  split at h
  · simp at h; exact .inl h
  · split at h
    · simp at h; exact .inr (.inl h)
    · split at h
      · simp at h; rcases h with h | h
        · exact .inl h
        · exact .inr (.inl h)
      · simp at h; rcases h with h | h | h
        · exact .inr (.inl h)
        · exact .inr (.inr h)
        · exact .inr (.inl h)
/-- the words, and the row -/
noncomputable def wordsN (sc : List Int) : List (List Nat) := rd (seenOf (sgN sc 7))
noncomputable def rowN (sc : List Int) : List Nat := (wordsN sc).map nmOf
theorem row_meant (sc : List Int) : rowN sc = meantOf (plN sc 7) := by
  unfold rowN wordsN meantOf
  rw [short_tk _ _ (Nat.le_refl _) (in3_pl sc 7), seen_sg]
  exact rd_tk _ _ _ (Nat.le_refl _) (rl_sg sc 7)
theorem tk_mem : ∀ (n : Nat) (p : List Nat), p.length ≤ n → (∀ c ∈ p, In3 c) → ∀ c ∈ tk p, c = 45 ∨ c = 62 ∨ c = 98 ∨ c = 97 ∨ c = 124
  | _, [], _, _, c, h => by simp [tk] at h
  | 0, _ :: _, hl, _, c, h => by simp at hl
  | n + 1, [a], _, h3, c, h => by
    simp [tk] at h; subst h
    rcases h3 c (by simp) with q | q | q
    · exact .inl q
    · exact .inr (.inl q)
    · exact .inr (.inr (.inr (.inr q)))
  | n + 1, a :: d :: r, hl, h3, c, h => by
    rw [tk] at h
    have i1 := tk_mem n r (by simp at hl; lia) (fun x m => h3 x (by simp [m])) c
    have i2 := tk_mem n (d :: r) (by simp at hl ⊢; lia) (fun x m => h3 x (by simp at m ⊢; exact .inr m)) c
    split at h
    · rcases List.mem_cons.mp h with q | q
      · exact .inr (.inr (.inr (.inl q)))
      · exact i1 q
    · split at h
      · rcases List.mem_cons.mp h with q | q
        · exact .inr (.inr (.inl q))
        · exact i1 q
      · rcases List.mem_cons.mp h with q | q
        · subst q
          rcases h3 c (by simp) with q | q | q
          · exact .inl q
          · exact .inr (.inl q)
          · exact .inr (.inr (.inr (.inr q)))
        · exact i2 q
theorem short_mem (sc : List Int) : ∀ c ∈ shortOf (plN sc 7), c = 45 ∨ c = 62 ∨ c = 98 ∨ c = 97 ∨ c = 124 := by
  rw [short_tk _ _ (Nat.le_refl _) (in3_pl sc 7)]
  exact tk_mem _ _ (Nat.le_refl _) (in3_pl sc 7)
end Tn
end
section
-- TnP5
open PySem PySem.W PySem.Calls PySem.Spec PyProof.Rows
set_option maxRecDepth 100000
set_option linter.unusedVariables false
namespace Tn
noncomputable def IsWd (x : List Nat) : Prop := x = [45] ∨ x = [62] ∨ x = [45, 62] ∨ x = [62, 62]
theorem rd_wd : ∀ (n : Nat) (s : List Nat), s.length ≤ n → (∀ c ∈ s, c ∈ charL) → ∀ x ∈ rd s, IsWd x
  | _, [], _, _, x, h => by simp [rd] at h
  | 0, _ :: _, hl, _, x, h => by simp at hl
  | n + 1, [c], _, hc, x, h => by
    rw [rd] at h
    split at h
    · simp at h
    · rename_i h8
      simp at h; subst h
      rcases char_cases (hc c (by simp)) (by simpa using h8) with rfl | rfl
      · exact .inl rfl
      · exact .inr (.inl rfl)
  | n + 1, c :: d :: r, hl, hc, x, h => by
    have i1 := rd_wd n r (by simp at hl; lia) (fun y m => hc y (by simp [m])) x
    have i2 := rd_wd n (d :: r) (by simp at hl ⊢; lia) (fun y m => hc y (by simp at m ⊢; exact .inr m)) x
    rw [rd] at h
    split at h
    · exact i2 h
    · rename_i h8
      split at h
      · rename_i hp
        rcases List.mem_cons.mp h with q | q
        · subst q
          simp only [Bool.or_eq_true, Bool.and_eq_true, beq_iff_eq] at hp
          rcases hp with ⟨rfl, rfl⟩ | ⟨rfl, rfl⟩
          · exact .inr (.inr (.inl rfl))
          · exact .inr (.inr (.inr rfl))
        · exact i1 q
      · rcases List.mem_cons.mp h with q | q
        · subst q
          rcases char_cases (hc c (by simp)) (by simpa using h8) with rfl | rfl
          · exact .inl rfl
          · exact .inr (.inl rfl)
        · exact i2 q
noncomputable def cnt (s : List Nat) : Nat := (s.filter fun c => !isC8 c).length
theorem rd_cnt : ∀ (n : Nat) (s : List Nat), s.length ≤ n → (rd s).length ≤ cnt s
  | _, [], _ => Nat.le_refl _
  | 0, _ :: _, hl => by simp at hl
  | n + 1, [c], _ => by
    unfold cnt
    rw [rd]
    cases h : isC8 c <;> simp [h]
  | n + 1, c :: d :: r, hl => by
    have i1 := rd_cnt n r (by simp at hl; lia)
    have i2 := rd_cnt n (d :: r) (by simp at hl ⊢; lia)
    unfold cnt at i1 i2 ⊢
    rw [rd]
    cases h : isC8 c
    · rw [List.filter_cons_of_pos (by simp [h])]
      simp only [Bool.false_eq_true, if_false]
      split
      · rename_i hp
        have hd : d = 62 := by
          simp only [Bool.or_eq_true, Bool.and_eq_true, beq_iff_eq] at hp
          rcases hp with ⟨_, q⟩ | ⟨_, q⟩ <;> exact q
        subst hd
        rw [List.filter_cons_of_pos (by decide)]
        simp only [List.length_cons]
        lia
      · simp only [List.length_cons] at i2 ⊢; lia
    · rw [List.filter_cons_of_neg (by simp [h])]
      simpa using i2
theorem cnt_pc (x : Nat) : cnt (pcQ x) ≤ 2 := by
  unfold cnt pcQ
  split
  · decide
  · split
    · decide
    · split
      · decide
      · have := gaps_c8 _ (getD_mem (l := gapsL) (j := x / 4 % 8) (by simp [gapsL]; lia))
        simp only [List.filter_cons, List.filter_nil, this, c8_62]
        exact Nat.le_refl 2
theorem cnt_se (sc : List Int) : ∀ k, cnt (seN sc k) ≤ 2 * k
  | 0 => by simp [cnt, seN]
  | k + 1 => by
    rw [seN_succ]
    have h1 := cnt_se sc k
    have h2 := cnt_pc (xAt sc k)
    unfold cnt at h1 h2 ⊢
    rw [List.filter_append, List.length_append]
    lia
theorem words_len (sc : List Int) : (wordsN sc).length ≤ 14 := by
  unfold wordsN
  rw [seen_sg]
  exact Nat.le_trans (rd_cnt _ _ (Nat.le_refl _)) (cnt_se sc 7)
theorem words_ne (sc : List Int) : wordsN sc ≠ [] := by
  unfold wordsN
  rw [seen_sg]
  have : ∃ c r, seN sc 7 = c :: r ∧ (c = 45 ∨ c = 62) := by
    have h1 : ∃ c r, pcQ (xAt sc 0) = c :: r ∧ (c = 45 ∨ c = 62) := by
      unfold pcQ
      split
      · exact ⟨_, _, rfl, .inl rfl⟩
      · split
        · exact ⟨_, _, rfl, .inr rfl⟩
        · split
          · exact ⟨_, _, rfl, .inl rfl⟩
          · exact ⟨_, _, rfl, .inr rfl⟩
    obtain ⟨c, r, e, h⟩ := h1
    refine ⟨c, r ++ (List.range 6).flatMap (fun p => pcQ (xAt sc (p + 1))), ?_, h⟩
    unfold seN
    rw [List.range_succ_eq_map, List.flatMap_cons, e, List.flatMap_map]
    rfl
  obtain ⟨c, r, e, h⟩ := this
  rw [e]
  intro q
  cases r with
  | nil => rw [rd_last (c8_no h)] at q; cases q
  | cons d r =>
    cases hp : ((c == 45 && d == 62) || (c == 62 && d == 62)) with
    | true => rw [rd_pair (c8_no h) hp] at q; cases q
    | false => rw [rd_single (c8_no h) hp] at q; cases q
theorem words_wd (sc : List Int) : ∀ x ∈ wordsN sc, IsWd x := rd_wd _ _ (Nat.le_refl _) (char_sg sc 7)
theorem nm_dig {x : List Nat} (h : IsWd x) : nmOf x < 64 ∧ nmOf x ≠ 0 := by
  rcases h with rfl | rfl | rfl | rfl <;> decide
theorem row_dig (sc : List Int) : ∀ d ∈ rowN sc, d < 64 ∧ d ≠ 0 := fun d h => by
  obtain ⟨x, hx, rfl⟩ := List.mem_map.mp h
  exact nm_dig (words_wd sc x hx)
theorem row_len (sc : List Int) : (rowN sc).length ≤ 14 := by unfold rowN; rw [List.length_map]; exact words_len sc
theorem row_ne (sc : List Int) : rowN sc ≠ [] := by
  unfold rowN
  intro h
  exact words_ne sc (List.map_eq_nil_iff.mp h)
end Tn
end
section
-- TnP6
open PySem PySem.W PySem.Calls PySem.Spec PyProof.Rows
set_option linter.unusedVariables false
namespace Tn
/-- how many are unlike -/
noncomputable def ndist {α : Type} [DecidableEq α] : List α → Nat
  | [] => 0
  | a :: r => if a ∈ r then ndist r else ndist r + 1
theorem ndist_perm {α : Type} [DecidableEq α] {l l' : List α} (p : List.Perm l l') : ndist l = ndist l' := by
  induction p with
  | nil => rfl
  | cons a p ih => simp only [ndist, p.mem_iff, ih]
  | swap a b l =>
    by_cases hab : a = b
    · subst hab; rfl
    · by_cases ha : a ∈ l <;> by_cases hb : b ∈ l <;> simp [ndist, ha, hb, hab, Ne.symm hab]
  | trans _ _ h1 h2 => exact h1.trans h2
/-- how many come again, from the left -/
noncomputable def reps {α : Type} [DecidableEq α] : List α → List α → Nat
  | _, [] => 0
  | seen, a :: r => (if a ∈ seen then 1 else 0) + reps (seen ++ [a]) r
theorem reps_dist {α : Type} [DecidableEq α] : ∀ (l seen : List α), reps seen l + ndist (l.reverse ++ seen.reverse) = l.length + ndist seen.reverse
  | [], seen => by simp [reps]
  | a :: r, seen => by
    have ih := reps_dist r (seen ++ [a])
    rw [reps]
    have e1 : (a :: r).reverse ++ seen.reverse = r.reverse ++ (seen ++ [a]).reverse := by simp
    rw [e1]
    have e2 : (seen ++ [a]).reverse = a :: seen.reverse := by simp
    rw [e2] at ih ⊢
    rw [ndist] at ih
    simp only [List.mem_reverse, List.length_cons] at ih ⊢
    split <;> rename_i h
    · rw [if_pos h] at ih; lia
    · rw [if_neg h] at ih; lia
theorem reps_count {α : Type} [DecidableEq α] (l : List α) : reps [] l + ndist l = l.length := by
  have := reps_dist l []
  simp only [List.reverse_nil, List.append_nil] at this
  rw [ndist_perm (List.reverse_perm l)] at this
  simpa [ndist] using this
end Tn
end
section
-- TnP7
open PySem PySem.W PySem.Calls PySem.Spec PyProof.Rows
set_option linter.unusedVariables false
namespace Tn
theorem lcp_ge : ∀ (m : Nat) (a b : List Nat), m ≤ lcp a b ↔ m ≤ a.length ∧ m ≤ b.length ∧ a.take m = b.take m
  | 0, a, b => by simp
  | m + 1, [], b => by simp [lcp]
  | m + 1, _ :: _, [] => by simp [lcp]
  | m + 1, x :: r, y :: t => by
    rw [lcp]
    simp only [List.length_cons, List.take_succ_cons, List.cons.injEq]
    split
    · rename_i h
      have := lcp_ge m r t
      constructor
      · intro q
        obtain ⟨a, b, c⟩ := this.mp (by lia)
        exact ⟨by lia, by lia, h, c⟩
      · rintro ⟨a, b, _, c⟩
        have := this.mpr ⟨by lia, by lia, c⟩
        lia
    · rename_i h
      constructor
      · intro q; lia
      · rintro ⟨_, _, q, _⟩; exact absurd q h
/-- the part of length m from i on -/
noncomputable def part (row : List Nat) (m i : Nat) : Option (List Nat) := if i + m ≤ row.length then some ((row.drop i).take m) else none
theorem Lt_ge {row : List Nat} {m i j : Nat} (hm : 1 ≤ m) : m ≤ Lt row i j ↔ ∃ s, part row m i = some s ∧ part row m j = some s := by
  unfold Lt
  rw [lcp_ge]
  simp only [List.length_drop]
  unfold part
  constructor
  · rintro ⟨a, b, c⟩
    exact ⟨_, if_pos (by lia), by rw [if_pos (by lia), c]⟩
  · rintro ⟨s, a, b⟩
    split at a
    · split at b
      · rename_i h1 h2
        have a := Option.some.inj a
        have b := Option.some.inj b
        exact ⟨by lia, by lia, a.trans b.symm⟩
      · cases b
    · cases a
noncomputable def maxN : List Nat → Nat
  | [] => 0
  | a :: r => max a (maxN r)
theorem maxN_ge {l : List Nat} {m : Nat} (hm : 1 ≤ m) : m ≤ maxN l ↔ ∃ a ∈ l, m ≤ a := by
  induction l with
  | nil => simp [maxN]; lia
  | cons x r ih =>
    rw [maxN]
    constructor
    · intro h
      rcases Nat.le_total x (maxN r) with q | q
      · rw [Nat.max_eq_right q] at h
        obtain ⟨a, h1, h2⟩ := ih.mp h
        exact ⟨a, by simp [h1], h2⟩
      · rw [Nat.max_eq_left q] at h
        exact ⟨x, by simp, h⟩
    · rintro ⟨a, h1, h2⟩
      rcases List.mem_cons.mp h1 with q | q
      · subst q; lia
      · have := ih.mpr ⟨a, q, h2⟩
        lia
/-- what each shares at most with those ahead of it -/
noncomputable def leadsOf (row : List Nat) : List Nat → List Nat → List Nat
  | _, [] => []
  | seen, i :: r => maxN (seen.map fun j => Lt row i j) :: leadsOf row (seen ++ [i]) r
noncomputable def cge (m : Nat) (l : List Nat) : Nat := (l.filter fun a => decide (m ≤ a)).length
theorem leads_reps {row : List Nat} {m : Nat} (hm : 1 ≤ m) : ∀ (l seen : List Nat), cge m (leadsOf row seen l) = reps (seen.filterMap (part row m)) (l.filterMap (part row m))
  | [], seen => rfl
  | i :: r, seen => by
    have ih := leads_reps (row := row) hm r (seen ++ [i])
    rw [List.filterMap_append] at ih
    unfold cge at ih ⊢
    rw [leadsOf, List.filter_cons]
    have key : m ≤ maxN (seen.map fun j => Lt row i j) ↔ ∃ s, part row m i = some s ∧ s ∈ seen.filterMap (part row m) := by
      rw [maxN_ge hm]
      constructor
      · rintro ⟨a, h1, h2⟩
        obtain ⟨j, hj, rfl⟩ := List.mem_map.mp h1
        obtain ⟨s, s1, s2⟩ := (Lt_ge hm).mp h2
        exact ⟨s, s1, List.mem_filterMap.mpr ⟨j, hj, s2⟩⟩
      · rintro ⟨s, s1, s2⟩
        obtain ⟨j, hj, e⟩ := List.mem_filterMap.mp s2
        exact ⟨_, List.mem_map.mpr ⟨j, hj, rfl⟩, (Lt_ge hm).mpr ⟨s, s1, e⟩⟩
    cases hp : part row m i with
    | none =>
      have : ¬ m ≤ maxN (seen.map fun j => Lt row i j) := fun q => by
        obtain ⟨s, s1, _⟩ := key.mp q
        rw [hp] at s1; cases s1
      rw [if_neg (by simpa using this), List.filterMap_cons, hp, ih]
      simp [hp]
    | some s =>
      rw [List.filterMap_cons, hp, reps]
      have e : [i].filterMap (part row m) = [s] := by simp [hp]
      rw [e] at ih
      by_cases h : s ∈ seen.filterMap (part row m)
      · have : m ≤ maxN (seen.map fun j => Lt row i j) := key.mpr ⟨s, hp, h⟩
        rw [if_pos (by simpa using this), if_pos h, List.length_cons, ih]; lia
      · have : ¬ m ≤ maxN (seen.map fun j => Lt row i j) := fun q => by
          obtain ⟨s', s1, s2⟩ := key.mp q
          rw [hp] at s1; cases s1
          exact h s2
        rw [if_neg (by simpa using this), if_neg h, ih]; lia
end Tn
end
section
-- TnP8
open PySem PySem.W PySem.Calls PySem.Spec PyProof.Rows
set_option linter.unusedVariables false
namespace Tn
theorem parts_range {row : List Nat} {m : Nat} (hm : 1 ≤ m) : (List.range row.length).filterMap (part row m) = (List.range (row.length + 1 - m)).map fun i => (row.drop i).take m := by
  have e : row.length = (row.length + 1 - m) + (row.length - (row.length + 1 - m)) := by omega
  rw [e, List.range_add, List.filterMap_append, ← e]
  have h2 : ((List.range (row.length - (row.length + 1 - m))).map (row.length + 1 - m + ·)).filterMap (part row m) = [] := by
    rw [List.filterMap_eq_nil_iff]
    intro a ha
    obtain ⟨k, _, rfl⟩ := List.mem_map.mp ha
    unfold part
    rw [if_neg (by omega)]
  rw [h2, List.append_nil]
  have key : ∀ l : List Nat, (∀ i ∈ l, i + m ≤ row.length) → l.filterMap (part row m) = l.map fun i => (row.drop i).take m := fun l => by
    induction l with
    | nil => intro _; rfl
    | cons a r ih =>
      intro h
      have ha : part row m a = some ((row.drop a).take m) := if_pos (h a (by simp))
      rw [List.filterMap_cons, ha, List.map_cons, ih fun i hi => h i (by simp [hi])]
  exact key _ fun i hi => by
    have := List.mem_range.mp hi
    omega
/-- how many unlike parts of length m there are -/
noncomputable def kindsN (row : List Nat) (m : Nat) : Nat := ndist ((List.range (row.length + 1 - m)).map fun i => (row.drop i).take m)
theorem leads_count {row : List Nat} {m : Nat} (hm : 1 ≤ m) {l : List Nat} (p : List.Perm l (List.range row.length)) : cge m (leadsOf row [] l) + kindsN row m = row.length + 1 - m := by
  rw [leads_reps hm, List.filterMap_nil]
  have pf := p.filterMap (part row m)
  rw [parts_range hm] at pf
  have := reps_count (l.filterMap (part row m))
  rw [ndist_perm pf, pf.length_eq] at this
  simpa [kindsN] using this
end Tn
end
section
-- TnP9
open PySem PySem.W PySem.Calls PySem.Spec PyProof.Rows
set_option linter.unusedVariables false
namespace Tn
noncomputable def ceq (x : Nat) (l : List Nat) : Nat := (l.filter fun a => a == x).length
theorem cge_succ (x : Nat) (l : List Nat) : cge x l = ceq x l + cge (x + 1) l := by
  unfold cge ceq
  induction l with
  | nil => rfl
  | cons a r ih =>
    simp only [List.filter_cons]
    by_cases h : a = x
    · subst h
      have : ¬ a + 1 ≤ a := by lia
      simp [this]; lia
    · by_cases h2 : x ≤ a
      · have : x + 1 ≤ a := by lia
        simp [h, h2, this]; lia
      · have : ¬ x + 1 ≤ a := by lia
        simp [h, h2, this]; lia
theorem cge_zero (l : List Nat) : cge 0 l = l.length := by unfold cge; simp
theorem maxN_cge {l : List Nat} {m : Nat} (hm : 1 ≤ m) : m ≤ maxN l ↔ 1 ≤ cge m l := by
  rw [maxN_ge hm]
  unfold cge
  constructor
  · rintro ⟨a, h1, h2⟩
    exact List.length_pos_of_mem (List.mem_filter.mpr ⟨h1, by simpa using h2⟩)
  · intro h
    obtain ⟨a, ha⟩ := List.exists_mem_of_length_pos h
    obtain ⟨h1, h2⟩ := List.mem_filter.mp ha
    exact ⟨a, h1, by simpa using h2⟩
/-- how often each number comes -/
noncomputable def hist (l : List Nat) : List Nat := (List.range (maxN l + 1)).map fun x => ceq x l
theorem hist_eq {a b : List Nat} (h : ∀ m, cge m a = cge m b) : hist a = hist b := by
  have hm : maxN a = maxN b := by
    apply Nat.le_antisymm
    · rcases Nat.eq_zero_or_pos (maxN a) with z | z
      · lia
      · exact (maxN_cge z).mpr (h _ ▸ (maxN_cge z).mp (Nat.le_refl _))
    · rcases Nat.eq_zero_or_pos (maxN b) with z | z
      · lia
      · exact (maxN_cge z).mpr (h _ ▸ (maxN_cge z).mp (Nat.le_refl _))
  unfold hist
  rw [hm]
  apply List.map_congr_left
  intro x _
  have h1 := cge_succ x a
  have h2 := cge_succ x b
  have := h x
  have := h (x + 1)
  lia
theorem leads_len {row : List Nat} : ∀ (l seen : List Nat), (leadsOf row seen l).length = l.length
  | [], _ => rfl
  | i :: r, seen => by rw [leadsOf, List.length_cons, leads_len r, List.length_cons]
/-- the leads of any two orders come alike -/
theorem leads_hist {row l l' : List Nat} (p : List.Perm l (List.range row.length)) (p' : List.Perm l' (List.range row.length)) : ∀ m, cge m (leadsOf row [] l) = cge m (leadsOf row [] l') := fun m => by
  rcases Nat.eq_zero_or_pos m with z | z
  · subst z
    rw [cge_zero, cge_zero, leads_len, leads_len, p.length_eq, p'.length_eq]
  · have h1 := leads_count z p
    have h2 := leads_count z p'
    lia
end Tn
end
section
-- TnP10
set_option linter.unusedVariables false
namespace Tn
theorem div_count {a size : Nat} (hs : 0 < size) : ∀ J, ((List.range J).map fun j => if (j + 1) * size ≤ a then 1 else 0).sum = min J (a / size)
  | 0 => by simp
  | J + 1 => by
    rw [List.range_succ, List.map_append, List.sum_append, div_count hs J]
    simp only [List.map_cons, List.map_nil, List.sum_cons, List.sum_nil]
    have : (J + 1) * size ≤ a ↔ J + 1 ≤ a / size := (Nat.le_div_iff_mul_le hs).symm
    split <;> rename_i h
    · have := this.mp h; lia
    · have : ¬ J + 1 ≤ a / size := fun q => h (this.mpr q)
      lia
theorem cge_cons (m a : Nat) (l : List Nat) : cge m (a :: l) = (if m ≤ a then 1 else 0) + cge m l := by
  unfold cge
  rw [List.filter_cons]
  by_cases h : m ≤ a
  · simp [h]; lia
  · simp [h]
theorem sum_add (f g : Nat → Nat) : ∀ l : List Nat, (l.map fun j => f j + g j).sum = (l.map f).sum + (l.map g).sum
  | [] => rfl
  | a :: r => by simp only [List.map_cons, List.sum_cons, sum_add f g r]; lia
theorem div_sum {size J : Nat} (hs : 0 < size) : ∀ l : List Nat, (∀ a ∈ l, a / size ≤ J) → (l.map fun a => a / size).sum = ((List.range J).map fun j => cge ((j + 1) * size) l).sum
  | [], _ => by
    have : ∀ l : List Nat, (l.map fun j => cge ((j + 1) * size) []).sum = 0 := fun l => by
      induction l with
      | nil => rfl
      | cons a r ih => rw [List.map_cons, List.sum_cons, ih]; rfl
    rw [this]; rfl
  | a :: r, h => by
    have h1 := h a (by simp)
    rw [List.map_cons, List.sum_cons, div_sum hs r fun x m => h x (by simp [m])]
    have : (fun j => cge ((j + 1) * size) (a :: r)) = fun j => (if (j + 1) * size ≤ a then 1 else 0) + cge ((j + 1) * size) r := funext fun j => cge_cons _ _ _
    rw [this, sum_add, div_count hs]
    lia
end Tn
end
section
-- TnP11
set_option linter.unusedVariables false
namespace Tn
/-- lexicographic order of lists of numbers -/
noncomputable def lexLe : List Nat → List Nat → Bool
  | [], _ => true
  | _ :: _, [] => false
  | a :: r, b :: t => decide (a < b) || (a == b && lexLe r t)
theorem lcp_mid : ∀ (a b c : List Nat), lexLe a b = true → lexLe b c = true → lcp a c ≤ lcp b c
  | [], b, c, _, _ => by simp [lcp]
  | _ :: _, [], _, h, _ => by simp [lexLe] at h
  | _ :: _, _ :: _, [], _, h => by simp [lexLe] at h
  | x :: r, y :: t, z :: u, h1, h2 => by
    simp only [lexLe, Bool.or_eq_true, Bool.and_eq_true, decide_eq_true_eq, beq_iff_eq] at h1 h2
    rw [lcp, lcp]
    split
    · rename_i hxz
      subst hxz
      rcases h1 with h1 | ⟨rfl, h1⟩
      · rcases h2 with h2 | ⟨rfl, _⟩ <;> omega
      · rcases h2 with h2 | ⟨_, h2⟩
        · omega
        · rw [if_pos rfl]
          have := lcp_mid r t u h1 h2
          omega
    · exact Nat.zero_le _
theorem lex_trans : ∀ (a b c : List Nat), lexLe a b = true → lexLe b c = true → lexLe a c = true
  | [], _, _, _, _ => rfl
  | _ :: _, [], _, h, _ => by simp [lexLe] at h
  | _ :: _, _ :: _, [], _, h => by simp [lexLe] at h
  | x :: r, y :: t, z :: u, h1, h2 => by
    simp only [lexLe, Bool.or_eq_true, Bool.and_eq_true, decide_eq_true_eq, beq_iff_eq] at h1 h2 ⊢
    rcases h1 with h1 | ⟨rfl, h1⟩
    · rcases h2 with h2 | ⟨rfl, h2⟩
      · left; omega
      · left; exact h1
    · rcases h2 with h2 | ⟨rfl, h2⟩
      · left; exact h2
      · right; exact ⟨rfl, lex_trans r t u h1 h2⟩
end Tn
end
section
-- TnP12
set_option linter.unusedVariables false
namespace Tn
theorem lcp_comm : ∀ (a b : List Nat), lcp a b = lcp b a
  | [], b => by rw [lcp_nil]; cases b <;> rfl
  | _ :: _, [] => rfl
  | x :: r, y :: t => by
    rw [lcp, lcp, lcp_comm r t]
    by_cases h : x = y
    · rw [if_pos h, if_pos h.symm]
    · rw [if_neg h, if_neg fun q => h q.symm]
theorem lcp_map {f : Nat → Nat} : ∀ (a b : List Nat), (∀ x ∈ a, ∀ y ∈ b, f x = f y → x = y) → lcp (a.map f) (b.map f) = lcp a b
  | [], _, _ => by simp [lcp]
  | _ :: _, [], _ => rfl
  | x :: r, y :: t, h => by
    rw [List.map_cons, List.map_cons, lcp, lcp, lcp_map r t fun p hp q hq => h p (by simp [hp]) q (by simp [hq])]
    by_cases e : x = y
    · rw [if_pos e, if_pos (by rw [e])]
    · rw [if_neg e, if_neg fun q => e (h x (by simp) y (by simp) q)]
/-- what neighbours share -/
noncomputable def adj (row : List Nat) : List Nat → List Nat
  | i :: j :: r => Lt row i j :: adj row (j :: r)
  | _ => []
theorem maxN_last {l : List Nat} {x : Nat} (h : ∀ a ∈ l, a ≤ x) : maxN (l ++ [x]) = x := by
  induction l with
  | nil => simp [maxN]
  | cons a r ih =>
    rw [List.cons_append, maxN, ih fun b hb => h b (by simp [hb])]
    have := h a (by simp)
    omega
/-- in an order in which what is nearer shares more, each shares most with its neighbour -/
theorem leads_adj {row : List Nat} : ∀ (r seen : List Nat) (i : Nat), (∀ a ∈ seen, ∀ j ∈ r, Lt row a j ≤ Lt row i j) → (∀ (s : List Nat) (b : Nat) (t : List Nat), i :: r = s ++ b :: t → ∀ a ∈ seen ++ s, ∀ j ∈ t, Lt row a j ≤ Lt row b j) →
    leadsOf row (seen ++ [i]) r = adj row (i :: r)
  | [], _, _, _, _ => rfl
  | j :: r, seen, i, h, hall => by
    rw [leadsOf, adj]
    have e : maxN ((seen ++ [i]).map fun a => Lt row j a) = Lt row i j := by
      rw [List.map_append]
      have hc : ∀ a, Lt row j a = Lt row a j := fun a => lcp_comm _ _
      have : [i].map (fun a => Lt row j a) = [Lt row i j] := by simp [hc]
      rw [this]
      apply maxN_last
      intro x hx
      obtain ⟨a, ha, rfl⟩ := List.mem_map.mp hx
      show Lt row j a ≤ _
      rw [hc a]
      exact h a ha j (by simp)
    rw [e, leads_adj r (seen ++ [i]) j (fun a ha k hk => ?_) fun s b t hs a ha k hk => ?_]
    · exact hall [i] j r rfl a (by simpa using ha) k hk
    · refine hall (i :: s) b t (by rw [hs]; rfl) a ?_ k hk
      simpa [List.append_assoc] using ha
end Tn
end
section
-- TnP13
set_option linter.unusedVariables false
namespace Tn
theorem sorted_adj {row : List Nat} {key : Nat → List Nat} (hk : ∀ a b, Lt row a b = lcp (key a) (key b)) {i : Nat} {r : List Nat} (h : (i :: r).Pairwise fun a b => lexLe (key a) (key b) = true) :
    leadsOf row [] (i :: r) = 0 :: adj row (i :: r) := by
  rw [leadsOf]
  have e : maxN (([] : List Nat).map fun j => Lt row i j) = 0 := rfl
  rw [e]
  congr 1
  refine leads_adj r [] i (fun a ha => by cases ha) fun s b t hs a ha j hj => ?_
  rw [hs, List.pairwise_append, List.pairwise_cons] at h
  rw [hk, hk]
  have ha : a ∈ s := by simpa using ha
  exact lcp_mid _ _ _ (h.2.2 a ha b (by simp)) (h.2.1.1 j hj)
end Tn
end
section
-- TnV1
open PySem PySem.W PySem.Calls PySem.Spec PyProof.Rows
set_option maxRecDepth 100000
set_option linter.unusedVariables false
namespace Tn
/-- all that stands, but at L -/
noncomputable def allN (h : Heap) (L : Addr) : List (Addr × Obj) := (List.range h.objs.size).filterMap fun b => if b = L then none else (h.get? b).map fun o => (b, o)
theorem allN_mem {h : Heap} {L b : Addr} {o : Obj} : (b, o) ∈ allN h L ↔ b ≠ L ∧ h.get? b = some o := by
  unfold allN
  rw [List.mem_filterMap]
  constructor
  · rintro ⟨c, _, e⟩
    split at e
    · cases e
    · rename_i hc
      obtain ⟨o', e1, e2⟩ := Option.map_eq_some_iff.mp e
      cases e2
      exact ⟨hc, e1⟩
  · rintro ⟨n, e⟩
    exact ⟨b, List.mem_range.mpr (Heap.lt_size e), by rw [if_neg n, e]; rfl⟩
theorem empty_get (b : Addr) : ({} : Heap).get? b = none := get_ge (h := ({} : Heap)) (Nat.zero_le b)
theorem allN_fr {h : Heap} {L : Addr} {m : Str → Option Value} (n : h.Ns L m) : Fr {} L h m := ⟨n, fun b o e => (by rw [empty_get] at e; cases e), Nat.zero_le _⟩
theorem allN_news {h : Heap} {L : Addr} : News {} L h (allN h L) := fun p hp => by
  obtain ⟨b, o⟩ := p
  obtain ⟨n, e⟩ := allN_mem.mp hp
  exact ⟨e, n, empty_get _⟩
theorem allN_nodup (h : Heap) (L : Addr) : (allN h L).Pairwise fun x y => x.1 ≠ y.1 := by
  unfold allN
  refine List.Pairwise.filterMap _ (R := fun a b => a ≠ b) ?_ (List.nodup_range (n := h.objs.size))
  intro a b hab x hx y hy
  split at hx
  · cases hx
  · split at hy
    · cases hy
    · obtain ⟨_, _, rfl⟩ := Option.map_eq_some_iff.mp hx
      obtain ⟨_, _, rfl⟩ := Option.map_eq_some_iff.mp hy
      exact hab
theorem allN_split {h : Heap} {L dx : Addr} {od : Obj} (n : dx ≠ L) (e : h.get? dx = some od) : ∃ pre post, allN h L = pre ++ (dx, od) :: post ∧ (∀ p ∈ pre, p.1 ≠ dx) ∧ (∀ p ∈ post, p.1 ≠ dx) := by
  obtain ⟨pre, post, hs⟩ := List.append_of_mem (allN_mem.mpr ⟨n, e⟩)
  have p := allN_nodup h L
  rw [hs, List.pairwise_append, List.pairwise_cons] at p
  exact ⟨pre, post, hs, fun q hq => p.2.2 q hq (dx, od) (by simp), fun q hq z => p.2.1.1 q hq z.symm⟩
end Tn
end
section
-- TnV2
open PySem PySem.W PySem.Calls PySem.Spec PyProof.Rows
set_option maxRecDepth 100000
set_option linter.unusedVariables false
namespace Tn
theorem set_raw {w : World} {A : Around} {E : Value → Shared → Prop} {s : Shared} {Q : Unit → Shared → Prop} {x dx L : Addr} {ox : Obj} {name : Str} {v : Value} {es es' : List DictEntry} {n n' : Nat} {m : Str → Option Value}
    (hL : s.heap.Ns L m) (nL : dx ≠ L) (X : (K w.params).In s.heap) (I : InstAt s.heap x ox 83 (some (dictOf es n))) (hd : ox.dict = some dx) (hdx : s.heap.get? dx = some (dictOf es n))
    (hs : findIn (K w.params) (.ref 83) "__setattr__" = some (some (.builtin "object.__setattr__"))) (hp : plainOver (K w.params) 83 = true) (ht : takerIn (K w.params) 83 name = some none) (hh : hasDictIn (K w.params) 83 = true)
    (hl : (getL name es).isSome = true) (e : (putL name (PyData.keyHash w.params name) (.str name (s.toks + 1)) v es, putN name es n) = (es', n')) (hz : es'.length ≤ 1000)
    (h : ∀ h', (∀ b o, b ≠ dx → b ≠ L → s.heap.get? b = some o → h'.get? b = some o) → h'.Ns L m → h'.get? dx = some (dictOf es' n') → Q () { s with heap := h', toks := s.toks + 2 }) : wpAny (Md w) A (setAttr (.ref x) name v) Q E s := by
  obtain ⟨pre, post, hsp, h1, h2⟩ := allN_split nL hdx
  obtain ⟨e1, e2⟩ := Prod.mk.inj e
  have N := allN_news (h := s.heap) (L := L)
  rw [hsp] at N
  refine set_plain X I hs (osa_dict (s := { s with toks := s.toks + 1 }) (allN_fr hL) N X I hd hp ht hh hl h1 h2 (by rw [putName_dict, e1, e2]) rfl hz fun h' F' N' => ?_)
  refine h h' (fun b o nb nl eb => ?_) F'.ns (N' (dx, dictOf es' n') (by simp)).1
  have mb := allN_mem.mpr ⟨nl, eb⟩
  rw [hsp] at mb
  refine (N' (b, o) ?_).1
  rcases List.mem_append.mp mb with q | q
  · exact List.mem_append_left _ q
  · rcases List.mem_cons.mp q with q | q
    · cases q; exact absurd rfl nb
    · exact List.mem_append_right _ (List.mem_cons_of_mem _ q)
end Tn
end
section
-- TnV3
open PySem PySem.W PySem.Calls PySem.Spec PyProof.Rows
set_option maxRecDepth 100000
set_option linter.unusedVariables false
namespace Tn
section
variable {w : World} {A : Around} {env : Env} {ρ : Rho} {X : Boxes} {post : Post}
/-- x, y = e -/
theorem r1_unpack2 {x y : Str} {p1 p2 p3 p4 : Pos} {k : Nat} {e : Expr} {d1 d2 : D} (hA : A.handled = none) (hx : Stores env x) (hy : Stores env y) (ee : Ev w A env ρ e (.tup [d1, d2])) (p : post .next X ((y, d2) :: (x, d1) :: ρ)) (hnx : okName x := by decide) (hny : okName y := by decide)
    (hs : swapsWithSole [.Tuple [.Name x p1, .Name y p2] k p3] e p4.line env = pure false := by rfl)
    (hw : swappedStores [.Tuple [.Name x p1, .Name y p2] k p3] e env = pure none := by rfl) :
    Run1 w A env (.Assign [.Tuple [.Name x p1, .Name y p2] k p3] e p4) X ρ post := .mk fun B0 h0 B h S s E at_ => by
  refine Assign_Tuple (ee.go B h S.fm s _ E at_ fun v B₁ h₁ tk st I r => ?_) hs hw
  obtain ⟨t, vs, n, rfl, e1, e2, l, z, rs⟩ := r.isT st.inh
  have hv : ∃ a b, vs = #[a, b] := by
    rcases vs with ⟨_ | ⟨a, _ | ⟨b, _ | ⟨c, r⟩⟩⟩⟩ <;> first | exact ⟨_, _, rfl⟩ | (simp at z)
  obtain ⟨a, b, rfl⟩ := hv
  cases rs with | cons ra rs => cases rs with | cons rb _ =>
  refine wpAny_assign_Tuple hA (tup_isTuple e2) rfl rfl fun h₂ hx₂ => ?_
  have S₁ := S.ev st I
  have k2 : ∀ b o, h₁.get? b = some o → h₂.get? b = some o := fun b o e => hx₂ b o (Nat.ne_of_lt (Heap.lt_size e)) e
  have S₂ := S₁.ev (Stp.keep (w := w) st.inh (.of_keeps k2)) (tk := tk) ⟨I.inv.of_keeps k2, I.pos⟩
  refine wpAny_assignInOrder_more (wpAny_assign_Name (S₂.store hx ra hnx _ _ E ⟨rfl, I.pos⟩ fun h₃ tk₃ S₃ st₃ I₃ _ => ?_))
  refine wpAny_assignInOrder_more (wpAny_assign_Name (S₃.store hy rb hny _ _ E I₃.at fun h₄ tk₄ S₄ st₄ I₄ _ => ?_))
  exact wpAny_assignInOrder_none ⟨B₁, h₄, tk₄, X, _, .next, rfl, I₄.pos, st.le, S₄, trivial, p⟩
/-- x = y = z = e -/
theorem r1_assign3 {x y z : Str} {p1 p2 p3 p4 : Pos} {e : Expr} {d : D} (hx : Stores env x) (hy : Stores env y) (hz : Stores env z) (ee : Ev w A env ρ e d) (p : post .next X ((z, d) :: (y, d) :: (x, d) :: ρ)) (hnx : okName x := by decide) (hny : okName y := by decide) (hnz : okName z := by decide)
    (he : (assignEach [.Name x p1, .Name y p2, .Name z p3] env).map (·.2) = [assign (.Name x p1) env, assign (.Name y p2) env, assign (.Name z p3) env] := by rfl)
    (hw : swappedStores [.Name x p1, .Name y p2, .Name z p3] e env = pure none := by rfl) :
    Run1 w A env (.Assign [.Name x p1, .Name y p2, .Name z p3] e p4) X ρ post := .mk fun B0 h0 B h S s E at_ => by
  refine wpAny_Assign_three (ee.go B h S.fm s _ E at_ fun v B₁ h₁ tk st I r => ?_) he hw
  have S₂ := S.ev st I
  refine wpAny_assign_Name (S₂.store hx r hnx _ _ E ⟨rfl, I.pos⟩ fun h₃ tk₃ S₃ st₃ I₃ _ => ?_)
  refine wpAny_assign_Name (S₃.store hy r hny _ _ E I₃.at fun h₄ tk₄ S₄ st₄ I₄ _ => ?_)
  refine wpAny_assign_Name (S₄.store hz r hnz _ _ E I₄.at fun h₅ tk₅ S₅ st₅ I₅ _ => ?_)
  exact ⟨B₁, h₅, tk₅, X, _, .next, rfl, I₅.pos, st.le, S₅, trivial, p⟩

/-- a finished Whitespace -/
noncomputable def WsP (cnt : List Nat) (nt : Nat) : Fz → Value → Prop := fun B v => ∃ (x dx : Addr) (es : List DictEntry) (n : Nat) (vn : Value) (tt : Tok), v = .ref x ∧ B x = some (instObj 83 dx) ∧ B dx = some (dictOf es n) ∧
  getL "norm" es = some (some vn) ∧ Rep B vn (.tup [.tup (intsD cnt), .int 0]) ∧ getL "nt" es = some (some (.int (nt : Int) tt)) ∧ getL "equal" es = some none ∧ getL "not_equal_witness" es = some none ∧ getL "indent_level" es = some none ∧ getL "longest_run_of_spaces" es = some none
theorem wsP_mono (cnt : List Nat) (nt : Nat) : Mono (WsP cnt nt) := ⟨fun B B' v le ⟨x, dx, es, n, vn, tt, h1, h2, h3, h4, h5, h6⟩ => ⟨x, dx, es, n, vn, tt, h1, le _ _ h2, le _ _ h3, h4, h5.mono le, h6⟩,
  fun B I o v hI io ⟨x, dx, es, n, vn, tt, h1, h2, h3, h4, h5, h6⟩ => ⟨x, dx, es, n, vn, tt, h1,
    (if_neg (fun q => by rw [q, hI] at h2; cases h2; simp [Iterish] at io)).trans h2, (if_neg (fun q => by rw [q, hI] at h3; cases h3; simp [Iterish] at io)).trans h3, h4, h5.del hI io, h6⟩⟩
noncomputable def wsD (cnt : List Nat) (nt : Nat) : D := .prd (WsP cnt nt)
theorem ev_norm {e : Expr} {pos : Pos} {cnt : List Nat} {nt : Nat} (ee : Ev w A env ρ e (wsD cnt nt))
    (he : eval (.Attribute e "norm" pos) env = (do
      let o ← eval e env
      standAt pos.atName
      let r ← holding [o] (getAttr o "norm" true)
      letTemporaryGo e o r
      pure r) := by with_unfolding_all rfl) : Ev w A env ρ (.Attribute e "norm" pos) (.tup [.tup (intsD cnt), .int 0]) := .mk fun B h F s Q E at_ k => by
  refine Attribute_any_ (ee.go B h F s _ E at_ fun v B₁ h₁ tk st I r => ?_) he
  obtain ⟨m, x, dx, es, n, vn, tt, rfl, a1, a2, a3, a4, a5⟩ := r.prd_inv
  have X := I.inv.k
  refine get_value X (od := some (dictOf es n)) ⟨(st.inh _ _ a1).1, rfl, rfl, (st.inh _ _ a2).1⟩ (by kernel_rfl) (findObj_own (attr := none) (by kernel_rfl) (by kernel_rfl) rfl a3) ?_ (k vn B₁ h₁ (tk + 1) st ⟨I.inv, Nat.le_succ_of_le I.pos⟩ a4)
  cases a4 with | tup _ _ => rfl
theorem ev_nt {e : Expr} {pos : Pos} {cnt : List Nat} {nt : Nat} (ee : Ev w A env ρ e (wsD cnt nt))
    (he : eval (.Attribute e "nt" pos) env = (do
      let o ← eval e env
      standAt pos.atName
      let r ← holding [o] (getAttr o "nt" true)
      letTemporaryGo e o r
      pure r) := by with_unfolding_all rfl) : Ev w A env ρ (.Attribute e "nt" pos) (.int (nt : Nat)) := .mk fun B h F s Q E at_ k => by
  refine Attribute_any_ (ee.go B h F s _ E at_ fun v B₁ h₁ tk st I r => ?_) he
  obtain ⟨m, x, dx, es, n, vn, tt, rfl, a1, a2, a3, a4, a5, _⟩ := r.prd_inv
  have X := I.inv.k
  exact get_value X (od := some (dictOf es n)) ⟨(st.inh _ _ a1).1, rfl, rfl, (st.inh _ _ a2).1⟩ (by kernel_rfl) (findObj_own (attr := none) (by kernel_rfl) (by kernel_rfl) rfl a5) rfl (k _ B₁ h₁ (tk + 1) st ⟨I.inv, Nat.le_succ_of_le I.pos⟩ (.int _ _))
/-- a method of a finished Whitespace -/
theorem ev_wmeth {o : Expr} {name : Str} {apos pos : Pos} {es : List Expr} {cnt : List Nat} {nt : Nat} {ds : List D} {d : D} {f : Addr} {n : Nat} (hA : AOk A n) (eo : Ev w A env ρ o (wsD cnt nt)) (el : EvL w A env ρ es ds) (c : Calls w (.ref f) n (wsD cnt nt :: ds) d)
    (hf : findIn (K w.params) (.ref 83) name = some (some (.ref f))) (ht : typeIn (K w.params) (.ref f) = some (.type "function")) (hk : keepIn (K w.params) (.ref f) = true)
    (hm : name ∈ (["equal", "not_equal_witness", "indent_level", "longest_run_of_spaces"] : List Str))
    (hne : es ≠ [] := by simp)
    (hb : attributeBase o name env (eval o env) = eval o env := by rfl)
    (hform : ∀ pos, methodCallForm (es.length + ([] : List Keyword).length) (backTo pos (starEach es env)) (backToKw pos (keywordEach [] env)) = true := by exact fun _ => rfl)
    (hpos : methodCallPos true o env apos pos = pure pos := by rfl)
    (hp : ∀ pos, (backTo pos (starEach es env)).any (·.1) = false := by exact fun _ => rfl)
    (he : ∀ pos, ∃ t r, backTo pos (starEach es env) = (false, t) :: r := by exact fun _ => ⟨_, _, rfl⟩) : Ev w A env ρ (.Call (.Attribute o name apos) es [] pos) d := .mk fun B h F s Q E hs k => by
  rw [arm_eval_Call, hb]
  refine wpAny_bind (eo.go B h F s _ E hs fun v B₁ h₁ tk st I r => wpAny_bind (wpAny_standAt ?_))
  obtain ⟨m, x, dx, en, nn, vn, tt, rfl, a1, a2, a3, a4, a5, a6, a7, a8, a9⟩ := id r.prd_inv
  unfold methodCall
  rw [hform]
  have hl : getL name en = some none := by
    simp only [List.mem_cons, List.not_mem_nil, or_false] at hm
    rcases hm with rfl | rfl | rfl | rfl <;> assumption
  refine wpAny_bind (wpAny_holding (method_fn I.inv.k (od := some (dictOf en nn)) ⟨(st.inh _ _ a1).1, rfl, rfl, (st.inh _ _ a2).1⟩ (by kernel_rfl) (by kernel_rfl) hf ht (by show (lookIn name (dictOf en nn)).map _ = _; rw [lookIn_dict, hl]; rfl) ?_))
  refine wpAny_bind (wpAny_of_eq hpos ?_)
  exact does_callWith hA (keep_K hk) (F.step st I) hne (.cons r .nil) el c (hp pos) (he pos) _ Q E I.at fun v B₂ h₂ tk₂ st₂ I₂ q => k v B₂ h₂ tk₂ (st.trans st₂) I₂ q
theorem ev_wmeth0 {o : Expr} {name : Str} {apos pos : Pos} {cnt : List Nat} {nt : Nat} {d : D} {f : Addr} {n : Nat} (hA : AOk A n) (eo : Ev w A env ρ o (wsD cnt nt)) (c : Calls w (.ref f) n [wsD cnt nt] d)
    (hf : findIn (K w.params) (.ref 83) name = some (some (.ref f))) (ht : typeIn (K w.params) (.ref f) = some (.type "function")) (hk : keepIn (K w.params) (.ref f) = true)
    (hm : name ∈ (["equal", "not_equal_witness", "indent_level", "longest_run_of_spaces"] : List Str))
    (hb : attributeBase o name env (eval o env) = eval o env := by rfl)
    (hpos : methodCallPos true o env apos pos = pure pos := by rfl) : Ev w A env ρ (.Call (.Attribute o name apos) [] [] pos) d := .mk fun B h F s Q E hs k => by
  rw [arm_eval_Call, hb]
  refine wpAny_bind (eo.go B h F s _ E hs fun v B₁ h₁ tk st I r => wpAny_bind (wpAny_standAt ?_))
  obtain ⟨m, x, dx, en, nn, vn, tt, rfl, a1, a2, a3, a4, a5, a6, a7, a8, a9⟩ := id r.prd_inv
  have hl : getL name en = some none := by
    simp only [List.mem_cons, List.not_mem_nil, or_false] at hm
    rcases hm with rfl | rfl | rfl | rfl <;> assumption
  unfold methodCall
  refine wpAny_bind (wpAny_holding (method_fn I.inv.k (od := some (dictOf en nn)) ⟨(st.inh _ _ a1).1, rfl, rfl, (st.inh _ _ a2).1⟩ (by kernel_rfl) (by kernel_rfl) hf ht (by show (lookIn name (dictOf en nn)).map _ = _; rw [lookIn_dict, hl]; rfl) ?_))
  refine wpAny_bind (wpAny_of_eq hpos ?_)
  refine callWith_of (P := fun h => Inv w h) rfl (fun h I => keep_K hk h I) (evalArgs_nil3 ⟨I.inv, ?_⟩)
  exact c.go A B₁ h₁ [.ref x] hA I.inv st.inh (.cons r .nil) _ Q E I.at fun v B₂ h₂ tk₂ st₂ I₂ q => k v B₂ h₂ tk₂ (st.trans st₂) I₂ q
end
end Tn
end
section
-- TnV4
open PySem PySem.W PySem.Calls PySem.Spec PyProof.Rows
set_option maxRecDepth 100000
set_option linter.unusedVariables false
namespace Tn
noncomputable def ilv (cnt : List Nat) (ts k : Nat) : Nat := ((List.range k).map fun j => (ts + j) / ts * cnt.getD (ts + j) 0).sum
theorem ilv_succ (cnt : List Nat) (ts k : Nat) : ilv cnt ts (k + 1) = ilv cnt ts k + (ts + k) / ts * cnt.getD (ts + k) 0 := by simp [ilv, List.range_succ, List.sum_append]
/-- what indent_level gives -/
noncomputable def lvl (cnt : List Nat) (nt ts : Nat) : Nat := ts * (ilv cnt ts (cnt.length - ts) + nt)
theorem pl_nrm (cnt : List Nat) : ∀ d ∈ [D.tup (intsD cnt), D.int 0], Pl 1 d := by
  intro d m
  simp only [List.mem_cons, List.not_mem_nil, or_false] at m
  rcases m with rfl | rfl
  · exact .tup fun d m => by
      obtain ⟨k, _, rfl⟩ := List.mem_map.mp m
      exact .int _
  · exact .int _
section
variable {w : World} {n : Nat}
theorem fn_longest : fnK (K w.params) 45 44 (funD (o_45 w.params)) (stmBody (clsStm 2 2)) := ⟨o_45 _, o_44 _, _, _, rfl, rfl, rfl, rfl, rfl, rfl, rfl, rfl, rfl, rfl⟩
theorem fn_level : fnK (K w.params) 52 51 (funD (o_52 w.params)) (stmBody (clsStm 2 3)) := ⟨o_52 _, o_51 _, _, _, rfl, rfl, rfl, rfl, rfl, rfl, rfl, rfl, rfl, rfl⟩
theorem fn_equal : fnK (K w.params) 59 58 (funD (o_59 w.params)) (stmBody (clsStm 2 4)) := ⟨o_59 _, o_58 _, _, _, rfl, rfl, rfl, rfl, rfl, rfl, rfl, rfl, rfl, rfl⟩
theorem fn_witness : fnK (K w.params) 66 65 (funD (o_66 w.params)) (stmBody (clsStm 2 5)) := ⟨o_66 _, o_65 _, _, _, rfl, rfl, rfl, rfl, rfl, rfl, rfl, rfl, rfl, rfl⟩
theorem call_longest {cnt : List Nat} {nt : Nat} (hz : cnt.length ≤ 1000) : Calls w (.ref 45) (n + 2) [wsD cnt nt] (.int (cnt.length - 1 : Nat)) := by
  refine calls_K (n := n + 1) (ps := ["self"]) fn_longest (by kernel_rfl) (by kernel_rfl) (by kernel_rfl) rfl (bind1 fun v => by kernel_rfl) fun A L hA => ?_
  conv in (stmBody _) => whnf
  refine run_cons (r1_unpack2 hA.hh (.inl rfl) (.inl rfl) (ev_norm (ev_name rfl)) ?_)
  refine run_cons (r1_ret (ev_callB (n := n) (hA.le (by lia)) c_max2 (evl_cons (ev_bin (ev_callB (hA.le (Nat.le_succ n)) (c_len_tup (by simp [intsD]; lia)) (evl_cons (ev_name rfl) evl_nil)) ev_int op_sub) (evl_cons (ev_name rfl) evl_nil))) ?_)
  show D.int _ = D.int _
  congr 1
  simp [intsD]
  lia
theorem call_level {cnt : List Nat} {nt ts : Nat} (hz : cnt.length ≤ 1000) (h1 : 1 ≤ ts) (h2 : ts ≤ 1000) : Calls w (.ref 52) (n + 2) [wsD cnt nt, .int (ts : Nat)] (.int (lvl cnt nt ts : Nat)) := by
  refine calls_K (n := n + 1) (ps := ["self", "tabsize"]) fn_level (by kernel_rfl) (by kernel_rfl) (by kernel_rfl) rfl (bind2 fun v u => by kernel_rfl) fun A L hA => ?_
  conv in (stmBody _) => whnf
  have hlen : (intsD cnt).length = cnt.length := by simp [intsD]
  refine run_cons (r1_unpack2 hA.hh (.inl rfl) (.inl rfl) (ev_norm (ev_name rfl)) ?_)
  refine run_cons (r1_assign (d := .int 0) (.inl rfl) ev_int ?_)
  refine run_cons (r1_for (d := .rng (ts : Nat) (cnt.length : Nat) 1) (es := rngD (ts : Nat) 1 (cnt.length - ts)) hA.hh (.inl rfl)
    (ev_callT (n := n) (hA.le (by lia)) c_rng2 (evl_cons (ev_name rfl) (evl_cons ((ev_callB (hA.le (Nat.le_succ n)) (c_len_tup (by rw [hlen]; lia)) (evl_cons (ev_name rfl) evl_nil)).cast (by rw [hlen])) evl_nil)))
    (itb_rng1 (by lia) (by lia) (by lia) (by lia) (by lia))
    (fun i X ρ => Has [] [("il", .int (ilv cnt ts i : Nat)), ("trailing", .int 0), ("count", .tup (intsD cnt)), ("self", wsD cnt nt), ("tabsize", .int (ts : Nat))] X ρ) ⟨rfl, sub_cons rfl (sub_cons rfl (sub_cons rfl (sub_cons rfl (sub_cons rfl sub_nil))))⟩ ?_ ?_)
  · rintro i X' ρ' e he hv
    obtain ⟨hi, rfl⟩ := rngD_get he
    refine run_base1 hv ?_
    have hlt : ts + i < cnt.length := by lia
    refine run_cons (r1_assign (d := .int (ilv cnt ts (i + 1) : Nat)) (.inl rfl) ((ev_bin (ev_name rfl) (ev_bin (ev_bin (ev_name rfl) (ev_name rfl) (op_div (by lia) (by lia))) (ev_titem (k := (ts : Int) + i * 1) (d := .int (cnt.getD (ts + i) 0 : Nat)) (ev_name rfl) (ev_name rfl) (by lia) (by lia) ?_) (op_mul ?_)) op_add).cast ?_) ?_)
    · have := intsD_get hlt
      rwa [show ((ts : Int) + i * 1).toNat = ((ts + i : Nat) : Int).toNat by lia]
    · rw [show (ts : Int) + i * 1 = ((ts + i : Nat) : Int) by lia, fdiv4]
      have : (ts + i) / ts ≤ ts + i := Nat.div_le_self _ _
      rw [Int.natAbs_natCast]; lia
    · congr 1
      rw [show (ts : Int) + i * 1 = ((ts + i : Nat) : Int) by lia, fdiv4, ilv_succ]
      push_cast; rfl
    · exact run_nil ⟨rfl, sub_cons rfl (sub_cons rfl (sub_cons rfl (sub_cons rfl (sub_cons rfl sub_nil))))⟩
  · rintro X' ρ' hv
    rw [rngD_len] at hv
    refine run_base hv ?_
    refine run_cons (r1_ret (d := .int (lvl cnt nt ts : Nat)) ((ev_bin (ev_name rfl) (ev_bin (ev_name rfl) (ev_bin (ev_name rfl) (ev_nt (ev_name rfl)) op_add) (op_mul (by lia))) op_add).cast ?_) rfl)
    congr 1
    unfold lvl
    push_cast
    lia
theorem call_equal {cnt : List Nat} {nt : Nat} : Calls w (.ref 59) (n + 2) [wsD cnt nt, wsD cnt nt] (.bool true) := by
  refine calls_K (n := n + 1) (ps := ["self", "other"]) fn_equal (by kernel_rfl) (by kernel_rfl) (by kernel_rfl) rfl (bind2 fun v u => by kernel_rfl) fun A L hA => ?_
  conv in (stmBody _) => whnf
  exact run_cons (r1_ret (ev_cmp (ev_norm (ev_name rfl)) (ev_norm (ev_name rfl)) rfl (op_teq (n := 1) hA (by lia) (pl_nrm cnt))) rfl)
theorem f_longest : findIn (K w.params) (.ref 83) "longest_run_of_spaces" = some (some (.ref 45)) := by kernel_rfl
theorem f_level : findIn (K w.params) (.ref 83) "indent_level" = some (some (.ref 52)) := by kernel_rfl
theorem f_equal : findIn (K w.params) (.ref 83) "equal" = some (some (.ref 59)) := by kernel_rfl
theorem f_witness : findIn (K w.params) (.ref 83) "not_equal_witness" = some (some (.ref 66)) := by kernel_rfl
theorem call_witness {cnt : List Nat} {nt : Nat} (hz : cnt.length ≤ 900) : Calls w (.ref 66) (n + 4) [wsD cnt nt, wsD cnt nt] (.list []) := by
  refine calls_K (n := n + 3) (ps := ["self", "other"]) fn_witness (by kernel_rfl) (by kernel_rfl) (by kernel_rfl) rfl (bind2 fun v u => by kernel_rfl) fun A L hA => ?_
  conv in (stmBody _) => whnf
  have cl : ∀ {m}, Calls w (.ref 45) (m + 2) [wsD cnt nt] (.int (cnt.length - 1 : Nat)) := fun {m} => call_longest (by lia)
  refine run_cons (r1_assign (d := .int ((cnt.length - 1 + 1 : Nat) : Nat)) (.inl rfl) ((ev_bin (ev_callB (n := n + 2) (hA.le (by lia)) c_max2 (evl_cons (ev_wmeth0 (hA.le (Nat.le_succ (n + 2))) (ev_name rfl) cl f_longest (by kernel_rfl) (by kernel_rfl) (by simp)) (evl_cons (ev_wmeth0 (hA.le (Nat.le_succ (n + 2))) (ev_name rfl) cl f_longest (by kernel_rfl) (by kernel_rfl) (by simp)) evl_nil))) ev_int op_add).cast (by congr 1; lia)) ?_)
  refine run_cons (r1_new (ds := []) (.inl rfl) (evn_list evl_nil (by decide)) fun a => ?_)
  refine run_cons (r1_for (d := .rng 1 ((cnt.length - 1 + 1 : Nat) + 1 : Int) 1) (es := rngD 1 1 (cnt.length - 1 + 1)) hA.hh (.inl rfl)
    (ev_callT (n := n + 2) (hA.le (by lia)) c_rng2 (evl_cons ev_int (evl_cons (ev_bin (ev_name rfl) ev_int op_add) evl_nil)))
    (itb_rng1 (by lia) (by lia) (by lia) (by lia) (by lia))
    (fun i X ρ => Has [(a, [])] [("a", .ref a), ("self", wsD cnt nt), ("other", wsD cnt nt)] X ρ) ⟨rfl, sub_cons rfl (sub_cons rfl (sub_cons rfl sub_nil))⟩ ?_ ?_)
  · rintro i X' ρ' e he hv
    obtain ⟨hi, rfl⟩ := rngD_get he
    refine run_base1 hv ?_
    have ei : (1 : Int) + i * 1 = ((i + 1 : Nat) : Int) := by lia
    rw [ei]
    have cv : ∀ {m}, Calls w (.ref 52) (m + 2) [wsD cnt nt, .int ((i + 1 : Nat) : Int)] (.int (lvl cnt nt (i + 1) : Nat)) := fun {m} => call_level (by lia) (by lia) (by lia)
    refine run_cons (r1_if ((evT_cmp (ev_wmeth (hA.le (Nat.le_succ (n + 2))) (ev_name rfl) (evl_cons (ev_name rfl) evl_nil) cv f_level (by kernel_rfl) (by kernel_rfl) (by simp)) (ev_wmeth (hA.le (Nat.le_succ (n + 2))) (ev_name rfl) (evl_cons (ev_name rfl) evl_nil) cv f_level (by kernel_rfl) (by kernel_rfl) (by simp)) rfl op_ne).cast (b' := false) (by simp)) (fun h => nomatch h) fun h => ?_)
    refine run_nil (run_nil ⟨rfl, sub_cons rfl (sub_cons rfl (sub_cons rfl sub_nil))⟩)
  · rintro X' ρ' hv
    refine run_base hv ?_
    refine run_freeze (x := "a") (X₁ := []) (X₂ := []) rfl ?_
    exact run_cons (r1_ret (ev_name rfl) rfl)
end
end Tn
end
section
-- TnV5
open PySem PySem.W PySem.Calls PySem.Spec PyProof.Rows
set_option maxRecDepth 100000
set_option linter.unusedVariables false
namespace Tn
section
variable {w : World} {A : Around} {env : Env} {B0 B B' : Fz} {h0 h h' : Heap} {X X₁ X₂ : Boxes} {ρ ρ' : Rho} {post : Post} {a : Addr} {ds ds' : List D}
/-- a test, worked out while the boxes are frozen -/
theorem r1_ifZ {t : Expr} {b o : List Stmt} {pos : Pos} {c : Bool} (hρ : ∀ x d', ρ'.lookup x = some d' → ∃ d, ρ.lookup x = some d ∧ FzD X d d') (x : EvT w A env ρ' t c) (y : c = true → Run w A env b X ρ post) (z : c = false → Run w A env o X ρ post) : Run1 w A env (.If t b o pos) X ρ post := .mk fun B0 h0 B h S s E e => by
  refine wpAny_If (x.go _ h (S.frz_fm hρ) s _ E e fun v B₁ h₁ tk st I r => ?_)
  subst r
  obtain ⟨S', le⟩ := S.thaw st I
  cases v with
  | true => simp only [if_true]; exact wpAny_mono ((y rfl).go B0 h0 _ h₁ S' _ E I.at) (fun f s' ⟨B', h', tk', X', ρ', fd, a, b, l, c⟩ => ⟨B', h', tk', X', ρ', fd, a, b, fun x o e => l x o (le x o e), c⟩) fun _ _ e => e
  | false => simp only [Bool.false_eq_true, if_false]; exact wpAny_mono ((z rfl).go B0 h0 _ h₁ S' _ E I.at) (fun f s' ⟨B', h', tk', X', ρ', fd, a, b, l, c⟩ => ⟨B', h', tk', X', ρ', fd, a, b, fun x o e => l x o (le x o e), c⟩) fun _ _ e => e
/-- fewer boxes -/
theorem St.few (S : St w env B0 h0 X B h ρ) (hs : List.Sublist X₁ X) : St w env B0 h0 X₁ B h ρ :=
  ⟨S.base, S.stp, S.fm, S.loc, S.cel, S.apart, fun a ds m => S.box a ds (hs.subset m), S.boxes.sublist hs⟩
theorem RunT.few {t : Sem Flow} (hs : List.Sublist X₁ X) (r : RunT w A env t X₁ ρ post) : RunT w A env t X ρ post := .mk fun B0 h0 B h S s E e => r.go B0 h0 B h (S.few hs) s E e
/-- data of ints and texts -/
inductive Atom : D → Prop
  | int (i : Int) : Atom (.int i)
  | str (s : Str) : Atom (.str s)
theorem reps_atom : ∀ {ds : List D} {vs : List Value}, (∀ d ∈ ds, Atom d) → Reps B vs ds → Reps B' vs ds
  | [], _, _, r => by cases r; exact .nil
  | d :: ds, _, h, r => by
    cases r with
    | cons a b =>
      refine .cons ?_ (reps_atom (fun d m => h d (by simp [m])) b)
      cases h d (by simp) with
      | int i => obtain ⟨t, rfl⟩ := a.int_inv; exact .int _ _
      | str i => obtain ⟨t, rfl⟩ := a.str_inv; exact .str _ _
/-- a new list becomes a box, worked out while the boxes are frozen -/
theorem r1_newZ {x : Str} {p1 p2 : Pos} {e : Expr} (hρ : ∀ x d', ρ'.lookup x = some d' → ∃ d, ρ.lookup x = some d ∧ FzD X d d') (hds : ∀ d ∈ ds, Atom d) (hx : Stores env x) (ee : EvN w A env ρ' e ds) (p : ∀ a, post .next ((a, ds) :: X) ((x, .ref a) :: ρ)) (hn : okName x := by decide)
    (hs : swapsWith e (some (.Name x p1)) p2.line env = pure false := by rfl) : Run1 w A env (.Assign [.Name x p1] e p2) X ρ post := .mk fun B0 h0 B h S s E e => by
  refine wpAny_Assign_Name (ee.go _ h (S.frz_fm hρ) s _ E e fun v B₁ h₁ tk st I ⟨r, vs, n, hv, q1, q2, q3, q4⟩ => ?_) hs
  subst hv
  obtain ⟨S₁, le⟩ := S.thaw st I
  have q2' : thwB X B₁ r = none := by unfold thwB; split <;> first | rfl | exact q2
  have S₂ : St w env B0 h0 ((r, ds) :: X) (thwB X B₁) h₁ ρ := ⟨S₁.base, S₁.stp, S₁.fm, S₁.loc, S₁.cel, S₁.apart, fun b dd q => by
    rcases List.mem_cons.mp q with q | q
    · cases q; exact ⟨S.stp.up.none _ q1, q2', vs, n, q3, reps_atom hds q4⟩
    · exact S₁.box b dd q, List.pairwise_cons.mpr ⟨fun y hy z => (by
      obtain ⟨_, _, ws, m, x3, _⟩ := S.box y.1 y.2 hy
      have z : r = y.1 := z
      rw [← z, q1] at x3; cases x3), S₁.boxes⟩⟩
  exact S₂.store hx (.ref r) hn _ _ E I.at fun h₂ tk₂ S₃ _ I₂ _ => ⟨_, h₂, tk₂, _, _, .next, rfl, I₂.pos, le, S₃, trivial, p r⟩
theorem evn_add {e f : Expr} {pos : Pos} {a b : List D} (ea : Ev w A env ρ e (.list a)) (eb : Ev w A env ρ f (.list b)) (hz : a.length + b.length ≤ 1000000) : EvN w A env ρ (.BinOp e .Add f pos) (a ++ b) := .mk fun B hp F s Q E hs kk =>
  wpAny_BinOp (ea.go B hp F s _ E hs fun va B₁ h₁ tk st I ra => eb.go B₁ h₁ (F.step st I) _ _ E I.at fun vb B₂ h₂ tk₂ st₂ I₂ rb => by
    obtain ⟨l, vs, n, rfl, _, e1, _, z1, r1⟩ := (ra.mono st₂.le).isL st₂.inh
    obtain ⟨m, ws, n', rfl, _, e2, _, z2, r2⟩ := rb.isL st₂.inh
    have n1 : h₂.get? h₂.objs.size = none := get_size _
    have st' := st.trans st₂
    exact P.add_list e1 e2 (kk _ B₂ _ _ (st'.trans (Stp.keep (w := w) st₂.inh (Up.push h₂ _))) ⟨I₂.inv.push _, I₂.pos⟩ ⟨h₂.objs.size, _, 0, rfl, st'.up.none _ n1, inh_none st₂.inh n1, Heap.get?_push_size _ rfl, by simpa using r1.append r2⟩) (by rw [z1, z2, sizeLine_eq]; omega))
/-- an own dict is changed, and the frame's own names stand where they are -/
theorem St.dict2 (S : St w env B0 h0 X B h ρ) {C : Addr} {o : Obj} {es ep} (h0C : h0.get? C = none) (BC : B C = none) (e : h.get? C = some o) (d : o.data = .dict es ep) (nl : env.locals ≠ C)
    (k : ∀ b o, b ≠ C → b ≠ env.locals → h.get? b = some o → h'.get? b = some o) (kn : ∀ m, h.Ns env.locals m → h'.Ns env.locals m) : St w env B0 h0 X B h' ρ := by
  obtain ⟨l1, l2, m, l3⟩ := S.loc
  obtain ⟨oL, esL, epL, eL, dL, _⟩ := id l3
  obtain ⟨st1, Iv1⟩ := stp_but (h' := h.hide env.locals) S.base.1 S.fm.inv S.stp l1 l2 eL (safe_dict dL) fun b o nb eb => hide_get eb nb
  obtain ⟨st, Iv⟩ := stp_but (h' := h') S.base.1 Iv1 st1 h0C BC (hide_get e nl.symm) (safe_dict d) fun b o nb eb => k b o nb (fun z => by rw [z, hide_none] at eb; cases eb) (hide_of eb)
  have kc : ∀ {c : Addr} {v : Option Value}, h.IsCell c v → h'.IsCell c v := fun x => let ⟨o', q, dd⟩ := x; ⟨o', k _ _ (fun z => by rw [z, e] at q; cases q; rw [d] at dd; cases dd) (fun z => by rw [z, eL] at q; cases q; rw [dL] at dd; cases dd) q, dd⟩
  refine ⟨S.base, st, ⟨Iv, st.inh, S.fm.kind, S.fm.glob, S.fm.blt, fun x d' q => ?_⟩, ⟨l1, l2, m, kn _ l3⟩, fun x c q r => ?_, S.apart, fun a ds q => ?_, S.boxes⟩
  · obtain ⟨v, y, r, hb⟩ := S.fm.vars x d' q
    refine ⟨v, ?_, r, hb⟩
    rcases y with ⟨a, m, b, c⟩ | ⟨a, n, c, b, dd⟩
    · exact .inl ⟨a, m, kn _ b, c⟩
    · exact .inr ⟨a, n, c, b, kc dd⟩
  · obtain ⟨a, b, v, c⟩ := S.cel x c q r
    exact ⟨a, b, v, kc c⟩
  · obtain ⟨a1, b, vs, n, c, dd⟩ := S.box a ds q
    exact ⟨a1, b, vs, n, k _ _ (fun z => by rw [z, e] at c; cases c; cases d) (fun z => by rw [z, eL] at c; cases c; cases dL) c, dd⟩
theorem rep_delD {I : Addr} {o : Obj} {es ep} (e : B I = some o) (hd : o.data = .dict es ep) {d : D} {v : Value} (hs : Simple d ∨ ∃ a, d = .ref a) (r : Rep B v d) : Rep (B.del I) v d := by
  have key : ∀ {d : D} {v : Value}, Simple d → Rep B v d → Rep (B.del I) v d := by
    have list : ∀ (ds : List D) (vs : List Value), (∀ d ∈ ds, ∀ v, Rep B v d → Rep (B.del I) v d) → Reps B vs ds → Reps (B.del I) vs ds := fun ds => by
      induction ds with
      | nil => intro vs _ r; cases r; exact .nil
      | cons d ds ih =>
        intro vs k r
        cases r with
        | cons a b => exact .cons (k d (by simp) _ a) (ih _ (fun d m => k d (by simp [m])) b)
    intro d v s
    induction s generalizing v with
    | none => intro r; cases r; exact .none
    | bool b => intro r; cases r; exact .bool _
    | int i => intro r; cases r; exact .int _ _
    | str i => intro r; cases r; exact .str _ _
    | list hs ih =>
      intro r
      cases r with
      | list e' rs => exact .list ((if_neg (fun q => by rw [q, e] at e'; cases e'; cases hd)).trans e') (list _ _ (fun d m v => ih d m) rs)
    | tup hs ih =>
      intro r
      cases r with
      | tup e' rs => exact .tup ((if_neg (fun q => by rw [q, e] at e'; cases e'; cases hd)).trans e') (list _ _ (fun d m v => ih d m) rs)
  rcases hs with hs | ⟨a, rfl⟩
  · exact key hs r
  · rw [r.ref_inv]; exact .ref a
/-- a frozen own dict is let go -/
theorem St.delD (S : St w env B0 h0 [] B h ρ) {I : Addr} {o : Obj} {es ep} (h0I : h0.get? I = none) (BI : B I = some o) (hd : o.data = .dict es ep) (hρ : ∀ x d, ρ.lookup x = some d → Simple d ∨ ∃ a, d = .ref a) : St w env B0 h0 [] (B.del I) h ρ := by
  have dn : ∀ {b : Addr}, B b = none → (B.del I) b = none := fun {b} q => by
    by_cases hb : b = I
    · exact if_pos hb
    · exact (if_neg hb).trans q
  have st : Stp B0 h0 (B.del I) h := ⟨S.stp.up, fun b o' q => (if_neg (fun z => by
      have := (S.base.2 b o' q).1
      rw [z, h0I] at this; cases this)).trans (S.stp.le b o' q), fun b o' q => by
    by_cases hb : b = I
    · rw [hb, show (B.del I) I = none from if_pos rfl] at q; cases q
    · rw [show (B.del I) b = B b from if_neg hb] at q
      exact S.stp.inh b o' q, fun b o' q => by
    by_cases hb : b = I
    · exact .inr (.inl (hb ▸ h0I))
    · rw [show (B.del I) b = B b from if_neg hb] at q
      exact S.stp.fresh b o' q⟩
  obtain ⟨l1, l2, m, l3⟩ := S.loc
  refine ⟨S.base, st, ⟨S.fm.inv, st.inh, S.fm.kind, S.fm.glob, S.fm.blt, fun x d q => ?_⟩, ⟨l1, dn l2, m, l3⟩, fun x c q r => ?_, S.apart, fun a ds q => ?_, S.boxes⟩
  · obtain ⟨v, y, r, hb⟩ := S.fm.vars x d q
    exact ⟨v, y, rep_delD BI hd (hρ x d q) r, hb⟩
  · obtain ⟨a, b, v, cc⟩ := S.cel x c q r
    exact ⟨a, dn b, v, cc⟩
  · cases q
end
end Tn
end
section
-- TnV6
open PySem PySem.W PySem.Calls PySem.Spec PyProof.Rows
set_option maxRecDepth 100000
set_option linter.unusedVariables false
namespace Tn
section
variable {w : World} {A : Around} {env : Env} {ρ : Rho} {X : Boxes} {post : Post}
/-- x, y = (e, f) -/
theorem r1_pair {x y : Str} {p1 p2 p3 p4 : Pos} {k : Nat} {e : Expr} {d1 d2 : D} (hA : A.handled = none) (hx : Stores env x) (hy : Stores env y) (ee : Ev w A env ρ e (.tup [d1, d2])) (p : post .next X ((x, d1) :: (y, d2) :: ρ)) (hnx : okName x := by decide) (hny : okName y := by decide)
    (hs : swapsWithSole [.Tuple [.Name x p1, .Name y p2] k p3] e p4.line env = pure false := by rfl)
    (hw : swappedStores [.Tuple [.Name x p1, .Name y p2] k p3] e env = pure (some [x, y]) := by rfl) :
    Run1 w A env (.Assign [.Tuple [.Name x p1, .Name y p2] k p3] e p4) X ρ post := .mk fun B0 h0 B h S s E at_ => by
  refine Assign_Tuple_swapped (ee.go B h S.fm s _ E at_ fun v B₁ h₁ tk st I r => ?_) hs hw
  obtain ⟨t, vs, n, rfl, e1, e2, l, z, rs⟩ := r.isT st.inh
  have hv : ∃ a b, vs = #[a, b] := by
    rcases vs with ⟨_ | ⟨a, _ | ⟨b, _ | ⟨c, r⟩⟩⟩⟩ <;> first | exact ⟨_, _, rfl⟩ | (simp at z)
  obtain ⟨a, b, rfl⟩ := hv
  cases rs with | cons ra rs => cases rs with | cons rb _ =>
  rw [show ([x, y] : List Str).length = (#[a, b] : Array Value).size from rfl]
  refine unpackItems_tuple hA (show IsTup (h₁) t #[a, b] from l) fun h₂ hx₂ => ?_
  have S₁ := S.ev st I
  have k2 : ∀ b o, h₁.get? b = some o → h₂.get? b = some o := fun b o e => hx₂ b o (Nat.ne_of_lt (Heap.lt_size e)) e
  have S₂ := S₁.ev (Stp.keep (w := w) st.inh (.of_keeps k2)) (tk := tk) ⟨I.inv.of_keeps k2, I.pos⟩
  refine wpAny_assignInOrder_more (bindName_ (S₂.store hy rb hny _ _ E ⟨rfl, I.pos⟩ fun h₃ tk₃ S₃ st₃ I₃ _ => ?_))
  refine wpAny_assignInOrder_more (bindName_ (S₃.store hx ra hnx _ _ E I₃.at fun h₄ tk₄ S₄ st₄ I₄ _ => ?_))
  exact wpAny_assignInOrder_none ⟨B₁, h₄, tk₄, X, _, .next, rfl, I₄.pos, st.le, S₄, trivial, p⟩
theorem run_step {st : Stmt} {rest : List Stmt} (mid : Boxes → Rho → Prop) (x : Run1 w A env st X ρ (fun f X ρ => match f with | .next => mid X ρ | _ => False)) (y : ∀ X ρ, mid X ρ → Run w A env rest X ρ post) : Run w A env (st :: rest) X ρ post :=
  run_cons (x.mono fun f X ρ h => by
    cases f with
    | next => exact y X ρ h
    | brk => exact h.elim
    | cont => exact h.elim
    | ret d => exact h.elim)
/-- an attribute of the class -/
theorem ev_clsA {x name : Str} {p pos : Pos} {l : List Nat} {tk : Tok} (hx : env.kindOf x = some .globalImplicit) (e : nsIn (K w.params) mainGlobals x = some (some (.ref 83)))
    (hf : findCls (K w.params) (.ref 83) (.type "type") name = some (.val (.str (S l) tk))) (hd : (x == ("__debug__" : Str)) = false := by decide)
    (he : eval (.Attribute (.Name x p) name pos) env = (do
      let o ← eval (.Name x p) env
      standAt pos.atName
      let r ← holding [o] (getAttr o name true)
      letTemporaryGo (.Name x p) o r
      pure r) := by with_unfolding_all rfl) : Ev w A env ρ (.Attribute (.Name x p) name pos) (.str (S l)) := .mk fun B h F s Q E at_ k => by
  refine Attribute_any_ ((ev_global (w := w) (A := A) (pos := p) (ρ := ρ) hx e hd).go B h F s _ E at_ fun v B₁ h₁ tk₁ st I r => ?_) he
  rw [r.ref_inv]
  exact cls_value I.inv.k (mc := .type "type") (by kernel_rfl) hf rfl (k _ B₁ h₁ (tk₁ + 1) st ⟨I.inv, Nat.le_succ_of_le I.pos⟩ (.str _ _))
/-- a Whitespace that is being made -/
noncomputable def RawP (x dx : Addr) (es : List DictEntry) (n : Nat) : Fz → Value → Prop := fun B v => v = .ref x ∧ B x = some (instObj 83 dx) ∧ B dx = some (dictOf es n)
theorem rawP_mono {x dx : Addr} {es : List DictEntry} {n : Nat} : Mono (RawP x dx es n) := ⟨fun B B' v le ⟨h1, h2, h3⟩ => ⟨h1, le _ _ h2, le _ _ h3⟩,
  fun B I o v hI io ⟨h1, h2, h3⟩ => ⟨h1, (if_neg (fun q => by rw [q, hI] at h2; cases h2; simp [Iterish] at io)).trans h2, (if_neg (fun q => by rw [q, hI] at h3; cases h3; simp [Iterish] at io)).trans h3⟩⟩
noncomputable abbrev rawD (x dx : Addr) (es : List DictEntry) (n : Nat) : D := .prd (RawP x dx es n)
theorem ev_raw {e : Expr} {pos : Pos} {x dx : Addr} {es : List DictEntry} {n : Nat} {l : List Nat} {tk : Tok} (ee : Ev w A env ρ e (rawD x dx es n)) (hl : getL "raw" es = some (some (.str (S l) tk)))
    (he : eval (.Attribute e "raw" pos) env = (do
      let o ← eval e env
      standAt pos.atName
      let r ← holding [o] (getAttr o "raw" true)
      letTemporaryGo e o r
      pure r) := by with_unfolding_all rfl) : Ev w A env ρ (.Attribute e "raw" pos) (.str (S l)) := .mk fun B h F s Q E at_ k => by
  refine Attribute_any_ (ee.go B h F s _ E at_ fun v B₁ h₁ tk st I r => ?_) he
  obtain ⟨m, rfl, a1, a2⟩ := r.prd_inv
  have X := I.inv.k
  exact get_value X (od := some (dictOf es n)) ⟨(st.inh _ _ a1).1, rfl, rfl, (st.inh _ _ a2).1⟩ (by kernel_rfl) (findObj_own (attr := none) (by kernel_rfl) (by kernel_rfl) rfl hl) rfl (k _ B₁ h₁ (tk + 1) st ⟨I.inv, Nat.le_succ_of_le I.pos⟩ (.str _ _))
end
noncomputable def bump (c : List Nat) (b : Nat) : List Nat := (c ++ List.replicate (b + 1 - c.length) 0).set b ((c ++ List.replicate (b + 1 - c.length) 0).getD b 0 + 1)
noncomputable def wsStep (s : List Nat × Nat × Nat) (ch : Nat) : List Nat × Nat × Nat := if ch = 32 then (s.1, s.2.1 + 1, s.2.2) else (bump s.1 s.2.1, 0, s.2.2 + 1)
noncomputable def wsF (t : List Nat) : List Nat × Nat × Nat := t.foldl wsStep ([], 0, 0)
theorem wsF_snoc (t : List Nat) (ch : Nat) : wsF (t ++ [ch]) = wsStep (wsF t) ch := by simp [wsF, List.foldl_append]
theorem bump_len (c : List Nat) (b : Nat) : (bump c b).length = max c.length (b + 1) := by unfold bump; simp; lia
theorem take_snoc {t : List Nat} {i ch : Nat} (h : t[i]? = some ch) : t.take (i + 1) = t.take i ++ [ch] := by
  rw [List.take_add_one, h]; rfl
theorem wsF_bound (t : List Nat) : ∀ i, i ≤ t.length → (wsF (t.take i)).1.length ≤ i ∧ (wsF (t.take i)).2.1 ≤ i
  | 0, _ => by simp [wsF]
  | i + 1, h => by
    obtain ⟨ch, hc⟩ : ∃ ch, t[i]? = some ch := ⟨t[i], List.getElem?_eq_getElem (by lia)⟩
    obtain ⟨a, b⟩ := wsF_bound t i (by lia)
    rw [take_snoc hc, wsF_snoc]
    unfold wsStep
    split
    · exact ⟨by simp; lia, by simp; lia⟩
    · refine ⟨?_, by simp⟩
      simp only [bump_len]; lia
section
variable {w : World} {A : Around} {env : Env} {ρ : Rho} {X : Boxes} {post : Post} {n : Nat}
noncomputable def initMid : List Stmt := ((stmBody (clsStm 2 1)).drop 1).take 4
noncomputable abbrev wsRho (self : D) (a : Addr) (i : Nat) (s : List Nat × Nat × Nat) : Rho := [("b", .int (s.2.1 : Nat)), ("n", .int (i : Nat)), ("nt", .int (s.2.2 : Nat)), ("count", .ref a), ("S", .str (S [32])), ("T", .str (S [9])), ("self", self)]
theorem init_mid {L : Addr} {x dx : Addr} {es : List DictEntry} {m : Nat} {t : List Nat} {tk : Tok} (hA : AOk A (n + 1)) (ht : ∀ c ∈ t, c = 32 ∨ c = 9) (hz : t.length ≤ 1000) (hl : getL "raw" es = some (some (.str (S t) tk)))
    (p : ∀ a X ρ, Has [(a, intsD (wsF t).1)] (wsRho (rawD x dx es m) a t.length (wsF t)) X ρ → post .next X ρ) :
    Run w A (callEnv (funD (o_38 w.params)) L 38) initMid [] [("self", rawD x dx es m), ("ws", .str (S t))] post := by
  unfold initMid
  conv in (List.take _ _) => whnf
  refine run_cons (r1_pair hA.hh (.inl rfl) (.inl rfl) (ev_tup (evl_cons (ev_clsA (l := [32]) rfl (by kernel_rfl) (tk := 209) (by kernel_rfl)) (evl_cons (ev_clsA (l := [9]) rfl (by kernel_rfl) (tk := 210) (by kernel_rfl)) evl_nil)) (by decide)) ?_)
  refine run_cons (r1_new (ds := []) (.inl rfl) (evn_list evl_nil (by decide)) fun a => ?_)
  refine run_cons (r1_assign3 (d := .int 0) (.inl rfl) (.inl rfl) (.inl rfl) ev_int ?_)
  refine run_cons (r1_for (d := .str (S t)) hA.hh (.inl rfl) (ev_raw (ev_name rfl) hl) itb_str
    (fun i X ρ => ∃ a, Has [(a, intsD (wsF (t.take i)).1)] (wsRho (rawD x dx es m) a i (wsF (t.take i))) X ρ) ⟨a, rfl, sub_cons rfl (sub_cons rfl (sub_cons rfl (sub_cons rfl (sub_cons rfl (sub_cons rfl (sub_cons rfl sub_nil))))))⟩ ?_ ?_)
  · rintro i X' ρ' e he ⟨a, hv⟩
    obtain ⟨ch, hc, rfl⟩ : ∃ ch, t[i]? = some ch ∧ e = .str (S [ch]) := by
      rw [List.getElem?_map] at he
      obtain ⟨ch, h1, h2⟩ := Option.map_eq_some_iff.mp he
      exact ⟨ch, h1, h2.symm⟩
    have hi : i < t.length := (List.getElem?_eq_some_iff.mp hc).1
    obtain ⟨w1, w2⟩ := wsF_bound t i (by lia)
    have hs : wsF (t.take (i + 1)) = wsStep (wsF (t.take i)) ch := by rw [take_snoc hc, wsF_snoc]
    rw [hs]
    generalize wsF (t.take i) = st at w1 w2 hv ⊢
    obtain ⟨c, b, nt⟩ := st
    dsimp only at w1 w2
    have hlen : (intsD c).length = c.length := by simp [intsD]
    refine run_base1 hv ?_
    refine run_cons (r1_if (evT_cmp (ev_name rfl) (ev_name rfl) rfl op_seq) (fun h => ?_) fun h => ?_)
    · have h32 : ch = 32 := by simpa using h
      subst h32
      refine run_cons (r1_assign (d := .int ((i + 1 : Nat) : Nat)) (.inl rfl) (ev_bin (ev_name rfl) ev_int op_add) ?_)
      refine run_cons (r1_assign (d := .int ((b + 1 : Nat) : Nat)) (.inl rfl) (ev_bin (ev_name rfl) ev_int op_add) ?_)
      exact run_nil (run_nil ⟨a, rfl, sub_cons rfl (sub_cons rfl (sub_cons rfl (sub_cons rfl (sub_cons rfl (sub_cons rfl (sub_cons rfl sub_nil))))))⟩)
    · have h9 : ch = 9 := by
        rcases ht ch (List.mem_of_getElem? hc) with q | q
        · rw [q] at h; simp at h
        · exact q
      subst h9
      refine run_cons (r1_if ((evT_cmp (ev_name rfl) (ev_name rfl) rfl op_seq).cast (b' := true) rfl) (fun _ => ?_) fun h => nomatch h)
      refine run_cons (r1_assign (d := .int ((i + 1 : Nat) : Nat)) (.inl rfl) (ev_bin (ev_name rfl) ev_int op_add) ?_)
      refine run_cons (r1_assign (d := .int ((nt + 1 : Nat) : Nat)) (.inl rfl) (ev_bin (ev_name rfl) ev_int op_add) ?_)
      have elen : ∀ {ρ : Rho} {p1 p2 p3 : Pos}, List.lookup (Str.ofString "count") ρ = some (D.list (intsD c)) → Ev w A (callEnv (funD (o_38 w.params)) L 38) ρ (.Call (.Name (Str.ofString "len") p1) [.Name (Str.ofString "count") p2] [] p3) (.int c.length) := fun h => (ev_callB (n := n) (hA.le (Nat.le_succ n)) (c_len_list (by rw [hlen]; lia)) (evl_cons (ev_name h) evl_nil)).cast (by rw [hlen])
      have cz : c ++ List.replicate (b + 1 - c.length) 0 = if c.length ≤ b then c ++ List.replicate (b + 1 - c.length) 0 else c := by
        split
        · rfl
        · rw [show b + 1 - c.length = 0 by lia]; simp
      refine run_step (fun X ρ => ∃ a, Has [(a, intsD (c ++ List.replicate (b + 1 - c.length) 0))] [("b", .int (b : Nat)), ("n", .int ((i + 1 : Nat) : Nat)), ("nt", .int ((nt + 1 : Nat) : Nat)), ("count", .ref a), ("S", .str (S [32])), ("T", .str (S [9])), ("self", rawD x dx es m)] X ρ)
        (r1_ifZ (ρ' := [("b", .int (b : Nat)), ("count", .list (intsD c))]) (fzs_cons rfl (.same _) (fzs_cons rfl (.box (by simp)) fzs_nil)) (evT_cmp (ev_name rfl) (elen rfl) rfl op_ge) (fun h => ?_) fun h => ?_) ?_
      · have hb : c.length ≤ b := by have := of_decide_eq_true h; lia
        refine run_cons (r1_newZ (ds := intsD (c ++ List.replicate (b + 1 - c.length) 0)) (ρ' := [("b", .int (b : Nat)), ("count", .list (intsD c))]) (fzs_cons rfl (.same _) (fzs_cons rfl (.box (by simp)) fzs_nil)) (fun d hd => ?_) (.inl rfl) ((evn_add (ev_name rfl) (ev_bin (ev_list (evl_cons ev_int evl_nil) (by decide)) (ev_bin (ev_bin (ev_name rfl) (elen rfl) op_sub) ev_int op_add) (op_lmul (by simp) ?_ ?_ ?_)) ?_).cast ?_) fun a' => ?_)
        · obtain ⟨k, _, rfl⟩ := List.mem_map.mp hd
          exact .int _
        · simp; lia
        · lia
        · lia
        · simp [hlen]; lia
        · simp [intsD]
          lia
        · refine RunT.few (X₁ := [(a', intsD (c ++ List.replicate (b + 1 - c.length) 0))]) (by simp) ?_
          exact run_nil ⟨a', rfl, sub_cons rfl (sub_cons rfl (sub_cons rfl (sub_cons rfl (sub_cons rfl (sub_cons rfl (sub_cons rfl sub_nil))))))⟩
      · have hb : ¬ c.length ≤ b := by have := of_decide_eq_false h; lia
        rw [cz, if_neg hb]
        exact run_nil ⟨a, rfl, sub_cons rfl (sub_cons rfl (sub_cons rfl (sub_cons rfl (sub_cons rfl (sub_cons rfl (sub_cons rfl sub_nil))))))⟩
      · rintro X' ρ' ⟨a, hv⟩
        have hbm : bump c b = (c ++ List.replicate (b + 1 - c.length) 0).set b ((c ++ List.replicate (b + 1 - c.length) 0).getD b 0 + 1) := rfl
        have hcl : (c ++ List.replicate (b + 1 - c.length) 0).length ≤ 2000 ∧ b < (c ++ List.replicate (b + 1 - c.length) 0).length := by simp; lia
        unfold wsStep
        rw [if_neg (by decide), hbm]
        generalize c ++ List.replicate (b + 1 - c.length) 0 = c' at hv hcl ⊢
        have hlen' : (intsD c').length = c'.length := by simp [intsD]
        refine run_base hv ?_
        refine run_cons (r1_setZ (X₁ := []) (X₂ := []) (ρ' := [("b", .int (b : Nat)), ("count", .list (intsD c'))]) (v := ((c'.getD b 0 + 1 : Nat) : Int)) (fzs_cons rfl (.same _) (fzs_cons rfl (.box (by simp)) fzs_nil)) (ev_bin (ev_litem (k := (b : Nat)) (d := .int (c'.getD b 0 : Nat)) (ev_name rfl) (ev_name rfl) (by lia) (by lia) (intsD_get hcl.2)) ev_int op_add) (ev_name rfl) (ev_name rfl) (by lia) (by lia) (by lia) ?_)
        have hset : (intsD c').set ((b : Nat) : Int).toNat (.int ((c'.getD b 0 + 1 : Nat) : Int)) = intsD (c'.set b (c'.getD b 0 + 1)) := by
          unfold intsD
          rw [List.map_set]; rfl
        rw [hset]
        refine run_cons (r1_assign (d := .int 0) (.inl rfl) ev_int ?_)
        exact run_nil (run_nil (run_nil ⟨a, rfl, sub_cons rfl (sub_cons rfl (sub_cons rfl (sub_cons rfl (sub_cons rfl (sub_cons rfl (sub_cons rfl sub_nil))))))⟩))
  · rintro X' ρ' ⟨a, hv⟩
    rw [List.length_map, List.take_length] at hv
    exact run_nil (p a _ _ hv)
end
end Tn
end
section
-- TnP14
set_option linter.unusedVariables false
namespace Tn
noncomputable def leadT (l : List Nat) : List Nat := (l.map fun s => List.replicate s 32 ++ [9]).flatten
theorem leadT_snoc (l : List Nat) (s : Nat) : leadT (l ++ [s]) = leadT l ++ (List.replicate s 32 ++ [9]) := by simp [leadT]
theorem leadT_mem {l : List Nat} : ∀ c ∈ leadT l, c = 32 ∨ c = 9 := by
  intro c h
  simp only [leadT, List.mem_flatten, List.mem_map] at h
  obtain ⟨x, ⟨s, _, rfl⟩, h⟩ := h
  rcases List.mem_append.mp h with h | h
  · exact .inl (List.eq_of_mem_replicate h)
  · exact .inr (by simpa using h)
theorem leadT_len {l : List Nat} {k : Nat} (h : ∀ s ∈ l, s ≤ k) : (leadT l).length ≤ l.length * (k + 1) := by
  induction l with
  | nil => simp [leadT]
  | cons s r ih =>
    have := ih fun a m => h a (by simp [m])
    have h1 := h s (by simp)
    have e : leadT (s :: r) = (List.replicate s 32 ++ [9]) ++ leadT r := by simp [leadT]
    rw [e, List.length_append, List.length_cons, Nat.succ_mul]
    simp
    lia
theorem run_sp (s : Nat) : ∀ (c : List Nat) (b nt : Nat), (List.replicate s 32).foldl wsStep (c, b, nt) = (c, b + s, nt) := by
  induction s with
  | zero => intro c b nt; rfl
  | succ s ih =>
    intro c b nt
    rw [List.replicate_succ, List.foldl_cons, show wsStep (c, b, nt) 32 = (c, b + 1, nt) from rfl, ih]
    congr 2
    lia
theorem wsF_lead (l : List Nat) (s : Nat) : wsF (leadT (l ++ [s])) = wsStep ((wsF (leadT l)).1, (wsF (leadT l)).2.1 + s, (wsF (leadT l)).2.2) 9 := by
  unfold wsF
  rw [leadT_snoc, List.foldl_append, List.foldl_append]
  generalize List.foldl wsStep ([], 0, 0) (leadT l) = st
  obtain ⟨c, b, nt⟩ := st
  rw [run_sp]; rfl
theorem maxN_snoc (l : List Nat) (s : Nat) : maxN (l ++ [s]) = max (maxN l) s := by
  apply Nat.le_antisymm
  · rcases Nat.eq_zero_or_pos (maxN (l ++ [s])) with h | h
    · lia
    · obtain ⟨a, m, q⟩ := (maxN_ge h).mp (Nat.le_refl _)
      rcases List.mem_append.mp m with m | m
      · rcases Nat.eq_zero_or_pos a with z | z
        · lia
        · have := (maxN_ge (l := l) z).mpr ⟨a, m, Nat.le_refl _⟩; lia
      · have : a = s := by simpa using m
        lia
  · have h1 : maxN l ≤ maxN (l ++ [s]) := by
      rcases Nat.eq_zero_or_pos (maxN l) with h | h
      · lia
      · obtain ⟨a, m, q⟩ := (maxN_ge h).mp (Nat.le_refl _)
        exact (maxN_ge h).mpr ⟨a, by simp [m], q⟩
    have h2 : s ≤ maxN (l ++ [s]) := by
      rcases Nat.eq_zero_or_pos s with h | h
      · lia
      · exact (maxN_ge h).mpr ⟨s, by simp, Nat.le_refl _⟩
    lia
theorem ceq_out {l : List Nat} {j : Nat} (h : maxN l < j) : ceq j l = 0 := by
  unfold ceq
  rw [List.length_eq_zero_iff, List.filter_eq_nil_iff]
  intro a m q
  have : a = j := by simpa using q
  subst this
  have := (maxN_ge (l := l) (m := a) (by lia)).mpr ⟨a, m, Nat.le_refl _⟩
  lia
theorem ceq_snoc (l : List Nat) (s j : Nat) : ceq j (l ++ [s]) = ceq j l + if s = j then 1 else 0 := by
  unfold ceq
  rw [List.filter_append, List.length_append]
  congr 1
  by_cases h : s = j <;> simp [h]
noncomputable def hx (l : List Nat) : List Nat := if l = [] then [] else hist l
theorem hx_get (l : List Nat) (j : Nat) : (hx l).getD j 0 = ceq j l := by
  unfold hx
  split
  · rename_i h; subst h; simp [ceq]
  · unfold hist
    by_cases h : j < maxN l + 1
    · simp [h]
    · rw [ceq_out (by lia)]
      simp [List.getD, h]
theorem hx_len (l : List Nat) (h : l ≠ []) : (hx l).length = maxN l + 1 := by simp [hx, h, hist]
theorem ext_getD {a b : List Nat} (hl : a.length = b.length) (h : ∀ j, a.getD j 0 = b.getD j 0) : a = b := by
  apply List.ext_getElem hl
  intro i h1 h2
  have := h i
  simpa [List.getD, h1, h2] using this
theorem bump_getD (c : List Nat) (s j : Nat) : (bump c s).getD j 0 = c.getD j 0 + if s = j then 1 else 0 := by
  have pad : ∀ j, (c ++ List.replicate (s + 1 - c.length) 0).getD j 0 = c.getD j 0 := by
    intro j
    by_cases h : j < c.length
    · simp [List.getD, h, List.getElem?_append_left]
    · by_cases h2 : j < c.length + (s + 1 - c.length)
      · have : (c ++ List.replicate (s + 1 - c.length) 0)[j]? = some 0 := by
          rw [List.getElem?_append_right (by lia), List.getElem?_replicate, if_pos (by lia)]
        simp [List.getD, this, h]
      · simp [List.getD, h, List.getElem?_eq_none, show (c ++ List.replicate (s + 1 - c.length) 0)[j]? = none from List.getElem?_eq_none (by simp; lia)]
  unfold bump
  by_cases h : s = j
  · subst h
    have hl : s < (c ++ List.replicate (s + 1 - c.length) 0).length := by simp; lia
    rw [if_pos rfl, ← pad s]
    have : s < c.length + (s + 1 - c.length) := by lia
    simp [List.getD, List.getElem?_set, this]
  · rw [if_neg h, ← pad j]
    simp [List.getD, List.getElem?_set, h]
theorem bump_hx (l : List Nat) (s : Nat) : bump (hx l) s = hx (l ++ [s]) := by
  apply ext_getD
  · rw [bump_len, hx_len (l ++ [s]) (by simp), maxN_snoc]
    by_cases h : l = []
    · subst h
      simp [hx, maxN]
    · rw [hx_len _ h]; lia
  · intro j
    rw [bump_getD, hx_get, hx_get, ceq_snoc]
theorem wsF_all : ∀ (k : Nat) (l : List Nat), l.length = k → wsF (leadT l) = (hx l, 0, l.length)
  | 0, l, h => by
    have : l = [] := List.length_eq_zero_iff.mp h
    subst this; rfl
  | k + 1, l, h => by
    have hne : l ≠ [] := fun q => by rw [q] at h; cases h
    have e := List.dropLast_concat_getLast hne
    rw [← e, wsF_lead, wsF_all k l.dropLast (by simp; lia)]
    unfold wsStep
    rw [if_neg (by decide)]
    simp [bump_hx]
end Tn
end
section
-- TnP15
open PySem PySem.W PySem.Calls PySem.Spec PyProof.Rows
set_option linter.unusedVariables false
namespace Tn
theorem adj_range (row : List Nat) : ∀ (o : List Nat), (List.range (o.length - 1)).map (fun k => Lt row (o.getD k 0) (o.getD (k + 1) 0)) = adj row o
  | [] => rfl
  | [a] => rfl
  | a :: b :: r => by
    have ih := adj_range row (b :: r)
    rw [adj, ← ih]
    rw [show (a :: b :: r).length - 1 = ((b :: r).length - 1) + 1 by simp, List.range_succ_eq_map, List.map_cons, List.map_map]
    rfl
theorem leads_range (row : List Nat) : ∀ (o seen : List Nat), (List.range o.length).map (fun k => maxN ((List.range (seen.length + k)).map fun j => Lt row ((seen ++ o).getD (seen.length + k) 0) ((seen ++ o).getD j 0))) = leadsOf row seen o
  | [], seen => rfl
  | i :: r, seen => by
    rw [leadsOf]
    rw [List.length_cons, List.range_succ_eq_map, List.map_cons, List.map_map]
    have h0 : (seen ++ i :: r).getD seen.length 0 = i := by simp [List.getD]
    have hs : (List.range seen.length).map (fun j => Lt row i ((seen ++ i :: r).getD j 0)) = seen.map fun j => Lt row i j := by
      apply List.ext_getElem?
      intro k
      by_cases hk : k < seen.length
      · simp [hk, List.getD, List.getElem?_append_left]
      · rw [List.getElem?_eq_none (by simpa using hk), List.getElem?_eq_none (by simpa using hk)]
    congr 1
    · rw [Nat.add_zero, h0, hs]
    · rw [← leads_range row r (seen ++ [i])]
      apply List.map_congr_left
      intro k _
      show maxN ((List.range (seen.length + (k + 1))).map _) = _
      simp only [List.append_assoc, List.singleton_append, List.length_append, List.length_singleton]
      rw [show seen.length + 1 + k = seen.length + (k + 1) by lia]
theorem leads_range0 (row o : List Nat) : (List.range o.length).map (fun k => maxN ((List.range k).map fun j => Lt row (o.getD k 0) (o.getD j 0))) = leadsOf row [] o := by
  have := leads_range row o []
  simpa using this
theorem maxL_cons (a : Int) (l : List Int) (h : l ≠ []) : maxL (a :: l) = max a (maxL l) := by
  cases l with
  | nil => exact absurd rfl h
  | cons b r => rfl
theorem maxL_zero : ∀ (l : List Nat), maxL (0 :: l.map fun (k : Nat) => (k : Int)) = (maxN l : Nat)
  | [] => rfl
  | a :: r => by
    rw [List.map_cons, maxL_cons 0 _ (by simp)]
    have ih := maxL_zero r
    by_cases hr : r = []
    · subst hr
      show max (0 : Int) (a : Int) = ((max a 0 : Nat) : Int)
      lia
    · rw [maxL_cons (a : Int) _ (by simpa using hr)]
      rw [maxL_cons 0 _ (by simpa using hr)] at ih
      show _ = ((max a (maxN r) : Nat) : Int)
      lia
end Tn
end
section
-- TnV7
open PySem PySem.W PySem.Calls PySem.Spec PyProof.Rows
set_option maxRecDepth 100000
set_option linter.unusedVariables false
namespace Tn
theorem ns_uniq {h : Heap} {L : Addr} {m m' : Str → Option Value} (a : h.Ns L m) (b : h.Ns L m') : m' = m := by
  obtain ⟨o1, es1, ep1, q1, q2, _, q3⟩ := b
  obtain ⟨o2, es2, ep2, r1, r2, _, r3⟩ := a
  rw [q1] at r1; cases r1
  rw [q2] at r2; cases r2
  funext z; rw [← q3 z, r3 z]
theorem execs_app {env : Env} : ∀ (a b : List Stmt), execs (a ++ b) env = (execs a env >>= fun f => match f with | .next => execs b env | f => pure f)
  | [], b => by
    have e : execs [] env = pure Flow.next := rfl
    rw [e, pure_bind]; rfl
  | st :: a, b => by
    rw [List.cons_append, execs_cons, execs_cons, bind_assoc]
    congr 1
    funext f
    cases f with
    | next => exact execs_app a b
    | _ => rw [pure_bind]
section
variable {w : World} {A : Around} {env : Env} {B0 B B' : Fz} {h0 h h' : Heap} {ρ ρ' : Rho}
/-- self.name = e -/
theorem set_attr {name : Str} {p1 p2 p3 : Pos} {e : Expr} {d : D} {x dx : Addr} {es : List DictEntry} {n : Nat} (S : St w env B0 h0 [] B h ρ) (h0D : h0.get? dx = none) (BD : B dx = none) (nl : env.locals ≠ dx) (ed : h.get? dx = some (dictOf es n)) (bx : B x = some (instObj 83 dx))
    (hself : List.lookup (Str.ofString "self") ρ = some (D.ref x)) (ee : Ev w A env ρ e d) (ht : takerIn (K w.params) 83 name = some none) (hl : (getL name es).isSome = true) (hz : ∀ hs ky v, (putL name hs ky v es).length ≤ 1000)
    (s : Shared) (Q : Flow → Shared → Prop) (E : Value → Shared → Prop) (at_ : At s h)
    (k : ∀ v B' h' tk u, St w env B0 h0 [] B' h' ρ → Rep B' v d → B' dx = none → h'.get? dx = some (dictOf (putL name (PyData.keyHash w.params name) (.str name u) v es) (putN name es n)) → (∀ a o, B a = some o → B' a = some o) → 1 ≤ tk → Q .next { s with heap := h', toks := tk })
    (hs : swapsWith e (some (.Attribute (.Name (Str.ofString "self") p1) name p2)) p3.line env = pure false := by rfl) : wpAny (Md w) A (exec (.Assign [.Attribute (.Name (Str.ofString "self") p1) name p2] e p3) env) Q E s := by
  refine plainObj_wpAny_Assign_Attribute (ee.go B h S.fm s _ E at_ fun v B₁ h₁ tk st I r => ?_) hs
  have S₁ := S.ev st I
  refine (ev_name (w := w) (A := A) (env := env) (pos := p1) hself).go B₁ h₁ S₁.fm _ _ E I.at fun ov B₂ h₂ tk₂ st₂ I₂ r₂ => ?_
  rw [r₂.ref_inv]
  have S₂ := S₁.ev st₂ I₂
  have st' := st.trans st₂
  have e2 : h₂.get? dx = some (dictOf es n) := st'.up.keep _ _ (S.base.1.fresh h0D) ed
  have b2 : B₂ dx = none := stp_none st' BD ed (safe_dict rfl)
  obtain ⟨l1, l2, m, l3⟩ := S₂.loc
  refine set_raw (s := { s with heap := h₂, toks := tk₂ }) (es := es) (n := n) l3 nl.symm I₂.inv.k ⟨(st'.inh _ _ (st'.le _ _ bx)).1, rfl, rfl, e2⟩ rfl e2 (by kernel_rfl) (by kernel_rfl) ht (by kernel_rfl) hl rfl (hz _ _ _) fun h₃ k3 n3 e3 => ?_
  refine k v B₂ h₃ (tk₂ + 2) (tk₂ + 1) (S₂.dict2 h0D b2 e2 rfl nl k3 fun m' q => ?_) (r.mono st₂.le) b2 e3 st'.le (Nat.le_trans I₂.pos (Nat.le_add_right _ _))
  rw [ns_uniq l3 q]; exact n3
theorem AOk.under {n : Nat} (x : AOk A (n + 1)) (as : Args) (C : Addr) (r : List Value) : AOk (A.under (.builtin "type.__call__" ⟨.ref C :: r, []⟩)) n := by
  refine ⟨x.hh, ?_, ?_⟩
  · have := x.dep; show A.depth + 1 + n ≤ 900; omega
  · have := x.un; show A.units + 1 + 40 * n ≤ 9000; omega
end
end Tn
end
section
-- TnV8
open PySem PySem.W PySem.Calls PySem.Spec PyProof.Rows
set_option maxRecDepth 100000
set_option linter.unusedVariables false
namespace Tn
theorem putL_le {name : Str} {hs : Int} {ky v : Value} : ∀ {es : List DictEntry} {k : Nat}, es.length ≤ k → (putL name hs ky v es).length ≤ k + 1
  | [], k, _ => by simp [putL]
  | e :: r, 0, h => by simp at h
  | e :: r, k + 1, h => by
    unfold putL
    split
    · simp at h ⊢; lia
    · have := putL_le (name := name) (hs := hs) (ky := ky) (v := v) (es := r) (k := k) (by simpa using h)
      simp; lia
theorem St.re {w : World} {env : Env} {B0 B : Fz} {h0 h : Heap} {X : Boxes} {ρ ρ' : Rho} (S : St w env B0 h0 X B h ρ) (hρ : ∀ x d, ρ'.lookup x = some d → ∃ v, VarAt env h x v ∧ Rep B v d ∧ (x == ("__debug__" : Str)) = false) : St w env B0 h0 X B h ρ' :=
  ⟨S.base, S.stp, ⟨S.fm.inv, S.fm.inh, S.fm.kind, S.fm.glob, S.fm.blt, hρ⟩, S.loc, S.cel, S.apart, S.box, S.boxes⟩
theorem re_nil {env : Env} {B : Fz} {h : Heap} : ∀ x d, List.lookup x ([] : Rho) = some d → ∃ v, VarAt env h x v ∧ Rep B v d ∧ (x == ("__debug__" : Str)) = false := fun _ _ e => by cases e
theorem re_cons {env : Env} {B : Fz} {h : Heap} {ρ' : Rho} {y : Str} {d : D} (a : ∃ v, VarAt env h y v ∧ Rep B v d ∧ (y == ("__debug__" : Str)) = false) (r : ∀ x d, List.lookup x ρ' = some d → ∃ v, VarAt env h x v ∧ Rep B v d ∧ (x == ("__debug__" : Str)) = false) :
    ∀ x e, List.lookup x ((y, d) :: ρ') = some e → ∃ v, VarAt env h x v ∧ Rep B v e ∧ (x == ("__debug__" : Str)) = false := fun x e h' => by
  rw [List.lookup_cons] at h'
  split at h'
  · rename_i q; rw [beq_iff_eq.mp q]; cases h'; exact a
  · exact r x e h'
theorem mem_of_has {a b : Rho} (h : Sub a b) {x : Str} {d : D} (e : a.lookup x = some d) : b.lookup x = some d := h x d e
section
variable {w : World} {n : Nat}
theorem fn_init : fnK (K w.params) 38 37 (funD (o_38 w.params)) (stmBody (clsStm 2 1)) := ⟨o_38 _, o_37 _, _, _, rfl, rfl, rfl, rfl, rfl, rfl, rfl, rfl, rfl, rfl⟩
noncomputable def s0 : Stmt := (stmBody (clsStm 2 1)).headD default
noncomputable def initEnd : List Stmt := (stmBody (clsStm 2 1)).drop 5
theorem init_body : stmBody (clsStm 2 1) = s0 :: (initMid ++ initEnd) := by kernel_rfl
theorem call_ws {t : List Nat} (ht : ∀ c ∈ t, c = 32 ∨ c = 9) (hz : t.length ≤ 1000) (hb : (wsF t).2.1 = 0) : Calls w (.ref 83) (n + 4) [.str (S t)] (wsD (wsF t).1 (wsF t).2.2) := .mk fun A B h vs hA I i r s Q E at_ k => by
  obtain ⟨v, rfl, rv⟩ := r.one
  obtain ⟨tk, rfl⟩ := rv.str_inv
  obtain ⟨hh, gg, dd, tt, os⟩ := s
  obtain ⟨e0, tp⟩ := at_
  dsimp only at e0 tp
  subst e0
  refine wpAny_call (make_core (makes_of (K := K w.params) I.k (by kernel_rfl)) (looks_findIn I.k (show findIn (K w.params) (.ref 83) "__init__" = some (some (.ref 38)) by kernel_rfl)) (fun self => bind_fn I.k self (show typeIn (K w.params) (.ref 38) = some (.type "function") by kernel_rfl)) (.inl rfl) ?_)
  generalize hx : hh.objs.size + 1 = x
  generalize hdx : hh.objs.size = dx
  have ndx : hh.get? dx = none := hdx ▸ get_size hh
  have nx : hh.get? x = none := hx ▸ get_ge (Nat.le_succ _)
  have hxd : x ≠ dx := by lia
  generalize hh2 : (hh.push emptyDict).push (instObj 83 dx) = h2
  have k2 : ∀ b o, hh.get? b = some o → h2.get? b = some o := fun b o e => hh2 ▸ Heap.get?_push_of_some _ (Heap.get?_push_of_some _ e)
  have edx : h2.get? dx = some (dictOf [] 0) := by
    rw [← hh2]
    refine Heap.get?_push_of_some _ ?_
    rw [← hdx]
    exact Heap.get?_push_size hh (o := emptyDict) rfl
  have ex : h2.get? x = some (instObj 83 dx) := by
    rw [← hh2, ← hx]
    have := Heap.get?_push_size (hh.push emptyDict) (o := instObj 83 dx) rfl
    rwa [Heap.size_push] at this
  have hlt : dx < h2.objs.size := Heap.lt_size edx
  have I2 : Inv w h2 := I.of_keeps k2
  have IB : Inv w (h2.hide dx) := I.but I2 ndx edx (safe_dict rfl) fun b o nb eb => hide_get eb nb
  have kB : ∀ b o, hh.get? b = some o → (h2.hide dx).get? b = some o := fun b o e => hide_get (k2 b o e) fun z => by rw [z, ndx] at e; cases e
  have st1 : Stp B hh (B.put x (instObj 83 dx)) (h2.hide dx) := Stp.put I i (.of_keeps kB) nx (hide_get ex hxd)
  generalize hB0 : B.put x (instObj 83 dx) = B0 at st1
  have bx0 : B0 x = some (instObj 83 dx) := by rw [← hB0]; exact Fz.put_self _ _ _
  obtain ⟨o, oc, cvs, ct, k1, k2', k3, k4, k5, k6, k7, k8, k9, k10⟩ := fn_init (w := w)
  obtain ⟨p1, p2, p3, p4, p5⟩ := parOk.get (sc := (funD (o_38 w.params)).scope) (ps := (["self", "ws"] : List Str)) (by kernel_rfl)
  have hA1 := hA.under ⟨[], []⟩ 83 [.str (S t) tk]
  refine codeAny_call_def (fd := funD (o_38 w.params)) (binds := (["self", "ws"] : List Str).zip [Value.ref x, Value.str (S t) tk]) hA1.room (I2.k 38 o k1) k2' I2.lim ⟨37, oc, cvs, ct, k3, I2.k 37 oc k4, k5, k6⟩ k7 (.of_eq (by kernel_rfl)) (fun x m => ?_) (fun x m => ?_) (fun h₀ ns kp => ?_) p2 p3 p1
  · have := List.all_eq_true.mp (show (funD (o_38 w.params)).scope.names.all (fun x => x.2 != .cell) = true by kernel_rfl) x m
    simpa using this
  · have := List.all_eq_true.mp (show (["self", "ws"] : List Str).all (fun x => (funD (o_38 w.params)).scope.names.lookup x == some .local) = true by kernel_rfl) x.1 (List.of_mem_zip m).1
    simpa using this
  have nL : (h2.hide dx).get? h2.objs.size = none := by
    cases z : (h2.hide dx).get? h2.objs.size with
    | none => rfl
    | some o => have := hide_of z; rw [get_size] at this; cases this
  have nl : h2.objs.size ≠ dx := by lia
  have ed0 : h₀.get? dx = some (dictOf [] 0) := kp _ _ edx
  have st0 := Stp.keep (w := w) st1.inh (.of_keeps (h' := h₀) fun b o e => kp b o (hide_of e))
  have S0 : St w (callEnv (funD (o_38 w.params)) h2.objs.size 38) B0 (h2.hide dx) [] B0 h₀ [("self", .ref x), ("ws", .str (S t))] := by
    refine ⟨⟨IB, st1.inh⟩, st0, ⟨I2.of_keeps kp, st0.inh, p1, k8, k9, fun y dy e => ?_⟩, ⟨nL, inh_none st1.inh nL, _, ns⟩, fun y c kc _ => ?_, fun y z c e1 _ => (by cases e1), fun _ _ m => (by cases m), .nil⟩
    · have e' : ((["self", "ws"] : List Str).zip [D.ref x, D.str (S t)]).lookup y = some dy := e
      obtain ⟨j, j1, j2⟩ := zip_get e'
      have rvs : Reps B0 [.ref x, .str (S t) tk] [D.ref x, .str (S t)] := .cons (.ref x) (.cons (.str _ _) .nil)
      obtain ⟨v, v1, v2⟩ := rvs.get j2
      have mx := List.mem_of_getElem? j1
      have hk := List.all_eq_true.mp (show (["self", "ws"] : List Str).all (fun x => (funD (o_38 w.params)).scope.names.lookup x == some .local) = true by kernel_rfl) y mx
      have hk' : (funD (o_38 w.params)).scope.names.lookup y = some .local := by simpa using hk
      exact ⟨v, .inl ⟨hk', _, ns, lookup_zip p5 j1 v1⟩, v2, (p4 y mx).2⟩
    · have := List.all_eq_true.mp (show (funD (o_38 w.params)).scope.names.all (fun x => x.2 != .cell) = true by kernel_rfl) _ (mem_of_lookup kc)
      simp at this
  rw [init_body]
  have hA2 : AOk ((A.under (.builtin "type.__call__" ⟨.ref 83 :: [.str (S t) tk], []⟩)).deeper (callEnv (funD (o_38 w.params)) h2.objs.size 38)) (n + 2) := hA1.deeper _
  generalize (A.under (.builtin "type.__call__" ⟨.ref 83 :: [.str (S t) tk], []⟩)).deeper (callEnv (funD (o_38 w.params)) h2.objs.size 38) = A2 at hA2
  have noC : ∀ x c, (callEnv (funD (o_38 w.params)) h2.objs.size 38).kindOf x = some .cell → (callEnv (funD (o_38 w.params)) h2.objs.size 38).cells.lookup x = some c → c ≠ dx := fun x c _ e => by cases e
  have nB0 : (h2.hide dx).get? dx = none := hide_none _ _
  refine wpAny_execs_cons ?_
  unfold s0
  conv in (List.headD _ _) => whnf
  refine set_attr S0 nB0 (inh_none st1.inh nB0) nl ed0 bx0 rfl (ev_name rfl) (by kernel_rfl) (by rfl) (fun _ _ _ => by simp [putL]) _ _ _ ⟨rfl, Nat.le_trans tp (Nat.le_add_right _ _)⟩ fun v1 B1 h1 tk1 u1 S1 r1 b1 e1 le1 tp1 => ?_
  obtain ⟨tv, rfl⟩ := r1.str_inv
  have bx1 := le1 _ _ bx0
  dsimp only
  rw [execs_app]
  refine wpAny_bind ?_
  generalize hes : putL "raw" (PyData.keyHash w.params "raw") (.str "raw" u1) (.str (S t) tv) [] = es1 at e1
  generalize putN "raw" [] 0 = n1 at e1
  have S1' := S1.put nB0 b1 e1 nl noC (fun _ _ m => by cases m)
  have S2 : St w (callEnv (funD (o_38 w.params)) h2.objs.size 38) B0 (h2.hide dx) [] (B1.put dx (dictOf es1 n1)) h1 [("self", rawD x dx es1 n1), ("ws", .str (S t))] := by
    refine S1'.re (re_cons ?_ (re_cons (S1'.fm.vars _ _ rfl) re_nil))
    obtain ⟨v, a1, a2, a3⟩ := S1'.fm.vars "self" (.ref x) rfl
    refine ⟨v, a1, .prd rawP_mono ⟨a2.ref_inv, (if_neg hxd).trans bx1, Fz.put_self _ _ _⟩, a3⟩
  refine wpAny_mono ((init_mid (post := fun f X ρ => match f with
    | .next => ∃ a, Has [(a, intsD (wsF t).1)] (wsRho (rawD x dx es1 n1) a t.length (wsF t)) X ρ
    | _ => False) (hA2) ht hz (by rw [← hes]; rfl) fun a X ρ h => ⟨a, h⟩).go _ _ _ _ S2 _ _ ⟨rfl, tp1⟩) (fun f s' ⟨B3, h3, tk3, X3, ρ3, fd3, q1, q2, le3, S3, q5, q6⟩ => ?_) fun _ _ z => z
  · subst q1
    cases fd3 <;> first | exact q6.elim | skip
    cases f <;> first | exact q5.elim | skip
    obtain ⟨a, rfl, sub⟩ := q6
    obtain ⟨B4, le4, S4, ra⟩ := (show St w _ B0 (h2.hide dx) ([] ++ (a, intsD (wsF t).1) :: []) B3 h3 _ from S3.drop sub).freeze
    have bd4 : B4 dx = some (dictOf es1 n1) := le4 _ _ (le3 _ _ (Fz.put_self _ _ _))
    have bx4 : B4 x = some (instObj 83 dx) := le4 _ _ (le3 _ _ ((if_neg hxd).trans bx1))
    have e4 := (S4.stp.inh _ _ bd4).1
    have S5 : St w (callEnv (funD (o_38 w.params)) h2.objs.size 38) B0 (h2.hide dx) [] B4 h3 [("b", .int 0), ("n", .int (t.length : Nat)), ("nt", .int ((wsF t).2.2 : Nat)), ("count", .list (intsD (wsF t).1)), ("self", .ref x)] := by
      refine S4.re (re_cons (by have := S4.fm.vars "b" _ rfl; rw [hb] at this; exact this) (re_cons (S4.fm.vars _ _ rfl) (re_cons (S4.fm.vars _ _ rfl) (re_cons ?_ (re_cons ?_ re_nil)))))
      · obtain ⟨v, a1, a2, a3⟩ := S4.fm.vars "count" (.ref a) rfl
        exact ⟨v, a1, a2.ref_inv ▸ ra, a3⟩
      · obtain ⟨v, a1, a2, a3⟩ := S4.fm.vars "self" (rawD x dx es1 n1) rfl
        obtain ⟨_, rfl, _⟩ := a2.prd_inv
        exact ⟨_, a1, .ref _, a3⟩
    have S6 := S5.delD nB0 bd4 rfl (fun y d e => by
      have m := mem_of_lookup e
      simp only [List.mem_cons, List.not_mem_nil, or_false, Prod.mk.injEq] at m
      rcases m with ⟨_, rfl⟩ | ⟨_, rfl⟩ | ⟨_, rfl⟩ | ⟨_, rfl⟩ | ⟨_, rfl⟩
      · exact .inl (.int _)
      · exact .inl (.int _)
      · exact .inl (.int _)
      · exact .inl (.list fun d hd => by
          obtain ⟨k, _, rfl⟩ := List.mem_map.mp hd
          exact .int _)
      · exact .inr ⟨_, rfl⟩)
    have bx6 : (B4.del dx) x = some (instObj 83 dx) := (if_neg hxd).trans bx4
    have bd6 : (B4.del dx) dx = none := if_pos rfl
    generalize B4.del dx = B6 at S6 bx6 bd6
    have hlen : (intsD (wsF t).1).length = (wsF t).1.length := by simp [intsD]
    have hcl : (wsF t).1.length ≤ 1000 := by
      have := (wsF_bound t t.length (Nat.le_refl _)).1
      rw [List.take_length] at this
      lia
    dsimp only
    unfold initEnd
    conv in (List.drop _ _) => whnf
    rw [← hes] at e4
    refine wpAny_execs_cons ?_
    refine set_attr S6 nB0 bd6 nl e4 bx6 rfl (ev_name rfl) (by kernel_rfl) (by rfl) (fun _ _ _ => Nat.le_trans (putL_le (putL_le (Nat.le_refl 0))) (show 2 ≤ 1000 by decide)) _ _ _ ⟨rfl, q2⟩ fun v7 B7 h7 tk7 u7 S7 r7 b7 e7 le7 tp7 => ?_
    have bx7 := le7 _ _ bx6
    refine wpAny_execs_cons ?_
    refine set_attr S7 nB0 b7 nl e7 bx7 rfl (ev_name rfl) (by kernel_rfl) (by rfl) (fun _ _ _ => Nat.le_trans (putL_le (putL_le (putL_le (Nat.le_refl 0)))) (show 3 ≤ 1000 by decide)) _ _ _ ⟨rfl, tp7⟩ fun v8 B8 h8 tk8 u8 S8 r8 b8 e8 le8 tp8 => ?_
    obtain ⟨t8, rfl⟩ := r8.int_inv
    have bx8 := le8 _ _ bx7
    refine wpAny_execs_cons ?_
    refine set_attr S8 nB0 b8 nl e8 bx8 rfl (ev_tup (evl_cons (ev_callT (n := n) (hA2.le (by lia)) (c_tup_list (by rw [hlen]; lia)) (evl_cons (ev_name rfl) evl_nil)) (evl_cons (ev_name rfl) evl_nil)) (show 2 ≤ 1000000 by decide)) (by kernel_rfl) (by rfl) (fun _ _ _ => Nat.le_trans (putL_le (putL_le (putL_le (putL_le (Nat.le_refl 0))))) (show 4 ≤ 1000 by decide)) _ _ _ ⟨rfl, tp8⟩ fun v9 B9 h9 tk9 u9 S9 r9 b9 e9 le9 tp9 => ?_
    have bx9 := le9 _ _ bx8
    refine wpAny_execs_cons ?_
    refine set_attr S9 nB0 b9 nl e9 bx9 rfl (ev_cmp (ev_callB (n := n) (hA2.le (by lia)) (c_len_list (by rw [hlen]; lia)) (evl_cons (ev_name rfl) evl_nil)) ev_int rfl op_le) (by kernel_rfl) (by rfl) (fun _ _ _ => Nat.le_trans (putL_le (putL_le (putL_le (putL_le (putL_le (Nat.le_refl 0)))))) (show 5 ≤ 1000 by decide)) _ _ _ ⟨rfl, tp9⟩ fun v10 B10 h10 tk10 u10 S10 r10 b10 e10 le10 tp10 => ?_
    have bx10 := le10 _ _ bx9
    refine wpAny_execs_nil ?_
    have S11 := S10.put nB0 b10 e10 nl noC (fun _ _ m => by cases m)
    have le11 : ∀ od a o, B10 a = some o → (B10.put dx od) a = some o := fun od b o' q => (if_neg (fun z => by rw [z, b10] at q; cases q)).trans q
    refine ⟨rfl, ?_⟩
    exact k (.ref x) _ h10 tk10 (st1.trans S11.stp) ⟨S11.fm.inv, tp10⟩ (.prd (wsP_mono _ _) ⟨x, dx, _, _, v9, t8, rfl, (if_neg hxd).trans bx10, Fz.put_self _ _ _, rfl, (r9.mono le10).mono (le11 _), rfl, rfl, rfl, rfl, rfl⟩)
end
end Tn
end
section
-- TnV9
open PySem PySem.W PySem.Calls PySem.Spec PyProof.Rows
set_option maxRecDepth 100000
set_option linter.unusedVariables false
namespace Tn
section
variable {w : World} {A : Around} {env : Env} {ρ : Rho}
/-- a comprehension without tests -/
theorem evn_map {elt iter : Expr} {x : Str} {px : Pos} {scope : Scope} {pos : Pos} {d : D} {es : List D} (f : Nat → D) (ρf : Rho)
    (hA : A.handled = none) (ei : Ev w A env ρ iter d) (it : Itb w A d es) (hz : es.length ≤ 1000000) (fr : Fre env ρ ρf) (ok : compOk scope x (ρf.map (·.1)) = true)
    (turn : ∀ cenv, CE scope cenv → ∀ i e, es[i]? = some e → Ev w A cenv ((x, e) :: ρf) elt (f i))
    (hs : ∀ x, foldedSetIterable iter env x = pure x := by intro _; rfl) : EvN w A env ρ (.ListComp elt [⟨.Name x px, iter, [], 0⟩] scope pos) ((List.range es.length).map f) := by
  have := ev_comp (w := w) (A := A) (env := env) (ρ := ρ) (elt := elt) (px := px) (pos := pos) (ifs := []) (fun i => some (f i)) ρf hA ei it hz fr ok (fun cenv ce i e he => ⟨tests_nil, turn cenv ce i e he⟩) hs
  rwa [show (List.range es.length).filterMap (fun i => some (f i)) = (List.range es.length).map f from congrFun List.filterMap_eq_map' _] at this
theorem map_range_get {α β : Type} (l : List α) (g : α → β) (f : Nat → β) (h : ∀ i a, l[i]? = some a → f i = g a) : (List.range l.length).map f = l.map g := by
  apply List.ext_getElem?
  intro i
  by_cases hi : i < l.length
  · simp [hi, h i l[i] (List.getElem?_eq_getElem hi)]
  · rw [List.getElem?_eq_none (by simpa using hi), List.getElem?_eq_none (by simpa using hi)]
theorem intsD_at {l : List Nat} {i : Nat} {e : D} (h : (intsD l)[i]? = some e) : ∃ hi : i < l.length, e = .int (l[i] : Nat) := by
  have hi : i < l.length := by simpa [intsD] using (List.getElem?_eq_some_iff.mp h).1
  refine ⟨hi, ?_⟩
  simpa [intsD, hi] using h.symm
variable {n : Nat}
theorem fn_lead : fnK (K w.params) 187 186 (funD (o_187 w.params)) (stmBody (stm 69)) := ⟨o_187 _, o_186 _, _, _, rfl, rfl, rfl, rfl, rfl, rfl, rfl, rfl, rfl, rfl⟩
theorem call_lead {l : List Nat} (h1 : l.length ≤ 20) (h2 : ∀ s ∈ l, s ≤ 20) : Calls w (.ref 187) (n + 6) [.list (intsD l)] (wsD (hx l) l.length) := by
  have hlen := leadT_len h2
  have hll : (leadT l).length ≤ 1000 := Nat.le_trans hlen (by have : l.length * 21 ≤ 20 * 21 := Nat.mul_le_mul_right _ h1; lia)
  have hw := wsF_all l.length l rfl
  refine calls_K (n := n + 5) (ps := ["sizes"]) fn_lead (by kernel_rfl) (by kernel_rfl) (by kernel_rfl) rfl (bind1 fun v => by kernel_rfl) fun A L hA => ?_
  conv in (stmBody _) => whnf
  have hcomp : (List.range (intsD l).length).map (fun i => D.str (S (List.replicate (l.getD i 0) 32 ++ [9]))) = strsD (l.map fun s => List.replicate s 32 ++ [9]) := by
    rw [show (intsD l).length = l.length by simp [intsD], map_range_get l (fun s => D.str (S (List.replicate s 32 ++ [9]))) _ fun i a ha => by simp [List.getD, ha]]
    simp [strsD]
  have cw := call_ws (w := w) (n := n + 1) (t := leadT l) leadT_mem hll (by rw [hw])
  rw [hw] at cw
  refine run_cons (r1_ret (ev_callG hA cw (evl_cons ((ev_meth hA (ev_S (l := [])) (evl_cons ((EvN.ev (evn_map (fun i => D.str (S (List.replicate (l.getD i 0) 32 ++ [9]))) [] hA.hh (ev_name rfl) itb_list (by simp [intsD]; lia) .nil (by kernel_rfl) ?_)).cast (congrArg D.list hcomp)) evl_nil)
    (c_join (by exact Nat.le_trans hll (by decide))) PySem.F.plainAttrs_str PySem.F.slot_str_join PySem.F.type_str_join hT_str).cast rfl) evl_nil)) rfl)
  intro cenv ce i e he
  obtain ⟨hi, rfl⟩ := intsD_at he
  have hs := h2 l[i] (List.getElem_mem hi)
  have : l.getD i 0 = l[i] := getD_of hi
  rw [this]
  exact (ev_bin (ev_bin (ev_S (l := [32])) (ev_name rfl) (op_smul (by simp; lia) (by lia))) (ev_S (l := [9])) (op_sadd (by simp; lia))).cast (by simp)
end
end Tn
end
section
-- TnQ1
open PySem PySem.W PySem.Calls PySem.Spec PyProof.Rows
set_option maxRecDepth 100000
set_option linter.unusedVariables false
namespace Tn
noncomputable def sp {α : Type} (lt : Nat → Nat → Bool) (n : Nat) : KasT α → (α → Prop) → Prop
  | .ret a, Q => Q a
  | .ask i j k, Q => i < n ∧ j < n ∧ sp lt n (k (lt i j)) Q
section
variable {lt : Nat → Nat → Bool} {n : Nat}
theorem sp_mono {α : Type} {Q Q' : α → Prop} (h : ∀ a, Q a → Q' a) : ∀ (t : KasT α), sp lt n t Q → sp lt n t Q'
  | .ret a, x => h a x
  | .ask i j k, x => ⟨x.1, x.2.1, sp_mono h _ x.2.2⟩
theorem sp_bind {α β : Type} {f : α → KasT β} {Q : β → Prop} : ∀ (t : KasT α), sp lt n t (fun a => sp lt n (f a) Q) → sp lt n (t.bind f) Q
  | .ret a, x => x
  | .ask i j k, x => ⟨x.1, x.2.1, sp_bind _ x.2.2⟩
structure Ord (n : Nat) (lt : Nat → Nat → Bool) : Prop where
  tr : ∀ i j k, i < n → j < n → k < n → lt i j = true → lt j k = true → lt i k = true
  tt : ∀ i j, i < n → j < n → i ≠ j → lt i j = false → lt j i = true
structure Pm (n : Nat) (p : Array Nat) : Prop where
  size : p.size = n
  perm : List.Perm p.toList (List.range n)
theorem Pm.lt_ {p : Array Nat} (h : Pm n p) {i : Nat} (hi : i < n) : p.getD i 0 < n := by
  have : p.getD i 0 = p[i]'(by rw [h.size]; exact hi) := by simp [Array.getD, h.size, hi]
  rw [this]
  have m : p[i]'(by rw [h.size]; exact hi) ∈ p.toList := by simp
  exact List.mem_range.mp (h.perm.subset m)
theorem Pm.inj {p : Array Nat} (h : Pm n p) {i j : Nat} (hi : i < n) (hj : j < n) (e : p.getD i 0 = p.getD j 0) : i = j := by
  have nd : p.toList.Nodup := h.perm.nodup_iff.mpr List.nodup_range
  have e1 : p.getD i 0 = p[i]'(by rw [h.size]; exact hi) := by simp [Array.getD, h.size, hi]
  have e2 : p.getD j 0 = p[j]'(by rw [h.size]; exact hj) := by simp [Array.getD, h.size, hj]
  rw [e1, e2] at e
  exact (List.getElem_inj nd (i := i) (j := j) (h₀ := by simpa [h.size] using hi) (h₁ := by simpa [h.size] using hj)).mp (by simpa using e)
noncomputable def Asc (lt : Nat → Nat → Bool) (p : Array Nat) (k : Nat) : Prop := ∀ i j, i < j → j < k → lt (p.getD i 0) (p.getD j 0) = true
noncomputable def Dsc (lt : Nat → Nat → Bool) (p : Array Nat) (k : Nat) : Prop := ∀ i j, i < j → j < k → lt (p.getD j 0) (p.getD i 0) = true
theorem sp_asc (O : Ord n lt) {p : Array Nat} (P : Pm n p) : ∀ f m, 1 ≤ m → m + f ≤ n → Asc lt p m → sp lt n (kas_asc p f m) (fun r => m ≤ r ∧ r ≤ m + f ∧ Asc lt p r ∧ (r < m + f → lt (p.getD r 0) (p.getD (r - 1) 0) = true)) := by
  intro f
  induction f with
  | zero => intro m h1 h2 h3; exact ⟨Nat.le_refl _, Nat.le_refl _, h3, fun q => absurd q (by lia)⟩
  | succ f ih =>
    intro m h1 h2 h3
    unfold kas_asc
    refine ⟨P.lt_ (by lia), P.lt_ (by lia), ?_⟩
    cases hc : lt (p.getD m 0) (p.getD (m - 1) 0)
    · simp only [Bool.false_eq_true, if_false]
      have hl := O.tt _ _ (P.lt_ (i := m) (by lia)) (P.lt_ (i := m - 1) (by lia)) (fun q => by have := P.inj (by lia) (by lia) q; lia) hc
      refine sp_mono (fun r ⟨a, b, c, d⟩ => ⟨by lia, by lia, c, fun q => d (by lia)⟩) _ (ih (m + 1) (by lia) (by lia) fun i j hij hj => ?_)
      by_cases hjm : j < m
      · exact h3 i j hij hjm
      · have : j = m := by lia
        subst this
        by_cases him : i = j - 1
        · subst him; exact hl
        · exact O.tr _ _ _ (P.lt_ (by lia)) (P.lt_ (i := j - 1) (by lia)) (P.lt_ (by lia)) (h3 i (j - 1) (by lia) (by lia)) hl
    · simp only [if_true]
      exact ⟨Nat.le_refl _, by lia, h3, fun _ => hc⟩
theorem sp_desc (O : Ord n lt) {p : Array Nat} (P : Pm n p) : ∀ f m, 1 ≤ m → m + f ≤ n → Dsc lt p m → sp lt n (kas_desc f p m 0) (fun r => r.1 = p ∧ m ≤ r.2.1 ∧ r.2.1 ≤ m + f ∧ r.2.2 = 0 ∧ Dsc lt p r.2.1) := by
  intro f
  induction f with
  | zero => intro m h1 h2 h3; exact ⟨rfl, Nat.le_refl _, Nat.le_refl _, rfl, h3⟩
  | succ f ih =>
    intro m h1 h2 h3
    unfold kas_desc
    refine ⟨P.lt_ (by lia), P.lt_ (by lia), ?_⟩
    cases hc : lt (p.getD m 0) (p.getD (m - 1) 0)
    · simp only [Bool.false_eq_true, if_false]
      have hl := O.tt _ _ (P.lt_ (i := m) (by lia)) (P.lt_ (i := m - 1) (by lia)) (fun q => by have := P.inj (by lia) (by lia) q; lia) hc
      refine ⟨P.lt_ (by lia), P.lt_ (by lia), ?_⟩
      rw [hl]
      simp only [if_true]
      exact ⟨rfl, Nat.le_refl _, (show m ≤ m + (f + 1) by lia), rfl, h3⟩
    · simp only [if_true]
      rw [if_neg (by lia)]
      refine sp_mono (fun r ⟨a, b, c, d, e⟩ => ⟨a, by lia, by lia, d, e⟩) _ (ih (m + 1) (by lia) (by lia) fun i j hij hj => ?_)
      by_cases hjm : j < m
      · exact h3 i j hij hjm
      · have : j = m := by lia
        subst this
        by_cases him : i = j - 1
        · subst him; exact hc
        · exact O.tr _ _ _ (P.lt_ (by lia)) (P.lt_ (i := j - 1) (by lia)) (P.lt_ (by lia)) hc (h3 i (j - 1) (by lia) (by lia))
theorem sp_place (O : Ord n lt) {p : Array Nat} (P : Pm n p) {k : Nat} (hk : k < n) (S : Asc lt p k) : ∀ f l r, l ≤ r → r ≤ k → r - l ≤ f → (∀ i, i < l → lt (p.getD i 0) (p.getD k 0) = true) → (∀ i, r ≤ i → i < k → lt (p.getD k 0) (p.getD i 0) = true) →
    sp lt n (kas_place p k f l r) (fun l' => l' ≤ k ∧ (∀ i, i < l' → lt (p.getD i 0) (p.getD k 0) = true) ∧ ∀ i, l' ≤ i → i < k → lt (p.getD k 0) (p.getD i 0) = true) := by
  intro f
  induction f with
  | zero => intro l r h1 h2 h3 h4 h5; exact ⟨by lia, h4, fun i a b => h5 i (by lia) b⟩
  | succ f ih =>
    intro l r h1 h2 h3 h4 h5
    unfold kas_place
    split
    · exact ⟨by lia, h4, fun i a b => h5 i (by lia) b⟩
    · generalize hm : (l + r) / 2 = m
      have m1 : l ≤ m := by lia
      have m2 : m < r := by lia
      refine ⟨P.lt_ hk, P.lt_ (by lia), ?_⟩
      cases hc : lt (p.getD k 0) (p.getD m 0)
      · simp only [Bool.false_eq_true, if_false]
        have hl := O.tt _ _ (P.lt_ hk) (P.lt_ (i := m) (by lia)) (fun q => by have := P.inj hk (by lia) q; lia) hc
        refine ih (m + 1) r (by lia) h2 (by lia) (fun i hi => ?_) h5
        by_cases q : i = m
        · subst q; exact hl
        · exact O.tr _ _ _ (P.lt_ (by lia)) (P.lt_ (i := m) (by lia)) (P.lt_ hk) (S i m (by lia) (by lia)) hl
      · simp only [if_true]
        refine ih l m m1 (by lia) (by lia) h4 (fun i hi hik => ?_)
        by_cases q : i = m
        · subst q; exact hc
        · exact O.tr _ _ _ (P.lt_ hk) (P.lt_ (i := m) (by lia)) (P.lt_ (by lia)) hc (S m i (by lia) hik)
theorem getD_at (p : Array Nat) (i : Nat) : p.getD i 0 = (p[i]?).getD 0 := by by_cases h : i < p.size <;> simp [Array.getD, h]
theorem Pm.of {p q : Array Nat} (h : Pm n p) (z : q.size = p.size) (r : q.Perm p) : Pm n q := ⟨z.trans h.size, (Array.perm_iff_toList_perm.mp r).trans h.perm⟩
theorem sp_bin (O : Ord n lt) : ∀ f k (p : Array Nat), Pm n p → k + f ≤ n → Asc lt p k → sp lt n (kas_bin f p k) (fun p' => Pm n p' ∧ Asc lt p' (k + f)) := by
  intro f
  induction f with
  | zero => intro k p P h S; exact ⟨P, S⟩
  | succ f ih =>
    intro k p P h S
    unfold kas_bin
    refine sp_bind _ (sp_mono (fun l ⟨l1, l2, l3⟩ => ?_) _ (sp_place O P (by lia) S k 0 k (Nat.zero_le _) (Nat.le_refl _) (by lia) (fun i hi => absurd hi (Nat.not_lt_zero _)) fun i a b => absurd a (by lia)))
    have hb : ∀ i, (bubble p k (k - l)).getD i 0 = if i = l then p.getD k 0 else if l < i ∧ i ≤ k then p.getD (i - 1) 0 else p.getD i 0 := fun i => by
      have e := getElem?_bubble (xs := p) (src := k) (by rw [P.size]; lia) (k - l) (by lia) i
      rw [getD_at, e, show k - (k - l) = l by lia]
      split
      · rw [getD_at]
      · split
        · rw [getD_at]
        · rw [getD_at]
    have := ih (k + 1) (bubble p k (k - l)) (P.of (bubble_size _ _ _) (bubble_perm _ _ _)) (by lia) (fun i j hij hj => ?_)
    · refine sp_mono (fun p' ⟨a, b⟩ => ⟨a, by rwa [show k + (f + 1) = k + 1 + f by lia]⟩) _ this
    · rw [hb, hb]
      by_cases hi : i = l
      · subst hi
        rw [if_pos rfl, if_neg (by lia), if_pos (by lia)]
        exact l3 _ (by lia) (by lia)
      · rw [if_neg hi]
        by_cases hj' : j = l
        · subst hj'
          rw [if_pos rfl, if_neg (by lia)]
          exact l2 _ hij
        · rw [if_neg hj']
          by_cases ha : l < i
          · rw [if_pos (by lia), if_pos (by lia)]
            exact S _ _ (by lia) (by lia)
          · rw [if_neg (by lia)]
            by_cases hb : l < j
            · rw [if_pos (by lia)]
              exact S _ _ (by lia) (by lia)
            · rw [if_neg (by lia)]
              exact S _ _ hij (by lia)
theorem sp_count (O : Ord n lt) {p : Array Nat} (P : Pm n p) (h1 : 1 ≤ n) : sp lt n (kas_count n p) (fun r => 1 ≤ r.1 ∧ r.1 ≤ n ∧ Pm n r.2 ∧ Asc lt r.2 r.1) := by
  unfold kas_count
  refine sp_bind _ (sp_mono (fun m ⟨m1, m2, m3, m4⟩ => ?_) _ (sp_asc O P (n - 1) 1 (Nat.le_refl _) (by lia) fun i j a b => absurd a (by lia)))
  split
  · rename_i q
    have : m = n := by simpa using q
    exact ⟨m1, by lia, P, m3⟩
  · rename_i q
    have hmn : m ≠ n := by simpa using q
    split
    · have hl := m3 0 (m - 1) (by lia) (by lia)
      refine ⟨P.lt_ (by lia), P.lt_ (by lia), ?_⟩
      rw [hl]
      simp only [if_true]
      exact ⟨m1, by lia, P, m3⟩
    · have hm1 : m = 1 := by lia
      subst hm1
      have h10 := m4 (by lia)
      unfold kas_descPart
      refine sp_bind _ (sp_mono (fun r ⟨a1, a2, a3, a4, a5⟩ => ?_) _ (sp_desc O P (n - 2) 2 (by lia) (by lia) fun i j hij hj => ?_))
      rotate_left
      · obtain ⟨p', mm, qq⟩ := r
        dsimp only at a1 a2 a3 a4 a5 ⊢
        subst a1 a4
        rw [if_neg (by lia)]
        unfold kas_tail3
        have P' : Pm n (kas_rev p' 0 mm) := P.of (mirror_size _ _ _ _) (mirror_perm _ _ _ _)
        have hr : ∀ k, (kas_rev p' 0 mm).getD k 0 = if k < mm then p'.getD (mm - 1 - k) 0 else p'.getD k 0 := fun k => by
          have e := getElem?_mirror_all (xs := p') (i := 0) (j := mm) (by rw [P.size]; lia) k
          rw [getD_at]
          unfold kas_rev
          rw [e]
          by_cases hk : k < mm
          · rw [if_pos ⟨Nat.zero_le _, hk⟩, if_pos hk, getD_at, Nat.zero_add]
          · rw [if_neg (fun z => hk z.2), if_neg hk, getD_at]
        refine sp_bind _ (sp_mono (fun r ⟨b1, b2, b3, b4⟩ => ⟨by lia, by lia, P', b3⟩) _ (sp_asc O P' (n - mm) mm (by lia) (by lia) fun i j hij hj => ?_))
        rw [hr, hr, if_pos (by lia), if_pos hj]
        exact a5 _ _ (by lia) (by lia)
      · have : i = 0 ∧ j = 1 := by lia
        obtain ⟨rfl, rfl⟩ := this
        exact h10
theorem sp_sort (O : Ord n lt) (h1 : 1 ≤ n) : sp lt n (kas_sort n) (fun p => Pm n p ∧ Asc lt p n) := by
  unfold kas_sort
  refine sp_bind _ (sp_mono (fun r ⟨a, b, c, d⟩ => ?_) _ (sp_count O ⟨by simp, by simp⟩ h1))
  split
  · have := sp_bin O (n - max r.1 1) (max r.1 1) r.2 c (by lia) (by rwa [show max r.1 1 = r.1 by lia])
    rwa [show max r.1 1 + (n - max r.1 1) = n by lia] at this
  · exact ⟨c, by rwa [show r.1 = n by lia] at d⟩
/-- the asks, answered -/
theorem sp_wp {α : Type} {cmp : Nat → Nat → (Bool → Shared → Prop) → Shared → Prop} {I : Shared → Prop} (hc : ∀ i j C s, i < n → j < n → I s → (∀ s', I s' → C (lt i j) s') → cmp i j C s) : ∀ (t : KasT α) (Q : α → Shared → Prop) (P : α → Prop) (s : Shared), sp lt n t P → I s → (∀ a s', P a → I s' → Q a s') → t.kasWp cmp Q s
  | .ret a, Q, P, s, x, i, h => h a s x i
  | .ask i j k, Q, P, s, x, is, h => hc i j _ s x.1 x.2.1 is fun s' is' => sp_wp hc (k (lt i j)) Q P s' x.2.2 is' h
end
end Tn
end
section
-- TnQ2
open PySem PySem.W PySem.Calls PySem.Spec PyProof.Rows
set_option maxRecDepth 100000
set_option linter.unusedVariables false
namespace Tn
open PySem.AutoSeq1 (wpAny_loadPart')
noncomputable def LtAt (A : Around) (s : Shared) (x y : Value) (b : Bool) : Prop := ∀ (prog : Program) (w : World) (E : Value → Shared → Prop) (Q : Value → Shared → Prop), Q (.bool b) s → wpAny (model prog w) A (richCompare .Lt x y) Q E s
noncomputable def lexR (e lt : Nat → Bool) (m n : Nat) : Nat → Nat → Bool
  | 0, _ => decide (m < n)
  | f + 1, i => if e i then lexR e lt m n f (i + 1) else lt i
theorem lt_loop (l b : Addr) (items items2 : Array Value) (n n2 : Nat) (e lt : Nat → Bool) (k : Nat) :
    ∀ i : Nat, min items.size items2.size - i = k → Meets (Builtin.«list.__eq__.loop» ⟨[.ref l, .ref b, rawInt i, rawInt 0], []⟩)
      (fun A R s => s.heap.get? l = some (listO items n) ∧ s.heap.get? b = some (listO items2 n2) ∧
        (∀ j (h1 : j < items.size) (h2 : j < items2.size), SeqAt.EqAt A.in1 s items[j] items2[j] (e j) ∧ (e j = false → LtAt A.in1 s items[j] items2[j] (lt j))) ∧
        R (.ok (.ret (.bool (lexR e lt items.size items2.size k i)))) s) := by
  induction k with
  | zero =>
    intro i hk prog w A R s h
    obtain ⟨hp, g, d, tk, os⟩ := s; obtain ⟨hl, hb, he, h⟩ := h
    wp_walk using wpAny_loadPart' hl, wpAny_loadPart' hb
    have hi : items[((i : Nat) : Int).toNat]? = none ∨ items2[((i : Nat) : Int).toNat]? = none := by
      by_cases q : i < items.size
      · right; simp; omega
      · left; simp; omega
    have h' : R (.ok (.ret (.bool (decide (items.size < items2.size))))) ⟨hp, g, d, tk, os⟩ := h
    cases q1 : items[((i : Nat) : Int).toNat]? with
    | none =>
      wp_walk using wpAny_loadPart' hl, wpAny_loadPart' hb
      exact h'
    | some x =>
      cases q2 : items2[((i : Nat) : Int).toNat]? with
      | none =>
        wp_walk using wpAny_loadPart' hl, wpAny_loadPart' hb
        exact h'
      | some y =>
        rw [q1, q2] at hi
        rcases hi with hi | hi <;> cases hi
  | succ k ih =>
    intro i hk prog w A R s h
    obtain ⟨hp, g, d, tk, os⟩ := s; obtain ⟨hl, hb, he, h⟩ := h
    wp_walk using wpAny_loadPart' hl, wpAny_loadPart' hb
    have hlt : i < items.size := by omega
    have hlt2 : i < items2.size := by omega
    have hi1 : items[((i : Nat) : Int).toNat]? = some items[i] := by simp [hlt]
    have hi2 : items2[((i : Nat) : Int).toNat]? = some items2[i] := by simp [hlt2]
    have hc : ((i : Int) + 1) = ((i + 1 : Nat) : Int) := by push_cast; rfl
    rw [hi1, hi2]
    obtain ⟨he1, he2⟩ := he i hlt hlt2
    refine wpAny_bind (he1 prog w _ _ ?_)
    rw [lexR] at h
    cases hb' : e i with
    | true =>
      rw [hb'] at h
      wp_walk
      rw [hc]
      exact ⟨plainId_quiet MeetsSeq3.plain_eq_loop _, codeAny_builtin MeetsSeq3.entry_eq_loop (by
        rw [Around.under_plainId MeetsSeq3.plain_eq_loop _]
        exact ih (i + 1) (by omega) prog w A R _ ⟨hl, hb, he, by simpa using h⟩)⟩
    | false =>
      rw [hb'] at h
      wp_walk using wpAny_loadPart' hl, wpAny_loadPart' hb
      rw [hi1, hi2]
      exact wpAny_bind (he2 hb' prog w _ _ (wpAny_pure (by simpa using h)))
theorem list_lt (l b : Addr) (items items2 : Array Value) (n n2 : Nat) (e lt : Nat → Bool) : Meets (Builtin.«list.__lt__» ⟨[.ref l, .ref b], []⟩)
      (fun A R s => s.heap.get? l = some (listO items n) ∧ s.heap.get? b = some (listO items2 n2) ∧
        (∀ j (h1 : j < items.size) (h2 : j < items2.size), SeqAt.EqAt A.in1 s items[j] items2[j] (e j) ∧ (e j = false → LtAt A.in1 s items[j] items2[j] (lt j))) ∧
        R (.ok (.ret (.bool (lexR e lt items.size items2.size (min items.size items2.size) 0)))) s) := by
  intro prog w A R s h
  obtain ⟨hp, g, d, tk, os⟩ := s; obtain ⟨hl, hb, he, h⟩ := h
  have f3 := AutoSeq1.sub_list_list
  wp_walk using wpAny_loadPart' hl, wpAny_loadPart' hb
  exact ⟨plainId_quiet MeetsSeq3.plain_eq_loop _, codeAny_builtin MeetsSeq3.entry_eq_loop (by
    rw [Around.under_plainId MeetsSeq3.plain_eq_loop _]
    exact lt_loop l b items items2 n n2 e lt _ 0 rfl prog w A R _ ⟨hl, hb, he, by simpa using h⟩)⟩
/-- the asked `<` of two lists -/
theorem keyLt_list {w : World} {A : Around} {l b : Addr} {items items2 : Array Value} {n n2 : Nat} {e lt : Nat → Bool} {s : Shared} {C : Bool → Shared → Prop} {E : Value → Shared → Prop} (hu : A.units + 3 < cLine) (hl : s.heap.get? l = some (listO items n)) (hb : s.heap.get? b = some (listO items2 n2))
    (he : ∀ A' : Around, ∀ j (h1 : j < items.size) (h2 : j < items2.size), A'.units < cLine → SeqAt.EqAt A' s items[j] items2[j] (e j) ∧ (e j = false → LtAt A' s items[j] items2[j] (lt j)))
    (h : C (lexR e lt items.size items2.size (min items.size items2.size) 0) s) : wpAny (Md w) A (keyLt' oneType' (.ref l) (.ref b)) C E s := by
  rw [keyLt'_oneType, oneLt'_eq]
  simp only [if_true]
  refine wpAny_bind (wpAny_cRoomFor (by omega) ?_)
  refine wpAny_bind (wpAny_callSpecialIfBound?_slot (T := "list") ⟨_, hl, rfl⟩ PySem.F.slot_list_lt (call_meets PySem.F.slot_list_lt ⟨_, hl, rfl⟩ PySem.F.entry_list_lt (PySem.F.args_list_lt_2 _ _) (list_lt l b items items2 n n2 e lt) ⟨hl, hb, fun j h1 h2 => he _ j h1 h2 (show A.units + 1 < cLine by omega), ?_⟩))
  exact wpAny_truthy_bool h
end Tn
end
section
-- TnQ3
open PySem PySem.W PySem.Calls PySem.Spec PyProof.Rows
set_option maxRecDepth 100000
set_option maxHeartbeats 1000000
set_option linter.unusedVariables false
namespace Tn
section
variable {w : World} {A : Around} {E : Value → Shared → Prop} {s : Shared} {h₀ : Heap} {L : Addr} {m : Str → Option Value} {news : List (Addr × Obj)}
theorem collect_range {Q : List Value → Shared → Prop} {r : Addr} {a b c : Int} {t u v : Tok} {n : Nat} (hh : A.handled = none) (hr : IsRange s.heap r a b c t u v) (hsmall : Builtin.Range.small a b c = true)
    (hn : Builtin.Range.rangeSize a b c = n) (hlen : n ≤ 2 ^ 24)
    (hQ : ∀ h' tk acc', (∀ b o', s.heap.get? b = some o' → h'.get? b = some o') → ItemsOf (fun i v => ∃ t, v = .int (a + i * c) t) acc' n → Q acc'.toList { s with heap := h', toks := tk }) :
    wpAny (Md w) A (collect (.ref r)) Q E s := by
  unfold collect
  refine wpAny_bind (wpAny_runValue (codeAny_builtin PySem.F.entry_proto_collect ?_))
  rw [Around.under_plainId PySem.F.plain_proto_collect _]
  show wpAny _ A.in1 (newList [] >>= fun l => again (.builtin "list.__iadd__" ⟨[l, .ref r], []⟩)) _ _ s
  refine wpAny_bind (wpAny_newObj_type ?_)
  refine wpAny_pure ⟨plainId_quiet PySem.F.plain_list_iadd _, codeAny_builtin PySem.F.entry_list_iadd ?_⟩
  rw [Around.under_plainId PySem.F.plain_list_iadd _]
  show wpAny _ A.in1 (Builtin.List.listExtendWith (.ref s.heap.objs.size) (.ref r) (.ref s.heap.objs.size)) _ _ _
  have hS : (s.heap.push { cls := .type "list", data := .seq ([] : List Value).toArray }).get? s.heap.objs.size = some { cls := .type "list", data := .seq #[] 0 } := Heap.get?_push_size _ rfl
  refine wpAny_mono (wpAny_extend_range (R := fun r s' => r = .ok (.ret (.ref s.heap.objs.size)) ∧ ∃ h' tk acc' c', s' = { s with heap := h', toks := tk } ∧ (∀ b o', s.heap.get? b = some o' → h'.get? b = some o') ∧ h'.get? s.heap.objs.size = some { cls := .type "list", dict := none, data := .seq acc' c', slots := #[] } ∧ ItemsOf (fun i v => ∃ t, v = .int (a + i * c) t) acc' n)
    hh (Heap.get?_push_of_some _ hr) hsmall hn hlen _ _ _ hS fun h' tk acc' c' k hS' hi => ⟨rfl, h', tk, acc', c', rfl, fun b o' e => k b o' (Nat.ne_of_lt (Heap.lt_size e)) (Heap.get?_push_of_some _ e), hS', hi⟩) (fun fin s' h => ?_) (fun e s' h => ?_)
  · have fin' : ∀ h' tk acc' c', (∀ b o', s.heap.get? b = some o' → h'.get? b = some o') → h'.get? s.heap.objs.size = some { cls := .type "list", dict := none, data := .seq acc' c', slots := #[] } → ItemsOf (fun i v => ∃ t, v = .int (a + i * c) t) acc' n → wpAny (Md w) A (match Value.ref s.heap.objs.size with
      | Value.ref a => do
        match (← load a).data with
          | Data.seq xs _ => pure xs.toList
          | _ => unsupported "internal:collect"
      | _ => unsupported "internal:collect") Q E { s with heap := h', toks := tk } := fun h' tk acc' c' k hS' hi => by
      show wpAny _ A (load s.heap.objs.size >>= _) _ _ _
      refine wpAny_bind (wpAny_load hS' ?_)
      exact wpAny_pure (hQ h' tk acc' k hi)
    cases fin with
    | done f =>
      obtain ⟨e, h', tk, acc', c', rfl, k, hS', hi⟩ := h
      cases e
      exact fin' h' tk acc' c' k hS' hi
    | again c' => exact ⟨h.1, codeAny_mono h.2 fun r s'' hr => by
        obtain ⟨rfl, h', tk, acc', c', rfl, k, hS', hi⟩ := hr
        exact fin' h' tk acc' c' k hS' hi⟩
  · exact absurd h.1 (by simp)
theorem collect_rangeT {Q : List Value → Shared → Prop} {r : Addr} {a b c : Int} {t u v : Tok} {n : Nat} (hh : A.handled = none) (hr : IsRange s.heap r a b c t u v) (hsmall : Builtin.Range.small a b c = true)
    (hn : Builtin.Range.rangeSize a b c = n) (hlen : n ≤ 2 ^ 24) (tp : 1 ≤ s.toks)
    (hQ : ∀ h' tk acc', 1 ≤ tk → (∀ b o', s.heap.get? b = some o' → h'.get? b = some o') → ItemsOf (fun i v => ∃ t, v = .int (a + i * c) t) acc' n → Q acc'.toList { s with heap := h', toks := tk }) :
    wpAny (Md w) A (collect (.ref r)) Q E s :=
  wpAny_mono (wpAny_toks_of (n := 1) tp (collect_range (Q := fun vs s' => 1 ≤ s'.toks → Q vs s') hh hr hsmall hn hlen fun h' tk acc' k hi t1 => hQ h' tk acc' t1 k hi)) (fun a s' z => z.2 z.1) fun _ _ z => z.2
theorem kat_sortedR {r : Addr} {b : Int} {t u v : Tok} {n : Nat} {f : Value} {kw : List (Str × Value)} {Q : Value → Shared → Prop} (F : Fr h₀ L s.heap m) (N : News h₀ L s.heap news) (hh : A.handled = none) (hr : IsRange s.heap r 0 b 1 t u v) (hb : b = (n : Int)) (h2 : 2 ≤ n) (h64 : n < 64) (tp : 1 ≤ s.toks)
    (ha1 : argsOk "sorted" ⟨[.ref r], kw⟩) (ha2 : ∀ x, argsOk "list.sort" ⟨[.ref x], kw⟩) (ht : ∀ x, Builtin.«list.sort» ⟨[.ref x], kw⟩ = ksk_tree x f false)
    (h : ∀ vs D kS e1 h' tk, 1 ≤ tk → vs.length = n → (∀ (i : Nat) v, vs[i]? = some v → ∃ t, v = .int (i : Int) t) → Fr h₀ L h' m → News h₀ L h' ((kS, seqObj "list" #[] 0) :: (D, seqObj "list" #[] e1) :: news) → D < kS → (∀ q ∈ news, q.1 < D) →
      KatKeys pw w A.in1.in1 h₀ L m kS f (fun ks e s' => wpAny (model pw w) A.in1.in1 (keyKind' (List.toArray ks)) (fun κ s'' => (kas_sort vs.length).kasWp (kas_ask pw w A.in1.in1 κ ks) (fun p s3 => KatFin h₀ L m kS D ks e e1 (p.toList.map fun i => vs.getD i Value.none) (fun s4 => Q (.ref D) s4) s3) s'') (fun _ _ => False) s') vs [] 0 { s with heap := h', toks := tk }) :
    wpAny (Md w) A (call (.builtin "sorted") [.ref r] kw) Q E s := by
  refine call_function_entry_kw kind_sorted plain_sorted entry_sorted ha1 ?_
  unfold Builtin.«sorted»
  refine wpAny_bind (m := checkCount "sorted" 1 1 _) (wpAny_pure ?_)
  subst hb
  refine wpAny_bind (collect_rangeT (n := n) hh hr (small_ok (by lia) (by lia) (by lia) (by lia)) (by rw [rangeSize_one]; split <;> lia) (by lia) tp fun h1 tk acc' tp1 keep1 hi => ?_)
  have hlen : acc'.toList.length = n := by simpa using hi.1
  refine wpAny_bind (wpAny_newList ?_ (by rw [hlen, sizeLine_eq]; lia))
  dsimp only
  have hoL : (h1.push (seqObj "list" acc'.toList.toArray 0)).get? h1.objs.size = some (seqObj "list" acc'.toList.toArray 0) := Heap.get?_push_size _ rfl
  have keep : ∀ b o, s.heap.get? b = some o → (h1.push (seqObj "list" acc'.toList.toArray 0)).get? b = some o := fun b o q => Heap.get?_push_of_some _ (keep1 b o q)
  have hsl : ∀ b o, s.heap.get? b = some o → b < h1.objs.size := fun b o e => Heap.lt_size (keep1 b o e)
  have hL : L < h1.objs.size := by obtain ⟨o, _, _, e, _⟩ := F.ns; exact hsl _ _ e
  refine wpAny_bind (wpAny_holding (wpAny_call_entry_kw slot_list_sort ⟨_, hoL, rfl⟩ entry_list_sort ?body (ha2 _)))
  case body =>
    have ht' := ht h1.objs.size
    show wpAny (model pw w) A.in1.in1 (Builtin.«list.sort» ⟨[.ref h1.objs.size], kw⟩) _ _ _
    rw [ht']
    refine kat_keyed (s := { s with heap := h1.push (seqObj "list" acc'.toList.toArray 0), toks := tk })
      (F.kept keep) (N.grown keep) hoL (Nat.ne_of_gt hL) (Heap.get?_none_of_le (Nat.le_trans F.above (Nat.le_of_lt hL)))
      (fun p hp => Nat.ne_of_lt (hsl _ _ (N p hp).1)) (by lia) (by lia) fun kS e1 h' F' N' l0 l1 => ?_
    refine kat_keys_mono (h acc'.toList _ kS e1 h' tk tp1 hlen (fun i v e => ?_) F' N' l0 fun q hq => hsl _ _ (N q hq).1) fun ks e s' hl' hd => ?_
    · have hi2 := hi.2 i v (by simpa using e)
      obtain ⟨t, rfl⟩ := hi2
      exact ⟨t, by congr 1; lia⟩
    · have hl2 : ks.length = acc'.toList.length := by simpa using hl'
      refine wpAny_mono hd (fun κ s'' hk => ?_) fun _ _ x => x
      show (kas_sort acc'.toList.length).kasWp (kas_ask pw w A.in1.in1 κ ks) _ s''
      rw [kat_ask_eq (vs := acc'.toList) hl2] at hk ⊢
      exact kas_wp_mono hk fun p s3 hk' => hk'.mono fun s4 hq => ⟨_, rfl, wpAny_pure ⟨_, rfl, hq⟩⟩
end
end Tn
end
section
-- TnQ4
open PySem PySem.W PySem.Calls PySem.Spec PyProof.Rows
set_option maxRecDepth 100000
set_option maxHeartbeats 1000000
set_option linter.unusedVariables false
namespace Tn
theorem updF_mid {a : Addr} {o : Obj} : ∀ {pre post : List (Addr × Obj)}, (∀ p ∈ pre, p.1 ≠ a) → (∀ p ∈ post, p.1 ≠ a) → UpdF a o (pre ++ (a, o) :: post) (fun o' => pre ++ (a, o') :: post)
  | [], post, _, h => .head h
  | p :: pre, post, h1, h2 => .tail (h1 p (by simp)) (updF_mid (fun q m => h1 q (by simp [m])) h2)
/-- all that stands, with one object to be changed -/
theorem allN_upd {h : Heap} {L a : Addr} {o : Obj} (n : a ≠ L) (e : h.get? a = some o) : ∃ g, UpdF a o (allN h L) g ∧ ∀ o' h', News {} L h' (g o') → h'.get? a = some o' ∧ ∀ b ob, b ≠ a → b ≠ L → h.get? b = some ob → h'.get? b = some ob := by
  obtain ⟨pre, post, hs, h1, h2⟩ := allN_split n e
  refine ⟨fun o' => pre ++ (a, o') :: post, hs ▸ updF_mid h1 h2, fun o' h' N => ⟨(N (a, o') (by simp)).1, fun b ob nb nl eb => ?_⟩⟩
  have mb := allN_mem.mpr ⟨nl, eb⟩
  rw [hs] at mb
  refine (N (b, ob) ?_).1
  rcases List.mem_append.mp mb with q | q
  · exact List.mem_append_left _ q
  · rcases List.mem_cons.mp q with q | q
    · cases q; exact absurd rfl nb
    · exact List.mem_append_right _ (List.mem_cons_of_mem _ q)
structure SK (w : World) (B : Fz) (hb : Heap) (L : Addr) (m : Str → Option Value) (B' : Fz) (h' : Heap) : Prop where
  inv : Inv w h'
  stp : Stp B hb B' h'
  ns : h'.Ns L m
  bl : B' L = none
/-- an own object -/
noncomputable def OwnL (hb : Heap) (a : Addr) (o : Obj) (B' : Fz) (h' : Heap) : Prop := hb.get? a = none ∧ B' a = none ∧ h'.get? a = some o
section
variable {w : World} {A : Around} {B B' B'' : Fz} {hb h h' h'' : Heap} {L : Addr} {m : Str → Option Value}
theorem SK.step (S : SK w B hb L m B' h') (st : Stp B' h' B'' h'') (I : Inv w h'') : SK w B hb L m B'' h'' := by
  obtain ⟨o, es, ep, e, d, _⟩ := id S.ns
  exact ⟨I, S.stp.trans st, ns_up S.inv st.up S.ns, stp_none st S.bl e (safe_dict d)⟩
theorem OwnL.step {a : Addr} {vs : Array Value} {n : Nat} (O : OwnL hb a (listO vs n) B' h') (Ib : Inv w hb) (st : Stp B' h' B'' h'') : OwnL hb a (listO vs n) B'' h'' :=
  ⟨O.1, stp_none st O.2.1 O.2.2 (safe_seq rfl), st.up.keep _ _ (Ib.fresh O.1) O.2.2⟩
theorem SK.upd (S : SK w B hb L m B' h') (Ib : Inv w hb) (hL : hb.get? L = none) {a : Addr} {vs : Array Value} {n : Nat} (O : OwnL hb a (listO vs n) B' h') (k : ∀ b o, b ≠ a → b ≠ L → h'.get? b = some o → h''.get? b = some o) (n'' : h''.Ns L m) : SK w B hb L m B' h'' := by
  obtain ⟨oL, esL, epL, eL, dL, _⟩ := id S.ns
  obtain ⟨st1, Iv1⟩ := stp_but (h' := h'.hide L) Ib S.inv S.stp hL S.bl eL (safe_dict dL) fun b o nb eb => hide_get eb nb
  have nal : a ≠ L := fun z => by have := O.2.2; rw [z, eL] at this; cases this; cases dL
  obtain ⟨st, Iv⟩ := stp_but (h' := h'') Ib Iv1 st1 O.1 O.2.1 (hide_get O.2.2 nal) (safe_seq rfl) fun b o nb eb => k b o nb (fun z => by rw [z, hide_none] at eb; cases eb) (hide_of eb)
  exact ⟨Iv, st, n'', S.bl⟩
/-- what is asked of the keys -/
structure KeyLt (w : World) (kd : Nat → D) (n : Nat) (κ : SortKind) (lt : Nat → Nat → Bool) : Prop where
  kind : ∀ A B h ks (s : Shared) (Q : SortKind → Shared → Prop) (E : Value → Shared → Prop), InH B h → s.heap = h → Reps B ks ((List.range n).map kd) → Q κ s → wpAny (Md w) A (keyKind' (List.toArray ks)) Q E s
  ask : ∀ A B h i j vi vj (s : Shared) (C : Bool → Shared → Prop) (E : Value → Shared → Prop), A.units + 3 < cLine → InH B h → s.heap = h → i < n → j < n → Rep B vi (kd i) → Rep B vj (kd j) → C (lt i j) s → wpAny (Md w) A (keyLt' κ vi vj) C E s
variable {kd : Nat → D} {n : Nat} {κ : SortKind} {lt : Nat → Nat → Bool} {f : Value} {kS D1 : Addr} {e1 k0 : Nat}
theorem keys_run (hA : AOk A k0) (Ib : Inv w hb) (hL : hb.get? L = none) (cf : ∀ i, i < n → ∀ B' h' v, SK w B hb L m B' h' → Rep B' v (.int (i : Nat)) → Does w A (call f [v]) B' h' (fun v B' _ => Rep B' v (kd i))) {Fin : List Value → Nat → Shared → Prop} (s0 : Shared)
    (fin : ∀ ks e B' h' tk, SK w B hb L m B' h' → 1 ≤ tk → OwnL hb kS (listO ks.toArray e) B' h' → OwnL hb D1 (listO #[] e1) B' h' → Reps B' ks ((List.range n).map kd) → Fin ks e { s0 with heap := h', toks := tk }) (hne : kS ≠ D1) :
    ∀ (r : List Value) (k : Nat) (ks : List Value) (e : Nat) (B' : Fz) (h' : Heap) (tk : Nat), SK w B hb L m B' h' → 1 ≤ tk → OwnL hb kS (listO ks.toArray e) B' h' → OwnL hb D1 (listO #[] e1) B' h' → (∀ (i : Nat) v, r[i]? = some v → ∃ t, v = .int ((k + i : Nat) : Int) t) → k + r.length = n →
      Reps B' ks ((List.range k).map kd) → KatKeys pw w A {} L m kS f Fin r ks e { s0 with heap := h', toks := tk }
  | [], k, ks, e, B', h', tk, S, tp, OS, OD, hv, hk, R => by
    have : k = n := by simpa using hk
    subst this
    exact KatKeys.nil (fin ks e B' h' tk S tp OS OD R)
  | v :: r, k, ks, e, B', h', tk, S, tp, OS, OD, hv, hk, R => by
    obtain ⟨t, rfl⟩ := hv 0 v rfl
    have hkn : k < n := by rw [List.length_cons] at hk; lia
    refine KatKeys.cons (cf k hkn B' h' _ S (.int _ t) _ _ _ ⟨rfl, tp⟩ fun kv B2 h2 tk2 st I rk => ?_)
    have S2 := S.step st I.inv
    have OS2 := OS.step Ib st
    have OD2 := OD.step Ib st
    have nal : kS ≠ L := fun z => by
      obtain ⟨oL, esL, epL, eL, dL, _⟩ := S2.ns
      have := OS2.2.2; rw [z, eL] at this; cases this; cases dL
    obtain ⟨g, U, hg⟩ := allN_upd nal OS2.2.2
    refine KatBack.intro (s := { s0 with heap := h2, toks := tk2 }) (allN_fr S2.ns) allN_news U fun h3 c F3 N3 => ?_
    obtain ⟨g1, g2⟩ := hg _ _ N3
    refine keys_run hA Ib hL cf s0 fin hne r (k + 1) (ks ++ [kv]) c B2 h3 tk2 (S2.upd Ib hL OS2 g2 F3.ns) I.pos ⟨OS2.1, OS2.2.1, g1⟩ ⟨OD2.1, OD2.2.1, g2 _ _ hne.symm (fun z => by
      obtain ⟨oL, esL, epL, eL, dL, _⟩ := S2.ns
      have := OD2.2.2; rw [z, eL] at this; cases this; cases dL) OD2.2.2⟩ (fun i v e => ?_) (by rw [List.length_cons] at hk; lia) ?_
    · obtain ⟨t', rfl⟩ := hv (i + 1) v (by simpa using e)
      exact ⟨t', by congr 1; lia⟩
    · rw [List.range_succ, List.map_append]
      exact (R.mono st.le).append (.cons rk .nil)
/-- the call of sorted -/
theorem sorted_call {k : Nat} {lt : Nat → Nat → Bool} {xv : Value} {kw : List (Str × Value)} {Q : Value → Shared → Prop} {E : Value → Shared → Prop} (hA : AOk A (k + 1)) (I : Inv w h) (i : InH B (h.hide L)) (nL : h.Ns L m) (Ib : Inv w (h.hide L)) (rx : Rep B xv (.rng 0 (n : Nat) 1)) (h2 : 2 ≤ n) (h60 : n < 60)
    (cf : ∀ i, i < n → ∀ A B' h' v, AOk A k → SK w B (h.hide L) L m B' h' → Rep B' v (.int (i : Nat)) → Does w A (call f [v]) B' h' (fun v B' _ => Rep B' v (kd i))) (KL : KeyLt w kd n κ lt) (O : Ord n lt)
    (ha1 : ∀ r, argsOk "sorted" ⟨[.ref r], kw⟩) (ha2 : ∀ x, argsOk "list.sort" ⟨[.ref x], kw⟩) (ht : ∀ x, Builtin.«list.sort» ⟨[.ref x], kw⟩ = ksk_tree x f false)
    (s : Shared) (at_ : At s h)
    (kk : ∀ Da vs c p B' h' tk, Pm n p → Asc lt p n → SK w B (h.hide L) L m B' h' → 1 ≤ tk → OwnL (h.hide L) Da (listO vs c) B' h' → Reps B' vs.toList (p.toList.map fun (j : Nat) => D.int (j : Int)) → Q (.ref Da) { s with heap := h', toks := tk }) :
    wpAny (Md w) A (call (.builtin "sorted") [xv] kw) Q E s := by
  obtain ⟨rfl, tp⟩ := at_
  have hL : (s.heap.hide L).get? L = none := hide_none _ _
  obtain ⟨r, t, u, v, rfl, er⟩ := rx.rng_inv
  have S0 : SK w B (s.heap.hide L) L m B s.heap := by
    refine ⟨I, ⟨⟨fun b o nb e => hide_of e, fun b vs mb e => ⟨#[], by simpa using hide_of e⟩, fun b e => ?_⟩, fun _ _ e => e, fun b o e => ⟨hide_of (i b o e).1, (i b o e).2⟩, fun _ _ e => .inl e⟩, nL, inh_none i hL⟩
    cases z : (s.heap.hide L).get? b with
    | none => rfl
    | some o => rw [hide_of z] at e; cases e
  refine kat_sortedR (n := n) (allN_fr nL) allN_news hA.hh (i r _ er |>.1 |> hide_of) rfl h2 (by lia) tp (ha1 r) ha2 ht fun vs D1 kS e1 h' tk tp1 hlen hvs F' N' hlt hlt2 => ?_
  have keep : ∀ b o, b ≠ L → s.heap.get? b = some o → h'.get? b = some o := fun b o nb e => (N' (b, o) (List.mem_cons_of_mem _ (List.mem_cons_of_mem _ (allN_mem.mpr ⟨nb, e⟩)))).1
  have nS := N' (kS, seqObj "list" #[] 0) (by simp)
  have nD := N' (D1, seqObj "list" #[] e1) (by simp)
  have hD0 : s.heap.get? D1 = none := by
    cases z : s.heap.get? D1 with
    | none => rfl
    | some o => have := hlt2 (D1, o) (allN_mem.mpr ⟨nD.2.1, z⟩); exact absurd this (Nat.lt_irrefl _)
  have hS0 : s.heap.get? kS = none := by
    cases z : s.heap.get? kS with
    | none => rfl
    | some o => have := hlt2 (kS, o) (allN_mem.mpr ⟨nS.2.1, z⟩); exact absurd (Nat.lt_trans this hlt) (Nat.lt_irrefl _)
  have hid : ∀ {b}, s.heap.get? b = none → (s.heap.hide L).get? b = none := fun {b} e => by
    cases z : (s.heap.hide L).get? b with
    | none => rfl
    | some o => rw [hide_of z] at e; cases e
  obtain ⟨oL, esL, epL, eL, dL, _⟩ := id nL
  obtain ⟨st1, I1⟩ := stp_but (h' := h') Ib I S0.stp hL S0.bl eL (safe_dict dL) keep
  have S1 : SK w B (s.heap.hide L) L m B h' := ⟨I1, st1, F'.ns, S0.bl⟩
  have hA2 : AOk A.in1.in1 k := ⟨hA.hh, by have := hA.dep; show A.depth + k ≤ 900; lia, by have := hA.un; show A.units + 1 + 1 + 40 * k ≤ 9000; lia⟩
  have hAu : A.in1.in1.units + 3 < cLine := by have := hA2.un; show _ < 9900; lia
  refine keys_run (n := n) (kd := kd) (kS := kS) (D1 := D1) (e1 := e1) hA2 Ib hL (fun i hi B' h' v S r => cf i hi _ B' h' v hA2 S r) s (fun ks e B' h2' tk' S tp' OS OD R => ?_) (Nat.ne_of_gt hlt) vs 0 [] 0 B h' tk S1 tp1 ⟨hid hS0, inh_none i (hid hS0), nS.1⟩ ⟨hid hD0, inh_none i (hid hD0), nD.1⟩ (fun i v e => by
    obtain ⟨t, rfl⟩ := hvs i v e
    exact ⟨t, by congr 1; lia⟩) (by lia) .nil
  refine KL.kind _ B' h2' ks _ _ _ S.stp.inh rfl R ?_
  rw [hlen]
  refine sp_wp (n := n) (lt := lt) (I := fun s' => s' = { s with heap := h2', toks := tk' }) (fun i j C s' hi hj hs hC => ?_) _ _ _ _ (sp_sort O (by lia)) rfl (fun p s3 ⟨P, As⟩ hs => ?_)
  · subst hs
    obtain ⟨vi, ei, ri⟩ := R.get (i := i) (d := kd i) (by simp [hi])
    obtain ⟨vj, ej, rj⟩ := R.get (i := j) (d := kd j) (by simp [hj])
    have gi : ks.getD i Value.none = vi := by simp [List.getD, ei]
    have gj : ks.getD j Value.none = vj := by simp [List.getD, ej]
    show wpAny (Md w) A.in1.in1 (keyLt' κ (ks.getD i Value.none) (ks.getD j Value.none)) C (fun _ _ => False) _
    rw [gi, gj]
    exact KL.ask _ B' h2' i j vi vj _ C _ hAu S.stp.inh rfl hi hj ri rj (hC _ rfl)
  · subst hs
    have nkL : kS ≠ L := nS.2.1
    have nDL : D1 ≠ L := nD.2.1
    obtain ⟨g, U, hg⟩ := allN_upd nkL OS.2.2
    refine KatFin.intro (s := { s with heap := h2', toks := tk' }) (allN_fr S.ns) allN_news U fun h3 c F3 N3 => ?_
    obtain ⟨g1, g2⟩ := hg _ _ N3
    have S3 := S.upd Ib hL OS g2 F3.ns
    have OD3 : OwnL (s.heap.hide L) D1 (listO #[] e1) B' h3 := ⟨OD.1, OD.2.1, g2 _ _ (Nat.ne_of_lt hlt) nDL OD.2.2⟩
    obtain ⟨g', U', hg'⟩ := allN_upd nDL OD3.2.2
    refine KasFin.intro (s := { s with heap := h3, toks := tk' }) (allN_fr S3.ns) allN_news U' fun h4 c' F4 N4 => ?_
    obtain ⟨g1', g2'⟩ := hg' _ _ N4
    refine kk D1 _ c' p B' h4 tk' P As (S3.upd Ib hL OD3 g2' F4.ns) tp' ⟨OD.1, OD.2.1, g1'⟩ ?_
    rw [List.toList_toArray]
    have hb : ∀ j ∈ p.toList, j < n := fun j hj => List.mem_range.mp (P.perm.subset hj)
    generalize p.toList = l at hb
    induction l with
    | nil => exact .nil
    | cons j l ih =>
      refine .cons ?_ (ih fun j' m => hb j' (by simp [m]))
      obtain ⟨v', ev⟩ : ∃ v', vs[j]? = some v' := ⟨vs[j]'(by rw [hlen]; exact hb j (by simp)), List.getElem?_eq_getElem _⟩
      obtain ⟨t', rfl⟩ := hvs j v' ev
      show Rep B' (vs.getD j Value.none) _
      rw [show vs.getD j Value.none = .int (j : Int) t' by simp [List.getD, ev]]
      exact .int _ _
end
end Tn
end
section
-- TnQ5
open PySem PySem.W PySem.Calls PySem.Spec PyProof.Rows
set_option maxRecDepth 100000
set_option maxHeartbeats 1000000
set_option linter.unusedVariables false
namespace Tn
noncomputable abbrev gL (q : Str) (params : Arguments) (body : Expr) (scope : Scope) : Gen := fun clos doc pm cv ctv => { cls := .type "function", data := .func (kla_fn "<lambda>" q params body scope clos pm cv ctv) }
theorem gL_fn {q params body scope} : IsFnG (gL q params body scope) := fun _ _ _ _ _ => ⟨_, rfl⟩
section
variable {w : World} {A : Around} {B : Fz} {h : Heap} {n : Nat}
/-- a call of a lambda -/
theorem does_lam {q : Str} {params : Arguments} {body : Expr} {sc : Scope} {fv : Rho} {ps : List Str} {ds : List D} {d : D} {vs : List Value} {v : Value}
    (hA : AOk A (n + 1)) (I : Inv w h) (i : InH B h) (r : Rep B v (.prd (FnC (gL q params body sc) q fv []))) (rv : Reps B vs ds)
    (hp : parOk sc ps = true) (hcell : sc.names.all (fun x => x.2 != .cell) = true) (hloc : ps.all (fun x => sc.names.lookup x == some .local) = true) (hl : ps.length = ds.length)
    (bind : ∀ clos pm cv ctv (vs : List Value), vs.length = ps.length → bindArgs (kla_fn "<lambda>" q params body sc clos pm cv ctv) ⟨vs, []⟩ = pure (ps.zip vs))
    (hfree : (fv.map (·.1)).all (fun y => sc.names.lookup y == some .free && !(y == ("__classdict__" : Str)) && !(y == ("__debug__" : Str))) = true)
    (run : ∀ A env, AOk A n → env.scope = sc → Ev w A env (ps.zip ds ++ fv) body d) : Does w A (call v vs) B h (fun v B' _ => Rep B' v d) := fun s Q E at_ k => by
  obtain ⟨mm, clos, ⟨f, doc, pm, cv, ctv, rfl, hB, hc⟩, h2, h3, h4⟩ := r.prd_inv
  obtain ⟨rfl, tp⟩ := at_
  obtain ⟨p1, p2, p3, p4, p5⟩ := parOk.get hp
  have fr : ∀ y, y ∈ fv.map (·.1) → sc.names.lookup y = some .free ∧ okName y := fun y m => by
    have := List.all_eq_true.mp hfree y m
    simp only [Bool.and_eq_true, beq_iff_eq, Bool.not_eq_true'] at this
    exact ⟨this.1.1, this.1.2, this.2⟩
  have mem_of : ∀ (l : Rho) y d, l.lookup y = some d → y ∈ l.map (·.1) := fun l y d e => by
    induction l with
    | nil => cases e
    | cons p r ih =>
      rw [List.lookup_cons] at e
      split at e
      · rename_i hb; simp [beq_iff_eq.mp hb]
      · simp only [List.map_cons, List.mem_cons]; exact .inr (ih e)
  have hl' : ∀ x ∈ ps, sc.names.lookup x = some .local := fun x m => by
    have := List.all_eq_true.mp hloc x m
    simpa using this
  have hce' : ∀ x ∈ sc.names, x.2 ≠ .cell := fun x m => by
    have := List.all_eq_true.mp hcell x m
    simpa using this
  refine wpAny_call (kla_callFunE (fd := kla_fn "<lambda>" q params body sc clos pm cv ctv) hA.room (i _ _ hB).1 rfl p2 p3 rfl (hc.rec i) ?_)
  rw [bind _ _ _ _ vs (by rw [rv.length, hl])]
  refine wpAny_pure (wpAny_newFunctionEnv hce' (fun x m => hl' x.1 (List.of_mem_zip m).1) (fun h₀ ns hsb => ⟨I.lim.fresh _ hsb, kla_codeExpr ?_⟩) p1)
  have kp : ∀ b o, s.heap.get? b = some o → h₀.get? b = some o := fun b o e => hsb.extBut b o (Nat.ne_of_lt (Heap.lt_size e)) (Heap.get?_push_of_some _ e)
  change wpAny (Md w) (A.deeper (callEnv (kla_fn "<lambda>" q params body sc clos pm cv ctv) s.heap.objs.size f)) (eval body (callEnv (kla_fn "<lambda>" q params body sc clos pm cv ctv) s.heap.objs.size f)) (fun v s' => Q v s') _ _
  generalize he : callEnv (kla_fn "<lambda>" q params body sc clos pm cv ctv) s.heap.objs.size f = env'
  have hL : env'.locals = s.heap.objs.size := by rw [← he]; rfl
  have hsc : env'.scope = sc := by rw [← he]; rfl
  have hcl : env'.cells = clos := by rw [← he]; rfl
  have nL : s.heap.get? s.heap.objs.size = none := get_size _
  have st := Stp.keep (w := w) i (.of_keeps kp)
  have Fm' : Fm w env' B h₀ (ps.zip ds ++ fv) := by
    refine ⟨I.of_keeps kp, st.inh, hsc ▸ p1, by rw [← he]; rfl, by rw [← he]; rfl, fun x dx e => ?_⟩
    rw [List.lookup_append] at e
    cases q1 : (ps.zip ds).lookup x with
    | some dx' =>
      rw [q1] at e; cases e
      obtain ⟨j, j1, j2⟩ := zip_get q1
      obtain ⟨v, v1, v2⟩ := rv.get j2
      have mx := List.mem_of_getElem? j1
      exact ⟨v, .inl ⟨sc_kind hsc (hl' x mx), _, hL.symm ▸ ns, lookup_zip p5 j1 v1⟩, v2, (p4 x mx).2⟩
    | none =>
      rw [q1] at e
      have e : fv.lookup x = some dx := e
      obtain ⟨c, oc, u, a1, a2, a3, a4⟩ := h2 x _ e
      obtain ⟨f1, f2⟩ := fr x (mem_of _ _ _ e)
      exact ⟨u, .inr ⟨.inr (sc_kind hsc f1), f2.1, c, hcl ▸ a1, ⟨oc, kp _ _ (i _ _ a2).1, a3⟩⟩, a4, f2.2⟩
  refine wpAny_mono ((run _ _ (hA.deeper env') hsc).go B h₀ Fm' { s with heap := h₀, toks := s.toks + (ps.zip vs).length } (fun v s' => Q v s') (fun _ _ => False) ⟨rfl, Nat.le_trans tp (Nat.le_add_right _ _)⟩ (fun v B' h' tk st' I' r' => k v B' h' tk (st.trans st') I' r')) (fun v s' z => z) fun _ _ z => False.elim z
end
section
variable {w : World} {A : Around} {env : Env} {B0 B B' : Fz} {h0 h h' : Heap} {X : Boxes} {ρ ρ' : Rho} {post : Post}
/-- the frame's own names change their place only -/
theorem St.locs (S : St w env B0 h0 X B h ρ) (k : ∀ b o, b ≠ env.locals → h.get? b = some o → h'.get? b = some o) (kn : ∀ m, h.Ns env.locals m → h'.Ns env.locals m) : St w env B0 h0 X B h' ρ := by
  obtain ⟨l1, l2, m, l3⟩ := S.loc
  obtain ⟨oL, esL, epL, eL, dL, _⟩ := id l3
  obtain ⟨st, Iv⟩ := stp_but (h' := h') S.base.1 S.fm.inv S.stp l1 l2 eL (safe_dict dL) k
  have kc : ∀ {c : Addr} {v : Option Value}, h.IsCell c v → h'.IsCell c v := fun x => let ⟨o', q, dd⟩ := x; ⟨o', k _ _ (fun z => by rw [z, eL] at q; cases q; rw [dL] at dd; cases dd) q, dd⟩
  refine ⟨S.base, st, ⟨Iv, st.inh, S.fm.kind, S.fm.glob, S.fm.blt, fun x d' q => ?_⟩, ⟨l1, l2, m, kn _ l3⟩, fun x c q r => ?_, S.apart, fun a ds q => ?_, S.boxes⟩
  · obtain ⟨v, y, r, hb⟩ := S.fm.vars x d' q
    refine ⟨v, ?_, r, hb⟩
    rcases y with ⟨a, m, b, c⟩ | ⟨a, n, c, b, dd⟩
    · exact .inl ⟨a, m, kn _ b, c⟩
    · exact .inr ⟨a, n, c, b, kc dd⟩
  · obtain ⟨a, b, v, c⟩ := S.cel x c q r
    exact ⟨a, b, v, kc c⟩
  · obtain ⟨a1, b, vs, n, c, dd⟩ := S.box a ds q
    exact ⟨a1, b, vs, n, k _ _ (fun z => by rw [z, eL] at c; cases c; cases dL) c, dd⟩
end
end Tn
end
section
-- TnQ6
open PySem PySem.W PySem.Calls PySem.Spec PyProof.Rows
set_option maxRecDepth 100000
set_option maxHeartbeats 1000000
set_option linter.unusedVariables false
namespace Tn
section
variable {w : World} {A : Around} {env : Env} {B0 B B' : Fz} {h0 h h' : Heap} {X : Boxes} {ρ ρ' : Rho} {post : Post}
/-- what a call left, which kept all but the frame's own names -/
theorem St.back (S : St w env B0 h0 X B h ρ) {B4 : Fz} {h4 : Heap} {tk : Nat} (st : Stp (frzP (OwnC env) B h) h B4 h4) (I4 : InvT w h4 tk) (b4 : B4 env.locals = none) {m : Str → Option Value} (n4 : h4.Ns env.locals m)
    {B5 : Fz} {h5 : Heap} (S5 : SK w B4 (h4.hide env.locals) env.locals m B5 h5) {Da : Addr} {vs : Array Value} {c : Nat} (OD : OwnL (h4.hide env.locals) Da (listO vs c) B5 h5) {ds : List D} (hds : ∀ d ∈ ds, Simple d) (R : Reps B5 vs.toList ds) :
    ∃ B6, St w env B0 h0 X B6 h5 ρ ∧ (∀ b o, B b = some o → B6 b = some o) ∧ Rep B6 (.ref Da) (.list ds) := by
  obtain ⟨oL, esL, epL, eL, dL, _⟩ := id n4
  obtain ⟨oL5, esL5, epL5, eL5, dL5, _⟩ := id S5.ns
  have fL : oL.isFreed = false := by obtain ⟨c1, c2, c3, c4⟩ := oL; cases dL; rfl
  obtain ⟨hx, hxd⟩ : ∃ hx, hx = h5.update env.locals (fun _ => oL) := ⟨_, rfl⟩
  have xL : hx.get? env.locals = some oL := hxd ▸ Heap.get?_update_self (fun _ => oL) eL5 fL
  have xO : ∀ b, b ≠ env.locals → hx.get? b = h5.get? b := fun b nb => hxd ▸ Heap.get?_update_other _ _ nb.symm
  have nDL : Da ≠ env.locals := fun z => by have := OD.2.2; rw [z, eL5] at this; cases this; cases dL5
  obtain ⟨l1, l2, ml, l3⟩ := S.loc
  have Ix : Inv w hx := S.base.1.but S5.inv l1 eL5 (safe_dict dL5) fun b o nb eb => (xO b nb).trans eb
  have le6 : ∀ b o, B5 b = some o → (B5.put Da (listO vs c)) b = some o := fun b o q => (if_neg (fun z => by rw [z, OD.2.1] at q; cases q)).trans q
  have h4D : h4.get? Da = none := by
    cases z : h4.get? Da with
    | none => rfl
    | some o => have := hide_get z nDL; rw [OD.1] at this; cases this
  have stx : Stp B4 h4 (B5.put Da (listO vs c)) hx := by
    refine ⟨⟨fun b o nb e => ?_, fun b us mb e => ?_, fun b e => ?_⟩, fun b o e => le6 b o (S5.stp.le b o e), fun b o e => ?_, fun b o e => ?_⟩
    · by_cases hb : b = env.locals
      · subst hb; rw [eL] at e; cases e; exact xL
      · exact (xO b hb).trans (S5.stp.up.keep b o nb (hide_get e hb))
    · have hb : b ≠ env.locals := fun z => by rw [z, eL] at e; cases e; cases dL
      obtain ⟨more, e'⟩ := S5.stp.up.tab b us mb (hide_get e hb)
      exact ⟨more, (xO b hb).trans e'⟩
    · by_cases hb : b = env.locals
      · subst hb; rw [xL] at e; cases e
      · rw [xO b hb] at e
        have := S5.stp.up.none b e
        cases z : h4.get? b with
        | none => rfl
        | some o => rw [hide_get z hb] at this; cases this
    · by_cases hb : b = Da
      · subst hb; rw [Fz.put_self] at e; cases e
        exact ⟨(xO _ nDL).trans OD.2.2, I4.inv.fresh h4D⟩
      · rw [show (B5.put Da (listO vs c)) b = B5 b from if_neg hb] at e
        have nb : b ≠ env.locals := fun z => by rw [z, S5.bl] at e; cases e
        exact ⟨(xO b nb).trans (S5.stp.inh b o e).1, (S5.stp.inh b o e).2⟩
    · by_cases hb : b = Da
      · subst hb; exact .inr (.inl h4D)
      · rw [show (B5.put Da (listO vs c)) b = B5 b from if_neg hb] at e
        have nb : b ≠ env.locals := fun z => by rw [z, S5.bl] at e; cases e
        rcases S5.stp.fresh b o e with z | z | ⟨z, cd⟩
        · exact .inl z
        · refine .inr (.inl ?_)
          cases q : h4.get? b with
          | none => rfl
          | some o => rw [hide_get q nb] at z; cases z
        · exact .inr (.inr ⟨hide_of z, cd⟩)
  obtain ⟨S6, le⟩ := S.thawP S.hidC (st.trans stx) ⟨Ix, I4.pos⟩
  have S7 := S6.locs (h' := h5) (fun b o nb e => (xO b nb) ▸ e) (fun m' q => by
    have q4 : h4.Ns env.locals m' := by
      obtain ⟨o, es, ep, e, d, r⟩ := q
      rw [xL] at e; cases e
      exact ⟨oL, es, ep, eL, d, r⟩
    rw [ns_uniq n4 q4]; exact S5.ns)
  refine ⟨_, S7, le, ?_⟩
  have rd : Rep (B5.put Da (listO vs c)) (.ref Da) (.list ds) := .list (Fz.put_self _ _ _) (R.mono le6)
  refine rep_cut (fun a o e hc _ => ?_) (.list hds) rd
  unfold thwP
  rw [if_neg]
  · exact e
  · rintro ⟨x, k, l⟩
    obtain ⟨_, _, u, oc, ec, dc⟩ := S.cel x a k l
    have : frzP (OwnC env) B h a = some oc := by
      unfold frzP; rw [if_pos ⟨x, k, l⟩]; exact ec
    have := (st.trans stx).le _ _ this
    rw [this] at e; cases e
    exact hc _ dc
theorem kw_key {q : Addr} : ∀ x, Builtin.«list.sort» ⟨[.ref x], [(Str.ofString "key", .ref q)]⟩ = ksk_tree x (.ref q) false := fun x => ksk_t1 q x
/-- x = sorted(e, key=lambda ..) -/
theorem r1_sorted {x : Str} {p1 p2 p3 kp lpos cpos : Pos} {e body : Expr} {params : Arguments} {scope : Scope} {fdO : FuncData} {c P : Addr} {n k : Nat} {kd : Nat → D} {κ : SortKind} {lt : Nat → Nat → Bool} {fv : Rho} {i : Str}
    (hA : AOk A (k + 2)) (fc : FC fdO env) (hcode : fdO.code = .ref c) (m : P ∈ TB) (hT : ∀ h, Inv w h → TabOk h c P) (hq : env.qual ++ "<lambda>" = qualOf P)
    (hdef : defaultsOf params env = ([], [])) (hfr : scope.names.all (fun p => p.2 != .free || fdO.scope.names.lookup p.1 == some .cell) = true)
    (hso : env.kindOf "sorted" = some .globalImplicit) (hsK : nsIn (K w.params) mainGlobals "sorted" = some none) (hρ : CellRho w env X ρ ρ') (ee : Ev w A env ρ' e (.rng 0 (n : Nat) 1))
    (hfv : ∀ y d, fv.lookup y = some d → ρ'.lookup y = some d ∧ env.kindOf y = some .cell ∧ (y, NameKind.free) ∈ scope.names)
    (hp : parOk scope [i] = true) (hcell : scope.names.all (fun x => x.2 != .cell) = true) (hloc : [i].all (fun x => scope.names.lookup x == some .local) = true)
    (bind : ∀ clos pm cv ctv (v : Value), bindArgs (kla_fn "<lambda>" (qualOf P) params body scope clos pm cv ctv) ⟨[v], []⟩ = pure [(i, v)])
    (hfree : (fv.map (·.1)).all (fun y => scope.names.lookup y == some .free && !(y == ("__classdict__" : Str)) && !(y == ("__debug__" : Str))) = true)
    (run : ∀ A env', AOk A k → env'.scope = scope → ∀ j, j < n → Ev w A env' ((i, .int (j : Nat)) :: fv) body (kd j))
    (KL : KeyLt w kd n κ lt) (O : Ord n lt) (h2 : 2 ≤ n) (h60 : n < 60) (hst : Stores env x)
    (p : ∀ p : Array Nat, Pm n p → Asc lt p n → post .next X ((x, .list (p.toList.map fun (j : Nat) => D.int (j : Int))) :: ρ))
    (he : isStar e = false := by rfl) (hn : okName x := by decide)
    (hs : swapsWith (.Call (.Name "sorted" p2) [e] [⟨some "key", .Lambda params body scope lpos, kp⟩] cpos) (some (.Name x p1)) p3.line env = pure false := by rfl)
    (hfe : eval (.Call (.Name "sorted" p2) [e] [⟨some "key", .Lambda params body scope lpos, kp⟩] cpos) env = (do callWith cpos (← eval (.Name "sorted" p2) env) [] (backTo cpos (starEach [e] env)) (backToKw cpos (keywordEach [⟨some "key", .Lambda params body scope lpos, kp⟩] env))) := by rfl) :
    Run1 w A env (.Assign [.Name x p1] (.Call (.Name "sorted" p2) [e] [⟨some "key", .Lambda params body scope lpos, kp⟩] cpos) p3) X ρ post := .mk fun B0 h0 B h S s E at_ => by
  refine wpAny_Assign_Name ?_ hs
  rw [hfe]
  have F1 : Fm w env (frzP (OwnC env) B h) h ρ' := ⟨S.fm.inv, S.frzP_inh S.hidC, S.fm.kind, S.fm.glob, S.fm.blt, fun x d' e => by
    obtain ⟨d, e', f⟩ := hρ _ _ _ _ S x d' e
    obtain ⟨v, y, r, hb⟩ := S.fm.vars x d e'
    exact ⟨v, y, f v y r, hb⟩⟩
  refine wpAny_bind ((ev_builtin (w := w) (A := A) (env := env) (ρ := ρ') (pos := p2) (d := .blt "sorted") hso hsK rfl (fun _ => .blt _) (by decide) (by decide)).go _ h F1 s _ E at_ fun fv0 B₁ h₁ tk₁ st₁ I₁ r₁ => ?_)
  rw [r₁.blt_inv]
  have hse : starEach [e] env = [(false, eval e env)] := star_cons he
  obtain ⟨cl, hcl, cl1, cl2⟩ := closure_go2 (env := env) (names := scope.names) (fun y my => by
    have := List.all_eq_true.mp hfr _ my
    exact fc.cell y (by simpa using this)) rfl
  refine callWith_kw ?_ (by rw [hse]; rfl) (by rw [hse]; rfl) rfl rfl
  refine (evl_cons ee evl_nil he).go cpos B₁ h₁ (F1.step st₁ I₁) _ _ E I₁.at fun vs B₂ h₂ tk₂ st₂ I₂ r₂ => ?_
  obtain ⟨rv, rfl, rv2⟩ := r₂.one
  refine kws_cons (kla_eval hdef ?_)
  rw [hq]
  have I := I₂.inv
  obtain ⟨ps, hP⟩ := I.tabAt m
  obtain ⟨mg, g1, g2, g3, g4⟩ := I.g
  have hb : h₂.BuiltinsAt mg P := by
    simp only [TB, List.mem_cons, List.not_mem_nil, or_false] at m
    rcases m with rfl | rfl | rfl
    · exact g2
    · exact g3
    · exact g4
  have hgP : mainGlobals ≠ P := fun z => by
    obtain ⟨o, es, ep, e, d, _⟩ := g1
    rw [z, hP] at e; cases e; cases d
  have T := hT h₂ I
  obtain ⟨C, ps', hP', ht, _⟩ := id T
  have : ps' = ps := by rw [hP] at hP'; cases hP'; rfl
  subst this
  refine wpAny_mono (wpAny_toks_of (n := 1) I₂.pos (mk_any (c := c) (P := P) (pos := lpos) (ps := ps') (mg := mg) (obj := gL (qualOf P) params body scope cl) (gL_fn cl) m I st₂.inh T hP { s with heap := h₂, toks := tk₂ } (fun v s' => 1 ≤ s'.toks → _) E I₂.at
    (fun hnf kk => kla_makeFunction hcl S.fm.glob g1 (fc.code.trans hcode) C hP ht hnf hgP hb fun c' ctv h' tk x1 x2 x3 x4 x5 => kk c' ctv .none h' tk x1 x2 x3 x4 x5)
    (fun cv hf kk => kla_makeFunctionHit hcl S.fm.glob g1 (fc.code.trans hcode) C hP ht hf hb fun ctv h' tk x1 x2 => kk ctv .none h' tk x1 x2) fun f cv doc pm ctv B₄ h₄ tk₄ st₄ I₄ hN hB hc tp₄ => ?_)) (fun a s' z => z.2 z.1) fun _ _ z => z.2
  refine kws_nil ?_
  have st14 : Stp (frzP (OwnC env) B h) h B₄ h₄ := (st₁.trans st₂).trans st₄
  obtain ⟨l1, l2, mL, l3⟩ := S.loc
  obtain ⟨oL, esL, epL, eL, dL, _⟩ := id l3
  have n4 : h₄.Ns env.locals mL := ns_up S.fm.inv st14.up l3
  obtain ⟨oL4, esL4, epL4, eL4, dL4, _⟩ := id n4
  have b1L : frzP (OwnC env) B h env.locals = none := by
    unfold frzP
    split
    · rename_i q
      obtain ⟨y, ky, ly⟩ := q
      obtain ⟨_, _, u, oc, ec, dc⟩ := S.cel y _ ky ly
      rw [eL] at ec; cases ec; rw [dL] at dc; cases dc
    · exact l2
  have b4 : B₄ env.locals = none := stp_none st14 b1L eL (safe_dict dL)
  have Ib : Inv w (h₄.hide env.locals) := S.base.1.but I₄ l1 eL4 (safe_dict dL4) fun b o nb eb => hide_get eb nb
  have i4 : InH B₄ (h₄.hide env.locals) := fun b o e => ⟨hide_get (st14.inh b o e).1 (fun z => by rw [z, b4] at e; cases e), (st14.inh b o e).2⟩
  have rF : Rep B₄ (.ref f) (.prd (FnC (gL (qualOf P) params body scope) (qualOf P) fv [])) := by
    refine .prd (fnC_mono gL_fn) ⟨cl, ⟨f, doc, pm, cv, ctv, rfl, hB, hc⟩, fun y d e => ?_, fun y (my : y ∈ ([] : List Str)) => absurd my (by simp), fun a b c ha hb => S.apart a b c (cl2 _ _ ha) (cl2 _ _ hb)⟩
    obtain ⟨e', kc, mf⟩ := hfv y d e
    obtain ⟨vy, cy, ly, ⟨oc, ec, dc⟩, ry⟩ := F1.cellOf e' (.inl kc)
    refine ⟨cy, oc, vy, (cl1 y mf).trans ly, st14.le _ _ ?_, dc, ry.mono st14.le⟩
    unfold frzP; rw [if_pos ⟨y, kc, ly⟩]; exact ec
  refine sorted_call (kw := [(Str.ofString "key", .ref f)]) (n := n) (kd := kd) (κ := κ) (lt := lt) (k := k + 1) (f := .ref f) (L := env.locals) (m := mL) (B := B₄) (h := h₄) hA I₄ i4 n4 Ib (rv2.mono st₄.le) h2 h60 (fun j hj A' B' h' v hA' S' r' => ?_) KL O (fun r => ksk_s1 _ _) (fun x => ksk_l1 _ _) kw_key _ ⟨rfl, tp₄⟩ fun Da vs' c' pp B₅ h₅ tk₅ P5 As5 S5 tp5 OD RD => ?_
  · exact does_lam (n := k) (ps := [i]) hA' S'.inv (fun a o e => S'.stp.inh a o e) (rF.mono S'.stp.le) (.cons r' .nil) hp hcell hloc rfl (fun clos pm cv ctv vs hl => by
      match vs, hl with
      | [v], _ => exact bind clos pm cv ctv v) hfree (fun A'' env'' hA'' hsc => run A'' env'' hA'' hsc j hj)
  · obtain ⟨B6, S6, le6, r6⟩ := S.back st14 (tk := tk₄) ⟨I₄, tp₄⟩ b4 n4 S5 OD (ds := pp.toList.map fun (j : Nat) => D.int (j : Int)) (fun d hd => by
      obtain ⟨j, _, rfl⟩ := List.mem_map.mp hd
      exact .int _) RD
    exact S6.store hst r6 hn _ _ E ⟨rfl, tp5⟩ fun h₆ tk₆ S7 _ I₆ _ => ⟨B6, h₆, tk₆, X, _, .next, rfl, I₆.pos, le6, S7, trivial, p pp P5 As5⟩
end
end Tn
end
section
-- TnQ7
open PySem PySem.W PySem.Calls PySem.Spec PyProof.Rows
set_option maxRecDepth 100000
set_option maxHeartbeats 1000000
set_option linter.unusedVariables false
namespace Tn
noncomputable def gl {α : Type} (eq lt : α → α → Bool) : List α → List α → Bool
  | [], [] => false
  | [], _ :: _ => true
  | _ :: _, [] => false
  | a :: r, b :: t => if eq a b then gl eq lt r t else lt a b
theorem lexR_gl {α : Type} {eq lt : α → α → Bool} {xs ys : List α} {e l : Nat → Bool} (h : ∀ j a b, xs[j]? = some a → ys[j]? = some b → e j = eq a b ∧ l j = lt a b) : ∀ f i, min xs.length ys.length - i = f → i ≤ min xs.length ys.length →
    lexR e l xs.length ys.length f i = gl eq lt (xs.drop i) (ys.drop i)
  | 0, i, hf, hi => by
    rw [lexR]
    by_cases q : xs.length < ys.length
    · rw [decide_eq_true q, List.drop_eq_nil_of_le (as := xs) (by omega), List.drop_eq_getElem_cons (l := ys) (i := i) (by omega)]; rfl
    · rw [decide_eq_false q, List.drop_eq_nil_of_le (as := ys) (by omega)]
      by_cases q2 : i < xs.length
      · rw [List.drop_eq_getElem_cons q2]; rfl
      · rw [List.drop_eq_nil_of_le (as := xs) (by omega)]; rfl
  | f + 1, i, hf, hi => by
    have h1 : i < xs.length := by omega
    have h2 : i < ys.length := by omega
    rw [lexR, List.drop_eq_getElem_cons h1, List.drop_eq_getElem_cons h2, gl]
    obtain ⟨e1, e2⟩ := h i xs[i] ys[i] (List.getElem?_eq_getElem h1) (List.getElem?_eq_getElem h2)
    rw [e1, e2, lexR_gl h f (i + 1) (by omega) (by omega)]
section
variable {w : World}
theorem looks_list {M : Model} {h : Heap} {a : Addr} {T : String} {vs : Array Value} {n : Nat} (e : h.get? a = some { cls := .type T, data := .seq vs n }) : Looks M h (typeOf (.ref a)) (.type T) := (Looks.ld e).andThen .now
theorem keyLt_lists {α : Type} {emb : α → D} {eq lt : α → α → Bool} (hE : ∀ (A' : Around) (s : Shared) (B : Fz) (va vb : Value) (a b : α), A'.units < cLine → Rep B va (emb a) → Rep B vb (emb b) → SeqAt.EqAt A' s va vb (eq a b) ∧ (eq a b = false → LtAt A' s va vb (lt a b)))
    (key : Nat → List α) {n : Nat} (h2 : 2 ≤ n) : KeyLt w (fun i => .list ((key i).map emb)) n oneType' (fun i j => gl eq lt (key i) (key j)) := by
  refine ⟨fun A B h ks s Q E i hs R hq => ?_, fun A B h i j vi vj s C E hu ih hs hi hj ri rj hC => ?_⟩
  · have hl : ks.length = n := by rw [R.length]; simp
    refine kas_kind (T := .type "list") (by omega) (fun v hv => ?_) (by decide) (by decide) hq
    obtain ⟨k, hk, ek⟩ := List.getElem_of_mem hv
    obtain ⟨d, ed, rd⟩ := R.get' (i := k) (v := v) (by rw [← ek]; exact List.getElem?_eq_getElem hk)
    have hkn : k < n := by omega
    rw [List.getElem?_map, List.getElem?_range hkn] at ed
    cases ed
    obtain ⟨a, vs, m, rfl, _, e2, _⟩ := rd.isL i
    rw [hs]
    exact looks_list e2
  · obtain ⟨a, xs, m, rfl, _, e1, _, z1, r1⟩ := ri.isL ih
    obtain ⟨b, ys, m', rfl, _, e2, _, z2, r2⟩ := rj.isL ih
    subst hs
    have l1 : xs.size = (key i).length := by simpa using z1
    have l2 : ys.size = (key j).length := by simpa using z2
    have get : ∀ {B : Fz} {zs : Array Value} {l : List α} (hz : Reps B zs.toList (l.map emb)) (p : Nat) (hp : p < zs.size), ∃ x, l[p]? = some x ∧ Rep B zs[p] (emb x) := fun {B zs l} hz p hp => by
      obtain ⟨d, ed, rd⟩ := hz.get' (i := p) (v := zs[p]) (by simp [hp])
      rw [List.getElem?_map] at ed
      obtain ⟨x, hx, rfl⟩ := Option.map_eq_some_iff.mp ed
      exact ⟨x, hx, rd⟩
    have hne : ∀ p, p < xs.size → p < ys.size → ∃ x y, (key i)[p]? = some x ∧ (key j)[p]? = some y := fun p h1 h2 => by
      obtain ⟨x, hx, _⟩ := get r1 p h1
      obtain ⟨y, hy, _⟩ := get r2 p h2
      exact ⟨x, y, hx, hy⟩
    let e : Nat → Bool := fun p => match (key i)[p]?, (key j)[p]? with | some x, some y => eq x y | _, _ => false
    let l : Nat → Bool := fun p => match (key i)[p]?, (key j)[p]? with | some x, some y => lt x y | _, _ => false
    refine keyLt_list (e := e) (lt := l) hu e1 e2 (fun A' p h1 h2 hu' => ?_) ?_
    · obtain ⟨x, hx, rx⟩ := get r1 p h1
      obtain ⟨y, hy, ry⟩ := get r2 p h2
      have := hE A' s B _ _ x y hu' rx ry
      simp only [e, l, hx, hy]
      exact this
    · rw [l1, l2, lexR_gl (eq := eq) (lt := lt) (xs := key i) (ys := key j) (fun p x y hx hy => by simp [e, l, hx, hy]) (min (key i).length (key j).length) 0 (Nat.sub_zero _) (Nat.zero_le _)]
      exact hC
theorem key_ints (key : Nat → List Nat) {n : Nat} (h2 : 2 ≤ n) : KeyLt w (fun i => .list (intsD (key i))) n oneType' (fun i j => gl (fun a b => a == b) (fun a b => decide (a < b)) (key i) (key j)) :=
  keyLt_lists (emb := fun (k : Nat) => D.int (k : Int)) (fun A' s B va vb a b hu ra rb => by
    obtain ⟨t, rfl⟩ := ra.int_inv
    obtain ⟨u, rfl⟩ := rb.int_inv
    refine ⟨?_, fun _ prog w E Q hq => ?_⟩
    · have := SeqAt.EqAt.int_int (A := A') (s := s) (a : Int) t (b : Int) u
      rwa [show ((a : Int) == (b : Int)) = (a == b) from (by rw [Bool.eq_iff_iff]; simp; omega)] at this
    · refine PyProof.Rows.lt_int (prog := prog) (w := w) ?_
      rwa [show decide ((a : Int) < (b : Int)) = decide (a < b) from (by rw [Bool.eq_iff_iff]; simp)]) key h2
theorem key_strs (key : Nat → List (List Nat)) {n : Nat} (h2 : 2 ≤ n) : KeyLt w (fun i => .list (strsD (key i))) n oneType' (fun i j => gl (fun a b => a == b) (fun a b => decide ((S a).cps.toList < (S b).cps.toList)) (key i) (key j)) :=
  keyLt_lists (emb := fun (k : List Nat) => D.str (S k)) (fun A' s B va vb a b hu ra rb => by
    obtain ⟨t, rfl⟩ := ra.str_inv
    obtain ⟨u, rfl⟩ := rb.str_inv
    refine ⟨?_, fun _ prog w E Q hq => ?_⟩
    · have := SeqAt.EqAt.str_str (A := A') (s := s) (S a) t (S b) u
      rwa [show (S a == S b) = (a == b) from (by rw [Bool.eq_iff_iff]; simp)] at this
    · exact PySem.P.lt_str (prog := prog) (w := w) hq) key h2
end
end Tn
end
section
-- TnQ8
open PySem PySem.W PySem.Calls PySem.Spec PyProof.Rows
set_option maxRecDepth 100000
set_option maxHeartbeats 1000000
set_option linter.unusedVariables false
namespace Tn
section
variable {w : World}
theorem tup2 {B : Fz} {h : Heap} (i : InH B h) {v : Value} {a b : Int} (r : Rep B v (.tup [.int a, .int b])) : ∃ x t u n, v = .ref x ∧ h.get? x = some { cls := .type "tuple", data := .seq #[.int a t, .int b u] n } := by
  obtain ⟨x, vs, n, rfl, _, e2, _, z, rs⟩ := r.isT i
  rcases vs with ⟨_ | ⟨p, _ | ⟨q, _ | ⟨c, r⟩⟩⟩⟩ <;> try (simp at z)
  cases rs with | cons ra rs => cases rs with | cons rb _ =>
  obtain ⟨t, rfl⟩ := ra.int_inv
  obtain ⟨u, rfl⟩ := rb.int_inv
  exact ⟨x, t, u, n, rfl, e2⟩
theorem key_tups (p q : Nat → Int) {n : Nat} (h2 : 2 ≤ n) : KeyLt w (fun i => .tup [.int (p i), .int (q i)]) n (tuples' (Value.type "int" != Value.type "tuple")) (fun i j => if p i == p j then (if q i == q j then false else decide (q i < q j)) else decide (p i < p j)) := by
  refine ⟨fun A B h ks s Q E i hs R hq => ?_, fun A B h i j vi vj s C E hu ih hs hi hj ri rj hC => ?_⟩
  · subst hs
    have key : ∀ (l : List Nat) (ks : List Value), Reps B ks (l.map fun i => D.tup [.int (p i), .int (q i)]) → ∃ fs, KatTups s.heap ks fs ∧ fs.length = l.length ∧ ∀ v ∈ fs, ∃ a t, v = .int a t := by
      intro l
      induction l with
      | nil => intro ks r; cases r; exact ⟨[], KatTups.nil, rfl, fun v m => by cases m⟩
      | cons x l ih =>
        intro ks r
        cases r with
        | cons ra rs =>
          obtain ⟨fs, f1, f2, f3⟩ := ih _ rs
          obtain ⟨a, t, u, m, rfl, e⟩ := tup2 i ra
          refine ⟨.int (p x) t :: fs, KatTups.cons e rfl rfl rfl f1, by simp [f2], fun v mv => ?_⟩
          rcases List.mem_cons.mp mv with rfl | mv
          · exact ⟨_, _, rfl⟩
          · exact f3 v mv
    obtain ⟨fs, f1, f2, f3⟩ := key _ _ R
    refine kat_kind (T := .type "int") f1 (by rw [f2]; simp; lia) (fun v hv => ?_) (by decide) hq
    obtain ⟨a, t, rfl⟩ := f3 v hv
    exact Looks.of_pure rfl
  · subst hs
    obtain ⟨a, t, u, m, rfl, e1⟩ := tup2 ih ri
    obtain ⟨b, t', u', m', rfl, e2⟩ := tup2 ih rj
    refine kat_lt e1 rfl e2 rfl ?_
    refine kat_cons (p := .int (p i) t) (q := .int (p j) t') (wpAny_eqBool_int ?_)
    cases h1 : p i == p j
    · rw [h1] at hC
      exact kat_no (oneLt_int (by simpa using hC))
    · rw [h1] at hC
      refine kat_yes (kat_cons (p := .int (q i) u) (q := .int (q j) u') (wpAny_eqBool_int ?_))
      cases h3 : q i == q j
      · rw [h3] at hC
        exact kat_no (kat_one _ _ (PyProof.Rows.lt_int (show C (decide (q i < q j)) s by simpa using hC)))
      · rw [h3] at hC
        exact kat_yes (kat_nil (by simpa using hC))
end
theorem gl_tr {key : Nat → List Nat} : ∀ (a b c : List Nat), gl (fun a b => a == b) (fun a b => decide (a < b)) a b = true → gl (fun a b => a == b) (fun a b => decide (a < b)) b c = true → gl (fun a b => a == b) (fun a b => decide (a < b)) a c = true
  | [], [], _, h, _ => by simp [gl] at h
  | _ :: _, [], _, h, _ => by simp [gl] at h
  | [], _ :: _, [], _, h => by simp [gl] at h
  | _ :: _, _ :: _, [], _, h => by simp [gl] at h
  | [], _ :: _, _ :: _, _, _ => rfl
  | x :: a, y :: b, z :: c, h1, h2 => by
    unfold gl at h1 h2 ⊢
    by_cases hxy : x = y
    · subst hxy
      simp only [beq_self_eq_true, if_true] at h1
      by_cases hyz : x = z
      · subst hyz
        simp only [beq_self_eq_true, if_true] at h2 ⊢
        exact gl_tr (key := key) a b c h1 h2
      · simp [hyz] at h2 ⊢; exact h2
    · by_cases hyz : y = z
      · subst hyz
        simp [hxy] at h1 ⊢; exact h1
      · simp [hxy] at h1
        simp [hyz] at h2
        have : x ≠ z := by lia
        simp [this]; lia
theorem gl_tt : ∀ (a b : List Nat), a ≠ b → gl (fun a b => a == b) (fun a b => decide (a < b)) a b = false → gl (fun a b => a == b) (fun a b => decide (a < b)) b a = true
  | [], [], h, _ => absurd rfl h
  | _ :: _, [], _, _ => rfl
  | [], _ :: _, _, h => by simp [gl] at h
  | x :: a, y :: b, hne, h => by
    unfold gl at h ⊢
    by_cases hxy : x = y
    · subst hxy
      simp only [beq_self_eq_true, if_true] at h ⊢
      exact gl_tt a b (fun q => hne (by rw [q])) h
    · simp [hxy] at h
      have : y ≠ x := fun q => hxy q.symm
      simp [this]; lia
theorem gl_lex : ∀ (a b : List Nat), gl (fun a b => a == b) (fun a b => decide (a < b)) a b = true → lexLe a b = true
  | [], _, _ => rfl
  | _ :: _, [], h => by simp [gl] at h
  | x :: a, y :: b, h => by
    unfold gl at h
    unfold lexLe
    by_cases hxy : x = y
    · subst hxy
      simp only [beq_self_eq_true, if_true] at h
      simp [gl_lex a b h]
    · simp [hxy] at h
      simp [h]
theorem ord_drop (l : List Nat) : Ord l.length (fun i j => gl (fun a b => a == b) (fun a b => decide (a < b)) (l.drop i) (l.drop j)) :=
  ⟨fun i j k _ _ _ h1 h2 => gl_tr (key := fun _ => []) _ _ _ h1 h2, fun i j hi hj hne h => gl_tt _ _ (fun q => by
    have := congrArg List.length q
    simp at this
    lia) h⟩
theorem ord_tups (p q : Nat → Int) {n : Nat} (hq : ∀ i j, i < n → j < n → q i = q j → i = j) : Ord n (fun i j => if p i == p j then (if q i == q j then false else decide (q i < q j)) else decide (p i < p j)) := by
  refine ⟨fun i j k _ _ _ h1 h2 => ?_, fun i j hi hj hne h => ?_⟩
  · by_cases a : p i = p j
    · by_cases b : p j = p k
      · simp [a, b] at h1 h2 ⊢
        lia
      · simp [a, b] at h1 h2 ⊢
        exact h2
    · by_cases b : p j = p k
      · have a' : p i ≠ p k := by lia
        simp [a] at h1
        simp [a']; lia
      · simp [a] at h1
        simp [b] at h2
        have : p i ≠ p k := by lia
        simp [this]; lia
  · have hqn : q i ≠ q j := fun z => hne (hq i j hi hj z)
    by_cases a : p i = p j
    · simp [a, hqn] at h
      simp [a, hqn.symm]; lia
    · simp [a] at h
      have : p j ≠ p i := fun z => a z.symm
      simp [this]; lia
end Tn
end
section
-- TnQ9
open PySem PySem.W PySem.Calls PySem.Spec PyProof.Rows
set_option maxRecDepth 100000
set_option maxHeartbeats 3200000
set_option linter.unusedVariables false
namespace Tn
noncomputable def seenS (l : List (List Nat)) : Str → Bool := fun k => l.any fun x => decide (k = S x)
theorem ndist_snoc (l : List (List Nat)) (x : List Nat) : ndist (l ++ [x]) = if seenS l (S x) then ndist l else ndist l + 1 := by
  rw [ndist_perm (List.perm_append_comm (l₁ := l) (l₂ := [x])), List.singleton_append, ndist]
  have h : seenS l (S x) = decide (x ∈ l) := by
    unfold seenS
    rw [Bool.eq_iff_iff]
    simp
  rw [h]
  by_cases q : x ∈ l <;> simp [q]
theorem seenS_snoc (l : List (List Nat)) (x : List Nat) (k : Str) : seenS (l ++ [x]) k = (seenS l k || decide (k = S x)) := by simp [seenS]
theorem ndist_le (l : List (List Nat)) : ndist l ≤ l.length := by
  induction l with
  | nil => simp [ndist]
  | cons a r ih => unfold ndist; simp only [List.length_cons]; split <;> omega
section
variable {w : World} {A : Around} {R : Result → Shared → Prop} {B0 : Fz} {I Sa : Addr} {ls : List (List Nat)} {T : Nat → Heap → Prop}
theorem set_loop (IT : IterAt w A.in1 B0 I (strsD ls) T) (hSI : Sa ≠ I) (hSB : B0 Sa = none) (hIB : B0 I = none) (hb : ls.length + 1 < scanBound) :
    ∀ (k i : Nat) (s : Shared), ls.length - i = k → i ≤ ls.length → T i s.heap → (∀ a o, B0 a = some o → s.heap.get? a = some o) → s.heap.SetOf (strKind pw w) Sa (seenS (ls.take i)) (ndist (ls.take i)) →
      (∀ h' tk, (∀ b o, b ≠ Sa → b ≠ I → s.heap.get? b = some o → h'.get? b = some o) → h'.SetOf (strKind pw w) Sa (seenS ls) (ndist ls) → R (.ok (.ret .none)) { s with heap := h', toks := tk }) →
      codeAny (Md w) A (.builtin "set.update.loop" ⟨[.ref Sa, .ref I], []⟩) R s := by
  intro k
  induction k with
  | zero =>
    intro i s hk hi t hB hS hR
    have hil : i = ls.length := by omega
    subst hil
    rw [List.take_length] at hS
    refine codeAny_builtin PyProof.Rows.F.entry_set_update_loop ?_
    rw [Around.under_plainId PyProof.Rows.F.plain_set_update_loop _]
    show wpAny _ A.in1 (pyNext (.ref I) >>= _) _ _ s
    refine wpAny_bind (IT.done s _ _ (by simpa [strsD] using t) hB fun h' tk kp => ?_)
    show wpAny _ A.in1 (ret Value.none) _ _ _
    refine wpAny_pure (hR h' tk (fun b o _ nb e => kp b o nb e) ?_)
    obtain ⟨o, es, ep, tb, ho, rest⟩ := hS
    exact ⟨o, es, ep, tb, kp _ _ hSI ho, rest⟩
  | succ k ih =>
    intro i s hk hi t hB hS hR
    have hlt : i < ls.length := by omega
    refine codeAny_builtin PyProof.Rows.F.entry_set_update_loop ?_
    rw [Around.under_plainId PyProof.Rows.F.plain_set_update_loop _]
    show wpAny _ A.in1 (pyNext (.ref I) >>= _) _ _ s
    refine wpAny_bind (IT.item i (.str (S ls[i])) s _ _ (by simp [strsD, hlt]) t hB fun v h' tk rv t' kp => ?_)
    obtain ⟨u, rfl⟩ := rv.str_inv
    have hS' : h'.SetOf (strKind pw w) Sa (seenS (ls.take i)) (ndist (ls.take i)) := by
      obtain ⟨o, es, ep, tb, ho, rest⟩ := hS
      exact ⟨o, es, ep, tb, kp _ _ hSI ho, rest⟩
    have hB' : ∀ a o, B0 a = some o → h'.get? a = some o := fun a o e => kp a o (fun z => by rw [z, hIB] at e; cases e) (hB a o e)
    show wpAny _ A.in1 (holding [Value.str (S ls[i]) u] (setAdd Sa (.str (S ls[i]) u)) >>= _) _ _ _
    refine wpAny_bind (wpAny_holding ?_)
    unfold setAdd
    refine wpAny_holding ?_
    refine wpAny_bind ((strKind pw w).pyHash (k := S ls[i]) (strKind_is _ _ _ _) ?_)
    have hroom : ndist (ls.take i) + 1 < scanBound := by
      have := ndist_le (ls.take i)
      rw [List.length_take] at this
      omega
    refine wpAny_setAddHashed_of (knd := strKind pw w) (strKind_is _ _ _ _) rfl hS' hroom fun h2 hsb hS2 => ?_
    have etk : ls.take (i + 1) = ls.take i ++ [ls[i]] := by rw [List.take_add_one, List.getElem?_eq_getElem hlt]; rfl
    have hSi : h2.SetOf (strKind pw w) Sa (seenS (ls.take (i + 1))) (ndist (ls.take (i + 1))) := by
      rw [etk]
      exact PyProof.Rows.SetOf_congr hS2 (fun k' => (seenS_snoc _ _ _).symm) (ndist_snoc _ _).symm
    have hB2 : ∀ a o, B0 a = some o → h2.get? a = some o := fun a o e => (hsb.2 a (fun z => by rw [z, hSB] at e; cases e)).trans (hB' a o e)
    refine wpAny_pure ⟨plainId_quiet PyProof.Rows.F.plain_set_update_loop _, ih (i + 1) _ (by omega) hlt (IT.frame (i + 1) h' h2 t' hB' hB2 fun o e => (hsb.2 I hSI.symm).trans e) hB2 hSi fun h3 tk3 kp3 hS3 => ?_⟩
    exact hR h3 tk3 (fun b o nS nI e => kp3 b o nS nI ((hsb.2 b nS).trans (kp b o nI e))) hS3
end
section
variable {w : World} {A : Around} {E : Value → Shared → Prop} {s : Shared}
/-- set(list of text) -/
theorem call_set_strs {B : Fz} {l : Addr} {items : Array Value} {ls : List (List Nat)} {Q : Value → Shared → Prop}
    (hh : A.handled = none) (tp : 1 ≤ s.toks) (I0 : Inv w s.heap) (i0 : InH B s.heap) (rl : Rep B (.ref l) (.list (strsD ls))) (hl : s.heap.IsList l items) (hb : ls.length + 1 < scanBound)
    (h : ∀ (h' : Heap) (tk : Nat), h'.SetOf (strKind pw w) s.heap.objs.size (seenS ls) (ndist ls) →
      (∀ b o, s.heap.get? b = some o → h'.get? b = some o) → Q (.ref s.heap.objs.size) { s with heap := h', toks := tk }) :
    wpAny (Md w) A (call (.type "set") [.ref l]) Q E s := by
  obtain ⟨c, tl, hmro⟩ := PySem.F.called_set.mro
  have hmade := PySem.F.called_set.made
  have hsub := PySem.F.called_set.sub
  refine wpAny_call (codeAny_of_tree ?_)
  show wpAny _ _ (callAny (.type "set") _) _ _ _
  refine wpAny_pure ⟨Code.quiet_builtin _ (by decide +kernel), codeAny_builtin PySem.F.entry_type_call ?_⟩
  rw [Around.under_plain (weight_type_call_type "set" [.ref l] []) rfl]
  have h1 := PySem.F.called_set.notType
  have h2 := PySem.F.called_set.canCreate
  have hct := PySem.F.typeCall_set_1 (.ref l)
  repeat (any_goals (first | assumption | wp_step))
  refine codeAny_mono (code_set_new_1 (.ref l) (E := E) (Q₁ := fun obj s₁ => ∃ led : Bool, obj = .ref s.heap.objs.size ∧ s₁ = { s with heap := s.heap.push { cls := .type "set", dict := none, data := .set #[] 0 (.fresh 0 0 led) } }) fun led => ⟨led, rfl, rfl⟩) fun r s₁ hr => ?_
  cases r with
  | error e => exact hr
  | ok fl =>
    cases fl with
    | ret obj =>
      obtain ⟨led, rfl, rfl⟩ := hr
      have hS : (s.heap.push { cls := .type "set", dict := none, data := .set #[] 0 (.fresh 0 0 led) }).get? s.heap.objs.size = some { cls := .type "set", dict := none, data := .set #[] 0 (.fresh 0 0 led) } := Heap.get?_push_size _ rfl
      have hT : Shared.TypeIs { s with heap := s.heap.push { cls := .type "set", dict := none, data := .set #[] 0 (.fresh 0 0 led) } } (.ref s.heap.objs.size) "set" := ⟨_, hS, rfl⟩
      have hli := PySem.F.called_set.init.lookup
      have hbi := PySem.F.called_set.init.bind (.ref s.heap.objs.size)
      repeat (any_goals (first | assumption | wp_step))
      refine codeAny_mono (codeAny_call_builtin (R := wants (fun r s₂ => r = .none ∧ ∃ h' tk, s₂ = { s with heap := h', toks := tk } ∧
          h'.SetOf (strKind pw w) s.heap.objs.size (seenS ls) (ndist ls) ∧
          (∀ b o, s.heap.get? b = some o → h'.get? b = some o)) E) PySem.F.called_set.init.plain PySem.F.entry_set_init (check_set_init_1 hT ?_)) fun r₂ s₂ hr₂ => ?_
      · obtain ⟨ol, hol, hcl, nl, hdl⟩ := hl
        obtain ⟨ocls, odict, odata, oslots⟩ := ol
        simp only at hcl hdl
        subst hcl; subst hdl
        have hol' : (s.heap.push { cls := .type "set", dict := none, data := .set #[] 0 (.fresh 0 0 led) }).get? l = some { cls := .type "list", dict := odict, data := .seq items nl, slots := oslots } := Heap.get?_push_of_some _ hol
        have hsls := PySem.F.sub_list_set
        have hslf := PySem.F.sub_list_frozenset
        have hne : (Value.type "list" == Value.type "dict") = false := by decide
        have hl1 : (s.heap.push { cls := .type "set", dict := none, data := .set #[] 0 (.fresh 0 0 led) }).IsList l items := ⟨_, hol', rfl, nl, rfl⟩
        unfold Builtin.«set.__init__» noKeywords Builtin.Frozenset.updateFrom
        generalize hPI : pyIter = PI
        wp_walk
        subst hPI
        have i1 : InH B (s.heap.push { cls := .type "set", dict := none, data := .set #[] 0 (.fresh 0 0 led) }) := fun b o e => ⟨Heap.get?_push_of_some _ (i0 b o e).1, (i0 b o e).2⟩
        have hsz : (s.heap.push { cls := .type "set", dict := none, data := .set #[] 0 (.fresh 0 0 led) }).objs.size = s.heap.objs.size + 1 := Heap.size_push ..
        refine (itb_list (w := w) (ds := strsD ls)).go B _ _ (I0.push _) i1 rl _ _ _ ⟨rfl, tp⟩ fun oI T IT t0 hf => ?_
        rw [hsz] at IT ⊢
        refine wpAny_bind (wpAny_runValue ?_)
        have bS : B s.heap.objs.size = none := inh_none i0 (get_size _)
        have bI : B (s.heap.objs.size + 1) = none := inh_none i0 (get_ge (Nat.le_succ _))
        have kp0 : ∀ b o, s.heap.get? b = some o → ((s.heap.push { cls := .type "set", dict := none, data := .set #[] 0 (.fresh 0 0 led) }).push oI).get? b = some o := fun b o e => Heap.get?_push_of_some _ (Heap.get?_push_of_some _ e)
        refine set_loop (IT _ (by simp [hh])) (Nat.ne_of_lt (Nat.lt_succ_self _)) bS bI hb ls.length 0 _ (by omega) (Nat.zero_le _) t0 (fun a o e => kp0 a o (i0 a o e).1) ?_ fun h' tk kp hS' => ?_
        · have hget := Heap.get?_push_of_some oI hS
          exact PyProof.Rows.SetOf_congr ((PyProof.Rows.setObjOf_fresh (knd := strKind pw w) led).setOf hget (by unfold scanBound; omega)) (fun _ => rfl) rfl
        · show wpAny _ _ _ _ _ _
          refine wpAny_pure ?_
          show wpAny _ _ (ret Value.none) _ _ _
          exact wpAny_pure ⟨rfl, h', tk, rfl, hS', fun b o e => kp b o (Nat.ne_of_lt (Heap.lt_size e)) (Nat.ne_of_lt (Nat.lt_succ_of_lt (Heap.lt_size e))) (kp0 b o e)⟩
      · cases r₂ with
        | error e => exact hr₂
        | ok fl₂ =>
          cases fl₂ with
          | ret r =>
            obtain ⟨rfl, h', tk, rfl, hS', hk'⟩ := hr₂
            repeat (any_goals (first | assumption | wp_step))
            exact h _ _ hS' hk'
          | _ => exact hr₂.elim
    | _ => exact hr.elim
end
end Tn
end
section
-- TnL0
open PySem PySem.W PySem.Calls PySem.Spec PyProof.Rows
set_option maxRecDepth 100000
set_option linter.unusedVariables false
namespace Tn
section
variable {w : World} {A : Around} {env : Env} {ρ : Rho} {n : Nat}
theorem evT_or2 {x y : Expr} {pos : Pos} {a b : Bool} (ex : EvT w A env ρ x a) (ey : EvT w A env ρ y b) : EvT w A env ρ (.BoolOp .Or [x, y] pos) (a || b) := .mk fun B h F s Q E at_ k =>
  wpAny_isTrue_BoolOp (wpAny_allTrue_Or_cons (ex.go B h F s _ E at_ fun v B₁ h₁ tk st I r => by
    subst r
    cases v with
    | true => simp only [if_true]; exact k true B₁ h₁ tk st I rfl
    | false =>
      simp only [Bool.false_eq_true, if_false]
      exact wpAny_allTrue_Or_cons (ey.go B₁ h₁ (F.step st I) _ _ E I.at fun v B₂ h₂ tk₂ st₂ I₂ r => by
        subst r
        cases v with
        | true => simp only [if_true]; exact k true B₂ h₂ tk₂ (st.trans st₂) I₂ rfl
        | false =>
          simp only [Bool.false_eq_true, if_false]
          exact wpAny_allTrue_Or_nil (k false B₂ h₂ tk₂ (st.trans st₂) I₂ rfl))))
theorem c_dget {x : Str} {i : Int} {tk : Tok} (e : nsIn (K w.params) 144 x = some (some (.int i tk))) : Calls w (.builtin "dict.get") n [.ref 144, .str x, .int 0] (.int i) := .mk fun A B hp vs hA I j r0 => by
  obtain ⟨v, u, z, rfl, ra, rb, rc⟩ := r0.three
  rw [ra.ref_inv]
  obtain ⟨t, rfl⟩ := rb.str_inv
  obtain ⟨t', rfl⟩ := rc.int_inv
  obtain ⟨f, hf, hv⟩ := dct_K I
  refine .same I j fun s Q E hs _ k => ?_
  subst hs
  refine call_meetsIn PySem.F.slot_dict_get hf.typeIs PySem.F.entry_dict_get (PySem.F.args_dict_get_3 _ _ _) (meets_dict_get_default (strKind pw w) 144 (strKind_is pw w x t) (by decide) (.int 0 t')) ⟨f, hf, ?_⟩
  rw [hv x _ e]
  exact k _ _ (.int _ _)
theorem hT_dct : ∀ B (s : Shared) v, Inv w s.heap → InH B s.heap → Rep B v (.ref 144) → s.TypeIs v "dict" ∧ ∀ a, v = .ref a → ∃ ob, s.heap.get? a = some ob ∧ ob.dict = none := fun B s v I _ r => by
  rw [r.ref_inv]
  obtain ⟨f, hf, _⟩ := dct_K I
  refine ⟨hf.typeIs, fun a e => ?_⟩
  cases e
  exact ⟨_, I.k 144 (o_144 w.params) rfl, rfl⟩
/-- a set of n texts -/
noncomputable def SetP (n : Nat) : Fz → Value → Prop := fun B v => ∃ (a : Addr) (o : Obj) (es : Array (Int × Value)) (ep : Nat) (t : SetTable), v = .ref a ∧ B a = some o ∧ o.ExactSet ∧ o.data = .set es ep t ∧ t.fits es.size = true ∧ es.size = n
theorem setP_mono (n : Nat) : Mono (SetP n) := ⟨fun B B' v le ⟨a, o, es, ep, t, h1, h2, r⟩ => ⟨a, o, es, ep, t, h1, le _ _ h2, r⟩, fun B I o' v hI io ⟨a, o, es, ep, t, h1, h2, h3, h4, r⟩ => ⟨a, o, es, ep, t, h1, (if_neg fun z => by
  obtain ⟨⟨vs, d, _⟩, _⟩ := io
  rw [z, hI] at h2; cases h2; rw [h4] at d; cases d).trans h2, h3, h4, r⟩⟩
noncomputable def setD (n : Nat) : D := .prd (SetP n)
theorem c_set {ls : List (List Nat)} (hz : ls.length ≤ 1000) : Calls w (.type "set") n [.list (strsD ls)] (setD (ndist ls)) := .mk fun A B hp vs hA I i r0 => by
  obtain ⟨v, rfl, r⟩ := r0.one
  obtain ⟨a, ws, k, rfl, _, _, l, z, _⟩ := id (r.isL i)
  refine .of fun s Q E e k => ?_
  obtain ⟨rfl, tp⟩ := e
  refine call_set_strs hA.hh tp I i r l (by unfold scanBound; omega) fun h' tk ⟨o, es, ep, t, ho, hex, hd, hel, hmem, hlt, hf, hn⟩ kp => ?_
  exact k _ _ h' tk (Stp.put I i (.of_keeps kp) (get_size _) ho) (I.of_keeps kp) (.prd (setP_mono _) ⟨_, o, es, ep, t, rfl, Fz.put_self _ _ _, hex, hd, hf, hn⟩)
theorem c_len_set {k : Nat} (hk : k ≤ 1000) : Calls w (.builtin "len") n [setD k] (.int k) := .mk fun A B hp vs hA I i r0 => by
  obtain ⟨v, rfl, r⟩ := r0.one
  obtain ⟨m, a, o, es, ep, t, rfl, h1, h2, h3, h4, h5⟩ := r.prd_inv
  refine .same I i fun s Q E hs _ kk => ?_
  subst hs
  refine call_len_set (i _ _ h1).1 h2 h3 h4 (by omega) ?_
  rw [h5]
  exact kk _ _ (.int _ _)
end
end Tn
end
section
-- TnL1
open PySem PySem.W PySem.Calls PySem.Spec PyProof.Rows
set_option maxRecDepth 100000
set_option linter.unusedVariables false
namespace Tn
theorem val64_drop {l : List Nat} (h : ∀ d ∈ l, d < 64) : ∀ i, val64 l / 64 ^ i = val64 (l.drop i) := by
  induction l with
  | nil => intro i; simp [val64]
  | cons d r ih =>
    intro i
    cases i with
    | zero => simp
    | succ i =>
      rw [List.drop_succ_cons, ← ih (fun d m => h d (by simp [m])) i, Nat.pow_succ, Nat.mul_comm (64 ^ i) 64, ← Nat.div_div_eq_div_mul]
      congr 1
      have := h d (by simp)
      rw [val64]
      lia
/-- how many more than one before a turn of the deal -/
noncomputable def turnZ (sc : List Int) : Int := 2 + (((sc.take 14).map fun (x : Int) => x.fmod (10 ^ 6)).sum).fmod 3
theorem turn_pos (sc : List Int) : 0 < turnZ sc ∧ turnZ sc ≤ 4 := by
  unfold turnZ
  have h1 := Int.fmod_nonneg_of_pos (((sc.take 14).map fun (x : Int) => x.fmod (10 ^ 6)).sum) (b := 3) (by decide)
  have h2 := Int.fmod_lt_of_pos (((sc.take 14).map fun (x : Int) => x.fmod (10 ^ 6)).sum) (b := 3) (by decide)
  lia
section
variable {w : World} {A : Around} {env : Env} {post : Post} {sc : List Int}
theorem fn_law : fnK (K w.params) 192 191 (funD (o_192 w.params)) (stmBody (stm 70)) := ⟨o_192 _, o_191 _, _, _, rfl, rfl, rfl, rfl, rfl, rfl, rfl, rfl, rfl, rfl⟩
theorem d_word {x : List Nat} (h : IsWd x) : ∃ tk, nsIn (K w.params) 144 (S x) = some (some (.int (nmOf x : Nat) tk)) := by
  rcases h with rfl | rfl | rfl | rfl
  · exact ⟨_, d_45⟩
  · exact ⟨_, d_62⟩
  · exact ⟨_, d_45_62⟩
  · exact ⟨_, d_62_62⟩
noncomputable def lawA : List Stmt := (stmBody (stm 70)).take 9
noncomputable abbrev rhoA (sc : List Int) : Rho := [("turn", .int (turnZ sc)), ("table", tabF (rowN sc).length (Lt (rowN sc))), ("tails", .list ((List.range (rowN sc).length).map fun i => D.int (val64 ((rowN sc).drop i) : Nat))),
  ("n", .int ((rowN sc).length : Nat)), ("row", .list (intsD (rowN sc))), ("words", .list (strsD (wordsN sc)))]
theorem law_a (fc : FC (funD (o_192 w.params)) env) (hA : AOk A 59) (hsc : sc.length ≤ 1000) (p : ∀ X ρ, Has [] (rhoA sc) X ρ → post .next X ρ) : Run w A env lawA [] [("script", .list (sc.map .int))] post := by
  have hr := row_dig sc
  have hr1 : ∀ d ∈ rowN sc, d < 64 := fun d m => (hr d m).1
  have hl := row_len sc
  have hne := row_ne sc
  have hw := words_wd sc
  have hwl : (wordsN sc).length = (rowN sc).length := by simp [rowN]
  have hsg := sgN_len sc 7
  have hpl := plN_len sc 7
  have hil : (intsD (rowN sc)).length = (rowN sc).length := by simp [intsD]
  obtain ⟨esc, _⟩ := env
  have hesc := fc.scope
  dsimp only at hesc
  subst hesc
  unfold lawA
  conv in (List.take _ _) => whnf
  refine run_cons (r1_unpack2 hA.hh (fc.lst (by kernel_rfl)) (fc.lst (by kernel_rfl)) (ev_callG (n := 2) (hA.le (by lia)) (call_text (n := 0) hsc) (evl_cons (ev_name rfl) evl_nil) (fc.kind (by kernel_rfl))) ?_)
  refine run_cons (r1_assign (d := .list (strsD (wordsN sc))) (fc.cst (by kernel_rfl)) (ev_callG (n := 4) (hA.le (by lia)) (call_read (n := 0) (by lia) (char_sg sc 7)) (evl_cons (ev_name rfl) evl_nil) (fc.kind (by kernel_rfl))) ?_)
  have hrow : (List.range (strsD (wordsN sc)).length).map (fun i => D.int (nmOf ((wordsN sc).getD i []) : Nat)) = intsD (rowN sc) := by
    rw [show (strsD (wordsN sc)).length = (wordsN sc).length by simp [strsD], map_range_get (wordsN sc) (fun x => D.int (nmOf x : Nat)) _ fun i a ha => by simp [List.getD, ha]]
    simp [intsD, rowN]
  refine run_cons (r1_assign (d := .list (intsD (rowN sc))) (fc.cst (by kernel_rfl)) ((EvN.ev (evn_map (fun i => D.int (nmOf ((wordsN sc).getD i []) : Nat)) [] hA.hh (ev_name rfl) itb_list (by simp [strsD]; lia) .nil (by kernel_rfl) ?_)).cast (congrArg D.list hrow)) ?_)
  · intro cenv ce i e he
    have hi : i < (wordsN sc).length := by simpa [strsD] using (List.getElem?_eq_some_iff.mp he).1
    have : e = .str (S (wordsN sc)[i]) := by simpa [strsD, hi] using he.symm
    subst this
    have hg : (wordsN sc).getD i [] = (wordsN sc)[i] := by simp [List.getD, hi]
    rw [hg]
    obtain ⟨tk, hd⟩ := d_word (w := w) (hw _ (List.getElem_mem hi))
    exact ev_meth (n := 0) (hA.le (by lia)) (ev_global (ce.kind _ _ (by kernel_rfl) nofun) rfl) (evl_cons (ev_name rfl) (evl_cons ev_int evl_nil)) (c_dget hd) PySem.F.plainAttrs_dict PySem.F.slot_dict_get PySem.F.type_dict_get hT_dct
  refine run_cons (r1_if (evT_cmp (ev_name rfl) ((ev_callG (n := 2) (hA.le (by lia)) (call_meant (n := 0) (by lia) (short_mem sc)) (evl_cons (ev_name rfl) evl_nil) (fc.kind (by kernel_rfl))).cast (by rw [← row_meant sc])) rfl (op_lne (n := 0) hA (by lia) fun d m => ?_)) (fun h => nomatch h) fun _ => run_nil ?_)
  · obtain ⟨k, _, rfl⟩ := List.mem_map.mp m
    exact .int _
  refine run_cons (r1_assign (d := .int ((rowN sc).length : Nat)) (fc.cst (by kernel_rfl)) ((ev_callB (n := 0) (hA.le (by lia)) (c_len_list (by rw [hil]; lia)) (evl_cons (ev_name rfl) evl_nil) (fc.kind (by kernel_rfl))).cast (by rw [hil])) ?_)
  refine run_cons (r1_assign (d := .int (val64 (rowN sc) : Nat)) (fc.cst (by kernel_rfl)) (ev_callG (n := 20) (hA.le (by lia)) (call_d2i (n := 0) hr1 hl hne) (evl_cons (ev_name rfl) (evl_cons ev_int evl_nil)) (fc.kind (by kernel_rfl))) ?_)
  refine run_cons (r1_assign (d := .list ((List.range (rowN sc).length).map fun i => D.int (val64 ((rowN sc).drop i) : Nat))) (fc.cst (by kernel_rfl)) ((EvN.ev (evn_map (d := .rng 0 ((rowN sc).length : Nat) 1) (es := rngD 0 1 (rowN sc).length) (fun i => D.int (val64 ((rowN sc).drop i) : Nat)) [("total", .int (val64 (rowN sc) : Nat))] hA.hh
    (ev_callT (n := 0) (hA.le (by lia)) c_rng1 (evl_cons (ev_name rfl) evl_nil) (fc.kind (by kernel_rfl))) (itb_rng1 (by lia) (by lia) (by lia) (by lia) (by lia)) (by rw [rngD_len]; lia) (.cons rfl (.inl (fc.kind (by kernel_rfl))) .nil) (by kernel_rfl) ?_)).cast (by rw [rngD_len])) ?_)
  · intro cenv ce i e he
    obtain ⟨hi, rfl⟩ := rngD_get he
    refine (ev_bin (ev_name rfl) (ev_bin ev_int (ev_name rfl) (op_mul (by decide))) (op_shr (by lia))).cast ?_
    congr 1
    rw [show ((6 : Int) * (0 + (i : Int) * 1)).toNat = 6 * i by lia, ← val64_drop hr1 i]
    have p2 : (2 : Int) ^ (6 * i) = ((64 ^ i : Nat) : Int) := by rw [Int.pow_mul]; push_cast; rfl
    rw [p2, fdiv4]
  refine run_cons (r1_assign (d := tabF (rowN sc).length (Lt (rowN sc))) (fc.cst (by kernel_rfl)) (ev_callG (n := 2) (hA.le (by lia)) (call_table (n := 0) (by lia)) (evl_cons (ev_name rfl) evl_nil) (fc.kind (by kernel_rfl))) ?_)
  refine run_cons (r1_assign (d := .int (turnZ sc)) (fc.cst (by kernel_rfl)) (ev_bin ev_int (ev_bin (ev_callB (n := 0) (hA.le (by lia)) (c_sum (ns := (sc.take 14).map fun (x : Int) => x.fmod (10 ^ 6))) (evl_cons ((EvN.ev (evn_map (d := .list ((sc.map D.int).take 14)) (es := (sc.map D.int).take 14) (fun i => D.int ((sc.getD i 0).fmod (10 ^ 6))) [] hA.hh
    (ev_lupto (k := 14) (ev_name rfl) ev_int (by simp; lia)) itb_list (by simp; lia) .nil (by kernel_rfl) ?_)).cast ?_) evl_nil) (fc.kind (by kernel_rfl))) ev_int (op_mod (by decide))) op_add) ?_)
  · intro cenv ce i e he
    have hi : i < ((sc.map D.int).take 14).length := (List.getElem?_eq_some_iff.mp he).1
    have hi2 : i < sc.length := by simp at hi; lia
    have hi3 : i < 14 := by simp at hi; lia
    have : e = .int sc[i] := by
      rw [List.getElem?_take, if_pos hi3, List.getElem?_map, List.getElem?_eq_getElem hi2] at he
      exact (Option.some.inj he).symm
    subst this
    rw [show sc.getD i 0 = sc[i] by simp [List.getD, hi2]]
    exact ev_bin (ev_name rfl) (ev_bin ev_int ev_int (op_pow (by decide) (by decide) (by decide))) (op_mod (by decide))
  · congr 1
    apply List.ext_getElem?
    intro i
    by_cases hi : i < ((sc.map D.int).take 14).length
    · have hi2 : i < sc.length := by simp at hi; lia
      have hi3 : i < 14 := by simp at hi; lia
      simp [hi2, hi3, List.getD]
      exact ⟨i, by rw [List.getElem?_range (by lia)], by simp [hi2]⟩
    · rw [List.getElem?_eq_none (by simpa using hi), List.getElem?_eq_none (by simpa using hi)]
  · exact run_nil (p _ _ ⟨rfl, sub_cons rfl (sub_cons rfl (sub_cons rfl (sub_cons rfl (sub_cons rfl (sub_cons rfl sub_nil)))))⟩)
end
end Tn
end
section
-- TnL2
open PySem PySem.W PySem.Calls PySem.Spec PyProof.Rows
set_option maxRecDepth 100000
set_option linter.unusedVariables false
namespace Tn
theorem fv_one {env : Env} {ρ' : Rho} {x : Str} {d : D} {names : List (Str × NameKind)} (h : ρ'.lookup x = some d) (k : env.kindOf x = some .cell) (m : (x, NameKind.free) ∈ names) :
    ∀ y e, List.lookup y [(x, d)] = some e → ρ'.lookup y = some e ∧ env.kindOf y = some .cell ∧ (y, NameKind.free) ∈ names := fun y e h' => by
  rw [List.lookup_cons] at h'
  split at h'
  · rename_i q; rw [beq_iff_eq.mp q]; cases h'; exact ⟨h, k, m⟩
  · cases h'
noncomputable abbrev ltN (l : List Nat) (i j : Nat) : Bool := gl (fun a b => a == b) (fun a b => decide (a < b)) (l.drop i) (l.drop j)
noncomputable abbrev ltS (l : List (List Nat)) (i j : Nat) : Bool := gl (fun a b => a == b) (fun a b => decide ((S a).cps.toList < (S b).cps.toList)) (l.drop i) (l.drop j)
noncomputable abbrev ltT (t : Int) (i j : Nat) : Bool := if ((i : Int).fmod t) == ((j : Int).fmod t) then (if -(i : Int) == -(j : Int) then false else decide (-(i : Int) < -(j : Int))) else decide ((i : Int).fmod t < (j : Int).fmod t)
section
variable {w : World} {A : Around} {env : Env} {post : Post} {sc : List Int}
noncomputable def lawB : List Stmt := ((stmBody (stm 70)).drop 9).take 3
noncomputable abbrev rhoB (sc : List Int) (p1 p2 p3 : Array Nat) : Rho := ("dealt", .list (intsD p3.toList)) :: ("spelt", .list (intsD p2.toList)) :: ("ranked", .list (intsD p1.toList)) :: rhoA sc
theorem law_b (fc : FC (funD (o_192 w.params)) env) (hA : AOk A 59) (h2 : 2 ≤ (rowN sc).length) (hO : Ord (rowN sc).length (ltS (wordsN sc))) (p : ∀ p1 p2 p3 X ρ, Pm (rowN sc).length p1 → Asc (ltN (rowN sc)) p1 (rowN sc).length → Pm (rowN sc).length p2 → Asc (ltS (wordsN sc)) p2 (rowN sc).length →
    Pm (rowN sc).length p3 → Has [] (rhoB sc p1 p2 p3) X ρ → post .next X ρ) : Run w A env lawB [] (rhoA sc) post := by
  have hl := row_len sc
  have hq : env.qual ++ "<lambda>" = qualOf 189 := by rw [fc.qual]; kernel_rfl
  have hil : (intsD (rowN sc)).length = (rowN sc).length := by simp [intsD]
  have hwl : (wordsN sc).length = (rowN sc).length := by simp [rowN]
  obtain ⟨esc, _⟩ := env
  have hesc := fc.scope
  dsimp only at hesc
  subst hesc
  unfold lawB
  conv in (List.take _ _) => whnf
  conv in (List.take _ _) => whnf
  conv in (List.take _ _) => whnf
  refine run_cons (r1_sorted (k := 20) (n := (rowN sc).length) (kd := fun i => .list (intsD ((rowN sc).drop i))) (κ := oneType') (lt := ltN (rowN sc)) (fv := [("row", .list (intsD (rowN sc)))]) (i := "i") (ρ' := [("n", .int ((rowN sc).length : Nat)), ("row", .list (intsD (rowN sc)))])
    (hA.le (by lia)) fc rfl (by simp [TB]) (fun h I => I.t3) hq rfl (by kernel_rfl) (fc.kind (by kernel_rfl)) rfl (cr_same rfl (cr_same rfl cr_nil)) (ev_callT (n := 0) (hA.le (by lia)) c_rng1 (evl_cons (ev_name rfl) evl_nil) (fc.kind (by kernel_rfl)))
    (fv_one rfl (fc.kind (by kernel_rfl)) (by simp)) (by kernel_rfl) (by kernel_rfl) (by kernel_rfl) (fun clos pm cv ctv v => by kernel_rfl) (by kernel_rfl)
    (fun A' env' hA' hsc j hj => (ev_lfrom (ev_name rfl) (ev_name rfl) (by rw [hil]; lia)).cast (by rw [intsD, intsD, List.map_drop])) (key_ints _ h2) (ord_drop _) h2 (by lia) (fc.cst (by kernel_rfl)) fun p1 P1 A1 => ?_)
  refine run_cons (r1_sorted (k := 20) (n := (rowN sc).length) (kd := fun i => .list (strsD ((wordsN sc).drop i))) (κ := oneType') (lt := ltS (wordsN sc)) (fv := [("words", .list (strsD (wordsN sc)))]) (i := "i") (ρ' := [("n", .int ((rowN sc).length : Nat)), ("words", .list (strsD (wordsN sc)))])
    (hA.le (by lia)) fc rfl (by simp [TB]) (fun h I => I.t3) hq rfl (by kernel_rfl) (fc.kind (by kernel_rfl)) rfl (cr_same rfl (cr_same rfl cr_nil)) (ev_callT (n := 0) (hA.le (by lia)) c_rng1 (evl_cons (ev_name rfl) evl_nil) (fc.kind (by kernel_rfl)))
    (fv_one rfl (fc.kind (by kernel_rfl)) (by simp)) (by kernel_rfl) (by kernel_rfl) (by kernel_rfl) (fun clos pm cv ctv v => by kernel_rfl) (by kernel_rfl)
    (fun A' env' hA' hsc j hj => (ev_lfrom (ev_name rfl) (ev_name rfl) (by simp [strsD]; lia)).cast (by rw [strsD, strsD, List.map_drop])) (key_strs _ h2) hO h2 (by lia) (fc.cst (by kernel_rfl)) fun p2 P2 A2 => ?_)
  have ht := turn_pos sc
  refine run_cons (r1_sorted (k := 20) (n := (rowN sc).length) (kd := fun i => .tup [.int ((i : Int).fmod (turnZ sc)), .int (-(i : Int))]) (κ := tuples' (Value.type "int" != Value.type "tuple")) (lt := ltT (turnZ sc)) (fv := [("turn", .int (turnZ sc))]) (i := "i") (ρ' := [("n", .int ((rowN sc).length : Nat)), ("turn", .int (turnZ sc))])
    (hA.le (by lia)) fc rfl (by simp [TB]) (fun h I => I.t3) hq rfl (by kernel_rfl) (fc.kind (by kernel_rfl)) rfl (cr_same rfl (cr_same rfl cr_nil)) (ev_callT (n := 0) (hA.le (by lia)) c_rng1 (evl_cons (ev_name rfl) evl_nil) (fc.kind (by kernel_rfl)))
    (fv_one rfl (fc.kind (by kernel_rfl)) (by simp)) (by kernel_rfl) (by kernel_rfl) (by kernel_rfl) (fun clos pm cv ctv v => by kernel_rfl) (by kernel_rfl)
    (fun A' env' hA' hsc j hj => ev_tup (evl_cons (ev_bin (ev_name rfl) (ev_name rfl) (op_mod (by lia))) (evl_cons (ev_neg (ev_name rfl)) evl_nil)) (by simp)) (key_tups (fun i => (i : Int).fmod (turnZ sc)) (fun i => -(i : Int)) h2) (ord_tups _ _ fun i j _ _ e => by lia) h2 (by lia) (fc.lst (by kernel_rfl)) fun p3 P3 A3 => ?_)
  exact run_nil (p p1 p2 p3 _ _ P1 A1 P2 A2 P3 ⟨rfl, Sub.refl _⟩)
end
end Tn
end
section
-- TnL3
open PySem PySem.W PySem.Calls PySem.Spec PyProof.Rows
set_option maxRecDepth 100000
set_option linter.unusedVariables false
namespace Tn
structure Deal (n : Nat) (o : List Nat) : Prop where
  len : o.length = n
  lt : ∀ i, i < n → o.getD i 0 < n
  inj : ∀ i j, i < n → j < n → o.getD i 0 = o.getD j 0 → i = j
theorem deal_of {n : Nat} {o : List Nat} (p : List.Perm o (List.range n)) : Deal n o := by
  have hl : o.length = n := by rw [p.length_eq, List.length_range]
  have nd : o.Nodup := p.nodup_iff.mpr List.nodup_range
  refine ⟨hl, fun i hi => ?_, fun i j hi hj e => ?_⟩
  · rw [getD_of (by lia)]
    exact List.mem_range.mp (p.subset (List.getElem_mem _))
  · rw [getD_of (by lia), getD_of (by lia)] at e
    exact (List.getElem_inj nd).mp e
theorem shared_lt {r : List Nat} (h : ∀ d ∈ r, d < 64 ∧ d ≠ 0) (hl : r.length ≤ 14) (a b : Nat) : val64 (r.drop a) ^^^ val64 (r.drop b) < 2 ^ 96 := by
  have v : ∀ a, val64 (r.drop a) < 2 ^ 84 := fun a => by
    have := val64_lt (l := r.drop a) fun d m => (h d (List.mem_of_mem_drop m)).1
    refine Nat.lt_of_lt_of_le this ?_
    rw [show (2 : Nat) ^ 84 = 64 ^ 14 by decide]
    exact Nat.pow_le_pow_right (by decide) (by rw [List.length_drop]; lia)
  exact Nat.lt_of_lt_of_le (Nat.xor_lt_two_pow (v a) (v b)) (by decide)
theorem shared_Lt {r : List Nat} (h : ∀ d ∈ r, d < 64 ∧ d ≠ 0) {a b : Nat} (ha : a < r.length) (hb : b < r.length) (hab : a ≠ b) : lead0 (digs (val64 (r.drop a) ^^^ val64 (r.drop b))) = Lt r a b :=
  lead_lcp (fun d m => h d (List.mem_of_mem_drop m)) (fun d m => h d (List.mem_of_mem_drop m)) fun q => by
    have := congrArg List.length q
    simp at this
    lia
theorem intsD_cons (a : Nat) (l : List Nat) : [D.int (a : Nat)] ++ intsD l = intsD (a :: l) := rfl
theorem rng_ints (n : Nat) : rngD 0 1 n = intsD (List.range n) := by
  unfold rngD intsD
  apply List.map_congr_left
  intro i _
  congr 1; lia
theorem Lt_le (r : List Nat) (a b : Nat) : Lt r a b ≤ r.length := by
  unfold Lt
  exact Nat.le_trans (lcp_len _ _) (by rw [List.length_drop]; lia)
theorem adj_le {r : List Nat} : ∀ {o : List Nat}, ∀ x ∈ adj r o, x ≤ r.length
  | [], x, h => by cases h
  | [a], x, h => by cases h
  | a :: b :: t, x, h => by
    rw [adj] at h
    rcases List.mem_cons.mp h with h | h
    · rw [h]; exact Lt_le _ _ _
    · exact adj_le x h
theorem maxN_le {l : List Nat} {k : Nat} (h : ∀ a ∈ l, a ≤ k) : maxN l ≤ k := by
  induction l with
  | nil => simp [maxN]
  | cons a r ih =>
    have := ih fun x m => h x (by simp [m])
    have := h a (by simp)
    rw [maxN]; lia
theorem leads_le {r : List Nat} : ∀ {o seen : List Nat}, ∀ x ∈ leadsOf r seen o, x ≤ r.length
  | [], seen, x, h => by cases h
  | a :: t, seen, x, h => by
    rw [leadsOf] at h
    rcases List.mem_cons.mp h with h | h
    · rw [h]
      refine maxN_le fun y m => ?_
      obtain ⟨j, _, rfl⟩ := List.mem_map.mp m
      exact Lt_le _ _ _
    · exact leads_le x h
theorem adj_len (r : List Nat) (o : List Nat) : (adj r o).length = o.length - 1 := by
  rw [← adj_range]; simp
section
variable {w : World} {A : Around} {env : Env} {post : Post} {sc : List Int}
noncomputable def lawC : List Stmt := ((stmBody (stm 70)).drop 12).take 4
noncomputable abbrev rhoC (sc : List Int) (H : List Nat) : Rho := [("first", wsD H (rowN sc).length), ("n", .int ((rowN sc).length : Nat)), ("row", .list (intsD (rowN sc)))]
theorem law_c (fc : FC (funD (o_192 w.params)) env) (hA : AOk A 59) (h2 : 2 ≤ (rowN sc).length) {p1 p2 p3 : Array Nat} (P1 : Pm (rowN sc).length p1) (P2 : Pm (rowN sc).length p2) (P3 : Pm (rowN sc).length p3) {H : List Nat} (hH : H.length ≤ 900)
    (e1 : hx (0 :: adj (rowN sc) p1.toList) = H) (e2 : hx (0 :: adj (rowN sc) p2.toList) = H) (e3 : hx (leadsOf (rowN sc) [] (List.range (rowN sc).length)) = H) (e4 : hx (leadsOf (rowN sc) [] p3.toList) = H)
    (p : ∀ X ρ, Has [] (rhoC sc H) X ρ → post .next X ρ) : Run w A env lawC [] (rhoB sc p1 p2 p3) post := by
  have hl := row_len sc
  have hr := row_dig sc
  have hil : (intsD (rowN sc)).length = (rowN sc).length := by simp [intsD]
  obtain ⟨esc, _⟩ := env
  have hesc := fc.scope
  dsimp only at hesc
  subst hesc
  unfold lawC
  conv in (List.take _ _) => whnf
  conv in (List.take _ _) => whnf
  conv in (List.take _ _) => whnf
  conv in (List.take _ _) => whnf
  unfold rhoC at p
  unfold rhoB rhoA
  generalize hrow : rowN sc = r at *
  have D1 := deal_of P1.perm
  have D2 := deal_of P2.perm
  have z0 : (List.range (r.length - 1)).map (fun k => Lt r (p1.toList.getD k 0) (p1.toList.getD (k + 1) 0)) = adj r p1.toList := by
    have := adj_range r p1.toList
    rwa [D1.len] at this
  have lenA : (0 :: adj r p1.toList).length = r.length := by rw [List.length_cons, adj_len, D1.len]; lia
  have cl1 := call_lead (w := w) (n := 0) (l := 0 :: adj r p1.toList) (by rw [lenA]; lia) (fun s hs => by
    rcases List.mem_cons.mp hs with h | h
    · lia
    · have := adj_le s h; lia)
  rw [e1, lenA] at cl1
  refine run_cons (r1_assign (d := wsD H r.length) (fc.lst (by kernel_rfl)) (ev_callG (n := 6) (hA.le (by lia)) cl1 (evl_cons ((ev_bin (ev_list (evl_cons ev_int evl_nil) (by decide)) (EvN.ev (evn_map (d := .rng 1 (r.length : Nat) 1) (es := rngD 1 1 (r.length - 1)) (fun k => D.int (Lt r (p1.toList.getD k 0) (p1.toList.getD (k + 1) 0) : Nat)) [("tails", .list ((List.range r.length).map fun i => D.int (val64 (r.drop i) : Nat))), ("ranked", .list (intsD p1.toList))] hA.hh
    (ev_callT (n := 0) (hA.le (by lia)) c_rng2 (evl_cons ev_int (evl_cons (ev_name rfl) evl_nil)) (fc.kind (by kernel_rfl))) (itb_rng1 (by lia) (by lia) (by lia) (by lia) (by lia)) (by rw [rngD_len]; lia) (.cons rfl (.inl (fc.kind (by kernel_rfl))) (.cons rfl (.inl (fc.kind (by kernel_rfl))) .nil)) (by kernel_rfl) ?_)) (op_ladd (by simp [rngD_len]; lia))).cast ?_) evl_nil) (fc.kind (by kernel_rfl))) ?_)
  · intro cenv ce i e he
    obtain ⟨hi, rfl⟩ := rngD_get he
    have a1 := D1.lt i (by lia)
    have a2 := D1.lt (i + 1) (by lia)
    have a3 : p1.toList.getD i 0 ≠ p1.toList.getD (i + 1) 0 := fun q => by have := D1.inj _ _ (by lia) (by lia) q; lia
    have cs := call_shared (w := w) (n := 0) (shared_lt hr hl (p1.toList.getD i 0) (p1.toList.getD (i + 1) 0))
    rw [shared_Lt hr a1 a2 a3] at cs
    have g1 : (intsD p1.toList)[((1 : Int) + i * 1 - 1).toNat]? = some (.int (p1.toList.getD i 0 : Nat)) := by
      have := intsD_get (l := p1.toList) (j := i) (by rw [D1.len]; lia)
      rwa [show ((1 : Int) + i * 1 - 1).toNat = ((i : Nat) : Int).toNat by lia]
    have g2 : (intsD p1.toList)[((1 : Int) + i * 1).toNat]? = some (.int (p1.toList.getD (i + 1) 0 : Nat)) := by
      have := intsD_get (l := p1.toList) (j := i + 1) (by rw [D1.len]; lia)
      rwa [show ((1 : Int) + i * 1).toNat = ((i + 1 : Nat) : Int).toNat by lia]
    have g3 : ∀ a, a < r.length → ((List.range r.length).map fun i => D.int (val64 (r.drop i) : Nat))[((a : Nat) : Int).toNat]? = some (.int (val64 (r.drop a) : Nat)) := fun a ha => by
      rw [show ((a : Nat) : Int).toNat = a by lia, List.getElem?_map, List.getElem?_range ha]; rfl
    exact ev_callG (n := 22) (hA.le (by lia)) cs (evl_cons (ev_litem (ev_name rfl) (ev_litem (ev_name rfl) (ev_bin (ev_name rfl) ev_int op_sub) (by lia) (by lia) g1) (by lia) (by lia) (g3 _ a1)) (evl_cons (ev_litem (ev_name rfl) (ev_litem (ev_name rfl) (ev_name rfl) (by lia) (by lia) g2) (by lia) (by lia) (g3 _ a2)) evl_nil)) (ce.kind _ _ (by kernel_rfl) nofun)
  · rw [rngD_len, ← z0]
    show D.list _ = D.list _
    unfold intsD
    rw [List.map_cons, List.map_map]
    rfl
  have gtab : ∀ a, a < r.length → ((List.range (r.length + 1)).map fun i => D.list (rowD r.length (Lt r i)))[((a : Nat) : Int).toNat]? = some (D.list (rowD r.length (Lt r a))) := fun a ha => range_get _ (by lia)
  have gent : ∀ a b, b < r.length → (rowD r.length (Lt r a))[((b : Nat) : Int).toNat]? = some (.int (Lt r a b : Nat)) := fun a b hb => range_get _ (by lia)
  have z2 : (List.range (r.length - 1)).map (fun k => Lt r (p2.toList.getD k 0) (p2.toList.getD (k + 1) 0)) = adj r p2.toList := by
    have := adj_range r p2.toList
    rwa [D2.len] at this
  have lenB : (0 :: adj r p2.toList).length = r.length := by rw [List.length_cons, adj_len, D2.len]; lia
  have cl2 := call_lead (w := w) (n := 0) (l := 0 :: adj r p2.toList) (by rw [lenB]; lia) (fun s hs => by
    rcases List.mem_cons.mp hs with h | h
    · lia
    · have := adj_le s h; lia)
  rw [e2, lenB] at cl2
  refine run_cons (r1_new (ds := [wsD H r.length]) (fc.lst (by kernel_rfl)) (evn_list (evl_cons (ev_callG (n := 6) (hA.le (by lia)) cl2 (evl_cons ((ev_bin (ev_list (evl_cons ev_int evl_nil) (by decide)) (EvN.ev (evn_map (d := .rng 1 (r.length : Nat) 1) (es := rngD 1 1 (r.length - 1)) (fun k => D.int (Lt r (p2.toList.getD k 0) (p2.toList.getD (k + 1) 0) : Nat)) [("spelt", .list (intsD p2.toList)), ("table", tabF r.length (Lt r))] hA.hh
    (ev_callT (n := 0) (hA.le (by lia)) c_rng2 (evl_cons ev_int (evl_cons (ev_name rfl) evl_nil)) (fc.kind (by kernel_rfl))) (itb_rng1 (by lia) (by lia) (by lia) (by lia) (by lia)) (by rw [rngD_len]; lia) (.cons rfl (.inl (fc.kind (by kernel_rfl))) (.cons rfl (.inl (fc.kind (by kernel_rfl))) .nil)) (by kernel_rfl) ?_)) (op_ladd (by simp [rngD_len]; lia))).cast ?_) evl_nil) (fc.kind (by kernel_rfl))) evl_nil) (by simp)) fun a => ?_)
  · intro cenv ce i e he
    obtain ⟨hi, rfl⟩ := rngD_get he
    have a1 := D2.lt i (by lia)
    have a2 := D2.lt (i + 1) (by lia)
    have g1 : (intsD p2.toList)[((1 : Int) + i * 1 - 1).toNat]? = some (.int (p2.toList.getD i 0 : Nat)) := by
      have := intsD_get (l := p2.toList) (j := i) (by rw [D2.len]; lia)
      rwa [show ((1 : Int) + i * 1 - 1).toNat = ((i : Nat) : Int).toNat by lia]
    have g2 : (intsD p2.toList)[((1 : Int) + i * 1).toNat]? = some (.int (p2.toList.getD (i + 1) 0 : Nat)) := by
      have := intsD_get (l := p2.toList) (j := i + 1) (by rw [D2.len]; lia)
      rwa [show ((1 : Int) + i * 1).toNat = ((i + 1 : Nat) : Int).toNat by lia]
    exact ev_litem (ev_litem (ev_name rfl) (ev_litem (ev_name rfl) (ev_bin (ev_name rfl) ev_int op_sub) (by lia) (by lia) g1) (by lia) (by lia) (gtab _ a1)) (ev_litem (ev_name rfl) (ev_name rfl) (by lia) (by lia) g2) (by lia) (by lia) (gent _ _ a2)
  · rw [rngD_len, ← z2]
    show D.list _ = D.list _
    unfold intsD
    rw [List.map_cons, List.map_map]
    rfl
  refine run_cons (r1_for (d := .tup [.list (rngD 0 1 r.length), .list (intsD p3.toList)]) (es := [.list (rngD 0 1 r.length), .list (intsD p3.toList)]) hA.hh (fc.cst (by kernel_rfl))
    (ev_tup (evl_cons (ev_callT (n := 0) (hA.le (by lia)) (c_list_rng (small_ok (by lia) (by lia) (by lia) (by lia)) (by rw [rangeSize_one]; split <;> lia) (by lia)) (evl_cons (ev_callT (n := 0) (hA.le (by lia)) c_rng1 (evl_cons (ev_name rfl) evl_nil) (fc.kind (by kernel_rfl))) evl_nil) (fc.kind (by kernel_rfl))) (evl_cons (ev_name rfl) evl_nil)) (by simp)) itb_tup
    (fun i X ρ => Has [(a, List.replicate (i + 1) (wsD H r.length))] [("leads", .ref a), ("first", wsD H r.length), ("table", tabF r.length (Lt r)), ("n", .int (r.length : Nat)), ("row", .list (intsD r))] X ρ) ⟨rfl, sub_cons rfl (sub_cons rfl (sub_cons rfl (sub_cons rfl (sub_cons rfl sub_nil))))⟩ ?_ ?_)
  · rintro i X' ρ' e he hv
    obtain ⟨o, rfl, Do, eo⟩ : ∃ o, e = .list (intsD o) ∧ Deal r.length o ∧ hx (leadsOf r [] o) = H := by
      match i, he with
      | 0, he =>
        cases he
        exact ⟨List.range r.length, by rw [rng_ints], deal_of (List.Perm.refl _), e3⟩
      | 1, he =>
        cases he
        exact ⟨p3.toList, rfl, deal_of P3.perm, e4⟩
      | i + 2, he => simp at he
    have hi2 : i < 2 := (List.getElem?_eq_some_iff.mp he).1
    refine run_base1 hv ?_
    have lenO : (leadsOf r [] o).length = r.length := by rw [← leads_range0]; simp [Do.len]
    have zo : (List.range r.length).map (fun k => maxN ((List.range k).map fun j => Lt r (o.getD k 0) (o.getD j 0))) = leadsOf r [] o := by
      have := leads_range0 r o
      rwa [Do.len] at this
    have clo := call_lead (w := w) (n := 0) (l := leadsOf r [] o) (by rw [lenO]; lia) (fun s hs => by have := leads_le s hs; lia)
    rw [eo, lenO] at clo
    have go : ∀ k, k < r.length → (intsD o)[((k : Nat) : Int).toNat]? = some (.int (o.getD k 0 : Nat)) := fun k hk => intsD_get (by rw [Do.len]; lia)
    refine run_cons (r1_append (X₁ := []) (X₂ := []) (d := wsD H r.length) rfl (ev_callG (n := 6) (hA.le (by lia)) clo (evl_cons ((EvN.ev (evn_map (d := .rng 0 (r.length : Nat) 1) (es := rngD 0 1 r.length) (fun k => D.int (maxN ((List.range k).map fun j => Lt r (o.getD k 0) (o.getD j 0)) : Nat)) [("order", .list (intsD o)), ("table", tabF r.length (Lt r))] hA.hh
      (ev_callT (n := 0) (hA.le (by lia)) c_rng1 (evl_cons (ev_name rfl) evl_nil) (fc.kind (by kernel_rfl))) (itb_rng1 (by lia) (by lia) (by lia) (by lia) (by lia)) (by rw [rngD_len]; lia) (.cons rfl (.inl (fc.kind (by kernel_rfl))) (.cons rfl (.inl (fc.kind (by kernel_rfl))) .nil)) (by kernel_rfl) ?_)).cast ?_) evl_nil) (fc.kind (by kernel_rfl))) (by simp; lia) ?_)
    · intro cenv ce k e he
      obtain ⟨hk, rfl⟩ := rngD_get he
      have ek : (0 : Int) + k * 1 = (k : Nat) := by lia
      rw [ek]
      refine (ev_callB (n := 0) (hA.le (by lia)) (c_max (ns := 0 :: ((List.range k).map fun j => Lt r (o.getD k 0) (o.getD j 0)).map fun (x : Nat) => (x : Int)) (by simp)) (evl_cons ((ev_bin (ev_list (evl_cons ev_int evl_nil) (by decide)) (EvN.ev (evn_map (d := .rng 0 (k : Nat) 1) (es := rngD 0 1 k) (fun j => D.int (Lt r (o.getD k 0) (o.getD j 0) : Nat)) [("k", .int (k : Nat)), ("order", .list (intsD o)), ("table", tabF r.length (Lt r))] hA.hh
        (ev_callT (n := 0) (hA.le (by lia)) c_rng1 (evl_cons (ev_name rfl) evl_nil) (ce.kind _ _ (by kernel_rfl) nofun)) (itb_rng1 (by lia) (by lia) (by lia) (by lia) (by lia)) (by rw [rngD_len]; lia) (.cons rfl (.inl (ce.kind _ _ (by kernel_rfl) nofun)) (.cons rfl (ce.free _ (by kernel_rfl)).symm (.cons rfl (ce.free _ (by kernel_rfl)).symm .nil))) (by kernel_rfl) ?_)) (op_ladd (by simp [rngD_len]; lia))).cast ?_) evl_nil) (ce.kind _ _ (by kernel_rfl) nofun)).cast ?_
      · intro cenv' ce' j e he
        obtain ⟨hj, rfl⟩ := rngD_get he
        have ej : (0 : Int) + j * 1 = (j : Nat) := by lia
        rw [ej]
        have b1 := Do.lt k hk
        have b2 := Do.lt j (by lia)
        exact ev_litem (ev_litem (ev_name rfl) (ev_litem (ev_name rfl) (ev_name rfl) (by lia) (by lia) (go k hk)) (by lia) (by lia) (gtab _ (Do.lt k hk))) (ev_litem (ev_name rfl) (ev_name rfl) (by lia) (by lia) (go j (by lia))) (by lia) (by lia) (gent _ _ (Do.lt j (by lia)))
      · rw [rngD_len]
        show D.list _ = D.list _
        rw [List.map_cons, List.map_map, List.map_map]
        rfl
      · rw [maxL_zero]
    · rw [rngD_len, ← zo]
      show D.list _ = D.list _
      unfold intsD
      rw [List.map_map]
      rfl
    · refine run_nil ⟨?_, sub_cons rfl (sub_cons rfl (sub_cons rfl (sub_cons rfl (sub_cons rfl sub_nil))))⟩
      rw [List.nil_append, List.replicate_succ' (n := i + 1)]
  · rintro X' ρ' hv
    refine run_base hv ?_
    refine run_freeze (x := "leads") (X₁ := []) (X₂ := []) rfl ?_
    have crl : ∀ {e : D}, e ∈ List.replicate 3 (wsD H r.length) → e = wsD H r.length := fun m => List.eq_of_mem_replicate m
    refine run_cons (r1_for (d := .list (List.replicate 3 (wsD H r.length))) (es := List.replicate 3 (wsD H r.length)) hA.hh (fc.lst (by kernel_rfl)) (ev_name rfl) itb_list
      (fun i X ρ => Has [] [("first", wsD H r.length), ("n", .int (r.length : Nat)), ("row", .list (intsD r))] X ρ) ⟨rfl, sub_cons rfl (sub_cons rfl (sub_cons rfl sub_nil))⟩ ?_ ?_)
    · rintro i X' ρ' e he hv
      have := crl (List.mem_of_getElem? he)
      subst this
      refine run_base1 hv ?_
      refine run_cons (r1_if ((evT_or2 (evT_not (evT_bool (ev_wmeth (n := 2) (hA.le (by lia)) (ev_name rfl) (evl_cons (ev_name rfl) evl_nil) (call_equal (n := 0)) f_equal (by kernel_rfl) (by kernel_rfl) (by simp)) fun _ => rfl))
        (evT_cmp (ev_wmeth (n := 4) (hA.le (by lia)) (ev_name rfl) (evl_cons (ev_name rfl) evl_nil) (call_witness (n := 0) hH) f_witness (by kernel_rfl) (by kernel_rfl) (by simp)) (ev_list evl_nil (by decide)) rfl (op_lne (n := 0) hA (by lia) fun d m => by cases m))).cast (b' := false) rfl) (fun h => nomatch h) fun _ => ?_)
      exact run_nil (run_nil ⟨rfl, sub_cons rfl (sub_cons rfl (sub_cons rfl sub_nil))⟩)
    · rintro X' ρ' hv
      exact run_nil (p _ _ hv)
end
end Tn
end
section
-- TnP16
open PySem PySem.W PySem.Calls PySem.Spec PyProof.Rows
set_option linter.unusedVariables false
namespace Tn
/-- the leads, as they are met -/
noncomputable abbrev Ld (r : List Nat) : List Nat := leadsOf r [] (List.range r.length)
/-- the ranks of the four numbers, as their words are ordered -/
noncomputable def gk (x : Nat) : Nat := if x = 15 then 0 else if x = 51 then 1 else if x = 21 then 2 else 3
theorem gl_words : ∀ (a b : List (List Nat)), (∀ x ∈ a, IsWd x) → (∀ x ∈ b, IsWd x) → gl (fun a b => a == b) (fun a b => decide ((S a).cps.toList < (S b).cps.toList)) a b = gl (fun a b => a == b) (fun a b => decide (a < b)) (a.map fun x => gk (nmOf x)) (b.map fun x => gk (nmOf x))
  | [], [], _, _ => rfl
  | [], _ :: _, _, _ => rfl
  | _ :: _, [], _, _ => rfl
  | x :: a, y :: b, ha, hb => by
    have ih := gl_words a b (fun z m => ha z (by simp [m])) (fun z m => hb z (by simp [m]))
    rw [List.map_cons, List.map_cons, gl, gl, ih]
    have key : (x == y) = (gk (nmOf x) == gk (nmOf y)) ∧ decide ((S x).cps.toList < (S y).cps.toList) = decide (gk (nmOf x) < gk (nmOf y)) := by
      rcases ha x (by simp) with rfl | rfl | rfl | rfl <;> rcases hb y (by simp) with rfl | rfl | rfl | rfl <;> exact ⟨by decide, by decide⟩
    rw [key.1, key.2]
theorem ltS_ltN {W : List (List Nat)} (h : ∀ x ∈ W, IsWd x) (i j : Nat) : ltS W i j = ltN ((W.map nmOf).map gk) i j := by
  unfold ltS ltN
  rw [gl_words _ _ (fun x m => h x (List.mem_of_mem_drop m)) (fun x m => h x (List.mem_of_mem_drop m)), List.map_map, ← List.map_drop, ← List.map_drop]
  rfl
theorem nm_in {x : List Nat} (h : IsWd x) : nmOf x = 15 ∨ nmOf x = 51 ∨ nmOf x = 21 ∨ nmOf x = 34 := by
  rcases h with rfl | rfl | rfl | rfl <;> decide
theorem Lt_rank {r : List Nat} (h : ∀ x ∈ r, x = 15 ∨ x = 51 ∨ x = 21 ∨ x = 34) (a b : Nat) : Lt r a b = lcp ((r.map gk).drop a) ((r.map gk).drop b) := by
  unfold Lt
  rw [← List.map_drop, ← List.map_drop, lcp_map]
  intro x hx y hy e
  rcases h x (List.mem_of_mem_drop hx) with rfl | rfl | rfl | rfl <;> rcases h y (List.mem_of_mem_drop hy) with rfl | rfl | rfl | rfl <;> first | rfl | (simp [gk] at e)
theorem asc_pair {n : Nat} {lt : Nat → Nat → Bool} {p : Array Nat} {R : Nat → Nat → Prop} (P : Pm n p) (h : Asc lt p n) (hR : ∀ a b, lt a b = true → R a b) : p.toList.Pairwise R := by
  rw [List.pairwise_iff_getElem]
  intro i j hi hj hij
  have h1 : j < n := by rw [← P.size]; simpa using hj
  have h2 := hR _ _ (h i j hij h1)
  have ei : p.getD i 0 = p.toList[i] := by have : i < p.size := by simpa using hi
                                           simp [Array.getD, this]
  have ej : p.getD j 0 = p.toList[j] := by have : j < p.size := by simpa using hj
                                           simp [Array.getD, this]
  rwa [ei, ej] at h2
theorem hx_hist {l : List Nat} (h : l ≠ []) : hx l = hist l := by simp [hx, h]
theorem leads_hx {r o : List Nat} (p : List.Perm o (List.range r.length)) (h : r ≠ []) : hx (leadsOf r [] o) = hist (Ld r) := by
  have hn : leadsOf r [] o ≠ [] := fun q => by
    have := congrArg List.length q
    rw [leads_len, p.length_eq] at this
    simp at this
    exact h this
  rw [hx_hist hn]
  exact hist_eq (leads_hist p (List.Perm.refl _))
theorem adj_hx {r : List Nat} {key : Nat → List Nat} (hk : ∀ a b, Lt r a b = lcp (key a) (key b)) {o : List Nat} (p : List.Perm o (List.range r.length)) (h : r ≠ []) (hs : o.Pairwise fun a b => lexLe (key a) (key b) = true) : hx (0 :: adj r o) = hist (Ld r) := by
  cases o with
  | nil =>
    have := p.length_eq
    simp at this
    exact absurd this.symm (by simpa using h)
  | cons i t =>
    rw [← sorted_adj hk hs]
    exact leads_hx p h
end Tn
end
section
-- TnP17
open PySem PySem.W PySem.Calls PySem.Spec PyProof.Rows
set_option linter.unusedVariables false
namespace Tn
theorem rd_cnt2 : ∀ (n : Nat) (s : List Nat), s.length ≤ n → cnt s ≤ 2 * (rd s).length
  | _, [], _ => Nat.le_refl _
  | 0, _ :: _, hl => by simp at hl
  | n + 1, [c], _ => by
    unfold cnt
    rw [rd]
    cases h : isC8 c <;> simp [h]
  | n + 1, c :: d :: r, hl => by
    have i1 := rd_cnt2 n r (by simp at hl; lia)
    have i2 := rd_cnt2 n (d :: r) (by simp at hl ⊢; lia)
    unfold cnt at i1 i2 ⊢
    rw [rd]
    cases h : isC8 c
    · rw [List.filter_cons_of_pos (by simp [h])]
      simp only [Bool.false_eq_true, if_false]
      split
      · rename_i hp
        have hd : d = 62 := by
          simp only [Bool.or_eq_true, Bool.and_eq_true, beq_iff_eq] at hp
          rcases hp with ⟨_, q⟩ | ⟨_, q⟩ <;> exact q
        subst hd
        rw [List.filter_cons_of_pos (by decide)]
        simp only [List.length_cons]
        lia
      · simp only [List.length_cons] at i2 ⊢; lia
    · rw [List.filter_cons_of_neg (by simp [h])]
      simpa using i2
theorem cnt_pc1 (x : Nat) : 1 ≤ cnt (pcQ x) := by
  unfold cnt pcQ
  split
  · decide
  · split
    · decide
    · split
      · decide
      · have := gaps_c8 _ (getD_mem (l := gapsL) (j := x / 4 % 8) (by simp [gapsL]; lia))
        simp only [List.filter_cons, List.filter_nil, this, c8_62]
        exact (by decide : 1 ≤ 2)
theorem cnt_se1 (sc : List Int) : ∀ k, k ≤ cnt (seN sc k)
  | 0 => Nat.zero_le _
  | k + 1 => by
    rw [seN_succ]
    have h1 := cnt_se1 sc k
    have h2 := cnt_pc1 (xAt sc k)
    unfold cnt at h1 h2 ⊢
    rw [List.filter_append, List.length_append]
    lia
theorem row_ge (sc : List Int) : 2 ≤ (rowN sc).length := by
  have h1 := cnt_se1 sc 7
  have h2 := rd_cnt2 _ (seN sc 7) (Nat.le_refl _)
  unfold rowN wordsN
  rw [List.length_map, seen_sg]
  lia
theorem sum_zero {f : Nat → Nat} : ∀ {l : List Nat}, (∀ x ∈ l, f x = 0) → (l.map f).sum = 0
  | [], _ => rfl
  | a :: r, h => by rw [List.map_cons, List.sum_cons, h a (by simp), sum_zero fun x m => h x (by simp [m])]
theorem sum_one (f : Nat → Nat) (a : Nat) : ∀ N, a < N → ((List.range N).map fun x => f x * if x = a then 1 else 0).sum = f a
  | 0, h => by lia
  | N + 1, h => by
    rw [List.range_succ, List.map_append, List.sum_append]
    by_cases q : a = N
    · subst q
      rw [sum_zero fun x m => ?_]
      · simp
      · have := List.mem_range.mp m
        rw [if_neg (by lia)]; simp
    · rw [sum_one f a N (by lia)]
      simp [Ne.symm q]
theorem ceq_cons (x a : Nat) (l : List Nat) : ceq x (a :: l) = (if x = a then 1 else 0) + ceq x l := by
  unfold ceq
  by_cases h : a = x
  · subst h; simp; lia
  · simp [h, Ne.symm h]
theorem sum_ceq (f : Nat → Nat) (N : Nat) : ∀ l : List Nat, (∀ a ∈ l, a < N) → ((List.range N).map fun x => f x * ceq x l).sum = (l.map f).sum
  | [], _ => by rw [sum_zero fun x _ => by simp [ceq]]; rfl
  | a :: r, h => by
    have : (fun x => f x * ceq x (a :: r)) = fun x => (f x * if x = a then 1 else 0) + f x * ceq x r := funext fun x => by rw [ceq_cons, Nat.mul_add]
    rw [this, sum_add, sum_one f a N (h a (by simp)), sum_ceq f N r fun x m => h x (by simp [m]), List.map_cons, List.sum_cons]
theorem hist_getD (l : List Nat) (j : Nat) : (hist l).getD j 0 = ceq j l := by
  by_cases h : l = []
  · subst h
    unfold hist
    by_cases q : j < 1
    · have : j = 0 := by lia
      subst this; rfl
    · simp [List.getD, maxN, ceq, q]
  · rw [← hx_hist h]; exact hx_get l j
theorem maxN_mem_le {l : List Nat} {a : Nat} (h : a ∈ l) : a ≤ maxN l := by
  rcases Nat.eq_zero_or_pos a with z | z
  · lia
  · exact (maxN_ge z).mpr ⟨a, h, Nat.le_refl _⟩
theorem ilv_sum {l : List Nat} {size : Nat} (hs : 0 < size) : ilv (hist l) size ((hist l).length - size) = (l.map fun a => a / size).sum := by
  have hlen : (hist l).length = maxN l + 1 := by simp [hist]
  rw [hlen, ← sum_ceq (fun a => a / size) (maxN l + 1) l fun a m => Nat.lt_succ_of_le (maxN_mem_le m)]
  unfold ilv
  simp only [hist_getD]
  by_cases q : size ≤ maxN l + 1
  · obtain ⟨d, hd⟩ : ∃ d, maxN l + 1 = size + d := ⟨maxN l + 1 - size, by lia⟩
    have z : ((List.range size).map fun x => x / size * ceq x l).sum = 0 := sum_zero fun x m => by
      have := List.mem_range.mp m
      show x / size * ceq x l = 0
      rw [Nat.div_eq_of_lt this, Nat.zero_mul]
    rw [hd, Nat.add_sub_cancel_left, List.range_add, List.map_append, List.sum_append, z, Nat.zero_add, List.map_map]
    rfl
  · rw [show maxN l + 1 - size = 0 by lia]
    symm
    refine sum_zero fun x m => ?_
    have := List.mem_range.mp m
    show x / size * ceq x l = 0
    rw [Nat.div_eq_of_lt (by lia), Nat.zero_mul]
/-- indent_level(size) is size * due -/
theorem lvl_due {r : List Nat} {size : Nat} (hs : 0 < size) : lvl (hist (Ld r)) r.length size = size * (r.length + ((List.range (r.length / size)).map fun j => cge ((j + 1) * size) (Ld r)).sum) := by
  unfold lvl
  rw [ilv_sum hs, div_sum hs (J := r.length / size) _ fun a m => Nat.div_le_div_right (leads_le a m), Nat.add_comm]
theorem ndist_pos {α : Type} [DecidableEq α] : ∀ {l : List α}, l ≠ [] → 1 ≤ ndist l
  | [], h => absurd rfl h
  | [a], _ => by simp [ndist]
  | a :: b :: r, _ => by
    have := ndist_pos (l := b :: r) (by simp)
    rw [ndist]
    split <;> lia
theorem kinds_zero (r : List Nat) : kindsN r 0 = 1 := by
  unfold kindsN
  have : ∀ (k : Nat) (f : Nat → List Nat), (∀ i, f i = []) → ndist ((List.range (k + 1)).map f) = 1 := fun k f hf => by
    have e : (List.range (k + 1)).map f = List.replicate (k + 1) [] := by
      apply List.ext_getElem (by simp)
      intro i h1 h2
      simp [hf]
    rw [e]
    clear e
    induction k with
    | zero => rfl
    | succ k ih =>
      rw [List.replicate_succ, ndist, if_pos (by simp), ih]
  exact this r.length _ fun i => by simp
theorem longest {r : List Nat} (h : r ≠ []) : maxL (((List.range r.length).filter fun k => decide (kindsN r k + k ≤ r.length)).map fun (k : Nat) => (k : Int)) = (maxN (Ld r) : Nat) := by
  have hn : 0 < r.length := List.length_pos_iff.mpr h
  have hc : ∀ k, 1 ≤ k → cge k (Ld r) + kindsN r k = r.length + 1 - k := fun k hk => leads_count hk (List.Perm.refl _)
  have h0 : (0 : Int) ∈ ((List.range r.length).filter fun k => decide (kindsN r k + k ≤ r.length)).map fun (k : Nat) => (k : Int) := by
    refine List.mem_map.mpr ⟨0, List.mem_filter.mpr ⟨List.mem_range.mpr hn, ?_⟩, rfl⟩
    rw [kinds_zero]
    simp; lia
  apply Int.le_antisymm
  · have m := maxL_mem (l := ((List.range r.length).filter fun k => decide (kindsN r k + k ≤ r.length)).map fun (k : Nat) => (k : Int)) (List.ne_nil_of_mem h0)
    obtain ⟨k, hk, e⟩ := List.mem_map.mp m
    rw [← e]
    obtain ⟨k1, k2⟩ := List.mem_filter.mp hk
    have k2 := of_decide_eq_true k2
    rcases Nat.eq_zero_or_pos k with z | z
    · lia
    · have := hc k z
      have := (maxN_cge (l := Ld r) z).mpr (by lia)
      lia
  · rcases Nat.eq_zero_or_pos (maxN (Ld r)) with z | z
    · rw [z]; exact maxL_ge h0
    · have c1 := (maxN_cge (l := Ld r) z).mp (Nat.le_refl _)
      have c2 := hc _ z
      have hle : maxN (Ld r) ≤ r.length := by lia
      have kp : 1 ≤ kindsN r (maxN (Ld r)) := ndist_pos (by
        intro q
        have := congrArg List.length q
        simp at this
        lia)
      refine maxL_ge (List.mem_map.mpr ⟨maxN (Ld r), List.mem_filter.mpr ⟨List.mem_range.mpr (by lia), ?_⟩, rfl⟩)
      exact decide_eq_true (by lia)
theorem hist_len (l : List Nat) : (hist l).length = maxN l + 1 := by simp [hist]
theorem maxLd_le (r : List Nat) : maxN (Ld r) ≤ r.length := maxN_le fun a m => leads_le a m
end Tn
end
section
-- TnL4
open PySem PySem.W PySem.Calls PySem.Spec PyProof.Rows
set_option maxRecDepth 100000
set_option linter.unusedVariables false
namespace Tn
theorem itb_step {w : World} {A : Around} {n size : Nat} (h1 : 1 ≤ size) (h2 : size ≤ n) (hn : n ≤ 1000) : Itb w A (.rng (size : Nat) ((n : Nat) + 1) (size : Nat)) (rngD (size : Nat) (size : Nat) (n / size)) := by
  have hd : n / size ≤ n := Nat.div_le_self _ _
  have hs : Builtin.Range.rangeSize ((size : Nat) : Int) ((n : Nat) + 1) (size : Nat) = ((n / size : Nat) : Int) := by
    unfold Builtin.Range.rangeSize
    rw [if_pos (by lia), if_pos (by lia), show (n : Int) + 1 - size - 1 = ((n - size : Nat) : Int) by lia]
    have e : n / size = (n - size) / size + 1 := by
      conv => lhs; rw [show n = (n - size) + size by lia]
      rw [Nat.add_div_right _ (by lia)]
    rw [e]
    push_cast
    rfl
  generalize n / size = m at hd hs ⊢
  refine itb_rng ?_ m hs
  unfold Builtin.Range.small
  rw [hs]
  simp only [Builtin.Range.rangeFitsLong, Bool.and_eq_true, Bool.or_eq_true, decide_eq_true_eq, beq_iff_eq]
  refine ⟨⟨⟨⟨by lia, by lia⟩, by lia⟩, by lia⟩, .inr ?_⟩
  rw [if_pos (by lia), Bool.and_eq_true, decide_eq_true_eq, decide_eq_true_eq]
  lia
section
variable {w : World} {A : Around} {env : Env} {post : Post} {sc : List Int}
noncomputable def lawD : List Stmt := (stmBody (stm 70)).drop 16
theorem law_d (fc : FC (funD (o_192 w.params)) env) (hA : AOk A 59) (p : ∀ X ρ, post (.ret (.bool true)) X ρ) : Run w A env lawD [] (rhoC sc (hist (Ld (rowN sc)))) post := by
  have hl := row_len sc
  have hr := row_dig sc
  have hne := row_ne sc
  have hge := row_ge sc
  have hil : (intsD (rowN sc)).length = (rowN sc).length := by simp [intsD]
  obtain ⟨esc, _⟩ := env
  have hesc := fc.scope
  dsimp only at hesc
  subst hesc
  unfold lawD
  conv in (List.drop _ _) => whnf
  unfold rhoC
  generalize hrow : rowN sc = r at *
  have hHl : (hist (Ld r)).length = maxN (Ld r) + 1 := hist_len _
  have hHm := maxLd_le r
  have hcg : ∀ k, 1 ≤ k → cge k (Ld r) + kindsN r k = r.length + 1 - k := fun k hk => leads_count hk (List.Perm.refl _)
  have htx : (List.range (intsD r).length).map (fun i => D.str (S [r.getD i 0])) = strsD (r.map fun c => [c]) := by
    rw [hil, map_range_get r (fun c => D.str (S [c])) _ fun i a ha => by simp [List.getD, ha]]
    simp [strsD]
  refine run_cons (r1_assign (d := .str (S r)) (fc.cst (by kernel_rfl)) ((ev_meth (n := 0) (hA.le (by lia)) (ev_S (l := [])) (evl_cons ((EvN.ev (evn_map (d := .list (intsD r)) (es := intsD r) (fun i => D.str (S [r.getD i 0])) [] hA.hh (ev_name rfl) itb_list (by rw [hil]; lia) .nil (by kernel_rfl) ?_)).cast (congrArg D.list htx)) evl_nil)
    (c_join (by rw [flat_single]; lia)) PySem.F.plainAttrs_str PySem.F.slot_str_join PySem.F.type_str_join hT_str).cast (by rw [flat_single])) ?_)
  · intro cenv ce i e he
    obtain ⟨hi, rfl⟩ := intsD_at he
    have hd := hr r[i] (List.getElem_mem hi)
    rw [getD_of hi]
    exact (ev_callB (n := 0) (hA.le (by lia)) (c_chr (by lia) (by lia)) (evl_cons (ev_name rfl) evl_nil) (ce.kind _ _ (by kernel_rfl) nofun)).cast (by simp)
  refine run_cons (r1_assign (d := .list (intsD ((List.range (r.length + 1)).map (kindsN r)))) (fc.cst (by kernel_rfl)) ((EvN.ev (evn_map (d := .rng 0 ((r.length : Nat) + 1) 1) (es := rngD 0 1 (r.length + 1)) (fun k => D.int (kindsN r k : Nat)) [("n", .int (r.length : Nat)), ("text", .str (S r))] hA.hh
    (ev_callT (n := 0) (hA.le (by lia)) c_rng1 (evl_cons (ev_bin (ev_name rfl) ev_int op_add) evl_nil) (fc.kind (by kernel_rfl))) (itb_rng1 (by lia) (by lia) (by lia) (by lia) (by lia)) (by rw [rngD_len]; lia) (.cons rfl (.inl (fc.kind (by kernel_rfl))) (.cons rfl (.inl (fc.kind (by kernel_rfl))) .nil)) (by kernel_rfl) ?_)).cast ?_) ?_)
  · intro cenv ce k e he
    obtain ⟨hk, rfl⟩ := rngD_get he
    rw [show (0 : Int) + k * 1 = (k : Nat) by lia]
    have hin : (List.range (rngD 0 1 (r.length + 1 - k)).length).map (fun i => D.str (S ((r.take (i + k)).drop i))) = strsD ((List.range (r.length + 1 - k)).map fun i => (r.drop i).take k) := by
      rw [rngD_len]
      unfold strsD
      rw [List.map_map]
      apply List.map_congr_left
      intro i _
      show D.str _ = D.str _
      rw [List.drop_take, Nat.add_sub_cancel_left]
    refine ev_callB (n := 0) (hA.le (by lia)) (c_len_set (k := kindsN r k) ?_) (evl_cons (ev_callT (n := 0) (hA.le (by lia)) (c_set (ls := (List.range (r.length + 1 - k)).map fun i => (r.drop i).take k) (by simp; lia)) (evl_cons ((EvN.ev (evn_map (d := .rng 0 ((r.length : Nat) - (k : Nat) + 1) 1) (es := rngD 0 1 (r.length + 1 - k)) (fun i => D.str (S ((r.take (i + k)).drop i))) [("k", .int (k : Nat)), ("text", .str (S r))] hA.hh
      (ev_callT (n := 0) (hA.le (by lia)) c_rng1 (evl_cons (ev_bin (ev_bin (ev_name rfl) (ev_name rfl) op_sub) ev_int op_add) evl_nil) (ce.kind _ _ (by kernel_rfl) nofun)) (itb_rng1 (by lia) (by lia) (by lia) (by lia) (by lia)) (by rw [rngD_len]; lia) (.cons rfl (.inl (ce.kind _ _ (by kernel_rfl) nofun)) (.cons rfl (ce.free _ (by kernel_rfl)).symm .nil)) (by kernel_rfl) ?_)).cast (congrArg D.list hin)) evl_nil) (ce.kind _ _ (by kernel_rfl) nofun)) evl_nil) (ce.kind _ _ (by kernel_rfl) nofun)
    · unfold kindsN
      have := ndist_le ((List.range (r.length + 1 - k)).map fun i => (r.drop i).take k)
      simp at this
      lia
    · intro cenv' ce' i e he
      obtain ⟨hi, rfl⟩ := rngD_get he
      have ei : (0 : Int) + i * 1 = (i : Nat) := by lia
      rw [ei]
      exact ev_sslice (ev_name rfl) (ev_name rfl) ((ev_bin (ev_name rfl) (ev_name rfl) op_add).cast (by congr 1)) (by lia)
  · rw [rngD_len]
    show D.list _ = D.list _
    unfold intsD
    rw [List.map_map]
    rfl
  have hkd : ∀ k, k ≤ r.length → (intsD ((List.range (r.length + 1)).map (kindsN r)))[((k : Nat) : Int).toNat]? = some (.int (kindsN r k : Nat)) := fun k hk => by
    have := intsD_get (l := (List.range (r.length + 1)).map (kindsN r)) (j := k) (by simp; lia)
    rw [this]
    congr 3
    have hk' : k < r.length + 1 := by lia
    simp [List.getD, hk']
  refine run_cons (r1_for (d := .rng 1 ((r.length : Nat) + 1) 1) (es := rngD 1 1 r.length) hA.hh (fc.lst (by kernel_rfl)) (ev_callT (n := 0) (hA.le (by lia)) c_rng2 (evl_cons ev_int (evl_cons (ev_bin (ev_name rfl) ev_int op_add) evl_nil)) (fc.kind (by kernel_rfl)))
    (itb_rng1 (by lia) (by lia) (by lia) (by lia) (by lia))
    (fun i X ρ => Has [] [("first", wsD (hist (Ld r)) r.length), ("n", .int (r.length : Nat)), ("kinds", .list (intsD ((List.range (r.length + 1)).map (kindsN r))))] X ρ) ⟨rfl, sub_cons rfl (sub_cons rfl (sub_cons rfl sub_nil))⟩ ?_ ?_)
  · rintro i X' ρ' e he hv
    obtain ⟨hi, rfl⟩ := rngD_get he
    refine run_base1 hv ?_
    have ei : (1 : Int) + i * 1 = ((i + 1 : Nat) : Int) := by lia
    rw [ei]
    generalize hsz : i + 1 = size
    have s1 : 1 ≤ size := by lia
    have s2 : size ≤ r.length := by lia
    generalize hdue : ((List.range (r.length / size)).map fun j => cge ((j + 1) * size) (Ld r)).sum = due
    have hlv := lvl_due (r := r) (size := size) s1
    rw [hdue] at hlv
    have hns : (((List.range (r.length / size)).map fun j => cge ((j + 1) * size) (Ld r)).map fun (x : Nat) => (x : Int)).sum = (due : Nat) := by
      rw [← hdue]
      generalize (List.range (r.length / size)).map (fun j => cge ((j + 1) * size) (Ld r)) = l
      induction l with
      | nil => rfl
      | cons a l ih => rw [List.map_cons, List.sum_cons, List.sum_cons, ih]; push_cast; rfl
    refine run_cons (r1_assign (d := .int ((r.length + due : Nat) : Int)) (fc.lst (by kernel_rfl)) ((ev_bin (ev_name rfl) (ev_callB (n := 0) (hA.le (by lia)) (c_sum (ns := ((List.range (r.length / size)).map fun j => cge ((j + 1) * size) (Ld r)).map fun (x : Nat) => (x : Int))) (evl_cons ((EvN.ev (evn_map (d := .rng (size : Nat) ((r.length : Nat) + 1) (size : Nat)) (es := rngD (size : Nat) (size : Nat) (r.length / size)) (fun j => D.int (cge ((j + 1) * size) (Ld r) : Nat)) [("kinds", .list (intsD ((List.range (r.length + 1)).map (kindsN r)))), ("n", .int (r.length : Nat))] hA.hh
      (ev_callT (n := 0) (hA.le (by lia)) (c_rng3 (by lia) (by lia)) (evl_cons (ev_name rfl) (evl_cons (ev_bin (ev_name rfl) ev_int op_add) (evl_cons (ev_name rfl) evl_nil))) (fc.kind (by kernel_rfl))) (itb_step s1 s2 (by lia)) (by rw [rngD_len]; exact Nat.le_trans (Nat.div_le_self _ _) (by lia)) (.cons rfl (.inl (fc.kind (by kernel_rfl))) (.cons rfl (.inl (fc.kind (by kernel_rfl))) .nil)) (by kernel_rfl) ?_)).cast ?_) evl_nil) (fc.kind (by kernel_rfl))) op_add).cast ?_) ?_)
    · intro cenv ce j e he
      obtain ⟨hj, rfl⟩ := rngD_get he
      have hm : (j + 1) * size ≤ r.length := Nat.le_trans (Nat.mul_le_mul_right _ hj) (Nat.div_mul_le_self _ _)
      have hm1 : 1 ≤ (j + 1) * size := Nat.mul_pos (Nat.succ_pos _) s1
      have ej : (size : Int) + j * size = (((j + 1) * size : Nat) : Int) := by
        rw [Nat.succ_mul]; push_cast; lia
      rw [ej]
      generalize (j + 1) * size = m at hm hm1 ⊢
      have hc := hcg m hm1
      exact (ev_bin (ev_bin (ev_bin (ev_name rfl) (ev_name rfl) op_sub) ev_int op_add) (ev_litem (ev_name rfl) (ev_name rfl) (by lia) (by lia) (hkd m hm)) op_sub).cast (by congr 1; lia)
    · rw [rngD_len]
      show D.list _ = D.list _
      rw [List.map_map, List.map_map]
      rfl
    · rw [hns]; congr 1
    · refine run_cons (r1_if ((evT_cmp (ev_wmeth (n := 2) (hA.le (by lia)) (ev_name rfl) (evl_cons (ev_name rfl) evl_nil) (call_level (n := 0) (by lia) s1 (by lia)) f_level (by kernel_rfl) (by kernel_rfl) (by simp)) (ev_bin (ev_name rfl) (ev_name rfl) (op_mul (by lia))) rfl op_ne).cast (b' := false) ?_) (fun h => nomatch h) fun _ => ?_)
      · rw [hlv]
        simp
      · exact run_nil (run_nil ⟨rfl, sub_cons rfl (sub_cons rfl (sub_cons rfl sub_nil))⟩)
  · rintro X' ρ' hv
    refine run_base hv ?_
    have hlo := longest (r := r) hne
    have hn0 : (((List.range r.length).filter fun k => decide (kindsN r k + k ≤ r.length)).map fun (k : Nat) => (k : Int)) ≠ [] := by
      refine List.ne_nil_of_mem (a := ((0 : Nat) : Int)) (List.mem_map.mpr ⟨0, List.mem_filter.mpr ⟨List.mem_range.mpr (by lia), ?_⟩, rfl⟩)
      rw [kinds_zero]
      exact decide_eq_true (by lia)
    have hfm : (List.range (rngD 0 1 r.length).length).filterMap (fun i => if kindsN r i + i ≤ r.length then some (D.int (i : Nat)) else none) = (((List.range r.length).filter fun k => decide (kindsN r k + k ≤ r.length)).map fun (k : Nat) => (k : Int)).map D.int := by
      rw [rngD_len, List.map_map]
      generalize List.range r.length = l
      induction l with
      | nil => rfl
      | cons a l ih =>
        rw [List.filterMap_cons, ih]
        by_cases q : kindsN r a + a ≤ r.length
        · rw [if_pos q, List.filter_cons_of_pos (by simpa using q)]; rfl
        · rw [if_neg q, List.filter_cons_of_neg (by simpa using q)]
    refine run_cons (r1_ret (d := .bool true) ((ev_cmp (ev_wmeth0 (n := 2) (hA.le (by lia)) (ev_name rfl) (call_longest (n := 0) (by lia)) f_longest (by kernel_rfl) (by kernel_rfl) (by simp)) (ev_callB (n := 0) (hA.le (by lia)) (c_max hn0) (evl_cons ((EvN.ev (ev_comp (d := .rng 0 (r.length : Nat) 1) (es := rngD 0 1 r.length) (fun i => if kindsN r i + i ≤ r.length then some (D.int (i : Nat)) else none) [("kinds", .list (intsD ((List.range (r.length + 1)).map (kindsN r)))), ("n", .int (r.length : Nat))] hA.hh
      (ev_callT (n := 0) (hA.le (by lia)) c_rng1 (evl_cons (ev_name rfl) evl_nil) (fc.kind (by kernel_rfl))) (itb_rng1 (by lia) (by lia) (by lia) (by lia) (by lia)) (by rw [rngD_len]; lia) (.cons rfl (.inl (fc.kind (by kernel_rfl))) (.cons rfl (.inl (fc.kind (by kernel_rfl))) .nil)) (by kernel_rfl) ?_)).cast (congrArg D.list hfm)) evl_nil) (fc.kind (by kernel_rfl))) rfl op_eq).cast ?_) (p _ _))
    · intro cenv ce i e he
      obtain ⟨hi, rfl⟩ := rngD_get he
      have ei : (0 : Int) + i * 1 = (i : Nat) := by lia
      rw [ei]
      by_cases q : kindsN r i + i ≤ r.length
      · rw [if_pos q]
        exact ⟨Tests.cast (b := decide ((kindsN r i : Int) ≤ (r.length : Int) - (i : Int))) (tests_one (evT_cmp (ev_litem (ev_name rfl) (ev_name rfl) (by lia) (by lia) (hkd i (by lia))) (ev_bin (ev_name rfl) (ev_name rfl) op_sub) rfl op_le)) (decide_eq_true (by lia)), ev_name rfl⟩
      · rw [if_neg q]
        exact Tests.cast (b := decide ((kindsN r i : Int) ≤ (r.length : Int) - (i : Int))) (tests_one (evT_cmp (ev_litem (ev_name rfl) (ev_name rfl) (by lia) (by lia) (hkd i (by lia))) (ev_bin (ev_name rfl) (ev_name rfl) op_sub) rfl op_le)) (decide_eq_false (by lia))
    · rw [hlo, hHl]
      simp
end
end Tn
end
section
-- TnL5
open PySem PySem.W PySem.Calls PySem.Spec PyProof.Rows
set_option maxRecDepth 100000
set_option linter.unusedVariables false
namespace Tn
section
variable {w : World} {A : Around} {env : Env} {X : Boxes} {ρ : Rho} {post : Post} {sc : List Int}
noncomputable abbrev NextOnly (mid : Boxes → Rho → Prop) : Post := fun f X ρ => match f with
  | .next => mid X ρ
  | _ => False
theorem run_app {a b : List Stmt} (mid : Boxes → Rho → Prop) (x : Run w A env a X ρ (NextOnly mid)) (y : ∀ X ρ, mid X ρ → Run w A env b X ρ post) : Run w A env (a ++ b) X ρ post := .mk fun B0 h0 B h S s E e => by
  rw [execs_app]
  refine wpAny_bind (wpAny_mono (x.go B0 h0 B h S s E e) (fun f s' ⟨B', h', tk, X', ρ', fd, q1, q2, le, S', q5, q6⟩ => ?_) fun _ _ z => z)
  subst q1
  cases fd <;> first | exact q6.elim | skip
  cases f <;> first | exact q5.elim | skip
  exact wpAny_mono ((y X' ρ' q6).go B0 h0 B' h' S' _ E ⟨rfl, q2⟩) (fun f s' ⟨B2, h2, tk2, X2, ρ2, fd, a1, a2, l2, a4, a5, a6⟩ => ⟨B2, h2, tk2, X2, ρ2, fd, a1, a2, fun x o e => l2 x o (le x o e), a4, a5, a6⟩) fun _ _ z => z
theorem law_body : stmBody (stm 70) = lawA ++ (lawB ++ (lawC ++ lawD)) := by kernel_rfl
theorem law_runs (hsc : sc.length ≤ 1000) (A : Around) (env : Env) (hA : AOk A 59) (fc : FC (funD (o_192 w.params)) env) : Run w A env (stmBody (stm 70)) [] [("script", .list (sc.map .int))] (endsIn (.bool true)) := by
  have hge := row_ge sc
  have hl := row_len sc
  have hne := row_ne sc
  have hw := words_wd sc
  have hwl : (wordsN sc).length = (rowN sc).length := by simp [rowN]
  have hrk : ((wordsN sc).map nmOf).map gk = (rowN sc).map gk := rfl
  have hin : ∀ x ∈ rowN sc, x = 15 ∨ x = 51 ∨ x = 21 ∨ x = 34 := fun x m => by
    obtain ⟨y, hy, rfl⟩ := List.mem_map.mp m
    exact nm_in (hw y hy)
  have hOS : Ord (rowN sc).length (ltS (wordsN sc)) := by
    have e : ltS (wordsN sc) = ltN ((rowN sc).map gk) := funext fun i => funext fun j => ltS_ltN hw i j
    rw [e]
    have := ord_drop ((rowN sc).map gk)
    rwa [List.length_map] at this
  rw [law_body]
  refine run_app (fun X ρ => Has [] (rhoA sc) X ρ) (law_a fc hA hsc fun X ρ h => h) fun X ρ hv => run_base hv ?_
  refine run_app (fun X ρ => ∃ p1 p2 p3, Pm (rowN sc).length p1 ∧ Asc (ltN (rowN sc)) p1 (rowN sc).length ∧ Pm (rowN sc).length p2 ∧ Asc (ltS (wordsN sc)) p2 (rowN sc).length ∧ Pm (rowN sc).length p3 ∧ Has [] (rhoB sc p1 p2 p3) X ρ)
    (law_b fc hA hge hOS fun p1 p2 p3 X ρ a b c d e f => ⟨p1, p2, p3, a, b, c, d, e, f⟩) fun X ρ ⟨p1, p2, p3, P1, A1, P2, A2, P3, hv⟩ => run_base hv ?_
  refine run_app (fun X ρ => Has [] (rhoC sc (hist (Ld (rowN sc)))) X ρ) (law_c fc hA hge P1 P2 P3 (by rw [hist_len]; have := maxLd_le (rowN sc); omega) ?_ ?_ ?_ ?_ fun X ρ h => h) fun X ρ hv => run_base hv (law_d fc hA fun X ρ => rfl)
  · exact adj_hx (key := fun i => (rowN sc).drop i) (fun a b => rfl) P1.perm hne (asc_pair P1 A1 fun a b h => gl_lex _ _ h)
  · exact adj_hx (key := fun i => ((rowN sc).map gk).drop i) (fun a b => Lt_rank hin a b) P2.perm hne (asc_pair P2 A2 fun a b h => gl_lex _ _ (by rw [ltS_ltN hw, hrk] at h; exact h))
  · exact leads_hx (List.Perm.refl _) hne
  · exact leads_hx P3.perm hne
end
end Tn
end
section
-- TnL6
open PySem PySem.W PySem.Calls PySem.Spec PyProof.Rows
set_option maxRecDepth 100000
set_option linter.unusedVariables false
namespace Tn
section
variable {w : World} {h h' : Heap} {mg mb : Str → Option Value}
theorem tab_start {c P : Addr} (KX : (K w.params).In h) (e : codeHdIn (K w.params) c P = true) (t : h.get? P = some (tabObj #[])) : TabOk h c P :=
  ⟨codeHd_of_K KX e, #[], t, trivial, fun pos cv e => by cases e⟩
theorem inv_start {p : Program} {loose : List Str} {mean : ExcName → Option Value} (KX : (K w.params).In h) (tabs : ∀ P ∈ ([89, 96, 189] : List Addr), h.get? P = some (tabObj #[])) (T : Top p loose mean mg mb h) : Inv w h := by
  obtain ⟨bm, ob, e, ne, hb, c, d, dat⟩ := T.bmain
  have ba : ∀ P ∈ ([89, 96, 189] : List Addr), h.BuiltinsAt mg P := fun P m => by
    refine ⟨bm, ob, e, ne, fun z => ?_, fun z => ?_, hb, c, d, dat⟩
    · obtain ⟨o, es, ep, q, dd, _⟩ := T.g
      rw [z, q] at hb; cases hb; rw [dat] at dd; cases dd
    · rw [z, tabs P m] at hb; cases hb; cases dat
  exact ⟨KX, ⟨mb, T.b, T.builtins⟩, T.nolimit, ⟨mg, T.g, ba 89 (by simp), ba 96 (by simp), ba 189 (by simp)⟩, tab_start KX (by kernel_rfl) (tabs 89 (by simp)), tab_start KX (by kernel_rfl) (tabs 96 (by simp)), tab_start KX (by kernel_rfl) (tabs 189 (by simp))⟩
theorem old_up (I : Inv w h) (u : Up h h') : OldK h h' := by
  have ct : ∀ P ∈ TB, isCodeTable h P := fun P m => by
    simp only [TB, List.mem_cons, List.not_mem_nil, or_false] at m
    rcases m with rfl | rfl | rfl
    · exact ⟨93, _, _, I.k 93 (o_93 w.params) rfl, rfl, rfl, rfl⟩
    · exact ⟨100, _, _, I.k 100 (o_100 w.params) rfl, rfl, rfl, rfl⟩
    · exact ⟨191, _, _, I.k 191 (o_191 w.params) rfl, rfl, rfl, rfl⟩
  refine ⟨fun b o e => ?_, fun b o e => ?_⟩
  · by_cases m : b ∈ TB
    · obtain ⟨ps, hP⟩ := I.tabAt m
      rw [hP] at e; cases e
      obtain ⟨more, e'⟩ := u.tab b ps m hP
      exact .inr (.inl ⟨ct b m, rfl, ps, more, rfl, e'⟩)
    · exact .inl (u.keep b o m e)
  · by_cases m : b ∈ TB
    · obtain ⟨ps, hP⟩ := I.tabAt m
      obtain ⟨more, e'⟩ := u.tab b ps m hP
      exact ⟨_, e'⟩
    · exact ⟨o, u.keep b o m e⟩
theorem ints_of_well {P : Params} : ∀ {vs : List Value} {ws : List Int} (B : Fz), WellAll P h vs (ws.map fun i => WData.int i) → Reps B vs (ws.map D.int)
  | [], [], B, _ => .nil
  | v :: vs, i :: ws, B, x => by
    cases x with
    | cons a b =>
      cases a with
      | int i t => exact .cons (.int _ _) (ints_of_well B b)
  | [], _ :: _, _, x => by cases x
  | _ :: _, [], _, x => by cases x
theorem ofPys_ints : ∀ ws : List Int, ofPys (ws.map PyData.int) = ws.map fun i => WData.int i
  | [] => rfl
  | i :: r => by rw [List.map_cons, List.map_cons, ofPys, ofPys_ints r]; rfl
/-- a call's frame, with one name bound: a token was given -/
theorem env_one {M : Model} {A : Around} {E : Value → Shared → Prop} {s : Shared} {scope : Scope} {globals : Addr} {x : Str} {v : Value} {qual : Str} {func : Option Addr} {code : Value} {builtins : Addr} {Q : Env → Shared → Prop}
    (hk : scope.kind = .function) (hl : scope.names.lookup x = some .local)
    (hQ : ∀ env, env = newEnv scope s.heap.objs.size globals (cellsFrom (s.heap.objs.size + 1) scope.names []) qual func code none builtins →
      ∀ s', InCallC s env.locals (bindL env.kindOf [(x, v)] fun _ => none) env.cells (bindC env.kindOf [(x, v)] fun _ => none) s' → 1 ≤ s'.toks → Q env s') :
    wpAny M A (newFunctionEnv scope globals [] [(x, v)] qual func code none builtins) Q E s := by
  simp only [newFunctionEnv, Option.isSome_none, Bool.false_eq_true, if_false]
  refine wpAny_bind (wpAny_alloc (wpAny_bind (wpAny_layCells _ (fun name kind cells => by cases hkc : kind == NameKind.cell <;> simp [hkc]) _ _ _ _ ?_)))
  have hsz : (s.heap.push { cls := .type "frame", data := .dict #[] }).objs.size = s.heap.objs.size + 1 := Heap.size_push ..
  have ok := cellsFrom_ok scope.names (s.heap.push { cls := .type "frame", data := .dict #[] }) (s.heap.objs.size + 1) [] ⟨fun _ _ hm => (nomatch hm), List.Pairwise.nil⟩ (by rw [hsz]; exact Nat.le_refl _)
  rw [hsz] at ok
  dsimp only
  rw [hsz]
  generalize he : newEnv scope s.heap.objs.size globals (cellsFrom (s.heap.objs.size + 1) scope.names []) qual func code none builtins = env
  have hkl : env.kindOf x = some .local := by rw [← he]; exact hl
  have hks : env.scope.kind = .function := by rw [← he]; exact hk
  have x0 : InCallC s env.locals (fun _ => none) env.cells (fun _ => none) { s with heap := pushCells (s.heap.push { cls := .type "frame", data := .dict #[] }) scope.names } := by
    rw [← he]
    exact ⟨⟨⟨_, _, rfl⟩, (Heap.Ns.new s.heap (.type "frame")).keeps (pushCells_keeps _ _), fun b o e => pushCells_keeps _ _ b o (Heap.get?_push_of_some _ e), Nat.le_refl _⟩,
      fun n c hc => (ok.empty n c (mem_of_lookup hc)).1, ok.apart, fun n c hm => (ok.empty n c hm).2⟩
  refine wpAny_bind ?_
  have hf : ∀ f : Str × Value → PUnit → Sem (ForInStep PUnit), (∀ n v u, f (n, v) u = (do storeName env n v; pure (.yield ⟨⟩))) → wpAny M A (forIn [(x, v)] ⟨⟩ f) (fun _ s' => wpAny M A (pure env) Q E s') E { s with heap := pushCells (s.heap.push { cls := .type "frame", data := .dict #[] }) scope.names } := fun f hf => by
    rw [List.forIn_cons, hf]
    refine wpAny_bind (wpAny_bind (wpAny_storeName_local hkl x0.toInCall.ns (fun h' hn' hs' => wpAny_pure ?_) (by rw [hks]; rfl)))
    dsimp only
    rw [List.forIn_nil]
    refine wpAny_pure (wpAny_pure (hQ env he.symm _ ?_ (Nat.le_add_left 1 _)))
    have hb : bindL env.kindOf [(x, v)] (fun _ => none) = fun y => if y = x then some v else none := by unfold bindL bindL; rw [if_pos hkl]
    have hc : bindC env.kindOf [(x, v)] (fun _ => none) = fun _ => none := by unfold bindC bindC; rw [if_pos hkl]
    rw [hb, hc]
    exact ⟨⟨⟨h', _, rfl⟩, hn', fun b o e => hs'.extBut b o (Nat.ne_of_lt (Nat.lt_of_lt_of_le (Heap.lt_size e) x0.toInCall.fresh)) (x0.toInCall.keep b o e), x0.toInCall.fresh⟩,
      fun k c hc => (x0.cell k c hc).sameBut hs' (Nat.ne_of_gt (x0.above k c (mem_of_lookup hc))), x0.apart, x0.above⟩
  subst he
  refine hf _ ?_
  intro n v u
  rfl
/-- the law, called -/
theorem law_run {p : Program} {loose : List Str} {mean : ExcName → Option Value} {sc : List Int} {a : Addr} {vs : List Value} {s : Shared} {Q : Value → Shared → Prop} {E : Value → Shared → Prop} (KX : (K w.params).In s.heap) (tabs : ∀ P ∈ ([89, 96, 189] : List Addr), s.heap.get? P = some (tabObj #[])) (T : Top p loose mean mg mb s.heap)
    (hl : s.heap.get? a = some { cls := .type "list", data := .seq vs.toArray }) (hw : WellAll w.params s.heap vs (sc.map fun i => WData.int i)) (hsc : sc.length ≤ 63)
    (k : ∀ h' tk, OldK s.heap h' → Q (.bool true) { s with heap := h', toks := tk }) : wpAny (Md w) callerA (call (.ref 192) [.ref a]) Q E s := by
  have I := inv_start KX tabs T
  generalize hB : Fz.put (fun _ => none) a { cls := .type "list", data := .seq vs.toArray } = B
  have Ba : B a = some { cls := .type "list", data := .seq vs.toArray } := by rw [← hB]; exact Fz.put_self _ _ _
  have i : InH B s.heap := fun b o e => by
    by_cases hb : b = a
    · subst hb; rw [Ba] at e; cases e
      exact ⟨hl, I.notTB hl fun ps q => by cases q⟩
    · rw [← hB, show Fz.put (fun _ => none) a _ b = (none : Option Obj) from if_neg hb] at e; cases e
  have ra : Rep B (.ref a) (.list (sc.map .int)) := .list Ba (by simpa using ints_of_well _ hw)
  obtain ⟨o, oc, cvs, t, k1, k2, k3, k4, k5, k6, k7, k8, k9, k10⟩ := fn_law (w := w)
  have hA := callerA_ok
  obtain ⟨p1, p2, p3, p4, p5⟩ := parOk.get (sc := (funD (o_192 w.params)).scope) (ps := (["script"] : List Str)) (by kernel_rfl)
  have hlk : (funD (o_192 w.params)).scope.names.lookup (Str.ofString "script") = some .local := by kernel_rfl
  refine wpAny_call (codeAny_call_function (hA.room) (I.k 192 o k1) k2 p2 p3 k7 ⟨191, oc, cvs, t, k3, I.k 191 oc k4, k5, k6⟩ ?_)
  rw [show bindArgs (funD (o_192 w.params)) ⟨[.ref a], []⟩ = pure [(Str.ofString "script", .ref a)] by kernel_rfl, k10]
  refine wpAny_pure (env_one p1 hlk fun env he s₁ X tk1 => ?_)
  have nL : s.heap.get? s.heap.objs.size = none := get_size _
  have hce : callEnvC (funD (o_192 w.params)) s.heap.objs.size 192 = env := he.symm
  refine ⟨I.lim.keeps X.toInCall.keep, codeAny_func ?_⟩
  have hsc' : env.scope = (funD (o_192 w.params)).scope := by rw [← hce]; rfl
  have hko : ∀ x, env.kindOf x = (funD (o_192 w.params)).scope.names.lookup x := fun x => by rw [← hce]; rfl
  have hL : env.locals = s.heap.objs.size := by rw [← hce]; rfl
  obtain ⟨h₁, tk, rfl⟩ := X.toInCall.same
  have kp := X.toInCall.keep
  dsimp only at kp
  have st := Stp.keep (w := w) i (.of_keeps kp)
  have cfr : ∀ x c, env.cells.lookup x = some c → s.heap.get? c = none := fun x c e => get_ge (Nat.le_of_lt (Nat.lt_of_le_of_lt (hL ▸ Nat.le_refl _) (X.above x c (mem_of_lookup e))))
  have S : St w env B s.heap [] B h₁ [("script", .list (sc.map .int))] := by
    refine ⟨⟨I, i⟩, st, ⟨I.of_keeps kp, st.inh, hsc' ▸ p1, by rw [← hce]; exact k8, by rw [← hce]; exact k9, fun x dx e => ?_⟩, ⟨hL.symm ▸ nL, hL.symm ▸ inh_none i nL, _, X.toInCall.ns⟩, fun x c kc lk => ?_, fun x y c l1 l2 => name_of_addr X.apart (mem_of_lookup l1) (mem_of_lookup l2), fun _ _ m => (by cases m), .nil⟩
    · rw [List.lookup_cons] at e
      split at e
      · rename_i q
        cases e
        rw [beq_iff_eq.mp q]
        refine ⟨.ref a, .inl ⟨(hko _).trans hlk, _, X.toInCall.ns, ?_⟩, ra, by decide⟩
        exact bindL_at (ps := [Str.ofString "script"]) (vs := [.ref a]) ((hko _).trans hlk) p5 (i := 0) rfl rfl
      · cases e
    · exact ⟨cfr x c lk, inh_none i (cfr x c lk), _, X.cell x c lk⟩
  have fc : FC (funD (o_192 w.params)) env := ⟨hsc', fun x e => by
    obtain ⟨c, hc⟩ := cells_has (funD (o_192 w.params)).scope.names (s.heap.objs.size + 1) [] (mem_of_lookup e)
    exact ⟨c, by rw [← hce]; exact hc⟩, by rw [← hce]; rfl, by rw [← hce]; rfl⟩
  exact wpAny_mono (ends_ok (E := fun _ _ => False) (Q := Q) (s := s) rfl tk1 S (law_runs (by omega) _ _ (hA.deeper _) fc) fun v B' h' tk' st' I' r => by
    rw [r.bool_inv]
    exact k h' tk' (old_up I st'.up)) (fun f s' z => by
    cases f <;> exact z) fun _ _ z => z.elim
end
end Tn
end
section
-- TnSaid
open PySem PySem.W PyProof.Rows
set_option maxRecDepth 100000
set_option maxHeartbeats 0
namespace Tn
noncomputable abbrev wsLaw : OpenLaw := PySem.Challenge.rw_to0062_01
theorem wsLooks : looksOpen wsLaw.row.prog = true := by
  unfold looksOpen
  refine look_both (look_both (look_both (look_both (look_both ?_ ?_) ?_) ?_) ?_) ?_
  · as_aux_lemma => (rw [PySem.W.Fast.te11788848310118352699]; kernel_rfl)
  · as_aux_lemma => (rw [PySem.W.Fast.te12862048085361865435, PySem.W.Fast.te9807087744658564304]; kernel_rfl)
  · as_aux_lemma => (rw [PySem.W.Fast.te8377067652309620493]; kernel_rfl)
  · as_aux_lemma => (rw [PySem.W.Fast.te18344453789297297638]; kernel_rfl)
  · as_aux_lemma => (rw [PySem.W.Fast.te8326940854005059898, PySem.W.Fast.te13343964577679436407, PySem.W.Fast.te5923862056798008813]; kernel_rfl)
  · as_aux_lemma => (rw [PySem.W.Fast.te17119622794617984870, PySem.W.Fast.te17868728402115742887]; kernel_rfl)
theorem wsPart : wsLaw.row.partSaid = true := by
  unfold OpenRow.partSaid
  refine look_both (look_both (look_both (look_both (look_both (look_both (look_both (look_both (look_both (look_both (look_both (look_both (look_both wsLooks ?_) ?_) ?_) ?_) ?_) ?_) ?_) ?_) ?_) ?_) ?_) ?_) ?_
  all_goals kernel_rfl
theorem wsRow : wsLaw.row.wellSaid = true := by
  unfold OpenRow.wellSaid
  refine look_both (look_both wsPart ?_) ?_
  · as_aux_lemma => (rw [PySem.W.Fast.te18344453789297297638]; kernel_rfl)
  · kernel_rfl
theorem wsSaid : wsLaw.wellSaid = true := by
  unfold OpenLaw.wellSaid
  refine look_both (look_both (look_both (look_both (look_both (look_both (look_both (look_both (look_both (look_both (look_both (look_both (look_both (look_both (look_both (look_both (look_both (look_both wsRow ?_) ?_) ?_) ?_) ?_) ?_) ?_) ?_) ?_) ?_) ?_) ?_) ?_) ?_) ?_) ?_) ?_) ?_
  · kernel_rfl
  · kernel_rfl
  · as_aux_lemma => (rw [PySem.W.Fast.te8179353310426384613]; kernel_rfl)
  · kernel_rfl
  · kernel_rfl
  · as_aux_lemma => (rw [PySem.W.Fast.te8326940854005059898, PySem.W.Fast.te797321630700447069]; kernel_rfl)
  · kernel_rfl
  · as_aux_lemma => (rw [PySem.W.Fast.te16286561074155671207]; kernel_rfl)
  · kernel_rfl
  · as_aux_lemma => (rw [PySem.W.Fast.te797321630700447069, PySem.W.Fast.te6984425678791042302]; kernel_rfl)
  · as_aux_lemma => (rw [PySem.W.Fast.te6984425678791042302]; kernel_rfl)
  · as_aux_lemma => (rw [PySem.W.Fast.te6984425678791042302]; kernel_rfl)
  · as_aux_lemma => (rw [PySem.W.Fast.te17119622794617984870]; kernel_rfl)
  · as_aux_lemma => (rw [PySem.W.Fast.te10792542408131684335]; kernel_rfl)
  · as_aux_lemma => (rw [PySem.W.Fast.te10792542408131684335]; kernel_rfl)
  · as_aux_lemma => (rw [PySem.W.Fast.te10792542408131684335]; kernel_rfl)
  · as_aux_lemma => (rw [PySem.W.Fast.te17119622794617984870, PySem.W.Fast.te10792542408131684335]; kernel_rfl)
  · as_aux_lemma => (rw [PySem.W.Fast.te17119622794617984870]; kernel_rfl)
end Tn
end
section
-- TnMain
open PySem PySem.W PyProof.Rows
set_option maxRecDepth 100000
set_option maxHeartbeats 0
namespace Tn
theorem main : PySem.Challenge.rw_to0062_01.Holds := by
  refine holds_law wsSaid fun ok => ?_
  refine holds_open (r := rwRow) (q := qv) (loose := looseL) (Xt := XtT) (XP := XL qv []) (Yf := hookK.obs) (Ya := hookK.val) (YP := hookK.says) (N := 9000) left_all hookK.of hookK.keeps (fun s e => xl_of s (Bool.and_eq_true_iff.mp e).1) XL.keeps (by rfl) (by rfl) (by rfl) (fun s e => recFacts_of (Bool.and_eq_true_iff.mp e).2) (by rfl) (by assumption) (by decide +kernel) ⟨rfl, rfl, rfl, rfl, rfl, by decide +kernel⟩ ?hw ?hc
  case hw => w_witness2
  case hc =>
    intro w s₀ s₁ mg mb G Y fa o pm cd doc dV kV ho hd hcd hD hmg hg args vals as hpre hlay hrd hwl hlo
    have KX := km_in_of Y
    have KT := km_tabs_of Y
    clear ho hd hcd hD
    change mg (Str.ofString "law") = some (.ref fa) at hmg
    refine Ground.open G ?_
    intro T B D TE TW
    have hfa : fa = 192 := by
      have := mg_of KX T.g (show nsIn (K w.params) mainGlobals (Str.ofString "law") = some (some (.ref 192)) from rfl)
      rw [hmg] at this
      cases this
      rfl
    subst hfa
    wrow_args hpre hlay hrd hwl hlo
    rename_i ws hs0 hlay0 hL1 hr1 hl2 as4 as3 la vs as1 hLs ra w1 r0 hI hr hc1 hc2
    cases w1 with
    | list hl hw =>
      rename_i vs2
      have hw' : WellAll w.params s₁.heap vs2 (ws.map fun i => WData.int i) := by rw [← ofPys_ints]; exact hw
      refine law_run KX KT T hl hw' (by omega) fun h' tk old => ?_
      refine ⟨.inl ⟨_, .bool true, [], rfl, fun cls => ?_, .bool true, ?_, fun h => ?_⟩, old, rfl, .of_eq hg⟩
      · first | rfl | (simp; done)
      · first | rfl | kernel_rfl | (simp; done)
      · exact ⟨List.nodup_nil, fun a ha => by cases ha⟩
end Tn
end
set_option maxRecDepth 100000 in
theorem PySem.Challenge.cw_to0062_01_holds : PySem.Challenge.rw_to0062_01.Holds := by
  exact Tn.main
