import PyProof.Rows.All
import Wide.All
import OpenK.AllK
import Wide.FinOn
import PySem.Challenge.RW_tl0044_01
set_option Elab.async false
set_option linter.all false
set_option compiler.extract_closed false
section
open PySem PySem.W PySem.Calls PyProof.Rows
set_option Elab.async false
set_option maxRecDepth 100000
namespace Mine
/-- the i-th statement of the top, by its place -/
noncomputable def st (i : Nat) : Stmt := (PySem.Challenge.pw_tl0044_01.main.body[i]?).getD (.Pass default)
/-- the j-th statement of a class's body -/
noncomputable def cst (i j : Nat) : Stmt := match st i with | .ClassDef _ _ _ b _ _ _ _ _ _ _ => (b[j]?).getD (.Pass default) | _ => .Pass default
/-- the function's record that a def's statement makes -/
noncomputable def fnF (s : Stmt) (qual : Str) (pm cd : Value) : FuncData := match s with | .FunctionDef n a b _ _ _ sc _ _ _ => fnOf n qual a b sc .none .none .none pm none cd .none | _ => default
/-- the rows of b3_exceptions, read off the text -/
noncomputable def b3kv : List (Int × Str) := match st 11 with
  | .Assign _ (.Dict ks vs _) _ => (ks.zip vs).filterMap fun x => match x with | (some (.Constant (.int i) _ _), .Constant (.str y) _ _) => some (i, y) | _ => none
  | _ => []
noncomputable def b3tok (i : Nat) : Nat := if i < 647 then 404 + 3 * i else 2342 + 2 * (i - 646)
noncomputable def b3E : Array DictEntry := ((b3kv.zipIdx).map fun x => (⟨x.1.1, .int x.1.1 (b3tok x.2), .str x.1.2 (b3tok x.2 + 1)⟩ : DictEntry)).toArray
noncomputable def b1E : Array (Int × Value) := #[(65024, (.int 65024 353)), (65025, (.int 65025 354)), (65026, (.int 65026 355)), (65027, (.int 65027 356)), (65028, (.int 65028 357)), (65029, (.int 65029 358)), (6150, (.int 6150 339)), (65030, (.int 65030 359)), (65031, (.int 65031 360)), (65032, (.int 65032 361)), (65033, (.int 65033 362)), (6155, (.int 6155 340)), (6156, (.int 6156 341)), (6157, (.int 6157 342)), (8203, (.int 8203 343)), (8204, (.int 8204 344)), (8205, (.int 8205 345)), (65034, (.int 65034 363)), (65035, (.int 65035 364)), (65036, (.int 65036 365)), (65037, (.int 65037 366)), (65038, (.int 65038 367)), (65039, (.int 65039 368)), (173, (.int 173 337)), (847, (.int 847 338)), (8288, (.int 8288 346)), (65279, (.int 65279 347))]
noncomputable abbrev b1T (P : Params) : SetTable := { mask := 127, place := #[0, 1, 2, 3, 4, 5, 6, 7, 8, 9, 10, 11, 12, 13, 14, 15, 16, 17, 18, 19, 20, 21, 22, 45, 79, 96, 127], dummies := #[], finger := 0, led := !P.followText "set-order", moves := 2, plain := true }
noncomputable abbrev k2 (P : Params) : Obj := { cls := .none, dict := none, data := (.dict #[] 0), slots := #[] }
noncomputable abbrev k3 (P : Params) : Obj := { cls := (.type "dict"), dict := none, data := (.dict (List.toArray [⟨PyData.keyHash P (Str.ofString "__name__"), (.str (Str.ofString "__name__") 165), (.str (Str.ofString "law_tl0044_01") 2370)⟩, ⟨PyData.keyHash P (Str.ofString "__doc__"), (.str (Str.ofString "__doc__") 166), .none⟩, ⟨PyData.keyHash P (Str.ofString "__package__"), (.str (Str.ofString "__package__") 167), .none⟩, ⟨PyData.keyHash P (Str.ofString "__loader__"), (.str (Str.ofString "__loader__") 168), (.builtin "__main__.__loader__#opaque")⟩, ⟨PyData.keyHash P (Str.ofString "__spec__"), (.str (Str.ofString "__spec__") 169), .none⟩, ⟨PyData.keyHash P (Str.ofString "__annotations__"), (.str (Str.ofString "__annotations__") 170), (.ref 6)⟩, ⟨PyData.keyHash P (Str.ofString "__builtins__"), (.str (Str.ofString "__builtins__") 171), (.ref 4)⟩, ⟨PyData.keyHash P (Str.ofString "__file__"), (.str (Str.ofString "__file__") 173), (.str (Str.ofString "/claim/cut.py") 172)⟩, ⟨PyData.keyHash P (Str.ofString "__cached__"), (.str (Str.ofString "__cached__") 174), .none⟩, ⟨PyData.keyHash P (Str.ofString "_wall"), (.str (Str.ofString "_wall") 193), (.ref 21)⟩, ⟨PyData.keyHash P (Str.ofString "Whitespace"), (.str (Str.ofString "Whitespace") 295), (.ref 83)⟩, ⟨PyData.keyHash P (Str.ofString "add"), (.str (Str.ofString "add") 305), (.ref 94)⟩, ⟨PyData.keyHash P (Str.ofString "concat"), (.str (Str.ofString "concat") 314), (.ref 101)⟩, ⟨PyData.keyHash P (Str.ofString "countOf"), (.str (Str.ofString "countOf") 324), (.ref 108)⟩, ⟨PyData.keyHash P (Str.ofString "indexOf"), (.str (Str.ofString "indexOf") 334), (.ref 115)⟩, ⟨PyData.keyHash P (Str.ofString "b1_set"), (.str (Str.ofString "b1_set") 396), (.ref 123)⟩, ⟨PyData.keyHash P (Str.ofString "in_table_b1"), (.str (Str.ofString "in_table_b1") 403), (.ref 133)⟩, ⟨PyData.keyHash P (Str.ofString "b3_exceptions"), (.str (Str.ofString "b3_exceptions") 2354), (.ref 134)⟩, ⟨PyData.keyHash P (Str.ofString "map_table_b3"), (.str (Str.ofString "map_table_b3") 2362), (.ref 179)⟩, ⟨PyData.keyHash P (Str.ofString "in_table_c11"), (.str (Str.ofString "in_table_c11") 2369), (.ref 186)⟩, ⟨PyData.keyHash P (Str.ofString "_law_typed"), (.str (Str.ofString "_law_typed") 2386), (.ref 193)⟩, ⟨PyData.keyHash P (Str.ofString "_law_prepared"), (.str (Str.ofString "_law_prepared") 2396), (.ref 200)⟩, ⟨PyData.keyHash P (Str.ofString "_law_cut"), (.str (Str.ofString "_law_cut") 2402), (.ref 205)⟩, ⟨PyData.keyHash P (Str.ofString "_law_laid"), (.str (Str.ofString "_law_laid") 2408), (.ref 210)⟩, ⟨PyData.keyHash P (Str.ofString "_law_pairs"), (.str (Str.ofString "_law_pairs") 2420), (.ref 217)⟩, ⟨PyData.keyHash P (Str.ofString "_law_deals"), (.str (Str.ofString "_law_deals") 2433), (.ref 224)⟩, ⟨PyData.keyHash P (Str.ofString "law"), (.str (Str.ofString "law") 2439), (.ref 229)⟩]) 27), slots := #[] }
noncomputable abbrev k15 (P : Params) : Obj := { cls := (.type "tuple"), dict := none, data := (.seq #[] 0), slots := #[] }
noncomputable abbrev k17 (P : Params) : Obj := { cls := (.type "tuple"), dict := none, data := (.seq #[(.str (Str.ofString "k") 190)] 0), slots := #[] }
noncomputable abbrev k18 (P : Params) : Obj := { cls := (.type "tuple"), dict := none, data := (.seq #[] 0), slots := #[] }
noncomputable abbrev k20 (P : Params) : Obj := { cls := (.type "code"), dict := none, data := (.fields #[(.str (Str.ofString "_wall") 187), (.str (Str.ofString "_wall") 188), (.str (Str.ofString "/claim/cut.py") 189), (.int 1 0), (.int 1 0), (.int 0 0), (.int 0 0), (.int 3 0), (.ref 15), (.bool true), (.int 181 0), (.ref 16), .none, (.ref 17), (.ref 18), (.ref 19), (.int 191 0), (.int 1 0), (.str (Str.ofString "/claim/cut.py") 192)]), slots := #[] }
noncomputable abbrev k21 (P : Params) : Obj := { cls := (.type "function"), dict := none, data := (.func (fnF (st 0) (Str.ofString "_wall") (.str (Str.ofString "__main__") 164) (.ref 20))), slots := #[] }
noncomputable abbrev k32 (P : Params) : Obj := { cls := (.type "tuple"), dict := none, data := (.seq #[] 0), slots := #[] }
noncomputable abbrev k34 (P : Params) : Obj := { cls := (.type "tuple"), dict := none, data := (.seq #[(.str (Str.ofString "self") 216), (.str (Str.ofString "ws") 217), (.str (Str.ofString "S") 218), (.str (Str.ofString "T") 219), (.str (Str.ofString "count") 220), (.str (Str.ofString "b") 221), (.str (Str.ofString "n") 222), (.str (Str.ofString "nt") 223), (.str (Str.ofString "ch") 224)] 0), slots := #[] }
noncomputable abbrev k35 (P : Params) : Obj := { cls := (.type "tuple"), dict := none, data := (.seq #[] 0), slots := #[] }
noncomputable abbrev k37 (P : Params) : Obj := { cls := (.type "code"), dict := none, data := (.fields #[(.str (Str.ofString "__init__") 213), (.str (Str.ofString "Whitespace.__init__") 214), (.str (Str.ofString "/claim/cut.py") 215), (.int 8 0), (.int 2 0), (.int 0 0), (.int 0 0), (.int 3 0), (.ref 32), (.bool true), (.int 181 0), (.ref 33), .none, (.ref 34), (.ref 35), (.ref 36), (.int 225 0), (.int 8 0), (.str (Str.ofString "/claim/cut.py") 226)]), slots := #[] }
noncomputable abbrev k38 (P : Params) : Obj := { cls := (.type "function"), dict := none, data := (.func (fnF (cst 2 1) (Str.ofString "Whitespace.__init__") (.str (Str.ofString "cpy313.tabnanny") 194) (.ref 37))), slots := #[] }
noncomputable abbrev k39 (P : Params) : Obj := { cls := (.type "tuple"), dict := none, data := (.seq #[] 0), slots := #[] }
noncomputable abbrev k41 (P : Params) : Obj := { cls := (.type "tuple"), dict := none, data := (.seq #[(.str (Str.ofString "self") 231), (.str (Str.ofString "count") 232), (.str (Str.ofString "trailing") 233)] 0), slots := #[] }
noncomputable abbrev k42 (P : Params) : Obj := { cls := (.type "tuple"), dict := none, data := (.seq #[] 0), slots := #[] }
noncomputable abbrev k44 (P : Params) : Obj := { cls := (.type "code"), dict := none, data := (.fields #[(.str (Str.ofString "longest_run_of_spaces") 228), (.str (Str.ofString "Whitespace.longest_run_of_spaces") 229), (.str (Str.ofString "/claim/cut.py") 230), (.int 31 0), (.int 1 0), (.int 0 0), (.int 0 0), (.int 3 0), (.ref 39), (.bool true), (.int 181 0), (.ref 40), .none, (.ref 41), (.ref 42), (.ref 43), (.int 234 0), (.int 31 0), (.str (Str.ofString "/claim/cut.py") 235)]), slots := #[] }
noncomputable abbrev k45 (P : Params) : Obj := { cls := (.type "function"), dict := none, data := (.func (fnF (cst 2 2) (Str.ofString "Whitespace.longest_run_of_spaces") (.str (Str.ofString "cpy313.tabnanny") 194) (.ref 44))), slots := #[] }
noncomputable abbrev k46 (P : Params) : Obj := { cls := (.type "tuple"), dict := none, data := (.seq #[] 0), slots := #[] }
noncomputable abbrev k48 (P : Params) : Obj := { cls := (.type "tuple"), dict := none, data := (.seq #[(.str (Str.ofString "self") 240), (.str (Str.ofString "tabsize") 241), (.str (Str.ofString "count") 242), (.str (Str.ofString "trailing") 243), (.str (Str.ofString "il") 244), (.str (Str.ofString "i") 245)] 0), slots := #[] }
noncomputable abbrev k49 (P : Params) : Obj := { cls := (.type "tuple"), dict := none, data := (.seq #[] 0), slots := #[] }
noncomputable abbrev k51 (P : Params) : Obj := { cls := (.type "code"), dict := none, data := (.fields #[(.str (Str.ofString "indent_level") 237), (.str (Str.ofString "Whitespace.indent_level") 238), (.str (Str.ofString "/claim/cut.py") 239), (.int 35 0), (.int 2 0), (.int 0 0), (.int 0 0), (.int 3 0), (.ref 46), (.bool true), (.int 181 0), (.ref 47), .none, (.ref 48), (.ref 49), (.ref 50), (.int 246 0), (.int 35 0), (.str (Str.ofString "/claim/cut.py") 247)]), slots := #[] }
noncomputable abbrev k52 (P : Params) : Obj := { cls := (.type "function"), dict := none, data := (.func (fnF (cst 2 3) (Str.ofString "Whitespace.indent_level") (.str (Str.ofString "cpy313.tabnanny") 194) (.ref 51))), slots := #[] }
noncomputable abbrev k53 (P : Params) : Obj := { cls := (.type "tuple"), dict := none, data := (.seq #[] 0), slots := #[] }
noncomputable abbrev k55 (P : Params) : Obj := { cls := (.type "tuple"), dict := none, data := (.seq #[(.str (Str.ofString "self") 252), (.str (Str.ofString "other") 253)] 0), slots := #[] }
noncomputable abbrev k56 (P : Params) : Obj := { cls := (.type "tuple"), dict := none, data := (.seq #[] 0), slots := #[] }
noncomputable abbrev k58 (P : Params) : Obj := { cls := (.type "code"), dict := none, data := (.fields #[(.str (Str.ofString "equal") 249), (.str (Str.ofString "Whitespace.equal") 250), (.str (Str.ofString "/claim/cut.py") 251), (.int 42 0), (.int 2 0), (.int 0 0), (.int 0 0), (.int 3 0), (.ref 53), (.bool true), (.int 181 0), (.ref 54), .none, (.ref 55), (.ref 56), (.ref 57), (.int 254 0), (.int 42 0), (.str (Str.ofString "/claim/cut.py") 255)]), slots := #[] }
noncomputable abbrev k59 (P : Params) : Obj := { cls := (.type "function"), dict := none, data := (.func (fnF (cst 2 4) (Str.ofString "Whitespace.equal") (.str (Str.ofString "cpy313.tabnanny") 194) (.ref 58))), slots := #[] }
noncomputable abbrev k60 (P : Params) : Obj := { cls := (.type "tuple"), dict := none, data := (.seq #[] 0), slots := #[] }
noncomputable abbrev k62 (P : Params) : Obj := { cls := (.type "tuple"), dict := none, data := (.seq #[(.str (Str.ofString "self") 260), (.str (Str.ofString "other") 261)] 0), slots := #[] }
noncomputable abbrev k63 (P : Params) : Obj := { cls := (.type "tuple"), dict := none, data := (.seq #[] 0), slots := #[] }
noncomputable abbrev k65 (P : Params) : Obj := { cls := (.type "code"), dict := none, data := (.fields #[(.str (Str.ofString "not_equal_witness") 257), (.str (Str.ofString "Whitespace.not_equal_witness") 258), (.str (Str.ofString "/claim/cut.py") 259), (.int 45 0), (.int 2 0), (.int 0 0), (.int 0 0), (.int 3 0), (.ref 60), (.bool true), (.int 181 0), (.ref 61), .none, (.ref 62), (.ref 63), (.ref 64), (.int 262 0), (.int 45 0), (.str (Str.ofString "/claim/cut.py") 263)]), slots := #[] }
noncomputable abbrev k66 (P : Params) : Obj := { cls := (.type "function"), dict := none, data := (.func (fnF (cst 2 5) (Str.ofString "Whitespace.not_equal_witness") (.str (Str.ofString "cpy313.tabnanny") 194) (.ref 65))), slots := #[] }
noncomputable abbrev k67 (P : Params) : Obj := { cls := (.type "tuple"), dict := none, data := (.seq #[] 0), slots := #[] }
noncomputable abbrev k69 (P : Params) : Obj := { cls := (.type "tuple"), dict := none, data := (.seq #[(.str (Str.ofString "self") 268), (.str (Str.ofString "other") 269), (.str (Str.ofString "n") 270), (.str (Str.ofString "ts") 271)] 0), slots := #[] }
noncomputable abbrev k70 (P : Params) : Obj := { cls := (.type "tuple"), dict := none, data := (.seq #[] 0), slots := #[] }
noncomputable abbrev k72 (P : Params) : Obj := { cls := (.type "code"), dict := none, data := (.fields #[(.str (Str.ofString "less") 265), (.str (Str.ofString "Whitespace.less") 266), (.str (Str.ofString "/claim/cut.py") 267), (.int 48 0), (.int 2 0), (.int 0 0), (.int 0 0), (.int 3 0), (.ref 67), (.bool true), (.int 181 0), (.ref 68), .none, (.ref 69), (.ref 70), (.ref 71), (.int 272 0), (.int 48 0), (.str (Str.ofString "/claim/cut.py") 273)]), slots := #[] }
noncomputable abbrev k73 (P : Params) : Obj := { cls := (.type "function"), dict := none, data := (.func (fnF (cst 2 6) (Str.ofString "Whitespace.less") (.str (Str.ofString "cpy313.tabnanny") 194) (.ref 72))), slots := #[] }
noncomputable abbrev k74 (P : Params) : Obj := { cls := (.type "tuple"), dict := none, data := (.seq #[] 0), slots := #[] }
noncomputable abbrev k76 (P : Params) : Obj := { cls := (.type "tuple"), dict := none, data := (.seq #[(.str (Str.ofString "self") 278), (.str (Str.ofString "other") 279)] 0), slots := #[] }
noncomputable abbrev k77 (P : Params) : Obj := { cls := (.type "tuple"), dict := none, data := (.seq #[] 0), slots := #[] }
noncomputable abbrev k79 (P : Params) : Obj := { cls := (.type "code"), dict := none, data := (.fields #[(.str (Str.ofString "not_less_witness") 275), (.str (Str.ofString "Whitespace.not_less_witness") 276), (.str (Str.ofString "/claim/cut.py") 277), (.int 59 0), (.int 2 0), (.int 0 0), (.int 0 0), (.int 3 0), (.ref 74), (.bool true), (.int 181 0), (.ref 75), .none, (.ref 76), (.ref 77), (.ref 78), (.int 280 0), (.int 59 0), (.str (Str.ofString "/claim/cut.py") 281)]), slots := #[] }
noncomputable abbrev k80 (P : Params) : Obj := { cls := (.type "function"), dict := none, data := (.func (fnF (cst 2 7) (Str.ofString "Whitespace.not_less_witness") (.str (Str.ofString "cpy313.tabnanny") 194) (.ref 79))), slots := #[] }
noncomputable abbrev k81 (P : Params) : Obj := { cls := (.type "tuple"), dict := none, data := (.seq #[(.str (Str.ofString "is_simple") 283), (.str (Str.ofString "n") 284), (.str (Str.ofString "norm") 285), (.str (Str.ofString "nt") 286), (.str (Str.ofString "raw") 287)] 0), slots := #[] }
noncomputable abbrev k82 (P : Params) : Obj := { cls := (.type "dict"), dict := none, data := (.dict (List.toArray [⟨PyData.keyHash P (Str.ofString "__module__"), (.str (Str.ofString "__module__") 203), (.str (Str.ofString "cpy313.tabnanny") 194)⟩, ⟨PyData.keyHash P (Str.ofString "__firstlineno__"), (.str (Str.ofString "__firstlineno__") 207), (.int 5 206)⟩, ⟨PyData.keyHash P (Str.ofString "S"), (.str (Str.ofString "S") 211), (.str (Str.ofString " ") 209)⟩, ⟨PyData.keyHash P (Str.ofString "T"), (.str (Str.ofString "T") 212), (.str (Str.ofString "\t") 210)⟩, ⟨PyData.keyHash P (Str.ofString "__init__"), (.str (Str.ofString "__init__") 227), (.ref 38)⟩, ⟨PyData.keyHash P (Str.ofString "longest_run_of_spaces"), (.str (Str.ofString "longest_run_of_spaces") 236), (.ref 45)⟩, ⟨PyData.keyHash P (Str.ofString "indent_level"), (.str (Str.ofString "indent_level") 248), (.ref 52)⟩, ⟨PyData.keyHash P (Str.ofString "equal"), (.str (Str.ofString "equal") 256), (.ref 59)⟩, ⟨PyData.keyHash P (Str.ofString "not_equal_witness"), (.str (Str.ofString "not_equal_witness") 264), (.ref 66)⟩, ⟨PyData.keyHash P (Str.ofString "less"), (.str (Str.ofString "less") 274), (.ref 73)⟩, ⟨PyData.keyHash P (Str.ofString "not_less_witness"), (.str (Str.ofString "not_less_witness") 282), (.ref 80)⟩, ⟨PyData.keyHash P (Str.ofString "__static_attributes__"), (.str (Str.ofString "__static_attributes__") 288), (.ref 81)⟩, ⟨PyData.keyHash P (Str.ofString "__dict__"), (.str (Str.ofString "__dict__") 290), (.ref 84)⟩, ⟨PyData.keyHash P (Str.ofString "__weakref__"), (.str (Str.ofString "__weakref__") 292), (.ref 85)⟩, ⟨PyData.keyHash P (Str.ofString "__doc__"), (.str (Str.ofString "__doc__") 293), .none⟩]) 4), slots := #[] }
noncomputable abbrev k83 (P : Params) : Obj := { cls := (.type "type"), dict := none, data := (.cls { name := (Str.ofString "Whitespace"), bases := [(.type "object")], mro := [(.ref 83), (.type "object")], ns := 82, qualname := (Str.ofString "Whitespace") }), slots := #[none, none, (some (.str (Str.ofString "Whitespace") 196)), (some (.str (Str.ofString "Whitespace") 204)), (some (.builtin "object.__new__")), (some (.bool true))] }
noncomputable abbrev k84 (P : Params) : Obj := { cls := (.type "getset_descriptor"), dict := none, data := (.fields #[(.str (Str.ofString "__dict__") 289), (.ref 83), (.builtin "function.__dict__"), (.builtin "function.__dict__#set")]), slots := #[] }
noncomputable abbrev k85 (P : Params) : Obj := { cls := (.type "getset_descriptor"), dict := none, data := (.fields #[(.str (Str.ofString "__weakref__") 291), (.ref 83), (.builtin "ExceptionGroup.__weakref__"), .none]), slots := #[] }
noncomputable abbrev k88 (P : Params) : Obj := { cls := (.type "tuple"), dict := none, data := (.seq #[] 0), slots := #[] }
noncomputable abbrev k90 (P : Params) : Obj := { cls := (.type "tuple"), dict := none, data := (.seq #[(.str (Str.ofString "a") 301), (.str (Str.ofString "b") 302)] 0), slots := #[] }
noncomputable abbrev k91 (P : Params) : Obj := { cls := (.type "tuple"), dict := none, data := (.seq #[] 0), slots := #[] }
noncomputable abbrev k93 (P : Params) : Obj := { cls := (.type "code"), dict := none, data := (.fields #[(.str (Str.ofString "add") 298), (.str (Str.ofString "add") 299), (.str (Str.ofString "/claim/cut.py") 300), (.int 62 0), (.int 2 0), (.int 0 0), (.int 0 0), (.int 3 0), (.ref 88), (.bool true), (.int 181 0), (.ref 89), .none, (.ref 90), (.ref 91), (.ref 92), (.int 303 0), (.int 62 0), (.str (Str.ofString "/claim/cut.py") 304)]), slots := #[] }
noncomputable abbrev k94 (P : Params) : Obj := { cls := (.type "function"), dict := none, data := (.func (fnF (st 4) (Str.ofString "add") (.str (Str.ofString "cpy313.operator") 296) (.ref 93))), slots := #[] }
noncomputable abbrev k95 (P : Params) : Obj := { cls := (.type "tuple"), dict := none, data := (.seq #[] 0), slots := #[] }
noncomputable abbrev k97 (P : Params) : Obj := { cls := (.type "tuple"), dict := none, data := (.seq #[(.str (Str.ofString "a") 309), (.str (Str.ofString "b") 310), (.str (Str.ofString "msg") 311)] 0), slots := #[] }
noncomputable abbrev k98 (P : Params) : Obj := { cls := (.type "tuple"), dict := none, data := (.seq #[] 0), slots := #[] }
noncomputable abbrev k100 (P : Params) : Obj := { cls := (.type "code"), dict := none, data := (.fields #[(.str (Str.ofString "concat") 306), (.str (Str.ofString "concat") 307), (.str (Str.ofString "/claim/cut.py") 308), (.int 64 0), (.int 2 0), (.int 0 0), (.int 0 0), (.int 3 0), (.ref 95), (.bool true), (.int 181 0), (.ref 96), .none, (.ref 97), (.ref 98), (.ref 99), (.int 312 0), (.int 64 0), (.str (Str.ofString "/claim/cut.py") 313)]), slots := #[] }
noncomputable abbrev k101 (P : Params) : Obj := { cls := (.type "function"), dict := none, data := (.func (fnF (st 5) (Str.ofString "concat") (.str (Str.ofString "cpy313.operator") 296) (.ref 100))), slots := #[] }
noncomputable abbrev k102 (P : Params) : Obj := { cls := (.type "tuple"), dict := none, data := (.seq #[] 0), slots := #[] }
noncomputable abbrev k104 (P : Params) : Obj := { cls := (.type "tuple"), dict := none, data := (.seq #[(.str (Str.ofString "a") 318), (.str (Str.ofString "b") 319), (.str (Str.ofString "count") 320), (.str (Str.ofString "i") 321)] 0), slots := #[] }
noncomputable abbrev k105 (P : Params) : Obj := { cls := (.type "tuple"), dict := none, data := (.seq #[] 0), slots := #[] }
noncomputable abbrev k107 (P : Params) : Obj := { cls := (.type "code"), dict := none, data := (.fields #[(.str (Str.ofString "countOf") 315), (.str (Str.ofString "countOf") 316), (.str (Str.ofString "/claim/cut.py") 317), (.int 69 0), (.int 2 0), (.int 0 0), (.int 0 0), (.int 3 0), (.ref 102), (.bool true), (.int 181 0), (.ref 103), .none, (.ref 104), (.ref 105), (.ref 106), (.int 322 0), (.int 69 0), (.str (Str.ofString "/claim/cut.py") 323)]), slots := #[] }
noncomputable abbrev k108 (P : Params) : Obj := { cls := (.type "function"), dict := none, data := (.func (fnF (st 6) (Str.ofString "countOf") (.str (Str.ofString "cpy313.operator") 296) (.ref 107))), slots := #[] }
noncomputable abbrev k109 (P : Params) : Obj := { cls := (.type "tuple"), dict := none, data := (.seq #[] 0), slots := #[] }
noncomputable abbrev k111 (P : Params) : Obj := { cls := (.type "tuple"), dict := none, data := (.seq #[(.str (Str.ofString "a") 328), (.str (Str.ofString "b") 329), (.str (Str.ofString "i") 330), (.str (Str.ofString "j") 331)] 0), slots := #[] }
noncomputable abbrev k112 (P : Params) : Obj := { cls := (.type "tuple"), dict := none, data := (.seq #[] 0), slots := #[] }
noncomputable abbrev k114 (P : Params) : Obj := { cls := (.type "code"), dict := none, data := (.fields #[(.str (Str.ofString "indexOf") 325), (.str (Str.ofString "indexOf") 326), (.str (Str.ofString "/claim/cut.py") 327), (.int 75 0), (.int 2 0), (.int 0 0), (.int 0 0), (.int 3 0), (.ref 109), (.bool true), (.int 181 0), (.ref 110), .none, (.ref 111), (.ref 112), (.ref 113), (.int 332 0), (.int 75 0), (.str (Str.ofString "/claim/cut.py") 333)]), slots := #[] }
noncomputable abbrev k115 (P : Params) : Obj := { cls := (.type "function"), dict := none, data := (.func (fnF (st 7) (Str.ofString "indexOf") (.str (Str.ofString "cpy313.operator") 296) (.ref 114))), slots := #[] }
noncomputable abbrev k123 (P : Params) : Obj := { cls := (.type "set"), dict := none, data := (.set b1E 29 (b1T P)), slots := #[] }
noncomputable abbrev k127 (P : Params) : Obj := { cls := (.type "tuple"), dict := none, data := (.seq #[] 0), slots := #[] }
noncomputable abbrev k129 (P : Params) : Obj := { cls := (.type "tuple"), dict := none, data := (.seq #[(.str (Str.ofString "code") 400)] 0), slots := #[] }
noncomputable abbrev k130 (P : Params) : Obj := { cls := (.type "tuple"), dict := none, data := (.seq #[] 0), slots := #[] }
noncomputable abbrev k132 (P : Params) : Obj := { cls := (.type "code"), dict := none, data := (.fields #[(.str (Str.ofString "in_table_b1") 397), (.str (Str.ofString "in_table_b1") 398), (.str (Str.ofString "/claim/cut.py") 399), (.int 83 0), (.int 1 0), (.int 0 0), (.int 0 0), (.int 3 0), (.ref 127), (.bool true), (.int 181 0), (.ref 128), .none, (.ref 129), (.ref 130), (.ref 131), (.int 401 0), (.int 83 0), (.str (Str.ofString "/claim/cut.py") 402)]), slots := #[] }
noncomputable abbrev k133 (P : Params) : Obj := { cls := (.type "function"), dict := none, data := (.func (fnF (st 10) (Str.ofString "in_table_b1") (.str (Str.ofString "cpy313.stringprep") 335) (.ref 132))), slots := #[] }
noncomputable abbrev k134 (P : Params) : Obj := { cls := (.type "dict"), dict := none, data := (.dict b3E 650), slots := #[] }
noncomputable abbrev k173 (P : Params) : Obj := { cls := (.type "tuple"), dict := none, data := (.seq #[] 0), slots := #[] }
noncomputable abbrev k175 (P : Params) : Obj := { cls := (.type "tuple"), dict := none, data := (.seq #[(.str (Str.ofString "code") 2358), (.str (Str.ofString "r") 2359)] 0), slots := #[] }
noncomputable abbrev k176 (P : Params) : Obj := { cls := (.type "tuple"), dict := none, data := (.seq #[] 0), slots := #[] }
noncomputable abbrev k178 (P : Params) : Obj := { cls := (.type "code"), dict := none, data := (.fields #[(.str (Str.ofString "map_table_b3") 2355), (.str (Str.ofString "map_table_b3") 2356), (.str (Str.ofString "/claim/cut.py") 2357), (.int 86 0), (.int 1 0), (.int 0 0), (.int 0 0), (.int 3 0), (.ref 173), (.bool true), (.int 181 0), (.ref 174), .none, (.ref 175), (.ref 176), (.ref 177), (.int 2360 0), (.int 86 0), (.str (Str.ofString "/claim/cut.py") 2361)]), slots := #[] }
noncomputable abbrev k179 (P : Params) : Obj := { cls := (.type "function"), dict := none, data := (.func (fnF (st 12) (Str.ofString "map_table_b3") (.str (Str.ofString "cpy313.stringprep") 335) (.ref 178))), slots := #[] }
noncomputable abbrev k180 (P : Params) : Obj := { cls := (.type "tuple"), dict := none, data := (.seq #[] 0), slots := #[] }
noncomputable abbrev k182 (P : Params) : Obj := { cls := (.type "tuple"), dict := none, data := (.seq #[(.str (Str.ofString "code") 2366)] 0), slots := #[] }
noncomputable abbrev k183 (P : Params) : Obj := { cls := (.type "tuple"), dict := none, data := (.seq #[] 0), slots := #[] }
noncomputable abbrev k185 (P : Params) : Obj := { cls := (.type "code"), dict := none, data := (.fields #[(.str (Str.ofString "in_table_c11") 2363), (.str (Str.ofString "in_table_c11") 2364), (.str (Str.ofString "/claim/cut.py") 2365), (.int 91 0), (.int 1 0), (.int 0 0), (.int 0 0), (.int 3 0), (.ref 180), (.bool true), (.int 181 0), (.ref 181), .none, (.ref 182), (.ref 183), (.ref 184), (.int 2367 0), (.int 91 0), (.str (Str.ofString "/claim/cut.py") 2368)]), slots := #[] }
noncomputable abbrev k186 (P : Params) : Obj := { cls := (.type "function"), dict := none, data := (.func (fnF (st 13) (Str.ofString "in_table_c11") (.str (Str.ofString "cpy313.stringprep") 335) (.ref 185))), slots := #[] }
noncomputable abbrev k187 (P : Params) : Obj := { cls := (.type "tuple"), dict := none, data := (.seq #[] 0), slots := #[] }
noncomputable abbrev k189 (P : Params) : Obj := { cls := (.type "tuple"), dict := none, data := (.seq #[(.str (Str.ofString "kinds") 2375), (.str (Str.ofString "spelling") 2376), (.str (Str.ofString "unseen") 2377), (.str (Str.ofString "text") 2378), (.str (Str.ofString "at") 2379), (.str (Str.ofString "kind") 2380), (.str (Str.ofString "hidden") 2381), (.str (Str.ofString "form") 2382), (.str (Str.ofString "code") 2383)] 0), slots := #[] }
noncomputable abbrev k190 (P : Params) : Obj := { cls := (.type "tuple"), dict := none, data := (.seq #[] 0), slots := #[] }
noncomputable abbrev k192 (P : Params) : Obj := { cls := (.type "code"), dict := none, data := (.fields #[(.str (Str.ofString "_law_typed") 2372), (.str (Str.ofString "_law_typed") 2373), (.str (Str.ofString "/claim/cut.py") 2374), (.int 94 0), (.int 3 0), (.int 0 0), (.int 0 0), (.int 3 0), (.ref 187), (.bool true), (.int 181 0), (.ref 188), .none, (.ref 189), (.ref 190), (.ref 191), (.int 2384 0), (.int 94 0), (.str (Str.ofString "/claim/cut.py") 2385)]), slots := #[] }
noncomputable abbrev k193 (P : Params) : Obj := { cls := (.type "function"), dict := none, data := (.func (fnF (st 15) (Str.ofString "_law_typed") (.str (Str.ofString "law_tl0044_01") 2370) (.ref 192))), slots := #[] }
noncomputable abbrev k194 (P : Params) : Obj := { cls := (.type "tuple"), dict := none, data := (.seq #[] 0), slots := #[] }
noncomputable abbrev k196 (P : Params) : Obj := { cls := (.type "tuple"), dict := none, data := (.seq #[(.str (Str.ofString "text") 2390), (.str (Str.ofString "told") 2391), (.str (Str.ofString "sign") 2392), (.str (Str.ofString "held") 2393)] 0), slots := #[] }
noncomputable abbrev k197 (P : Params) : Obj := { cls := (.type "tuple"), dict := none, data := (.seq #[] 0), slots := #[] }
noncomputable abbrev k199 (P : Params) : Obj := { cls := (.type "code"), dict := none, data := (.fields #[(.str (Str.ofString "_law_prepared") 2387), (.str (Str.ofString "_law_prepared") 2388), (.str (Str.ofString "/claim/cut.py") 2389), (.int 109 0), (.int 1 0), (.int 0 0), (.int 0 0), (.int 3 0), (.ref 194), (.bool true), (.int 181 0), (.ref 195), .none, (.ref 196), (.ref 197), (.ref 198), (.int 2394 0), (.int 109 0), (.str (Str.ofString "/claim/cut.py") 2395)]), slots := #[] }
noncomputable abbrev k200 (P : Params) : Obj := { cls := (.type "function"), dict := none, data := (.func (fnF (st 16) (Str.ofString "_law_prepared") (.str (Str.ofString "law_tl0044_01") 2370) (.ref 199))), slots := #[] }
noncomputable abbrev k201 (P : Params) : Obj := { cls := (.type "tuple"), dict := none, data := (.seq #[] 0), slots := #[] }
noncomputable abbrev k204 (P : Params) : Obj := { cls := (.type "code"), dict := none, data := (.fields #[(.str (Str.ofString "_law_cut") 2397), (.str (Str.ofString "_law_cut") 2398), (.str (Str.ofString "/claim/cut.py") 2399), (.int 118 0), (.int 1 0), (.int 0 0), (.int 0 0), (.int 3 0), (.ref 201), (.bool true), (.int 181 0), (.ref 202), .none, .none, .none, (.ref 203), (.int 2400 0), (.int 118 0), (.str (Str.ofString "/claim/cut.py") 2401)]), slots := #[] }
noncomputable abbrev k205 (P : Params) : Obj := { cls := (.type "function"), dict := none, data := (.func (fnF (st 17) (Str.ofString "_law_cut") (.str (Str.ofString "law_tl0044_01") 2370) (.ref 204))), slots := #[] }
noncomputable abbrev k206 (P : Params) : Obj := { cls := (.type "tuple"), dict := none, data := (.seq #[] 0), slots := #[] }
noncomputable abbrev k209 (P : Params) : Obj := { cls := (.type "code"), dict := none, data := (.fields #[(.str (Str.ofString "_law_laid") 2403), (.str (Str.ofString "_law_laid") 2404), (.str (Str.ofString "/claim/cut.py") 2405), (.int 132 0), (.int 1 0), (.int 0 0), (.int 0 0), (.int 3 0), (.ref 206), (.bool true), (.int 181 0), (.ref 207), .none, .none, .none, (.ref 208), (.int 2406 0), (.int 132 0), (.str (Str.ofString "/claim/cut.py") 2407)]), slots := #[] }
noncomputable abbrev k210 (P : Params) : Obj := { cls := (.type "function"), dict := none, data := (.func (fnF (st 18) (Str.ofString "_law_laid") (.str (Str.ofString "law_tl0044_01") 2370) (.ref 209))), slots := #[] }
noncomputable abbrev k211 (P : Params) : Obj := { cls := (.type "tuple"), dict := none, data := (.seq #[] 0), slots := #[] }
noncomputable abbrev k213 (P : Params) : Obj := { cls := (.type "tuple"), dict := none, data := (.seq #[(.str (Str.ofString "laid") 2412), (.str (Str.ofString "m") 2413), (.str (Str.ofString "near") 2414), (.str (Str.ofString "far") 2415), (.str (Str.ofString "twice") 2416), (.str (Str.ofString "pairs") 2417)] 0), slots := #[] }
noncomputable abbrev k214 (P : Params) : Obj := { cls := (.type "tuple"), dict := none, data := (.seq #[] 0), slots := #[] }
noncomputable abbrev k216 (P : Params) : Obj := { cls := (.type "code"), dict := none, data := (.fields #[(.str (Str.ofString "_law_pairs") 2409), (.str (Str.ofString "_law_pairs") 2410), (.str (Str.ofString "/claim/cut.py") 2411), (.int 138 0), (.int 2 0), (.int 0 0), (.int 0 0), (.int 3 0), (.ref 211), (.bool true), (.int 181 0), (.ref 212), .none, (.ref 213), (.ref 214), (.ref 215), (.int 2418 0), (.int 138 0), (.str (Str.ofString "/claim/cut.py") 2419)]), slots := #[] }
noncomputable abbrev k217 (P : Params) : Obj := { cls := (.type "function"), dict := none, data := (.func (fnF (st 19) (Str.ofString "_law_pairs") (.str (Str.ofString "law_tl0044_01") 2370) (.ref 216))), slots := #[] }
noncomputable abbrev k218 (P : Params) : Obj := { cls := (.type "tuple"), dict := none, data := (.seq #[] 0), slots := #[] }
noncomputable abbrev k220 (P : Params) : Obj := { cls := (.type "tuple"), dict := none, data := (.seq #[(.str (Str.ofString "amounts") 2424), (.str (Str.ofString "rooms") 2425), (.str (Str.ofString "held") 2426), (.str (Str.ofString "amount") 2427), (.str (Str.ofString "later") 2428), (.str (Str.ofString "taken") 2429), (.str (Str.ofString "key") 2430)] 0), slots := #[] }
noncomputable abbrev k221 (P : Params) : Obj := { cls := (.type "tuple"), dict := none, data := (.seq #[] 0), slots := #[] }
noncomputable abbrev k223 (P : Params) : Obj := { cls := (.type "code"), dict := none, data := (.fields #[(.str (Str.ofString "_law_deals") 2421), (.str (Str.ofString "_law_deals") 2422), (.str (Str.ofString "/claim/cut.py") 2423), (.int 143 0), (.int 2 0), (.int 0 0), (.int 0 0), (.int 3 0), (.ref 218), (.bool true), (.int 181 0), (.ref 219), .none, (.ref 220), (.ref 221), (.ref 222), (.int 2431 0), (.int 143 0), (.str (Str.ofString "/claim/cut.py") 2432)]), slots := #[] }
noncomputable abbrev k224 (P : Params) : Obj := { cls := (.type "function"), dict := none, data := (.func (fnF (st 20) (Str.ofString "_law_deals") (.str (Str.ofString "law_tl0044_01") 2370) (.ref 223))), slots := #[] }
noncomputable abbrev k225 (P : Params) : Obj := { cls := (.type "tuple"), dict := none, data := (.seq #[] 0), slots := #[] }
noncomputable abbrev k228 (P : Params) : Obj := { cls := (.type "code"), dict := none, data := (.fields #[(.str (Str.ofString "law") 2434), (.str (Str.ofString "law") 2435), (.str (Str.ofString "/claim/cut.py") 2436), (.int 154 0), (.int 1 0), (.int 0 0), (.int 0 0), (.int 3 0), (.ref 225), (.bool true), (.int 181 0), (.ref 226), .none, .none, .none, (.ref 227), (.int 2437 0), (.int 154 0), (.str (Str.ofString "/claim/cut.py") 2438)]), slots := #[] }
noncomputable abbrev k229 (P : Params) : Obj := { cls := (.type "function"), dict := none, data := (.func (fnF (st 21) (Str.ofString "law") (.str (Str.ofString "law_tl0044_01") 2370) (.ref 228))), slots := #[] }
noncomputable abbrev K : Params → Frag := fun P => (nat_lit 2, k2 P) :: (nat_lit 3, k3 P) :: (nat_lit 15, k15 P) :: (nat_lit 17, k17 P) :: (nat_lit 18, k18 P) :: (nat_lit 20, k20 P) :: (nat_lit 21, k21 P) :: (nat_lit 32, k32 P) :: (nat_lit 34, k34 P) :: (nat_lit 35, k35 P) :: (nat_lit 37, k37 P) :: (nat_lit 38, k38 P) :: (nat_lit 39, k39 P) :: (nat_lit 41, k41 P) :: (nat_lit 42, k42 P) :: (nat_lit 44, k44 P) :: (nat_lit 45, k45 P) :: (nat_lit 46, k46 P) :: (nat_lit 48, k48 P) :: (nat_lit 49, k49 P) :: (nat_lit 51, k51 P) :: (nat_lit 52, k52 P) :: (nat_lit 53, k53 P) :: (nat_lit 55, k55 P) :: (nat_lit 56, k56 P) :: (nat_lit 58, k58 P) :: (nat_lit 59, k59 P) :: (nat_lit 60, k60 P) :: (nat_lit 62, k62 P) :: (nat_lit 63, k63 P) :: (nat_lit 65, k65 P) :: (nat_lit 66, k66 P) :: (nat_lit 67, k67 P) :: (nat_lit 69, k69 P) :: (nat_lit 70, k70 P) :: (nat_lit 72, k72 P) :: (nat_lit 73, k73 P) :: (nat_lit 74, k74 P) :: (nat_lit 76, k76 P) :: (nat_lit 77, k77 P) :: (nat_lit 79, k79 P) :: (nat_lit 80, k80 P) :: (nat_lit 81, k81 P) :: (nat_lit 82, k82 P) :: (nat_lit 83, k83 P) :: (nat_lit 84, k84 P) :: (nat_lit 85, k85 P) :: (nat_lit 88, k88 P) :: (nat_lit 90, k90 P) :: (nat_lit 91, k91 P) :: (nat_lit 93, k93 P) :: (nat_lit 94, k94 P) :: (nat_lit 95, k95 P) :: (nat_lit 97, k97 P) :: (nat_lit 98, k98 P) :: (nat_lit 100, k100 P) :: (nat_lit 101, k101 P) :: (nat_lit 102, k102 P) :: (nat_lit 104, k104 P) :: (nat_lit 105, k105 P) :: (nat_lit 107, k107 P) :: (nat_lit 108, k108 P) :: (nat_lit 109, k109 P) :: (nat_lit 111, k111 P) :: (nat_lit 112, k112 P) :: (nat_lit 114, k114 P) :: (nat_lit 115, k115 P) :: (nat_lit 123, k123 P) :: (nat_lit 127, k127 P) :: (nat_lit 129, k129 P) :: (nat_lit 130, k130 P) :: (nat_lit 132, k132 P) :: (nat_lit 133, k133 P) :: (nat_lit 134, k134 P) :: (nat_lit 173, k173 P) :: (nat_lit 175, k175 P) :: (nat_lit 176, k176 P) :: (nat_lit 178, k178 P) :: (nat_lit 179, k179 P) :: (nat_lit 180, k180 P) :: (nat_lit 182, k182 P) :: (nat_lit 183, k183 P) :: (nat_lit 185, k185 P) :: (nat_lit 186, k186 P) :: (nat_lit 187, k187 P) :: (nat_lit 189, k189 P) :: (nat_lit 190, k190 P) :: (nat_lit 192, k192 P) :: (nat_lit 193, k193 P) :: (nat_lit 194, k194 P) :: (nat_lit 196, k196 P) :: (nat_lit 197, k197 P) :: (nat_lit 199, k199 P) :: (nat_lit 200, k200 P) :: (nat_lit 201, k201 P) :: (nat_lit 204, k204 P) :: (nat_lit 205, k205 P) :: (nat_lit 206, k206 P) :: (nat_lit 209, k209 P) :: (nat_lit 210, k210 P) :: (nat_lit 211, k211 P) :: (nat_lit 213, k213 P) :: (nat_lit 214, k214 P) :: (nat_lit 216, k216 P) :: (nat_lit 217, k217 P) :: (nat_lit 218, k218 P) :: (nat_lit 220, k220 P) :: (nat_lit 221, k221 P) :: (nat_lit 223, k223 P) :: (nat_lit 224, k224 P) :: (nat_lit 225, k225 P) :: (nat_lit 228, k228 P) :: (nat_lit 229, k229 P) :: []
noncomputable abbrev Ka : List Nat := nat_lit 2 :: nat_lit 3 :: nat_lit 15 :: nat_lit 17 :: nat_lit 18 :: nat_lit 20 :: nat_lit 21 :: nat_lit 32 :: nat_lit 34 :: nat_lit 35 :: nat_lit 37 :: nat_lit 38 :: nat_lit 39 :: nat_lit 41 :: nat_lit 42 :: nat_lit 44 :: nat_lit 45 :: nat_lit 46 :: nat_lit 48 :: nat_lit 49 :: nat_lit 51 :: nat_lit 52 :: nat_lit 53 :: nat_lit 55 :: nat_lit 56 :: nat_lit 58 :: nat_lit 59 :: nat_lit 60 :: nat_lit 62 :: nat_lit 63 :: nat_lit 65 :: nat_lit 66 :: nat_lit 67 :: nat_lit 69 :: nat_lit 70 :: nat_lit 72 :: nat_lit 73 :: nat_lit 74 :: nat_lit 76 :: nat_lit 77 :: nat_lit 79 :: nat_lit 80 :: nat_lit 81 :: nat_lit 82 :: nat_lit 83 :: nat_lit 84 :: nat_lit 85 :: nat_lit 88 :: nat_lit 90 :: nat_lit 91 :: nat_lit 93 :: nat_lit 94 :: nat_lit 95 :: nat_lit 97 :: nat_lit 98 :: nat_lit 100 :: nat_lit 101 :: nat_lit 102 :: nat_lit 104 :: nat_lit 105 :: nat_lit 107 :: nat_lit 108 :: nat_lit 109 :: nat_lit 111 :: nat_lit 112 :: nat_lit 114 :: nat_lit 115 :: nat_lit 123 :: nat_lit 127 :: nat_lit 129 :: nat_lit 130 :: nat_lit 132 :: nat_lit 133 :: nat_lit 134 :: nat_lit 173 :: nat_lit 175 :: nat_lit 176 :: nat_lit 178 :: nat_lit 179 :: nat_lit 180 :: nat_lit 182 :: nat_lit 183 :: nat_lit 185 :: nat_lit 186 :: nat_lit 187 :: nat_lit 189 :: nat_lit 190 :: nat_lit 192 :: nat_lit 193 :: nat_lit 194 :: nat_lit 196 :: nat_lit 197 :: nat_lit 199 :: nat_lit 200 :: nat_lit 201 :: nat_lit 204 :: nat_lit 205 :: nat_lit 206 :: nat_lit 209 :: nat_lit 210 :: nat_lit 211 :: nat_lit 213 :: nat_lit 214 :: nat_lit 216 :: nat_lit 217 :: nat_lit 218 :: nat_lit 220 :: nat_lit 221 :: nat_lit 223 :: nat_lit 224 :: nat_lit 225 :: nat_lit 228 :: nat_lit 229 :: []

end Mine
end
section
open PySem PySem.W PySem.Calls PyProof.Rows
set_option Elab.async false
set_option maxRecDepth 100000
set_option linter.unusedVariables false
namespace Mine
noncomputable abbrev pw : Program := PySem.Challenge.pw_tl0044_01
/-- the record behind a code object -/
noncomputable def fnC (s : Stmt) (qual : Str) : FuncData := match s with | .FunctionDef n a b _ _ _ sc _ _ _ => { name := n, qualname := qual, params := a, body := .stmts b, scope := sc, globals := 0, closure := [], defaults := .none, kwdefaults := .none } | _ => default
noncomputable def b3S (i : Nat) : Array DictEntry := ((b3E.toList.drop (17 * (i + 1))).take 17).toArray

noncomputable def h11_0 (P : Params) : Obj := { cls := (.type "tuple"), dict := none, data := (.seq #[] 0), slots := #[] }
noncomputable def h12_0 (P : Params) : Obj := { cls := .none, dict := none, data := (.fields #[]), slots := #[] }
noncomputable def h13_0 (P : Params) : Obj := { cls := (.type "code"), dict := none, data := (.fields #[(.str (Str.ofString "<module>") 182), (.str (Str.ofString "<module>") 183), (.str (Str.ofString "/claim/cut.py") 184), (.int 1 0), (.int 0 0), (.int 0 0), (.int 0 0), (.int 0 0), (.ref 11), (.bool false), (.int 181 0), (.ref 12), .none, .none, .none, .none, (.int 185 0), (.int 1 0), (.str (Str.ofString "/claim/cut.py") 186)]), slots := #[] }
noncomputable def h14_0 (P : Params) : Obj := { cls := (.type "frame"), dict := none, data := .plain, slots := #[(some (.ref 13)), (some (.ref 3)), (some (.ref 3)), none, (some (.str (Str.ofString "__main__") 164)), none, (some (.ref 0))] }
noncomputable def h3_2 (P : Params) : Obj := { cls := (.type "dict"), dict := none, data := (.dict (List.toArray [⟨PyData.keyHash P (Str.ofString "__name__"), (.str (Str.ofString "__name__") 165), (.str (Str.ofString "cpy313.stringprep") 335)⟩, ⟨PyData.keyHash P (Str.ofString "__doc__"), (.str (Str.ofString "__doc__") 166), .none⟩, ⟨PyData.keyHash P (Str.ofString "__package__"), (.str (Str.ofString "__package__") 167), .none⟩, ⟨PyData.keyHash P (Str.ofString "__loader__"), (.str (Str.ofString "__loader__") 168), (.builtin "__main__.__loader__#opaque")⟩, ⟨PyData.keyHash P (Str.ofString "__spec__"), (.str (Str.ofString "__spec__") 169), .none⟩, ⟨PyData.keyHash P (Str.ofString "__annotations__"), (.str (Str.ofString "__annotations__") 170), (.ref 6)⟩, ⟨PyData.keyHash P (Str.ofString "__builtins__"), (.str (Str.ofString "__builtins__") 171), (.ref 4)⟩, ⟨PyData.keyHash P (Str.ofString "__file__"), (.str (Str.ofString "__file__") 173), (.str (Str.ofString "/claim/cut.py") 172)⟩, ⟨PyData.keyHash P (Str.ofString "__cached__"), (.str (Str.ofString "__cached__") 174), .none⟩, ⟨PyData.keyHash P (Str.ofString "_wall"), (.str (Str.ofString "_wall") 193), (.ref 21)⟩, ⟨PyData.keyHash P (Str.ofString "Whitespace"), (.str (Str.ofString "Whitespace") 295), (.ref 83)⟩, ⟨PyData.keyHash P (Str.ofString "add"), (.str (Str.ofString "add") 305), (.ref 94)⟩, ⟨PyData.keyHash P (Str.ofString "concat"), (.str (Str.ofString "concat") 314), (.ref 101)⟩, ⟨PyData.keyHash P (Str.ofString "countOf"), (.str (Str.ofString "countOf") 324), (.ref 108)⟩, ⟨PyData.keyHash P (Str.ofString "indexOf"), (.str (Str.ofString "indexOf") 334), (.ref 115)⟩]) 15), slots := #[] }
noncomputable def h12_1 (P : Params) : Obj := { cls := .none, dict := none, data := (.fields #[(.int 1 0), (.int 0 0), (.ref 20), (.int 5 0), (.int 0 0), (.ref 27), (.int 62 0), (.int 0 0), (.ref 93), (.int 64 0), (.int 0 0), (.ref 100), (.int 69 0), (.int 0 0), (.ref 107), (.int 75 0), (.int 0 0), (.ref 114)]), slots := #[] }
noncomputable def h16_0 (P : Params) : Obj := { cls := .none, dict := none, data := (.fields #[]), slots := #[] }
noncomputable def h19_0 (P : Params) : Obj := { cls := .none, dict := none, data := (.func (fnC (st 0) (Str.ofString "_wall"))), slots := #[] }
noncomputable def h22_0 (P : Params) : Obj := { cls := (.type "tuple"), dict := none, data := (.seq #[] 0), slots := #[] }
noncomputable def h23_0 (P : Params) : Obj := { cls := (.type "builtin_function_or_method"), dict := none, data := (.fields #[(.builtin "type.__prepare__"), (.type "type")]), slots := #[] }
noncomputable def h24_0 (P : Params) : Obj := { cls := (.type "dict"), dict := none, data := (.dict (List.toArray [⟨PyData.keyHash P (Str.ofString "__module__"), (.str (Str.ofString "__module__") 203), (.str (Str.ofString "cpy313.tabnanny") 194)⟩, ⟨PyData.keyHash P (Str.ofString "__qualname__"), (.str (Str.ofString "__qualname__") 205), (.str (Str.ofString "Whitespace") 204)⟩, ⟨PyData.keyHash P (Str.ofString "__firstlineno__"), (.str (Str.ofString "__firstlineno__") 207), (.int 5 206)⟩, ⟨PyData.keyHash P (Str.ofString "S"), (.str (Str.ofString "S") 211), (.str (Str.ofString " ") 209)⟩, ⟨PyData.keyHash P (Str.ofString "T"), (.str (Str.ofString "T") 212), (.str (Str.ofString "\t") 210)⟩, ⟨PyData.keyHash P (Str.ofString "__init__"), (.str (Str.ofString "__init__") 227), (.ref 38)⟩, ⟨PyData.keyHash P (Str.ofString "longest_run_of_spaces"), (.str (Str.ofString "longest_run_of_spaces") 236), (.ref 45)⟩, ⟨PyData.keyHash P (Str.ofString "indent_level"), (.str (Str.ofString "indent_level") 248), (.ref 52)⟩, ⟨PyData.keyHash P (Str.ofString "equal"), (.str (Str.ofString "equal") 256), (.ref 59)⟩, ⟨PyData.keyHash P (Str.ofString "not_equal_witness"), (.str (Str.ofString "not_equal_witness") 264), (.ref 66)⟩, ⟨PyData.keyHash P (Str.ofString "less"), (.str (Str.ofString "less") 274), (.ref 73)⟩, ⟨PyData.keyHash P (Str.ofString "not_less_witness"), (.str (Str.ofString "not_less_witness") 282), (.ref 80)⟩, ⟨PyData.keyHash P (Str.ofString "__static_attributes__"), (.str (Str.ofString "__static_attributes__") 288), (.ref 81)⟩]) 13), slots := #[] }
noncomputable def h25_0 (P : Params) : Obj := { cls := (.type "tuple"), dict := none, data := (.seq #[] 0), slots := #[] }
noncomputable def h26_0 (P : Params) : Obj := { cls := .none, dict := none, data := (.fields #[(.int 8 0), (.int 4 0), (.ref 37), (.int 31 0), (.int 4 0), (.ref 44), (.int 35 0), (.int 4 0), (.ref 51), (.int 42 0), (.int 4 0), (.ref 58), (.int 45 0), (.int 4 0), (.ref 65), (.int 48 0), (.int 4 0), (.ref 72), (.int 59 0), (.int 4 0), (.ref 79)]), slots := #[] }
noncomputable def h27_0 (P : Params) : Obj := { cls := (.type "code"), dict := none, data := (.fields #[(.str (Str.ofString "Whitespace") 198), (.str (Str.ofString "Whitespace") 199), (.str (Str.ofString "/claim/cut.py") 200), (.int 5 0), (.int 0 0), (.int 0 0), (.int 0 0), (.int 0 0), (.ref 25), (.bool false), (.int 181 0), (.ref 26), .none, .none, .none, .none, (.int 201 0), (.int 5 0), (.str (Str.ofString "/claim/cut.py") 202)]), slots := #[] }
noncomputable def h28_0 (P : Params) : Obj := { cls := (.type "frame"), dict := none, data := .plain, slots := #[(some (.ref 27)), (some (.ref 3)), (some (.ref 24)), none, (some (.str (Str.ofString "cpy313.tabnanny") 194)), none, (some (.ref 0))] }
noncomputable def h29_0 (P : Params) : Obj := { cls := (.type "str_ascii_iterator"), dict := none, data := (.fields #[.none, (.int 2 0)]), slots := #[] }
noncomputable def h30_0 (P : Params) : Obj := { cls := (.type "tuple"), dict := none, data := (.seq #[] 0), slots := #[] }
noncomputable def h31_0 (P : Params) : Obj := { cls := (.type "StopIteration"), dict := none, data := (.fields #[(.ref 30), .none, .none, .none, (.bool false), .none]), slots := #[] }
noncomputable def h33_0 (P : Params) : Obj := { cls := .none, dict := none, data := (.fields #[]), slots := #[] }
noncomputable def h36_0 (P : Params) : Obj := { cls := .none, dict := none, data := (.func (fnC (cst 2 1) (Str.ofString "Whitespace.__init__"))), slots := #[] }
noncomputable def h40_0 (P : Params) : Obj := { cls := .none, dict := none, data := (.fields #[]), slots := #[] }
noncomputable def h43_0 (P : Params) : Obj := { cls := .none, dict := none, data := (.func (fnC (cst 2 2) (Str.ofString "Whitespace.longest_run_of_spaces"))), slots := #[] }
noncomputable def h47_0 (P : Params) : Obj := { cls := .none, dict := none, data := (.fields #[]), slots := #[] }
noncomputable def h50_0 (P : Params) : Obj := { cls := .none, dict := none, data := (.func (fnC (cst 2 3) (Str.ofString "Whitespace.indent_level"))), slots := #[] }
noncomputable def h54_0 (P : Params) : Obj := { cls := .none, dict := none, data := (.fields #[]), slots := #[] }
noncomputable def h57_0 (P : Params) : Obj := { cls := .none, dict := none, data := (.func (fnC (cst 2 4) (Str.ofString "Whitespace.equal"))), slots := #[] }
noncomputable def h61_0 (P : Params) : Obj := { cls := .none, dict := none, data := (.fields #[]), slots := #[] }
noncomputable def h64_0 (P : Params) : Obj := { cls := .none, dict := none, data := (.func (fnC (cst 2 5) (Str.ofString "Whitespace.not_equal_witness"))), slots := #[] }
noncomputable def h68_0 (P : Params) : Obj := { cls := .none, dict := none, data := (.fields #[]), slots := #[] }
noncomputable def h71_0 (P : Params) : Obj := { cls := .none, dict := none, data := (.func (fnC (cst 2 6) (Str.ofString "Whitespace.less"))), slots := #[] }
noncomputable def h75_0 (P : Params) : Obj := { cls := .none, dict := none, data := (.fields #[]), slots := #[] }
noncomputable def h78_0 (P : Params) : Obj := { cls := .none, dict := none, data := (.func (fnC (cst 2 7) (Str.ofString "Whitespace.not_less_witness"))), slots := #[] }
noncomputable def h86_0 (P : Params) : Obj := { cls := (.type "super"), dict := none, data := (.fields #[(.ref 83), (.ref 83), (.ref 83)]), slots := #[] }
noncomputable def h87_0 (P : Params) : Obj := { cls := (.type "builtin_function_or_method"), dict := none, data := (.fields #[(.builtin "object.__init_subclass__"), (.ref 83)]), slots := #[] }
noncomputable def h89_0 (P : Params) : Obj := { cls := .none, dict := none, data := (.fields #[]), slots := #[] }
noncomputable def h92_0 (P : Params) : Obj := { cls := .none, dict := none, data := (.func (fnC (st 4) (Str.ofString "add"))), slots := #[] }
noncomputable def h96_0 (P : Params) : Obj := { cls := .none, dict := none, data := (.fields #[]), slots := #[] }
noncomputable def h99_0 (P : Params) : Obj := { cls := .none, dict := none, data := (.func (fnC (st 5) (Str.ofString "concat"))), slots := #[] }
noncomputable def h103_0 (P : Params) : Obj := { cls := .none, dict := none, data := (.fields #[]), slots := #[] }
noncomputable def h106_0 (P : Params) : Obj := { cls := .none, dict := none, data := (.func (fnC (st 6) (Str.ofString "countOf"))), slots := #[] }
noncomputable def h110_0 (P : Params) : Obj := { cls := .none, dict := none, data := (.fields #[]), slots := #[] }
noncomputable def h113_0 (P : Params) : Obj := { cls := .none, dict := none, data := (.func (fnC (st 7) (Str.ofString "indexOf"))), slots := #[] }
noncomputable def h3_3 (P : Params) : Obj := { cls := (.type "dict"), dict := none, data := (.dict (List.toArray [⟨PyData.keyHash P (Str.ofString "__name__"), (.str (Str.ofString "__name__") 165), (.str (Str.ofString "cpy313.stringprep") 335)⟩, ⟨PyData.keyHash P (Str.ofString "__doc__"), (.str (Str.ofString "__doc__") 166), .none⟩, ⟨PyData.keyHash P (Str.ofString "__package__"), (.str (Str.ofString "__package__") 167), .none⟩, ⟨PyData.keyHash P (Str.ofString "__loader__"), (.str (Str.ofString "__loader__") 168), (.builtin "__main__.__loader__#opaque")⟩, ⟨PyData.keyHash P (Str.ofString "__spec__"), (.str (Str.ofString "__spec__") 169), .none⟩, ⟨PyData.keyHash P (Str.ofString "__annotations__"), (.str (Str.ofString "__annotations__") 170), (.ref 6)⟩, ⟨PyData.keyHash P (Str.ofString "__builtins__"), (.str (Str.ofString "__builtins__") 171), (.ref 4)⟩, ⟨PyData.keyHash P (Str.ofString "__file__"), (.str (Str.ofString "__file__") 173), (.str (Str.ofString "/claim/cut.py") 172)⟩, ⟨PyData.keyHash P (Str.ofString "__cached__"), (.str (Str.ofString "__cached__") 174), .none⟩, ⟨PyData.keyHash P (Str.ofString "_wall"), (.str (Str.ofString "_wall") 193), (.ref 21)⟩, ⟨PyData.keyHash P (Str.ofString "Whitespace"), (.str (Str.ofString "Whitespace") 295), (.ref 83)⟩, ⟨PyData.keyHash P (Str.ofString "add"), (.str (Str.ofString "add") 305), (.ref 94)⟩, ⟨PyData.keyHash P (Str.ofString "concat"), (.str (Str.ofString "concat") 314), (.ref 101)⟩, ⟨PyData.keyHash P (Str.ofString "countOf"), (.str (Str.ofString "countOf") 324), (.ref 108)⟩, ⟨PyData.keyHash P (Str.ofString "indexOf"), (.str (Str.ofString "indexOf") 334), (.ref 115)⟩, ⟨PyData.keyHash P (Str.ofString "b1_set"), (.str (Str.ofString "b1_set") 396), (.ref 123)⟩]) 16), slots := #[] }
noncomputable def h116_0 (P : Params) : Obj := { cls := (.type "list"), dict := none, data := (.seq #[(.int 173 337), (.int 847 338), (.int 6150 339), (.int 6155 340), (.int 6156 341), (.int 6157 342), (.int 8203 343), (.int 8204 344), (.int 8205 345), (.int 8288 346), (.int 65279 347)] 0), slots := #[] }
noncomputable def h117_0 (P : Params) : Obj := { cls := (.type "range"), dict := none, data := (.fields #[(.int 65024 348), (.int 65040 349), (.int 1 350)]), slots := #[] }
noncomputable def h118_0 (P : Params) : Obj := { cls := (.type "list"), dict := none, data := (.seq #[(.int 65024 353), (.int 65025 354), (.int 65026 355), (.int 65027 356), (.int 65028 357), (.int 65029 358), (.int 65030 359), (.int 65031 360), (.int 65032 361), (.int 65033 362), (.int 65034 363), (.int 65035 364), (.int 65036 365), (.int 65037 366), (.int 65038 367), (.int 65039 368)] 18), slots := #[] }
noncomputable def h119_0 (P : Params) : Obj := { cls := (.type "range_iterator"), dict := none, data := (.fields #[(.int 65040 0), (.int 0 0), (.int 1 0)]), slots := #[] }
noncomputable def h120_0 (P : Params) : Obj := { cls := (.type "tuple"), dict := none, data := (.seq #[] 0), slots := #[] }
noncomputable def h121_0 (P : Params) : Obj := { cls := (.type "StopIteration"), dict := none, data := (.fields #[(.ref 120), .none, .none, .none, (.bool false), .none]), slots := #[] }
noncomputable def h122_0 (P : Params) : Obj := { cls := (.type "list"), dict := none, data := (.seq #[(.int 173 337), (.int 847 338), (.int 6150 339), (.int 6155 340), (.int 6156 341), (.int 6157 342), (.int 8203 343), (.int 8204 344), (.int 8205 345), (.int 8288 346), (.int 65279 347), (.int 65024 353), (.int 65025 354), (.int 65026 355), (.int 65027 356), (.int 65028 357), (.int 65029 358), (.int 65030 359), (.int 65031 360), (.int 65032 361), (.int 65033 362), (.int 65034 363), (.int 65035 364), (.int 65036 365), (.int 65037 366), (.int 65038 367), (.int 65039 368)] 0), slots := #[] }
noncomputable def h124_0 (P : Params) : Obj := { cls := (.type "list_iterator"), dict := none, data := (.fields #[.none, (.int 27 0)]), slots := #[] }
noncomputable def h125_0 (P : Params) : Obj := { cls := (.type "tuple"), dict := none, data := (.seq #[] 0), slots := #[] }
noncomputable def h126_0 (P : Params) : Obj := { cls := (.type "StopIteration"), dict := none, data := (.fields #[(.ref 125), .none, .none, .none, (.bool false), .none]), slots := #[] }
noncomputable def h3_4 (P : Params) : Obj := { cls := (.type "dict"), dict := none, data := (.dict (List.toArray [⟨PyData.keyHash P (Str.ofString "__name__"), (.str (Str.ofString "__name__") 165), (.str (Str.ofString "cpy313.stringprep") 335)⟩, ⟨PyData.keyHash P (Str.ofString "__doc__"), (.str (Str.ofString "__doc__") 166), .none⟩, ⟨PyData.keyHash P (Str.ofString "__package__"), (.str (Str.ofString "__package__") 167), .none⟩, ⟨PyData.keyHash P (Str.ofString "__loader__"), (.str (Str.ofString "__loader__") 168), (.builtin "__main__.__loader__#opaque")⟩, ⟨PyData.keyHash P (Str.ofString "__spec__"), (.str (Str.ofString "__spec__") 169), .none⟩, ⟨PyData.keyHash P (Str.ofString "__annotations__"), (.str (Str.ofString "__annotations__") 170), (.ref 6)⟩, ⟨PyData.keyHash P (Str.ofString "__builtins__"), (.str (Str.ofString "__builtins__") 171), (.ref 4)⟩, ⟨PyData.keyHash P (Str.ofString "__file__"), (.str (Str.ofString "__file__") 173), (.str (Str.ofString "/claim/cut.py") 172)⟩, ⟨PyData.keyHash P (Str.ofString "__cached__"), (.str (Str.ofString "__cached__") 174), .none⟩, ⟨PyData.keyHash P (Str.ofString "_wall"), (.str (Str.ofString "_wall") 193), (.ref 21)⟩, ⟨PyData.keyHash P (Str.ofString "Whitespace"), (.str (Str.ofString "Whitespace") 295), (.ref 83)⟩, ⟨PyData.keyHash P (Str.ofString "add"), (.str (Str.ofString "add") 305), (.ref 94)⟩, ⟨PyData.keyHash P (Str.ofString "concat"), (.str (Str.ofString "concat") 314), (.ref 101)⟩, ⟨PyData.keyHash P (Str.ofString "countOf"), (.str (Str.ofString "countOf") 324), (.ref 108)⟩, ⟨PyData.keyHash P (Str.ofString "indexOf"), (.str (Str.ofString "indexOf") 334), (.ref 115)⟩, ⟨PyData.keyHash P (Str.ofString "b1_set"), (.str (Str.ofString "b1_set") 396), (.ref 123)⟩, ⟨PyData.keyHash P (Str.ofString "in_table_b1"), (.str (Str.ofString "in_table_b1") 403), (.ref 133)⟩]) 17), slots := #[] }
noncomputable def h12_2 (P : Params) : Obj := { cls := .none, dict := none, data := (.fields #[(.int 1 0), (.int 0 0), (.ref 20), (.int 5 0), (.int 0 0), (.ref 27), (.int 62 0), (.int 0 0), (.ref 93), (.int 64 0), (.int 0 0), (.ref 100), (.int 69 0), (.int 0 0), (.ref 107), (.int 75 0), (.int 0 0), (.ref 114), (.int 83 0), (.int 0 0), (.ref 132)]), slots := #[] }
noncomputable def h128_0 (P : Params) : Obj := { cls := .none, dict := none, data := (.fields #[]), slots := #[] }
noncomputable def h131_0 (P : Params) : Obj := { cls := .none, dict := none, data := (.func (fnC (st 10) (Str.ofString "in_table_b1"))), slots := #[] }
noncomputable def h3_5 (P : Params) : Obj := { cls := (.type "dict"), dict := none, data := (.dict (List.toArray [⟨PyData.keyHash P (Str.ofString "__name__"), (.str (Str.ofString "__name__") 165), (.str (Str.ofString "cpy313.stringprep") 335)⟩, ⟨PyData.keyHash P (Str.ofString "__doc__"), (.str (Str.ofString "__doc__") 166), .none⟩, ⟨PyData.keyHash P (Str.ofString "__package__"), (.str (Str.ofString "__package__") 167), .none⟩, ⟨PyData.keyHash P (Str.ofString "__loader__"), (.str (Str.ofString "__loader__") 168), (.builtin "__main__.__loader__#opaque")⟩, ⟨PyData.keyHash P (Str.ofString "__spec__"), (.str (Str.ofString "__spec__") 169), .none⟩, ⟨PyData.keyHash P (Str.ofString "__annotations__"), (.str (Str.ofString "__annotations__") 170), (.ref 6)⟩, ⟨PyData.keyHash P (Str.ofString "__builtins__"), (.str (Str.ofString "__builtins__") 171), (.ref 4)⟩, ⟨PyData.keyHash P (Str.ofString "__file__"), (.str (Str.ofString "__file__") 173), (.str (Str.ofString "/claim/cut.py") 172)⟩, ⟨PyData.keyHash P (Str.ofString "__cached__"), (.str (Str.ofString "__cached__") 174), .none⟩, ⟨PyData.keyHash P (Str.ofString "_wall"), (.str (Str.ofString "_wall") 193), (.ref 21)⟩, ⟨PyData.keyHash P (Str.ofString "Whitespace"), (.str (Str.ofString "Whitespace") 295), (.ref 83)⟩, ⟨PyData.keyHash P (Str.ofString "add"), (.str (Str.ofString "add") 305), (.ref 94)⟩, ⟨PyData.keyHash P (Str.ofString "concat"), (.str (Str.ofString "concat") 314), (.ref 101)⟩, ⟨PyData.keyHash P (Str.ofString "countOf"), (.str (Str.ofString "countOf") 324), (.ref 108)⟩, ⟨PyData.keyHash P (Str.ofString "indexOf"), (.str (Str.ofString "indexOf") 334), (.ref 115)⟩, ⟨PyData.keyHash P (Str.ofString "b1_set"), (.str (Str.ofString "b1_set") 396), (.ref 123)⟩, ⟨PyData.keyHash P (Str.ofString "in_table_b1"), (.str (Str.ofString "in_table_b1") 403), (.ref 133)⟩, ⟨PyData.keyHash P (Str.ofString "b3_exceptions"), (.str (Str.ofString "b3_exceptions") 2354), (.ref 134)⟩]) 18), slots := #[] }
noncomputable def h135_0 (P : Params) : Obj := { cls := (.type "dict"), dict := none, data := (.dict (b3S 0) 17), slots := #[] }
noncomputable def h136_0 (P : Params) : Obj := { cls := (.type "dict"), dict := none, data := (.dict (b3S 1) 17), slots := #[] }
noncomputable def h137_0 (P : Params) : Obj := { cls := (.type "dict"), dict := none, data := (.dict (b3S 2) 17), slots := #[] }
noncomputable def h138_0 (P : Params) : Obj := { cls := (.type "dict"), dict := none, data := (.dict (b3S 3) 17), slots := #[] }
noncomputable def h139_0 (P : Params) : Obj := { cls := (.type "dict"), dict := none, data := (.dict (b3S 4) 17), slots := #[] }
noncomputable def h140_0 (P : Params) : Obj := { cls := (.type "dict"), dict := none, data := (.dict (b3S 5) 17), slots := #[] }
noncomputable def h141_0 (P : Params) : Obj := { cls := (.type "dict"), dict := none, data := (.dict (b3S 6) 17), slots := #[] }
noncomputable def h142_0 (P : Params) : Obj := { cls := (.type "dict"), dict := none, data := (.dict (b3S 7) 17), slots := #[] }
noncomputable def h143_0 (P : Params) : Obj := { cls := (.type "dict"), dict := none, data := (.dict (b3S 8) 17), slots := #[] }
noncomputable def h144_0 (P : Params) : Obj := { cls := (.type "dict"), dict := none, data := (.dict (b3S 9) 17), slots := #[] }
noncomputable def h145_0 (P : Params) : Obj := { cls := (.type "dict"), dict := none, data := (.dict (b3S 10) 17), slots := #[] }
noncomputable def h146_0 (P : Params) : Obj := { cls := (.type "dict"), dict := none, data := (.dict (b3S 11) 17), slots := #[] }
noncomputable def h147_0 (P : Params) : Obj := { cls := (.type "dict"), dict := none, data := (.dict (b3S 12) 17), slots := #[] }
noncomputable def h148_0 (P : Params) : Obj := { cls := (.type "dict"), dict := none, data := (.dict (b3S 13) 17), slots := #[] }
noncomputable def h149_0 (P : Params) : Obj := { cls := (.type "dict"), dict := none, data := (.dict (b3S 14) 17), slots := #[] }
noncomputable def h150_0 (P : Params) : Obj := { cls := (.type "dict"), dict := none, data := (.dict (b3S 15) 17), slots := #[] }
noncomputable def h151_0 (P : Params) : Obj := { cls := (.type "dict"), dict := none, data := (.dict (b3S 16) 17), slots := #[] }
noncomputable def h152_0 (P : Params) : Obj := { cls := (.type "dict"), dict := none, data := (.dict (b3S 17) 17), slots := #[] }
noncomputable def h153_0 (P : Params) : Obj := { cls := (.type "dict"), dict := none, data := (.dict (b3S 18) 17), slots := #[] }
noncomputable def h154_0 (P : Params) : Obj := { cls := (.type "dict"), dict := none, data := (.dict (b3S 19) 17), slots := #[] }
noncomputable def h155_0 (P : Params) : Obj := { cls := (.type "dict"), dict := none, data := (.dict (b3S 20) 17), slots := #[] }
noncomputable def h156_0 (P : Params) : Obj := { cls := (.type "dict"), dict := none, data := (.dict (b3S 21) 17), slots := #[] }
noncomputable def h157_0 (P : Params) : Obj := { cls := (.type "dict"), dict := none, data := (.dict (b3S 22) 17), slots := #[] }
noncomputable def h158_0 (P : Params) : Obj := { cls := (.type "dict"), dict := none, data := (.dict (b3S 23) 17), slots := #[] }
noncomputable def h159_0 (P : Params) : Obj := { cls := (.type "dict"), dict := none, data := (.dict (b3S 24) 17), slots := #[] }
noncomputable def h160_0 (P : Params) : Obj := { cls := (.type "dict"), dict := none, data := (.dict (b3S 25) 17), slots := #[] }
noncomputable def h161_0 (P : Params) : Obj := { cls := (.type "dict"), dict := none, data := (.dict (b3S 26) 17), slots := #[] }
noncomputable def h162_0 (P : Params) : Obj := { cls := (.type "dict"), dict := none, data := (.dict (b3S 27) 17), slots := #[] }
noncomputable def h163_0 (P : Params) : Obj := { cls := (.type "dict"), dict := none, data := (.dict (b3S 28) 17), slots := #[] }
noncomputable def h164_0 (P : Params) : Obj := { cls := (.type "dict"), dict := none, data := (.dict (b3S 29) 17), slots := #[] }
noncomputable def h165_0 (P : Params) : Obj := { cls := (.type "dict"), dict := none, data := (.dict (b3S 30) 17), slots := #[] }
noncomputable def h166_0 (P : Params) : Obj := { cls := (.type "dict"), dict := none, data := (.dict (b3S 31) 17), slots := #[] }
noncomputable def h167_0 (P : Params) : Obj := { cls := (.type "dict"), dict := none, data := (.dict (b3S 32) 17), slots := #[] }
noncomputable def h168_0 (P : Params) : Obj := { cls := (.type "dict"), dict := none, data := (.dict (b3S 33) 17), slots := #[] }
noncomputable def h169_0 (P : Params) : Obj := { cls := (.type "dict"), dict := none, data := (.dict (b3S 34) 17), slots := #[] }
noncomputable def h170_0 (P : Params) : Obj := { cls := (.type "dict"), dict := none, data := (.dict (b3S 35) 17), slots := #[] }
noncomputable def h171_0 (P : Params) : Obj := { cls := (.type "dict"), dict := none, data := (.dict (b3S 36) 17), slots := #[] }
noncomputable def h172_0 (P : Params) : Obj := { cls := (.type "dict"), dict := none, data := (.dict (List.toArray [⟨120742, (.int 120742 2342), (.str (Str.ofString "χ") 2343)⟩, ⟨120743, (.int 120743 2344), (.str (Str.ofString "ψ") 2345)⟩, ⟨120744, (.int 120744 2346), (.str (Str.ofString "ω") 2347)⟩, ⟨120763, (.int 120763 2348), (.str (Str.ofString "σ") 2349)⟩]) 4), slots := #[] }
noncomputable def h12_3 (P : Params) : Obj := { cls := .none, dict := none, data := (.fields #[(.int 1 0), (.int 0 0), (.ref 20), (.int 5 0), (.int 0 0), (.ref 27), (.int 62 0), (.int 0 0), (.ref 93), (.int 64 0), (.int 0 0), (.ref 100), (.int 69 0), (.int 0 0), (.ref 107), (.int 75 0), (.int 0 0), (.ref 114), (.int 83 0), (.int 0 0), (.ref 132), (.int 86 0), (.int 0 0), (.ref 178), (.int 91 0), (.int 0 0), (.ref 185), (.int 94 0), (.int 0 0), (.ref 192), (.int 109 0), (.int 0 0), (.ref 199), (.int 118 0), (.int 0 0), (.ref 204), (.int 132 0), (.int 0 0), (.ref 209), (.int 138 0), (.int 0 0), (.ref 216), (.int 143 0), (.int 0 0), (.ref 223), (.int 154 0), (.int 0 0), (.ref 228)]), slots := #[] }
noncomputable def h174_0 (P : Params) : Obj := { cls := .none, dict := none, data := (.fields #[]), slots := #[] }
noncomputable def h177_0 (P : Params) : Obj := { cls := .none, dict := none, data := (.func (fnC (st 12) (Str.ofString "map_table_b3"))), slots := #[] }
noncomputable def h181_0 (P : Params) : Obj := { cls := .none, dict := none, data := (.fields #[]), slots := #[] }
noncomputable def h184_0 (P : Params) : Obj := { cls := .none, dict := none, data := (.func (fnC (st 13) (Str.ofString "in_table_c11"))), slots := #[] }
noncomputable def h188_0 (P : Params) : Obj := { cls := .none, dict := none, data := (.fields #[]), slots := #[] }
noncomputable def h191_0 (P : Params) : Obj := { cls := .none, dict := none, data := (.func (fnC (st 15) (Str.ofString "_law_typed"))), slots := #[] }
noncomputable def h195_0 (P : Params) : Obj := { cls := .none, dict := none, data := (.fields #[]), slots := #[] }
noncomputable def h198_0 (P : Params) : Obj := { cls := .none, dict := none, data := (.func (fnC (st 16) (Str.ofString "_law_prepared"))), slots := #[] }
noncomputable def h202_0 (P : Params) : Obj := { cls := .none, dict := none, data := (.fields #[]), slots := #[] }
noncomputable def h203_0 (P : Params) : Obj := { cls := .none, dict := none, data := (.func (fnC (st 17) (Str.ofString "_law_cut"))), slots := #[] }
noncomputable def h207_0 (P : Params) : Obj := { cls := .none, dict := none, data := (.fields #[]), slots := #[] }
noncomputable def h208_0 (P : Params) : Obj := { cls := .none, dict := none, data := (.func (fnC (st 18) (Str.ofString "_law_laid"))), slots := #[] }
noncomputable def h212_0 (P : Params) : Obj := { cls := .none, dict := none, data := (.fields #[]), slots := #[] }
noncomputable def h215_0 (P : Params) : Obj := { cls := .none, dict := none, data := (.func (fnC (st 19) (Str.ofString "_law_pairs"))), slots := #[] }
noncomputable def h219_0 (P : Params) : Obj := { cls := .none, dict := none, data := (.fields #[]), slots := #[] }
noncomputable def h222_0 (P : Params) : Obj := { cls := .none, dict := none, data := (.func (fnC (st 20) (Str.ofString "_law_deals"))), slots := #[] }
noncomputable def h226_0 (P : Params) : Obj := { cls := .none, dict := none, data := (.fields #[]), slots := #[] }
noncomputable def h227_0 (P : Params) : Obj := { cls := .none, dict := none, data := (.func (fnC (st 21) (Str.ofString "law"))), slots := #[] }

noncomputable def SPrel (P : Params) : List Obj := boot_o_0 P :: boot_o_1 P :: k2 P :: boot_o_3 P :: boot_o_4 P :: boot_o_5 P :: boot_o_6 P :: boot_o_7 P :: boot_o_8 P :: boot_o_9 P :: boot_o_10 P :: h11_0 P :: h12_0 P :: h13_0 P :: h14_0 P :: []
-- Pre: size 15 toks 187 drawn 0 0 0 0 gens 0 life { } pos ⟨0, 0, 0, 0⟩ rows []
noncomputable def SBlkt (P : Params) : BT := (.node (boot_o_0 P) (.node (boot_o_1 P) (.node (boot_o_3 P) (.node (boot_o_7 P) .nil .nil) (.node (h11_0 P) .nil .nil)) (.node (boot_o_5 P) (.node (boot_o_9 P) .nil .nil) (.node (h13_0 P) .nil .nil))) (.node (k2 P) (.node (boot_o_4 P) (.node (boot_o_8 P) .nil .nil) (.node (h12_0 P) .nil .nil)) (.node (boot_o_6 P) (.node (boot_o_10 P) .nil .nil) (.node (h14_0 P) .nil .nil))))
-- Blk: size 15 toks 187 drawn 0 0 0 0 gens 0 life { } pos ⟨0, 0, 0, 0⟩ rows []
noncomputable def S8t (P : Params) : BT := (.node (boot_o_0 P) (.node (boot_o_1 P) (.node (h3_2 P) (.node (boot_o_7 P) (.node (k15 P) (.node (h31_0 P) (.node (k63 P) .nil .nil) (.node (k95 P) .nil .nil)) (.node (h47_0 P) (.node (k79 P) .nil .nil) (.node (k111 P) .nil .nil))) (.node (h23_0 P) (.node (k39 P) (.node (h71_0 P) .nil .nil) (.node (h103_0 P) .nil .nil)) (.node (k55 P) (.node (h87_0 P) .nil .nil) .nil))) (.node (h11_0 P) (.node (h19_0 P) (.node (k35 P) (.node (k67 P) .nil .nil) (.node (h99_0 P) .nil .nil)) (.node (k51 P) (.node (k83 P) .nil .nil) (.node (k115 P) .nil .nil))) (.node (h27_0 P) (.node (h43_0 P) (.node (h75_0 P) .nil .nil) (.node (k107 P) .nil .nil)) (.node (k59 P) (.node (k91 P) .nil .nil) .nil)))) (.node (boot_o_5 P) (.node (boot_o_9 P) (.node (k17 P) (.node (h33_0 P) (.node (k65 P) .nil .nil) (.node (k97 P) .nil .nil)) (.node (k49 P) (.node (k81 P) .nil .nil) (.node (h113_0 P) .nil .nil))) (.node (h25_0 P) (.node (k41 P) (.node (k73 P) .nil .nil) (.node (k105 P) .nil .nil)) (.node (h57_0 P) (.node (h89_0 P) .nil .nil) .nil))) (.node (h13_0 P) (.node (k21 P) (.node (k37 P) (.node (k69 P) .nil .nil) (.node (k101 P) .nil .nil)) (.node (k53 P) (.node (k85 P) .nil .nil) .nil)) (.node (h29_0 P) (.node (k45 P) (.node (k77 P) .nil .nil) (.node (k109 P) .nil .nil)) (.node (h61_0 P) (.node (k93 P) .nil .nil) .nil))))) (.node (k2 P) (.node (boot_o_4 P) (.node (boot_o_8 P) (.node (h16_0 P) (.node (k32 P) (.node (h64_0 P) .nil .nil) (.node (h96_0 P) .nil .nil)) (.node (k48 P) (.node (k80 P) .nil .nil) (.node (k112 P) .nil .nil))) (.node (h24_0 P) (.node (h40_0 P) (.node (k72 P) .nil .nil) (.node (k104 P) .nil .nil)) (.node (k56 P) (.node (k88 P) .nil .nil) .nil))) (.node (h12_1 P) (.node (k20 P) (.node (h36_0 P) (.node (h68_0 P) .nil .nil) (.node (k100 P) .nil .nil)) (.node (k52 P) (.node (k84 P) .nil .nil) .nil)) (.node (h28_0 P) (.node (k44 P) (.node (k76 P) .nil .nil) (.node (k108 P) .nil .nil)) (.node (k60 P) (.node (h92_0 P) .nil .nil) .nil)))) (.node (boot_o_6 P) (.node (boot_o_10 P) (.node (k18 P) (.node (k34 P) (.node (k66 P) .nil .nil) (.node (k98 P) .nil .nil)) (.node (h50_0 P) (.node (k82 P) .nil .nil) (.node (k114 P) .nil .nil))) (.node (h26_0 P) (.node (k42 P) (.node (k74 P) .nil .nil) (.node (h106_0 P) .nil .nil)) (.node (k58 P) (.node (k90 P) .nil .nil) .nil))) (.node (h14_0 P) (.node (h22_0 P) (.node (k38 P) (.node (k70 P) .nil .nil) (.node (k102 P) .nil .nil)) (.node (h54_0 P) (.node (h86_0 P) .nil .nil) .nil)) (.node (h30_0 P) (.node (k46 P) (.node (h78_0 P) .nil .nil) (.node (h110_0 P) .nil .nil)) (.node (k62 P) (.node (k94 P) .nil .nil) .nil))))))
-- 8: size 116 toks 337 drawn 0 0 0 0 gens 0 life { } pos ⟨81, 0, 81, 8⟩ rows []
noncomputable def S9t (P : Params) : BT := (.node (boot_o_0 P) (.node (boot_o_1 P) (.node (h3_3 P) (.node (boot_o_7 P) (.node (k15 P) (.node (h31_0 P) (.node (k63 P) .nil .nil) (.node (k95 P) .nil .nil)) (.node (h47_0 P) (.node (k79 P) .nil .nil) (.node (k111 P) .nil .nil))) (.node (h23_0 P) (.node (k39 P) (.node (h71_0 P) .nil .nil) (.node (h103_0 P) .nil .nil)) (.node (k55 P) (.node (h87_0 P) .nil .nil) (.node (h119_0 P) .nil .nil)))) (.node (h11_0 P) (.node (h19_0 P) (.node (k35 P) (.node (k67 P) .nil .nil) (.node (h99_0 P) .nil .nil)) (.node (k51 P) (.node (k83 P) .nil .nil) (.node (k115 P) .nil .nil))) (.node (h27_0 P) (.node (h43_0 P) (.node (h75_0 P) .nil .nil) (.node (k107 P) .nil .nil)) (.node (k59 P) (.node (k91 P) .nil .nil) (.node (k123 P) .nil .nil))))) (.node (boot_o_5 P) (.node (boot_o_9 P) (.node (k17 P) (.node (h33_0 P) (.node (k65 P) .nil .nil) (.node (k97 P) .nil .nil)) (.node (k49 P) (.node (k81 P) .nil .nil) (.node (h113_0 P) .nil .nil))) (.node (h25_0 P) (.node (k41 P) (.node (k73 P) .nil .nil) (.node (k105 P) .nil .nil)) (.node (h57_0 P) (.node (h89_0 P) .nil .nil) (.node (h121_0 P) .nil .nil)))) (.node (h13_0 P) (.node (k21 P) (.node (k37 P) (.node (k69 P) .nil .nil) (.node (k101 P) .nil .nil)) (.node (k53 P) (.node (k85 P) .nil .nil) (.node (h117_0 P) .nil .nil))) (.node (h29_0 P) (.node (k45 P) (.node (k77 P) .nil .nil) (.node (k109 P) .nil .nil)) (.node (h61_0 P) (.node (k93 P) .nil .nil) (.node (h125_0 P) .nil .nil)))))) (.node (k2 P) (.node (boot_o_4 P) (.node (boot_o_8 P) (.node (h16_0 P) (.node (k32 P) (.node (h64_0 P) .nil .nil) (.node (h96_0 P) .nil .nil)) (.node (k48 P) (.node (k80 P) .nil .nil) (.node (k112 P) .nil .nil))) (.node (h24_0 P) (.node (h40_0 P) (.node (k72 P) .nil .nil) (.node (k104 P) .nil .nil)) (.node (k56 P) (.node (k88 P) .nil .nil) (.node (h120_0 P) .nil .nil)))) (.node (h12_1 P) (.node (k20 P) (.node (h36_0 P) (.node (h68_0 P) .nil .nil) (.node (k100 P) .nil .nil)) (.node (k52 P) (.node (k84 P) .nil .nil) (.node (h116_0 P) .nil .nil))) (.node (h28_0 P) (.node (k44 P) (.node (k76 P) .nil .nil) (.node (k108 P) .nil .nil)) (.node (k60 P) (.node (h92_0 P) .nil .nil) (.node (h124_0 P) .nil .nil))))) (.node (boot_o_6 P) (.node (boot_o_10 P) (.node (k18 P) (.node (k34 P) (.node (k66 P) .nil .nil) (.node (k98 P) .nil .nil)) (.node (h50_0 P) (.node (k82 P) .nil .nil) (.node (k114 P) .nil .nil))) (.node (h26_0 P) (.node (k42 P) (.node (k74 P) .nil .nil) (.node (h106_0 P) .nil .nil)) (.node (k58 P) (.node (k90 P) .nil .nil) (.node (h122_0 P) .nil .nil)))) (.node (h14_0 P) (.node (h22_0 P) (.node (k38 P) (.node (k70 P) .nil .nil) (.node (k102 P) .nil .nil)) (.node (h54_0 P) (.node (h86_0 P) .nil .nil) (.node (h118_0 P) .nil .nil))) (.node (h30_0 P) (.node (k46 P) (.node (h78_0 P) .nil .nil) (.node (h110_0 P) .nil .nil)) (.node (k62 P) (.node (k94 P) .nil .nil) (.node (h126_0 P) .nil .nil)))))))
-- 9: size 127 toks 397 drawn 0 0 0 0 gens 0 life { } pos ⟨82, 0, 82, 6⟩ rows [set-order, special-get-raises]
noncomputable def S10t (P : Params) : BT := (.node (boot_o_0 P) (.node (boot_o_1 P) (.node (h3_4 P) (.node (boot_o_7 P) (.node (k15 P) (.node (h31_0 P) (.node (k63 P) (.node (k127 P) .nil .nil) .nil) (.node (k95 P) .nil .nil)) (.node (h47_0 P) (.node (k79 P) .nil .nil) (.node (k111 P) .nil .nil))) (.node (h23_0 P) (.node (k39 P) (.node (h71_0 P) .nil .nil) (.node (h103_0 P) .nil .nil)) (.node (k55 P) (.node (h87_0 P) .nil .nil) (.node (h119_0 P) .nil .nil)))) (.node (h11_0 P) (.node (h19_0 P) (.node (k35 P) (.node (k67 P) (.node (h131_0 P) .nil .nil) .nil) (.node (h99_0 P) .nil .nil)) (.node (k51 P) (.node (k83 P) .nil .nil) (.node (k115 P) .nil .nil))) (.node (h27_0 P) (.node (h43_0 P) (.node (h75_0 P) .nil .nil) (.node (k107 P) .nil .nil)) (.node (k59 P) (.node (k91 P) .nil .nil) (.node (k123 P) .nil .nil))))) (.node (boot_o_5 P) (.node (boot_o_9 P) (.node (k17 P) (.node (h33_0 P) (.node (k65 P) (.node (k129 P) .nil .nil) .nil) (.node (k97 P) .nil .nil)) (.node (k49 P) (.node (k81 P) .nil .nil) (.node (h113_0 P) .nil .nil))) (.node (h25_0 P) (.node (k41 P) (.node (k73 P) .nil .nil) (.node (k105 P) .nil .nil)) (.node (h57_0 P) (.node (h89_0 P) .nil .nil) (.node (h121_0 P) .nil .nil)))) (.node (h13_0 P) (.node (k21 P) (.node (k37 P) (.node (k69 P) (.node (k133 P) .nil .nil) .nil) (.node (k101 P) .nil .nil)) (.node (k53 P) (.node (k85 P) .nil .nil) (.node (h117_0 P) .nil .nil))) (.node (h29_0 P) (.node (k45 P) (.node (k77 P) .nil .nil) (.node (k109 P) .nil .nil)) (.node (h61_0 P) (.node (k93 P) .nil .nil) (.node (h125_0 P) .nil .nil)))))) (.node (k2 P) (.node (boot_o_4 P) (.node (boot_o_8 P) (.node (h16_0 P) (.node (k32 P) (.node (h64_0 P) (.node (h128_0 P) .nil .nil) .nil) (.node (h96_0 P) .nil .nil)) (.node (k48 P) (.node (k80 P) .nil .nil) (.node (k112 P) .nil .nil))) (.node (h24_0 P) (.node (h40_0 P) (.node (k72 P) .nil .nil) (.node (k104 P) .nil .nil)) (.node (k56 P) (.node (k88 P) .nil .nil) (.node (h120_0 P) .nil .nil)))) (.node (h12_2 P) (.node (k20 P) (.node (h36_0 P) (.node (h68_0 P) (.node (k132 P) .nil .nil) .nil) (.node (k100 P) .nil .nil)) (.node (k52 P) (.node (k84 P) .nil .nil) (.node (h116_0 P) .nil .nil))) (.node (h28_0 P) (.node (k44 P) (.node (k76 P) .nil .nil) (.node (k108 P) .nil .nil)) (.node (k60 P) (.node (h92_0 P) .nil .nil) (.node (h124_0 P) .nil .nil))))) (.node (boot_o_6 P) (.node (boot_o_10 P) (.node (k18 P) (.node (k34 P) (.node (k66 P) (.node (k130 P) .nil .nil) .nil) (.node (k98 P) .nil .nil)) (.node (h50_0 P) (.node (k82 P) .nil .nil) (.node (k114 P) .nil .nil))) (.node (h26_0 P) (.node (k42 P) (.node (k74 P) .nil .nil) (.node (h106_0 P) .nil .nil)) (.node (k58 P) (.node (k90 P) .nil .nil) (.node (h122_0 P) .nil .nil)))) (.node (h14_0 P) (.node (h22_0 P) (.node (k38 P) (.node (k70 P) .nil .nil) (.node (k102 P) .nil .nil)) (.node (h54_0 P) (.node (h86_0 P) .nil .nil) (.node (h118_0 P) .nil .nil))) (.node (h30_0 P) (.node (k46 P) (.node (h78_0 P) .nil .nil) (.node (h110_0 P) .nil .nil)) (.node (k62 P) (.node (k94 P) .nil .nil) (.node (h126_0 P) .nil .nil)))))))
-- 10: size 134 toks 404 drawn 0 0 0 0 gens 0 life { } pos ⟨83, 0, 84, 30⟩ rows []
noncomputable def S11t (P : Params) : BT := (.node (boot_o_0 P) (.node (boot_o_1 P) (.node (h3_5 P) (.node (boot_o_7 P) (.node (k15 P) (.node (h31_0 P) (.node (k63 P) (.node (k127 P) .nil .nil) .nil) (.node (k95 P) (.node (h159_0 P) .nil .nil) .nil)) (.node (h47_0 P) (.node (k79 P) (.node (h143_0 P) .nil .nil) .nil) (.node (k111 P) .nil .nil))) (.node (h23_0 P) (.node (k39 P) (.node (h71_0 P) (.node (h135_0 P) .nil .nil) .nil) (.node (h103_0 P) (.node (h167_0 P) .nil .nil) .nil)) (.node (k55 P) (.node (h87_0 P) (.node (h151_0 P) .nil .nil) .nil) (.node (h119_0 P) .nil .nil)))) (.node (h11_0 P) (.node (h19_0 P) (.node (k35 P) (.node (k67 P) (.node (h131_0 P) .nil .nil) .nil) (.node (h99_0 P) (.node (h163_0 P) .nil .nil) .nil)) (.node (k51 P) (.node (k83 P) (.node (h147_0 P) .nil .nil) .nil) (.node (k115 P) .nil .nil))) (.node (h27_0 P) (.node (h43_0 P) (.node (h75_0 P) (.node (h139_0 P) .nil .nil) .nil) (.node (k107 P) (.node (h171_0 P) .nil .nil) .nil)) (.node (k59 P) (.node (k91 P) (.node (h155_0 P) .nil .nil) .nil) (.node (k123 P) .nil .nil))))) (.node (boot_o_5 P) (.node (boot_o_9 P) (.node (k17 P) (.node (h33_0 P) (.node (k65 P) (.node (k129 P) .nil .nil) .nil) (.node (k97 P) (.node (h161_0 P) .nil .nil) .nil)) (.node (k49 P) (.node (k81 P) (.node (h145_0 P) .nil .nil) .nil) (.node (h113_0 P) .nil .nil))) (.node (h25_0 P) (.node (k41 P) (.node (k73 P) (.node (h137_0 P) .nil .nil) .nil) (.node (k105 P) (.node (h169_0 P) .nil .nil) .nil)) (.node (h57_0 P) (.node (h89_0 P) (.node (h153_0 P) .nil .nil) .nil) (.node (h121_0 P) .nil .nil)))) (.node (h13_0 P) (.node (k21 P) (.node (k37 P) (.node (k69 P) (.node (k133 P) .nil .nil) .nil) (.node (k101 P) (.node (h165_0 P) .nil .nil) .nil)) (.node (k53 P) (.node (k85 P) (.node (h149_0 P) .nil .nil) .nil) (.node (h117_0 P) .nil .nil))) (.node (h29_0 P) (.node (k45 P) (.node (k77 P) (.node (h141_0 P) .nil .nil) .nil) (.node (k109 P) .nil .nil)) (.node (h61_0 P) (.node (k93 P) (.node (h157_0 P) .nil .nil) .nil) (.node (h125_0 P) .nil .nil)))))) (.node (k2 P) (.node (boot_o_4 P) (.node (boot_o_8 P) (.node (h16_0 P) (.node (k32 P) (.node (h64_0 P) (.node (h128_0 P) .nil .nil) .nil) (.node (h96_0 P) (.node (h160_0 P) .nil .nil) .nil)) (.node (k48 P) (.node (k80 P) (.node (h144_0 P) .nil .nil) .nil) (.node (k112 P) .nil .nil))) (.node (h24_0 P) (.node (h40_0 P) (.node (k72 P) (.node (h136_0 P) .nil .nil) .nil) (.node (k104 P) (.node (h168_0 P) .nil .nil) .nil)) (.node (k56 P) (.node (k88 P) (.node (h152_0 P) .nil .nil) .nil) (.node (h120_0 P) .nil .nil)))) (.node (h12_2 P) (.node (k20 P) (.node (h36_0 P) (.node (h68_0 P) (.node (k132 P) .nil .nil) .nil) (.node (k100 P) (.node (h164_0 P) .nil .nil) .nil)) (.node (k52 P) (.node (k84 P) (.node (h148_0 P) .nil .nil) .nil) (.node (h116_0 P) .nil .nil))) (.node (h28_0 P) (.node (k44 P) (.node (k76 P) (.node (h140_0 P) .nil .nil) .nil) (.node (k108 P) (.node (h172_0 P) .nil .nil) .nil)) (.node (k60 P) (.node (h92_0 P) (.node (h156_0 P) .nil .nil) .nil) (.node (h124_0 P) .nil .nil))))) (.node (boot_o_6 P) (.node (boot_o_10 P) (.node (k18 P) (.node (k34 P) (.node (k66 P) (.node (k130 P) .nil .nil) .nil) (.node (k98 P) (.node (h162_0 P) .nil .nil) .nil)) (.node (h50_0 P) (.node (k82 P) (.node (h146_0 P) .nil .nil) .nil) (.node (k114 P) .nil .nil))) (.node (h26_0 P) (.node (k42 P) (.node (k74 P) (.node (h138_0 P) .nil .nil) .nil) (.node (h106_0 P) (.node (h170_0 P) .nil .nil) .nil)) (.node (k58 P) (.node (k90 P) (.node (h154_0 P) .nil .nil) .nil) (.node (h122_0 P) .nil .nil)))) (.node (h14_0 P) (.node (h22_0 P) (.node (k38 P) (.node (k70 P) (.node (k134 P) .nil .nil) .nil) (.node (k102 P) (.node (h166_0 P) .nil .nil) .nil)) (.node (h54_0 P) (.node (h86_0 P) (.node (h150_0 P) .nil .nil) .nil) (.node (h118_0 P) .nil .nil))) (.node (h30_0 P) (.node (k46 P) (.node (h78_0 P) (.node (h142_0 P) .nil .nil) .nil) (.node (h110_0 P) .nil .nil)) (.node (k62 P) (.node (k94 P) (.node (h158_0 P) .nil .nil) .nil) (.node (h126_0 P) .nil .nil)))))))
-- 11: size 173 toks 2355 drawn 0 0 0 0 gens 0 life { } pos ⟨85, 0, 85, 13⟩ rows [special-get-raises]
noncomputable def S21t (P : Params) : BT := (.node (boot_o_0 P) (.node (boot_o_1 P) (.node (k3 P) (.node (boot_o_7 P) (.node (k15 P) (.node (h31_0 P) (.node (k63 P) (.node (k127 P) .nil .nil) (.node (h191_0 P) .nil .nil)) (.node (k95 P) (.node (h159_0 P) .nil .nil) (.node (k223 P) .nil .nil))) (.node (h47_0 P) (.node (k79 P) (.node (h143_0 P) .nil .nil) (.node (h207_0 P) .nil .nil)) (.node (k111 P) (.node (k175 P) .nil .nil) .nil))) (.node (h23_0 P) (.node (k39 P) (.node (h71_0 P) (.node (h135_0 P) .nil .nil) (.node (k199 P) .nil .nil)) (.node (h103_0 P) (.node (h167_0 P) .nil .nil) .nil)) (.node (k55 P) (.node (h87_0 P) (.node (h151_0 P) .nil .nil) (.node (h215_0 P) .nil .nil)) (.node (h119_0 P) (.node (k183 P) .nil .nil) .nil)))) (.node (h11_0 P) (.node (h19_0 P) (.node (k35 P) (.node (k67 P) (.node (h131_0 P) .nil .nil) (.node (h195_0 P) .nil .nil)) (.node (h99_0 P) (.node (h163_0 P) .nil .nil) (.node (h227_0 P) .nil .nil))) (.node (k51 P) (.node (k83 P) (.node (h147_0 P) .nil .nil) (.node (k211 P) .nil .nil)) (.node (k115 P) (.node (k179 P) .nil .nil) .nil))) (.node (h27_0 P) (.node (h43_0 P) (.node (h75_0 P) (.node (h139_0 P) .nil .nil) (.node (h203_0 P) .nil .nil)) (.node (k107 P) (.node (h171_0 P) .nil .nil) .nil)) (.node (k59 P) (.node (k91 P) (.node (h155_0 P) .nil .nil) (.node (h219_0 P) .nil .nil)) (.node (k123 P) (.node (k187 P) .nil .nil) .nil))))) (.node (boot_o_5 P) (.node (boot_o_9 P) (.node (k17 P) (.node (h33_0 P) (.node (k65 P) (.node (k129 P) .nil .nil) (.node (k193 P) .nil .nil)) (.node (k97 P) (.node (h161_0 P) .nil .nil) (.node (k225 P) .nil .nil))) (.node (k49 P) (.node (k81 P) (.node (h145_0 P) .nil .nil) (.node (k209 P) .nil .nil)) (.node (h113_0 P) (.node (h177_0 P) .nil .nil) .nil))) (.node (h25_0 P) (.node (k41 P) (.node (k73 P) (.node (h137_0 P) .nil .nil) (.node (k201 P) .nil .nil)) (.node (k105 P) (.node (h169_0 P) .nil .nil) .nil)) (.node (h57_0 P) (.node (h89_0 P) (.node (h153_0 P) .nil .nil) (.node (k217 P) .nil .nil)) (.node (h121_0 P) (.node (k185 P) .nil .nil) .nil)))) (.node (h13_0 P) (.node (k21 P) (.node (k37 P) (.node (k69 P) (.node (k133 P) .nil .nil) (.node (k197 P) .nil .nil)) (.node (k101 P) (.node (h165_0 P) .nil .nil) (.node (k229 P) .nil .nil))) (.node (k53 P) (.node (k85 P) (.node (h149_0 P) .nil .nil) (.node (k213 P) .nil .nil)) (.node (h117_0 P) (.node (h181_0 P) .nil .nil) .nil))) (.node (h29_0 P) (.node (k45 P) (.node (k77 P) (.node (h141_0 P) .nil .nil) (.node (k205 P) .nil .nil)) (.node (k109 P) (.node (k173 P) .nil .nil) .nil)) (.node (h61_0 P) (.node (k93 P) (.node (h157_0 P) .nil .nil) (.node (k221 P) .nil .nil)) (.node (h125_0 P) (.node (k189 P) .nil .nil) .nil)))))) (.node (k2 P) (.node (boot_o_4 P) (.node (boot_o_8 P) (.node (h16_0 P) (.node (k32 P) (.node (h64_0 P) (.node (h128_0 P) .nil .nil) (.node (k192 P) .nil .nil)) (.node (h96_0 P) (.node (h160_0 P) .nil .nil) (.node (k224 P) .nil .nil))) (.node (k48 P) (.node (k80 P) (.node (h144_0 P) .nil .nil) (.node (h208_0 P) .nil .nil)) (.node (k112 P) (.node (k176 P) .nil .nil) .nil))) (.node (h24_0 P) (.node (h40_0 P) (.node (k72 P) (.node (h136_0 P) .nil .nil) (.node (k200 P) .nil .nil)) (.node (k104 P) (.node (h168_0 P) .nil .nil) .nil)) (.node (k56 P) (.node (k88 P) (.node (h152_0 P) .nil .nil) (.node (k216 P) .nil .nil)) (.node (h120_0 P) (.node (h184_0 P) .nil .nil) .nil)))) (.node (h12_3 P) (.node (k20 P) (.node (h36_0 P) (.node (h68_0 P) (.node (k132 P) .nil .nil) (.node (k196 P) .nil .nil)) (.node (k100 P) (.node (h164_0 P) .nil .nil) (.node (k228 P) .nil .nil))) (.node (k52 P) (.node (k84 P) (.node (h148_0 P) .nil .nil) (.node (h212_0 P) .nil .nil)) (.node (h116_0 P) (.node (k180 P) .nil .nil) .nil))) (.node (h28_0 P) (.node (k44 P) (.node (k76 P) (.node (h140_0 P) .nil .nil) (.node (k204 P) .nil .nil)) (.node (k108 P) (.node (h172_0 P) .nil .nil) .nil)) (.node (k60 P) (.node (h92_0 P) (.node (h156_0 P) .nil .nil) (.node (k220 P) .nil .nil)) (.node (h124_0 P) (.node (h188_0 P) .nil .nil) .nil))))) (.node (boot_o_6 P) (.node (boot_o_10 P) (.node (k18 P) (.node (k34 P) (.node (k66 P) (.node (k130 P) .nil .nil) (.node (k194 P) .nil .nil)) (.node (k98 P) (.node (h162_0 P) .nil .nil) (.node (h226_0 P) .nil .nil))) (.node (h50_0 P) (.node (k82 P) (.node (h146_0 P) .nil .nil) (.node (k210 P) .nil .nil)) (.node (k114 P) (.node (k178 P) .nil .nil) .nil))) (.node (h26_0 P) (.node (k42 P) (.node (k74 P) (.node (h138_0 P) .nil .nil) (.node (h202_0 P) .nil .nil)) (.node (h106_0 P) (.node (h170_0 P) .nil .nil) .nil)) (.node (k58 P) (.node (k90 P) (.node (h154_0 P) .nil .nil) (.node (k218 P) .nil .nil)) (.node (h122_0 P) (.node (k186 P) .nil .nil) .nil)))) (.node (h14_0 P) (.node (h22_0 P) (.node (k38 P) (.node (k70 P) (.node (k134 P) .nil .nil) (.node (h198_0 P) .nil .nil)) (.node (k102 P) (.node (h166_0 P) .nil .nil) .nil)) (.node (h54_0 P) (.node (h86_0 P) (.node (h150_0 P) .nil .nil) (.node (k214 P) .nil .nil)) (.node (h118_0 P) (.node (k182 P) .nil .nil) .nil))) (.node (h30_0 P) (.node (k46 P) (.node (h78_0 P) (.node (h142_0 P) .nil .nil) (.node (k206 P) .nil .nil)) (.node (h110_0 P) (.node (h174_0 P) .nil .nil) .nil)) (.node (k62 P) (.node (k94 P) (.node (h158_0 P) .nil .nil) (.node (h222_0 P) .nil .nil)) (.node (h126_0 P) (.node (k190 P) .nil .nil) .nil)))))))
-- 21: size 230 toks 2440 drawn 0 0 0 0 gens 0 life { } pos ⟨154, 0, 188, 43⟩ rows []
noncomputable def SFint (P : Params) : BT := (.node (boot_o_0 P) (.node (boot_o_1 P) (.node (k3 P) (.node (boot_o_7 P) (.node (k15 P) (.node (h31_0 P) (.node (k63 P) (.node (k127 P) .nil .nil) (.node (h191_0 P) .nil .nil)) (.node (k95 P) (.node (h159_0 P) .nil .nil) (.node (k223 P) .nil .nil))) (.node (h47_0 P) (.node (k79 P) (.node (h143_0 P) .nil .nil) (.node (h207_0 P) .nil .nil)) (.node (k111 P) (.node (k175 P) .nil .nil) .nil))) (.node (h23_0 P) (.node (k39 P) (.node (h71_0 P) (.node (h135_0 P) .nil .nil) (.node (k199 P) .nil .nil)) (.node (h103_0 P) (.node (h167_0 P) .nil .nil) .nil)) (.node (k55 P) (.node (h87_0 P) (.node (h151_0 P) .nil .nil) (.node (h215_0 P) .nil .nil)) (.node (h119_0 P) (.node (k183 P) .nil .nil) .nil)))) (.node (h11_0 P) (.node (h19_0 P) (.node (k35 P) (.node (k67 P) (.node (h131_0 P) .nil .nil) (.node (h195_0 P) .nil .nil)) (.node (h99_0 P) (.node (h163_0 P) .nil .nil) (.node (h227_0 P) .nil .nil))) (.node (k51 P) (.node (k83 P) (.node (h147_0 P) .nil .nil) (.node (k211 P) .nil .nil)) (.node (k115 P) (.node (k179 P) .nil .nil) .nil))) (.node (h27_0 P) (.node (h43_0 P) (.node (h75_0 P) (.node (h139_0 P) .nil .nil) (.node (h203_0 P) .nil .nil)) (.node (k107 P) (.node (h171_0 P) .nil .nil) .nil)) (.node (k59 P) (.node (k91 P) (.node (h155_0 P) .nil .nil) (.node (h219_0 P) .nil .nil)) (.node (k123 P) (.node (k187 P) .nil .nil) .nil))))) (.node (boot_o_5 P) (.node (boot_o_9 P) (.node (k17 P) (.node (h33_0 P) (.node (k65 P) (.node (k129 P) .nil .nil) (.node (k193 P) .nil .nil)) (.node (k97 P) (.node (h161_0 P) .nil .nil) (.node (k225 P) .nil .nil))) (.node (k49 P) (.node (k81 P) (.node (h145_0 P) .nil .nil) (.node (k209 P) .nil .nil)) (.node (h113_0 P) (.node (h177_0 P) .nil .nil) .nil))) (.node (h25_0 P) (.node (k41 P) (.node (k73 P) (.node (h137_0 P) .nil .nil) (.node (k201 P) .nil .nil)) (.node (k105 P) (.node (h169_0 P) .nil .nil) .nil)) (.node (h57_0 P) (.node (h89_0 P) (.node (h153_0 P) .nil .nil) (.node (k217 P) .nil .nil)) (.node (h121_0 P) (.node (k185 P) .nil .nil) .nil)))) (.node (h13_0 P) (.node (k21 P) (.node (k37 P) (.node (k69 P) (.node (k133 P) .nil .nil) (.node (k197 P) .nil .nil)) (.node (k101 P) (.node (h165_0 P) .nil .nil) (.node (k229 P) .nil .nil))) (.node (k53 P) (.node (k85 P) (.node (h149_0 P) .nil .nil) (.node (k213 P) .nil .nil)) (.node (h117_0 P) (.node (h181_0 P) .nil .nil) .nil))) (.node (h29_0 P) (.node (k45 P) (.node (k77 P) (.node (h141_0 P) .nil .nil) (.node (k205 P) .nil .nil)) (.node (k109 P) (.node (k173 P) .nil .nil) .nil)) (.node (h61_0 P) (.node (k93 P) (.node (h157_0 P) .nil .nil) (.node (k221 P) .nil .nil)) (.node (h125_0 P) (.node (k189 P) .nil .nil) .nil)))))) (.node (k2 P) (.node (boot_o_4 P) (.node (boot_o_8 P) (.node (h16_0 P) (.node (k32 P) (.node (h64_0 P) (.node (h128_0 P) .nil .nil) (.node (k192 P) .nil .nil)) (.node (h96_0 P) (.node (h160_0 P) .nil .nil) (.node (k224 P) .nil .nil))) (.node (k48 P) (.node (k80 P) (.node (h144_0 P) .nil .nil) (.node (h208_0 P) .nil .nil)) (.node (k112 P) (.node (k176 P) .nil .nil) .nil))) (.node (h24_0 P) (.node (h40_0 P) (.node (k72 P) (.node (h136_0 P) .nil .nil) (.node (k200 P) .nil .nil)) (.node (k104 P) (.node (h168_0 P) .nil .nil) .nil)) (.node (k56 P) (.node (k88 P) (.node (h152_0 P) .nil .nil) (.node (k216 P) .nil .nil)) (.node (h120_0 P) (.node (h184_0 P) .nil .nil) .nil)))) (.node (h12_3 P) (.node (k20 P) (.node (h36_0 P) (.node (h68_0 P) (.node (k132 P) .nil .nil) (.node (k196 P) .nil .nil)) (.node (k100 P) (.node (h164_0 P) .nil .nil) (.node (k228 P) .nil .nil))) (.node (k52 P) (.node (k84 P) (.node (h148_0 P) .nil .nil) (.node (h212_0 P) .nil .nil)) (.node (h116_0 P) (.node (k180 P) .nil .nil) .nil))) (.node (h28_0 P) (.node (k44 P) (.node (k76 P) (.node (h140_0 P) .nil .nil) (.node (k204 P) .nil .nil)) (.node (k108 P) (.node (h172_0 P) .nil .nil) .nil)) (.node (k60 P) (.node (h92_0 P) (.node (h156_0 P) .nil .nil) (.node (k220 P) .nil .nil)) (.node (h124_0 P) (.node (h188_0 P) .nil .nil) .nil))))) (.node (boot_o_6 P) (.node (boot_o_10 P) (.node (k18 P) (.node (k34 P) (.node (k66 P) (.node (k130 P) .nil .nil) (.node (k194 P) .nil .nil)) (.node (k98 P) (.node (h162_0 P) .nil .nil) (.node (h226_0 P) .nil .nil))) (.node (h50_0 P) (.node (k82 P) (.node (h146_0 P) .nil .nil) (.node (k210 P) .nil .nil)) (.node (k114 P) (.node (k178 P) .nil .nil) .nil))) (.node (h26_0 P) (.node (k42 P) (.node (k74 P) (.node (h138_0 P) .nil .nil) (.node (h202_0 P) .nil .nil)) (.node (h106_0 P) (.node (h170_0 P) .nil .nil) .nil)) (.node (k58 P) (.node (k90 P) (.node (h154_0 P) .nil .nil) (.node (k218 P) .nil .nil)) (.node (h122_0 P) (.node (k186 P) .nil .nil) .nil)))) (.node (h14_0 P) (.node (h22_0 P) (.node (k38 P) (.node (k70 P) (.node (k134 P) .nil .nil) (.node (h198_0 P) .nil .nil)) (.node (k102 P) (.node (h166_0 P) .nil .nil) .nil)) (.node (h54_0 P) (.node (h86_0 P) (.node (h150_0 P) .nil .nil) (.node (k214 P) .nil .nil)) (.node (h118_0 P) (.node (k182 P) .nil .nil) .nil))) (.node (h30_0 P) (.node (k46 P) (.node (h78_0 P) (.node (h142_0 P) .nil .nil) (.node (k206 P) .nil .nil)) (.node (h110_0 P) (.node (h174_0 P) .nil .nil) .nil)) (.node (k62 P) (.node (k94 P) (.node (h158_0 P) .nil .nil) (.node (h222_0 P) .nil .nil)) (.node (h126_0 P) (.node (k190 P) .nil .nil) .nil)))))))
-- Fin: size 230 toks 2440 drawn 0 0 0 0 gens 0 life { } pos ⟨154, 0, 188, 43⟩ rows []

-- ann (some (.ref 6)) n0 11 framePos ⟨0, 0, 0, 0⟩ code (.ref 13) frame 14 pre 12 block 0 fin 1 pieces [29, 9, 492, 9, 30, 31, 32, 32, 9, 998, 29, 12524, 30, 29, 9, 37, 32, 26, 26, 34, 35, 26] boot toks 181 life { }

noncomputable def bodyE : List Stmt := behindTheImports pw
noncomputable def env0 : Env := { scope := pw.main.scope, locals := mainNs, globals := mainNs, cells := [], code := .ref 13, frame := some 14 }
noncomputable def cE : Code := .body bodyE env0
noncomputable def p0 : Pos := ⟨0, 0, 0, 0⟩
noncomputable def stB (t : BT) (n k : Nat) (os : OsState) : SharedT := ⟨t, n, {}, Array.mk [], ⟨0, 0, 0, 0⟩, k, os⟩
/-- a piece of the top -/
noncomputable def Pc (w : World) (n : Nat) (t : BT) (m k : Nat) (p : Pos) (l : List Stmt) (t' : BT) (m' k' : Nat) (p' : Pos) : Prop :=
  (fun os => segRunT treeTable pw w 11 (some (.ref 6)) 1 n (stB t m k os) (piecesOf l env0 cE p [topFrame p0])) = fun os => some (.next, stB t' m' k' os, cE, p')
end Mine
end
section
open PySem PySem.W PySem.Calls PyProof.Rows
set_option Elab.async false
set_option maxRecDepth 100000
namespace Mine
/-- the same by the library's fast twins -/
noncomputable def PcQ (w : World) (n : Nat) (t : BT) (m k : Nat) (p : Pos) (l : List Stmt) (t' : BT) (m' k' : Nat) (p' : Pos) : Prop :=
  (fun os => Fast.tw10110043849684766642 Fast.tw14364793385576792824 pw w 11 (some (.ref 6)) 1 n (stB t m k os) ⟨(Fast.tw12563942051412417395 l env0).wrap doneF deadEnd id id, cE, p, [topFrame p0]⟩) = fun os => some (.next, stB t' m' k' os, cE, p')
theorem Pc.ofQ {w : World} {n : Nat} {t : BT} {m k : Nat} {p : Pos} {l : List Stmt} {t' : BT} {m' k' : Nat} {p' : Pos} (h : PcQ w n t m k p l t' m' k' p') : Pc w n t m k p l t' m' k' p' := by
  unfold PcQ at h
  rw [← Fast.te10110043849684766642, ← Fast.te14364793385576792824, ← Fast.te12563942051412417395] at h
  exact h
noncomputable abbrev Pc9 (w : World) : Prop := PcQ w 999 (S8t w.params) 116 337 ⟨81, 0, 81, 8⟩ ((bodyE.drop 9).take 1) (S9t w.params) 127 397 ⟨82, 0, 82, 6⟩
theorem pc9 (w : World) : Pc9 w :=
  byRow2 "set-order" (P := Pc9) (fun w => byRow2 "special-get-raises" (P := fun w => Pc9 (w.withFollow "set-order" false)) (fun w => by unfold Pc9 PcQ; kernel_rfl) (fun w => by unfold Pc9 PcQ; kernel_rfl) w)
   (fun w => byRow2 "special-get-raises" (P := fun w => Pc9 (w.withFollow "set-order" true)) (fun w => by unfold Pc9 PcQ; kernel_rfl) (fun w => by unfold Pc9 PcQ; kernel_rfl) w) w
noncomputable abbrev Pc8 (w : World) : Prop := PcQ w 674 (SBlkt w.params) 15 187 p0 (bodyE.take 9) (S8t w.params) 116 337 ⟨81, 0, 81, 8⟩
theorem pc8 (w : World) : Pc8 w :=
  byRow2 "special-get-raises" (P := Pc8) (fun w => by unfold Pc8 PcQ; kernel_rfl) (fun w => by unfold Pc8 PcQ; kernel_rfl) w
theorem pc21 (w : World) : PcQ w 285 (S11t w.params) 173 2355 ⟨85, 0, 85, 13⟩ (bodyE.drop 12) (S21t w.params) 230 2440 ⟨154, 0, 188, 43⟩ := by unfold PcQ; kernel_rfl
theorem pc10 (w : World) : PcQ w 30 (S9t w.params) 127 397 ⟨82, 0, 82, 6⟩ ((bodyE.drop 10).take 1) (S10t w.params) 134 404 ⟨83, 0, 84, 30⟩ := by unfold PcQ; kernel_rfl
end Mine
end
section
open PySem PySem.W PySem.Calls PyProof.Rows
set_option Elab.async false
set_option maxRecDepth 100000
namespace Mine
noncomputable abbrev ann0 : Option Value := some (.ref 6)
noncomputable abbrev go1 (w : World) (n : Nat) (s : Shared) (t : Sem Fin) (p : Pos) : Option (Shared × Thread) := segGo treeTable pw w 11 ann0 1 n s ⟨t, cE, p, [topFrame p0]⟩
/-- m runs through: at most N steps, from (p, s) to the value a at (p', s') -/
noncomputable def Ev {α : Type} (w : World) (N : Nat) (m : Sem α) (p : Pos) (s : Shared) (a : α) (p' : Pos) (s' : Shared) : Prop :=
  ∀ (K : α → Sem Fin) (H : Value → Sem Fin) (gd : Bool → Bool) (lv : List Value → List Value), ∃ n, n ≤ N ∧ go1 w n s (m.wrap K H gd lv) p = some (s', ⟨K a, cE, p', [topFrame p0]⟩)
theorem go_add {w : World} : ∀ {n m : Nat} {s s' : Shared} {t t' : Thread} {r : Option (Shared × Thread)}, segGo treeTable pw w 11 ann0 1 n s t = some (s', t') → segGo treeTable pw w 11 ann0 1 m s' t' = r → segGo treeTable pw w 11 ann0 1 (n + m) s t = r
  | 0, m, s, s', t, t', r, h, k => by
    obtain ⟨rfl, rfl⟩ : s = s' ∧ t = t' := by simpa [segGo] using h
    rw [Nat.zero_add]; exact k
  | n + 1, m, s, s', t, t', r, h, k => by
    rw [show n + 1 + m = n + m + 1 by omega]
    unfold segGo at h ⊢
    cases he : endAt 1 t with
    | some f => rw [he] at h; cases h
    | none =>
      rw [he] at h
      cases hk : stepOk 11 ann0 t with
      | false => rw [hk] at h; cases h
      | true =>
        rw [hk] at h
        cases hs : step (denote treeTable) pw w s t with
        | halt o s₂ => rw [hs] at h; cases h
        | go s₂ t₂ => rw [hs] at h; exact go_add h k
section
variable {w : World} {α β : Type}
theorem Ev.pure (a : α) (p : Pos) (s : Shared) : Ev w 0 (Pure.pure a : Sem α) p s a p s := fun _ _ _ _ => ⟨0, Nat.le_refl _, rfl⟩
theorem Ev.bind {N M : Nat} {m : Sem α} {f : α → Sem β} {p p₁ p₂ : Pos} {s s₁ s₂ : Shared} {a : α} {b : β} (h : Ev w N m p s a p₁ s₁) (k : Ev w M (f a) p₁ s₁ b p₂ s₂) : Ev w (N + M) (m >>= f) p s b p₂ s₂ := fun K H gd lv => by
  obtain ⟨n, hn, e⟩ := h (fun a => (f a).wrap K H gd lv) (fun e => (Sem.raise e : Sem β).wrap K H gd lv) gd lv
  obtain ⟨n', hn', e'⟩ := k K H gd lv
  refine ⟨n + n', by omega, ?_⟩
  rw [Sem.bind_eq_wrap', Sem.wrap_wrap]
  exact go_add e e'
theorem Ev.wrapS {N : Nat} {m : Sem α} {H : Value → Sem α} {gd : Bool → Bool} {lv : List Value → List Value} {p p₁ : Pos} {s s₁ : Shared} {a : α} (h : Ev w N m p s a p₁ s₁) : Ev w N (m.wrap .pure H gd lv) p s a p₁ s₁ := fun K H' gd' lv' => by
  rw [Sem.wrap_wrap]
  exact h K _ _ _
theorem Ev.holding {N : Nat} {vs : List Value} {m : Sem α} {p p₁ : Pos} {s s₁ : Shared} {a : α} (h : Ev w N m p s a p₁ s₁) : Ev w N (holding vs m) p s a p₁ s₁ := by
  unfold PySem.holding
  split
  · exact h
  · rw [Sem.keep_eq_wrap]; exact h.wrapS
theorem Ev.onRaise {N : Nat} {m : Sem α} {f : Value → Sem Unit} {p p₁ : Pos} {s s₁ : Shared} {a : α} (h : Ev w N m p s a p₁ s₁) : Ev w N (m.onRaise f) p s a p₁ s₁ := by
  rw [Sem.onRaise_eq_wrap]; exact h.wrapS
theorem Ev.mono {N M : Nat} {m : Sem α} {p p₁ : Pos} {s s₁ : Shared} {a : α} (h : Ev w N m p s a p₁ s₁) (l : N ≤ M) : Ev w M m p s a p₁ s₁ := fun K H gd lv => let ⟨n, a, b⟩ := h K H gd lv; ⟨n, Nat.le_trans a l, b⟩
variable {h : Heap} {g : Array GenState} {d : Drawn} {t : Nat} {os : OsState} {p : Pos}
theorem Ev.rule (x : String) : Ev w 1 (PySem.rule x) p ⟨h, g, d, t, os⟩ () p ⟨h, g, d, t, os⟩ := fun _ _ _ _ => ⟨1, Nat.le_refl _, rfl⟩
theorem Ev.standAt (p' : Pos) : Ev w 1 (PySem.standAt p') p ⟨h, g, d, t, os⟩ () p' ⟨h, g, d, t, os⟩ := fun _ _ _ _ => ⟨1, Nat.le_refl _, rfl⟩
theorem Ev.fresh : Ev w 1 PySem.fresh p ⟨h, g, d, t, os⟩ t p ⟨h, g, d, t + 1, os⟩ := fun _ _ _ _ => ⟨1, Nat.le_refl _, rfl⟩
theorem Ev.point : Ev w 1 PySem.point p ⟨h, g, d, t, os⟩ () p ⟨h, g, d, t, os⟩ := fun _ _ _ _ => ⟨1, Nat.le_refl _, rfl⟩
theorem Ev.alloc (o : Obj) : Ev w 1 (PySem.alloc o) p ⟨h, g, d, t, os⟩ h.objs.size p ⟨h.push o, g, d, t, os⟩ := fun _ _ _ _ => ⟨1, Nat.le_refl _, rfl⟩
theorem Ev.load {a : Addr} {q : Option Value} {o : Obj} (ho : h.get? a = some o) : Ev w 1 (PySem.loadPart a q) p ⟨h, g, d, t, os⟩ o p ⟨h, g, d, t, os⟩ := fun K H gd lv => ⟨1, Nat.le_refl _, by
  show (match step (denote treeTable) pw w ⟨h, g, d, t, os⟩ ⟨.load a q fun x => K x, cE, p, [topFrame p0]⟩ with | .go s' t' => segGo treeTable pw w 11 ann0 1 0 s' t' | .halt _ _ => none) = _
  simp only [step, ho]
  rfl⟩
theorem Ev.update {a : Addr} {q : Option Value} {f : Obj → Obj} {o : Obj} (ho : h.get? a = some o) (ha : Nat.ble 11 a = true) : Ev w 1 (PySem.updatePart a q f) p ⟨h, g, d, t, os⟩ () p ⟨h.update a f, g, d, t, os⟩ := fun K H gd lv => ⟨1, Nat.le_refl _, by
  have hk : stepOk 11 ann0 ⟨.update a q f fun x => K x, cE, p, [topFrame p0]⟩ = true := by
    show (_ && (Nat.ble 11 a || a == mainNs || a == cStatics || ann0 == some (.ref a))) = true
    rw [ha]; rfl
  show (match stepOk 11 ann0 ⟨.update a q f fun x => K x, cE, p, [topFrame p0]⟩ with | false => none | true => (match step (denote treeTable) pw w ⟨h, g, d, t, os⟩ ⟨.update a q f fun x => K x, cE, p, [topFrame p0]⟩ with | .go s' t' => segGo treeTable pw w 11 ann0 1 0 s' t' | .halt _ _ => none)) = _
  rw [hk]
  simp only [step, ho]
  rfl⟩
theorem Ev.mkInt (i : Int) : Ev w 1 (PySem.mkInt i) p ⟨h, g, d, t, os⟩ (.int i t) p ⟨h, g, d, t + 1, os⟩ := fun _ _ _ _ => ⟨1, Nat.le_refl _, rfl⟩
theorem Ev.mkText (x : Str) : Ev w 1 (PySem.mkText x) p ⟨h, g, d, t, os⟩ (.str x t) p ⟨h, g, d, t + 1, os⟩ := fun _ _ _ _ => ⟨1, Nat.le_refl _, rfl⟩
end
end Mine
end
section
open PySem PySem.W PySem.Calls PyProof.Rows
set_option Elab.async false
set_option maxRecDepth 100000
namespace Mine
noncomputable def HashP (w : World) : Prop := ∀ (h : Heap) (g : Array GenState) (d : Drawn) (t : Nat) (os : OsState) (p : Pos) (k : Int) (u : Tok) (K : Int → Sem Fin) (H : Value → Sem Fin) (gd : Bool → Bool) (lv : List Value → List Value),
   go1 w 5 ⟨h, g, d, t, os⟩ ((pyHash (.int k u)).wrap K H gd lv) p = some (⟨h, g, d, t + 1, os⟩, ⟨(pyHashByItsType.reduced (rawHash k)).wrap K H gd lv, cE, p, [topFrame p0]⟩)
theorem hashP (w : World) : HashP w := byRow2 "special-get-raises" (P := HashP) (fun w => by unfold HashP; intros; kernel_rfl) (fun w => by unfold HashP; intros; kernel_rfl) w
theorem reduced_small {k : Int} (h0 : 0 ≤ k) (h1 : k < 1000000) : pyHashByItsType.reduced (rawHash k) = pure k := by
  have e : rawHash k = k := by
    unfold rawHash
    have a : ¬ k < 0 := by omega
    have b : (k.natAbs : Int) % ((2 ^ 61 - 1 : Nat) : Int) = k := by omega
    simp only [b, a, if_false]
    have c : (k == -1) = false := by simp; omega
    simp [c]
  rw [e]
  unfold pyHashByItsType.reduced
  have c : (k == -1) = false := by simp; omega
  have c1 : (decide (-(2 : Int) ^ 63 ≤ k) && decide (k < 2 ^ 63)) = true := by simp; omega
  rw [if_pos c1, c]
  rfl
section
variable {w : World} {g : Array GenState} {d : Drawn} {t : Nat} {os : OsState} {p : Pos}
theorem Ev.hash {h : Heap} {k : Int} {u : Tok} (h0 : 0 ≤ k) (h1 : k < 1000000) : Ev w 5 (pyHash (.int k u)) p ⟨h, g, d, t, os⟩ k p ⟨h, g, d, t + 1, os⟩ := fun K H gd lv => ⟨5, Nat.le_refl _, by
  have := hashP w h g d t os p k u K H gd lv
  rw [reduced_small h0 h1] at this
  exact this⟩
/-- a heap with x at L.length -/
noncomputable def hd (L : List Obj) (x : Obj) (M : List Obj) : Heap := ⟨(L ++ x :: M).toArray, {}⟩
theorem hd_get {L M : List Obj} {x : Obj} (hx : x.isFreed = false) : (hd L x M).get? L.length = some x := by
  unfold hd Heap.get?
  simp only [List.getElem?_toArray, List.getElem?_append_right (Nat.le_refl _), Nat.sub_self, List.getElem?_cons_zero]
  obtain ⟨a, b, c, d⟩ := x
  cases c <;> first | rfl | cases hx
theorem hd_upd {L M : List Obj} {x : Obj} {f : Obj → Obj} : (hd L x M).update L.length f = hd L (f x) M := by
  show Heap.mk ((L ++ x :: M).toArray.modify L.length f) {} = Heap.mk (L ++ f x :: M).toArray {}
  congr 1
  apply Array.ext_getElem?
  intro i
  rw [Array.getElem?_modify]
  simp only [List.getElem?_toArray]
  by_cases e : L.length = i
  · subst e; simp
  · simp only [e, if_false]
    by_cases l : i < L.length
    · rw [List.getElem?_append_left l, List.getElem?_append_left l]
    · have : i - L.length = (i - L.length - 1) + 1 := by omega
      rw [List.getElem?_append_right (by omega), List.getElem?_append_right (by omega), this]
      rfl
theorem hd_push {L M : List Obj} {x o : Obj} : (hd L x M).push o = hd L x (M ++ [o]) := by
  unfold hd Heap.push
  simp
theorem hd_last {L M : List Obj} {x o : Obj} : hd L x (M ++ [o]) = hd (L ++ x :: M) o [] := by
  unfold hd
  simp
theorem hd_size {L M : List Obj} {x : Obj} : (hd L x M).objs.size = L.length + (M.length + 1) := by
  unfold hd
  simp
noncomputable def dicO (es : List DictEntry) (n : Nat) : Obj := { cls := .type "dict", data := .dict es.toArray n }
variable {L M : List Obj} {es : List DictEntry} {n : Nat}
theorem Ev.entries {q : Option Value} {a : Addr} (ha : a = L.length) : Ev w 1 (dictEntries a q) p ⟨hd L (dicO es n) M, g, d, t, os⟩ es.toArray p ⟨hd L (dicO es n) M, g, d, t, os⟩ := by
  subst ha
  unfold dictEntries
  exact Ev.bind (N := 1) (M := 0) (Ev.load (hd_get rfl)) (Ev.pure _ _ _)
theorem Ev.epoch {q : Option Value} {a : Addr} (ha : a = L.length) : Ev w 1 (dictEpoch a q) p ⟨hd L (dicO es n) M, g, d, t, os⟩ n p ⟨hd L (dicO es n) M, g, d, t, os⟩ := by
  subst ha
  unfold dictEpoch
  exact Ev.bind (N := 1) (M := 0) (Ev.load (hd_get rfl)) (Ev.pure _ _ _)
theorem no_places {k : Int} (hk : ∀ e ∈ es, e.hash ≠ k) : placesWithHash es.toArray.size (fun i => es.toArray[i]?.map (·.hash)) k = [] := by
  unfold placesWithHash
  rw [List.filter_eq_nil_iff]
  intro i hi
  rw [List.mem_range] at hi
  simp only [List.getElem?_toArray]
  have hi' : i < es.length := by simpa using hi
  rw [List.getElem?_eq_getElem hi']
  simpa using hk _ (List.getElem_mem hi')
theorem Ev.find {k : Int} {u : Tok} {a : Addr} (ha : a = L.length) (hk : ∀ e ∈ es, e.hash ≠ k) : Ev w 1 (dictFind a (.int k u) k) p ⟨hd L (dicO es n) M, g, d, t, os⟩ none p ⟨hd L (dicO es n) M, g, d, t, os⟩ := by
  unfold dictFind
  refine Ev.holding (Ev.bind (N := 1) (M := 0) (Ev.entries ha) ?_)
  dsimp only
  rw [no_places hk]
  exact Ev.pure _ _ _
theorem Ev.keys {q : Option Value} {a : Addr} {e : DictEntry} (ha : a = L.length) (h11 : Nat.ble 11 a = true) (hs : es.length ≤ 1000) : Ev w 3 (updateDictKeys a (·.push e) q) p ⟨hd L (dicO es n) M, g, d, t, os⟩ () p ⟨hd L (dicO (es ++ [e]) (n + 1)) M, g, d, t, os⟩ := by
  unfold updateDictKeys
  have u : (hd L (dicO es n) M).update a (Obj.mapDictKeys (·.push e)) = hd L (dicO (es ++ [e]) (n + 1)) M := by
    rw [ha, hd_upd]
    congr 1
    show Obj.mk _ _ (.dict (es.toArray.push e) (n + 1)) _ = _
    rw [List.push_toArray]
    rfl
  refine Ev.bind (N := 1) (M := 2) (Ev.load (ha ▸ hd_get rfl)) ?_
  refine Ev.bind (N := 1) (M := 1) (Ev.update (ha ▸ hd_get rfl) h11) ?_
  rw [u]
  unfold lookBehind
  refine Ev.bind (N := 1) (M := 0) (Ev.load (ha ▸ hd_get rfl)) ?_
  show Ev w 0 (match (if (es ++ [e]).toArray.size > sizeLine + 1 then some "dict:memory" else none) with | some what => unsupported what | _ => Pure.pure ()) _ _ _ _ _
  rw [if_neg (by simp [sizeLine]; omega)]
  exact Ev.pure _ _ _
theorem Ev.set {k : Int} {u : Tok} {v : Value} {a : Addr} (ha : a = L.length) (h11 : Nat.ble 11 a = true) (hs : es.length ≤ 1000) (h0 : 0 ≤ k) (h1 : k < 1000000) (hk : ∀ e ∈ es, e.hash ≠ k) :
    Ev w 10 (dictSet a (.int k u) v) p ⟨hd L (dicO es n) M, g, d, t, os⟩ () p ⟨hd L (dicO (es ++ [⟨k, .int k u, v⟩]) (n + 1)) M, g, d, t + 1, os⟩ := by
  unfold dictSet
  refine Ev.holding (Ev.bind (N := 5) (M := 5) (Ev.hash h0 h1) ?_)
  unfold dictSetHashed
  refine Ev.holding (Ev.bind (N := 1) (M := 4) (Ev.find ha hk) ?_)
  exact Ev.bind (N := 1) (M := 3) (Ev.rule _) (Ev.keys ha h11 hs)
theorem Ev.put {k : Int} {u : Tok} {v : Value} {a : Addr} (ha : a = L.length) (h11 : Nat.ble 11 a = true) (hs : es.length ≤ 1000) (hk : ∀ e ∈ es, e.hash ≠ k) :
    Ev w 4 (dictPut a k (.int k u) v) p ⟨hd L (dicO es n) M, g, d, t, os⟩ () p ⟨hd L (dicO (es ++ [⟨k, .int k u, v⟩]) (n + 1)) M, g, d, t, os⟩ := by
  unfold dictPut
  exact Ev.bind (N := 1) (M := 3) (Ev.find ha hk) (Ev.keys ha h11 hs)
end
end Mine
end
section
open PySem PySem.W PySem.Calls PyProof.Rows
set_option Elab.async false
set_option maxRecDepth 100000
namespace Mine
section
variable {w : World} {g : Array GenState} {d : Drawn} {t : Nat} {os : OsState} {p P : Pos} {L M : List Obj} {es : List DictEntry} {n : Nat}
theorem Ev.forNil {X σ : Type} {f : X → σ → Sem (ForInStep σ)} {a : σ} {s : Shared} : Ev w 0 (forIn ([] : List X) a f) p s a p s := by rw [List.forIn_nil]; exact Ev.pure _ _ _
theorem Ev.forCons {X σ : Type} {f : X → σ → Sem (ForInStep σ)} {a b c : σ} {x : X} {l : List X} {s s₁ s₂ : Shared} {p₁ p₂ : Pos} {N K : Nat} (h : Ev w N (f x a) p s (.yield b) p₁ s₁) (k : Ev w K (forIn l b f) p₁ s₁ c p₂ s₂) : Ev w (N + K) (forIn (x :: l) a f) p s c p₂ s₂ := by
  rw [List.forIn_cons]; exact Ev.bind h k
noncomputable def pr (P : Pos) (r : Int × Str) : Sem Value × Sem Value := (mkInt r.1, do let x ← mkText r.2; standAt P; pure x)
theorem evVal {h : Heap} {r : Int × Str} : Ev w 2 (pr P r).2 P ⟨h, g, d, t, os⟩ (.str r.2 t) P ⟨h, g, d, t + 1, os⟩ :=
  Ev.bind (N := 1) (M := 1) (Ev.mkText _) (Ev.bind (N := 1) (M := 0) (Ev.standAt P) (Ev.pure _ _ _))
noncomputable def ents : Nat → List (Int × Str) → List DictEntry
  | _, [] => []
  | t, r :: l => ⟨r.1, .int r.1 t, .str r.2 (t + 1)⟩ :: ents (t + 3) l
noncomputable def ents2 : Nat → List (Int × Str) → List DictEntry
  | _, [] => []
  | t, r :: l => ⟨r.1, .int r.1 t, .str r.2 (t + 1)⟩ :: ents2 (t + 2) l
/-- the rows' keys are fit, and none is among ks -/
noncomputable def Fit (ks : List Int) : List (Int × Str) → Prop
  | [] => True
  | r :: l => 0 ≤ r.1 ∧ r.1 < 1000000 ∧ r.1 ∉ ks ∧ Fit (ks ++ [r.1]) l
theorem fit_hash {ks : List Int} {k : Int} (hm : es.map (·.hash) = ks) (hk : k ∉ ks) : ∀ e ∈ es, e.hash ≠ k := fun e he h => hk (hm ▸ h ▸ List.mem_map_of_mem he)
theorem evFill {a : Addr} (ha : a = L.length) (h11 : Nat.ble 11 a = true) (f : (Sem Value × Sem Value) → PUnit → Sem (ForInStep PUnit))
    (hf : ∀ q, f q PUnit.unit = (do let kv ← q.1; let vv ← holding [kv] q.2; holding [kv, vv] (dictSet a kv vv); pure (ForInStep.yield PUnit.unit))) :
    ∀ (rows : List (Int × Str)) (es : List DictEntry) (n t : Nat) (ks : List Int), es.map (·.hash) = ks → Fit ks rows → es.length + rows.length ≤ 1000 →
      Ev w (13 * rows.length) (forIn (rows.map (pr P)) PUnit.unit f) P ⟨hd L (dicO es n) M, g, d, t, os⟩ PUnit.unit P ⟨hd L (dicO (es ++ ents t rows) (n + rows.length)) M, g, d, t + 3 * rows.length, os⟩
  | [], es, n, t, ks, _, _, _ => by
    show Ev w 0 (forIn [] PUnit.unit f) _ _ _ _ _
    have e : es ++ ents t [] = es := List.append_nil _
    rw [e]
    exact Ev.forNil
  | r :: l, es, n, t, ks, hm, ⟨h0, h1, h2, h3⟩, hs => by
    rw [List.map_cons]
    rw [List.length_cons] at hs
    have st : Ev w 13 (f (pr P r) PUnit.unit) P ⟨hd L (dicO es n) M, g, d, t, os⟩ (ForInStep.yield PUnit.unit) P ⟨hd L (dicO (es ++ [⟨r.1, .int r.1 t, .str r.2 (t + 1)⟩]) (n + 1)) M, g, d, t + 3, os⟩ := by
      rw [hf]
      refine Ev.bind (N := 1) (M := 12) (Ev.mkInt _) ?_
      refine Ev.bind (N := 2) (M := 10) (Ev.holding evVal) ?_
      exact Ev.bind (N := 10) (M := 0) (Ev.holding (Ev.set ha h11 (by omega) h0 h1 (fit_hash hm h2))) (Ev.pure _ _ _)
    have ih := evFill ha h11 f hf l (es ++ [⟨r.1, .int r.1 t, .str r.2 (t + 1)⟩]) (n + 1) (t + 3) (ks ++ [r.1]) (by rw [List.map_append, hm]; rfl) h3 (by rw [List.length_append]; simp only [List.length_singleton]; omega)
    have e1 : es ++ ents t (r :: l) = es ++ [⟨r.1, .int r.1 t, .str r.2 (t + 1)⟩] ++ ents (t + 3) l := by rw [List.append_assoc]; rfl
    have e2 : n + (r :: l).length = n + 1 + l.length := by rw [List.length_cons]; omega
    have e3 : t + 3 * (r :: l).length = t + 3 + 3 * l.length := by rw [List.length_cons]; omega
    rw [e1, e2, e3]
    exact (Ev.forCons st ih).mono (by rw [List.length_cons]; omega)
noncomputable def lh (L : List Obj) : Heap := ⟨L.toArray, {}⟩
theorem lh_push {L : List Obj} {o : Obj} : (lh L).push o = hd L o [] := by unfold lh hd Heap.push; simp
theorem lh_hd {L M : List Obj} {o : Obj} : hd L o M = lh (L ++ o :: M) := rfl
theorem lh_size {L : List Obj} : (lh L).objs.size = L.length := by unfold lh; simp
theorem evSubLong {rows : List (Int × Str)} (h11 : Nat.ble 11 L.length = true) (hl : 15 < rows.length) (hl2 : rows.length ≤ 1000) (hF : Fit [] rows) :
    Ev w (13 * rows.length + 2) (subDict (rows.map (pr P))) P ⟨lh L, g, d, t, os⟩ L.length P ⟨hd L (dicO (ents t rows) rows.length) [], g, d, t + 3 * rows.length, os⟩ := by
  unfold subDict
  have al := Ev.alloc (w := w) (g := g) (d := d) (t := t) (os := os) (p := P) (h := lh L) { cls := .type "dict", data := .dict #[] }
  rw [lh_size, lh_push] at al
  refine (Ev.bind (N := 1) (M := 13 * rows.length + 1) al ?_).mono (by omega)
  refine Ev.bind (N := 13 * rows.length + 1) (M := 0) (Ev.holding (a := ()) ?_) (Ev.pure _ _ _)
  rw [if_neg (by rw [List.length_map]; omega)]
  refine (Ev.bind (N := 1) (M := 13 * rows.length) (Ev.rule _) ?_).mono (by omega)
  have H := fun f hf => evFill (w := w) (g := g) (d := d) (os := os) (P := P) (M := []) (L := L) (a := L.length) rfl h11 f hf rows [] 0 t [] rfl hF (by simpa using hl2)
  simp only [List.nil_append, Nat.zero_add] at H
  exact Ev.bind (N := 13 * rows.length) (M := 0) (H _ (fun q => rfl)) (Ev.pure _ _ _)
theorem evSetAll {a : Addr} (ha : a = L.length) (h11 : Nat.ble 11 a = true) (f : (Value × Value) → PUnit → Sem (ForInStep PUnit)) (hf : ∀ q, f q PUnit.unit = (do dictSet a q.1 q.2; pure (ForInStep.yield PUnit.unit))) :
    ∀ (rows : List (Int × Str)) (es : List DictEntry) (n t u : Nat) (ks : List Int), es.map (·.hash) = ks → Fit ks rows → es.length + rows.length ≤ 1000 →
      Ev w (10 * rows.length) (forIn ((ents2 u rows).map fun e => (e.key, e.val)) PUnit.unit f) P ⟨hd L (dicO es n) M, g, d, t, os⟩ PUnit.unit P ⟨hd L (dicO (es ++ ents2 u rows) (n + rows.length)) M, g, d, t + rows.length, os⟩
  | [], es, n, t, u, ks, _, _, _ => by
    show Ev w 0 (forIn [] PUnit.unit f) _ _ _ _ _
    rw [show es ++ ents2 u [] = es from List.append_nil _]
    exact Ev.forNil
  | r :: l, es, n, t, u, ks, hm, ⟨h0, h1, h2, h3⟩, hs => by
    rw [List.length_cons] at hs
    have st : Ev w 10 (f (.int r.1 u, .str r.2 (u + 1)) PUnit.unit) P ⟨hd L (dicO es n) M, g, d, t, os⟩ (ForInStep.yield PUnit.unit) P ⟨hd L (dicO (es ++ [⟨r.1, .int r.1 u, .str r.2 (u + 1)⟩]) (n + 1)) M, g, d, t + 1, os⟩ := by
      rw [hf]
      exact Ev.bind (N := 10) (M := 0) (Ev.set ha h11 (by omega) h0 h1 (fit_hash hm h2)) (Ev.pure _ _ _)
    have ih := evSetAll ha h11 f hf l (es ++ [⟨r.1, .int r.1 u, .str r.2 (u + 1)⟩]) (n + 1) (t + 1) (u + 2) (ks ++ [r.1]) (by rw [List.map_append, hm]; rfl) h3 (by rw [List.length_append]; simp only [List.length_singleton]; omega)
    have e1 : es ++ ents2 u (r :: l) = es ++ [⟨r.1, .int r.1 u, .str r.2 (u + 1)⟩] ++ ents2 (u + 2) l := by rw [List.append_assoc]; rfl
    have e2 : n + (r :: l).length = n + 1 + l.length := by rw [List.length_cons]; omega
    have e3 : t + (r :: l).length = t + 1 + l.length := by rw [List.length_cons]; omega
    rw [e1, e2, e3]
    exact (Ev.forCons st ih).mono (by rw [List.length_cons]; omega)
theorem evPairs {h : Heap} : ∀ (rows : List (Int × Str)) (t : Nat), Ev w (3 * rows.length) (evalPairs (rows.map (pr P))) P ⟨h, g, d, t, os⟩ ((ents2 t rows).map fun e => (e.key, e.val)) P ⟨h, g, d, t + 2 * rows.length, os⟩
  | [], t => Ev.pure _ _ _
  | r :: l, t => by
    rw [List.map_cons, show pr P r = ((pr P r).1, (pr P r).2) from rfl, evalPairs]
    refine (Ev.bind (N := 1) (M := 2 + 3 * l.length) (Ev.mkInt _) ?_).mono (by rw [List.length_cons]; omega)
    refine Ev.bind (N := 2) (M := 3 * l.length) (Ev.holding evVal) ?_
    have ih := evPairs (h := h) l (t + 2)
    have e3 : t + 2 * (r :: l).length = t + 2 + 2 * l.length := by rw [List.length_cons]; omega
    rw [e3]
    exact Ev.bind (N := 3 * l.length) (M := 0) (Ev.holding ih) (Ev.pure _ _ _)
theorem evSubShort {rows : List (Int × Str)} (h11 : Nat.ble 11 L.length = true) (hl : rows.length ≤ 15) (hF : Fit [] rows) :
    Ev w (13 * rows.length + 1) (subDict (rows.map (pr P))) P ⟨lh L, g, d, t, os⟩ L.length P ⟨hd L (dicO (ents2 t rows) rows.length) [], g, d, t + 2 * rows.length + rows.length, os⟩ := by
  unfold subDict
  have al := Ev.alloc (w := w) (g := g) (d := d) (t := t) (os := os) (p := P) (h := lh L) { cls := .type "dict", data := .dict #[] }
  rw [lh_size, lh_push] at al
  refine (Ev.bind (N := 1) (M := 13 * rows.length) al ?_).mono (by omega)
  refine Ev.bind (N := 13 * rows.length) (M := 0) (Ev.holding (a := ()) ?_) (Ev.pure _ _ _)
  rw [if_pos (by rw [List.length_map]; exact hl)]
  refine (Ev.bind (N := 3 * rows.length) (M := 10 * rows.length) (evPairs rows t) ?_).mono (by omega)
  have H := fun f hf => evSetAll (w := w) (g := g) (d := d) (os := os) (P := P) (M := []) (L := L) (a := L.length) rfl h11 f hf rows [] 0 (t + 2 * rows.length) t [] rfl hF (by simp; omega)
  simp only [List.nil_append, Nat.zero_add] at H
  exact Ev.holding (Ev.bind (N := 10 * rows.length) (M := 0) (H _ (fun q => rfl)) (Ev.pure _ _ _))
end
end Mine
end
section
open PySem PySem.W PySem.Calls PyProof.Rows
set_option Elab.async false
set_option maxRecDepth 100000
namespace Mine
section
variable {w : World} {g : Array GenState} {d : Drawn} {t : Nat} {os : OsState} {p P : Pos} {L M : List Obj} {es fs : List DictEntry} {n m : Nat}
/-- entries of ints -/
noncomputable def IntE (fs : List DictEntry) : Prop := ∀ e ∈ fs, ∃ u, e.key = .int e.hash u
theorem sub_dict : isSubtype (.type "dict") (.type "dict") = Pure.pure true := by kernel_rfl
theorem look_iter : typeLookup (.type "dict") "__iter__" = Pure.pure (some (.builtin "dict.__iter__")) := by kernel_rfl
theorem evType {b : Addr} (hb : b = L.length) : Ev w 1 (typeOf (.ref b)) p ⟨hd L (dicO es n) M, g, d, t, os⟩ (.type "dict") p ⟨hd L (dicO es n) M, g, d, t, os⟩ :=
  Ev.bind (N := 1) (M := 0) (Ev.load (hb ▸ hd_get rfl)) (Ev.pure _ _ _)
theorem evInst {b : Addr} (hb : b = L.length) : Ev w 1 (isInstance (.ref b) (.type "dict")) p ⟨hd L (dicO es n) M, g, d, t, os⟩ true p ⟨hd L (dicO es n) M, g, d, t, os⟩ := by
  unfold PySem.isInstance
  refine Ev.bind (N := 1) (M := 0) (evType hb) ?_
  rw [sub_dict]; exact Ev.pure _ _ _
theorem evIter {b : Addr} (hb : b = L.length) : Ev w 1 (specialOf (.ref b) "__iter__") p ⟨hd L (dicO es n) M, g, d, t, os⟩ (some (.builtin "dict.__iter__")) p ⟨hd L (dicO es n) M, g, d, t, os⟩ := by
  unfold specialOf
  refine Ev.bind (N := 1) (M := 0) (evType hb) ?_
  exact (look_iter ▸ Ev.pure _ _ _ : Ev w 0 (typeLookup (.type "dict") "__iter__") p _ _ p _)
theorem evRange {σ : Type} (S : Nat → Shared) (f : Nat → PUnit → Sem (ForInStep PUnit)) {c N : Nat} (hturn : ∀ k, k < N → Ev w c (f k PUnit.unit) p (S k) (ForInStep.yield PUnit.unit) p (S (k + 1))) :
    ∀ (len k : Nat), k + len = N → Ev w (c * len) (forIn (List.range' k len) PUnit.unit f) p (S k) PUnit.unit p (S N)
  | 0, k, e => by
    obtain rfl : k = N := by omega
    exact Ev.forNil
  | len + 1, k, e => by
    rw [List.range'_succ]
    exact (Ev.forCons (hturn k (by omega)) (evRange (σ := σ) S f hturn len (k + 1) (by omega))).mono (by rw [Nat.mul_succ]; omega)
variable {x : Obj}
theorem lenL (L M : List Obj) (x : Obj) : L.length + 1 + M.length = (L ++ x :: M).length := by rw [List.length_append, List.length_cons]; omega
theorem evInstL {b : Addr} (hb : b = L.length + 1 + M.length) : Ev w 1 (isInstance (.ref b) (.type "dict")) p ⟨hd L x (M ++ [dicO fs m]), g, d, t, os⟩ true p ⟨hd L x (M ++ [dicO fs m]), g, d, t, os⟩ := by
  rw [hd_last]; exact evInst (L := L ++ x :: M) (M := []) (es := fs) (n := m) (hb.trans (lenL L M x))
theorem evIterL {b : Addr} (hb : b = L.length + 1 + M.length) : Ev w 1 (specialOf (.ref b) "__iter__") p ⟨hd L x (M ++ [dicO fs m]), g, d, t, os⟩ (some (.builtin "dict.__iter__")) p ⟨hd L x (M ++ [dicO fs m]), g, d, t, os⟩ := by
  rw [hd_last]; exact evIter (L := L ++ x :: M) (M := []) (es := fs) (n := m) (hb.trans (lenL L M x))
theorem evEntL {b : Addr} {q : Option Value} (hb : b = L.length + 1 + M.length) : Ev w 1 (dictEntries b q) p ⟨hd L x (M ++ [dicO fs m]), g, d, t, os⟩ fs.toArray p ⟨hd L x (M ++ [dicO fs m]), g, d, t, os⟩ := by
  rw [hd_last]; exact Ev.entries (L := L ++ x :: M) (M := []) (es := fs) (n := m) (hb.trans (lenL L M x))
theorem evEpoL {b : Addr} {q : Option Value} (hb : b = L.length + 1 + M.length) : Ev w 1 (dictEpoch b q) p ⟨hd L x (M ++ [dicO fs m]), g, d, t, os⟩ m p ⟨hd L x (M ++ [dicO fs m]), g, d, t, os⟩ := by
  rw [hd_last]; exact Ev.epoch (L := L ++ x :: M) (M := []) (es := fs) (n := m) (hb.trans (lenL L M x))
theorem is_iter : ((some (Value.builtin "dict.__iter__") : Option Value) == some (Value.builtin "dict.__iter__")) = true := by kernel_rfl
theorem evMerge {a b : Addr} (ha : a = L.length) (hb : b = L.length + 1 + M.length) (h11 : Nat.ble 11 a = true) (hsm : (b == sysModules) = false) (hne : es ≠ []) (hf : IntE fs) (hd0 : ((es ++ fs).map (·.hash)).Nodup) (hs : es.length + fs.length ≤ 1000) :
    Ev w (9 * fs.length + 6) (mergeMapping a (.ref b) false) p ⟨hd L (dicO es n) (M ++ [dicO fs m]), g, d, t, os⟩ () p ⟨hd L (dicO (es ++ fs) (n + fs.length)) (M ++ [dicO fs m]), g, d, t, os⟩ := by
  unfold mergeMapping
  refine Ev.mono (N := 1 + (1 + (0 + (1 + (1 + (1 + (9 * fs.length + 0))))))) ?_ (by omega)
  refine Ev.bind (evInstL hb) ?_
  try dsimp only
  rw [if_pos rfl]
  refine Ev.bind (evIterL hb) ?_
  refine Ev.bind (Ev.pure _ _ _) ?_
  try dsimp only
  rw [is_iter]
  try dsimp only
  rw [hsm, if_neg Bool.false_ne_true]
  refine Ev.bind (Ev.entries ha) ?_
  rw [if_neg (by cases es with | nil => exact absurd rfl hne | cons => simp)]
  refine Ev.bind (evEntL hb) ?_
  refine Ev.bind (evEpoL hb) ?_
  refine Ev.bind (a := PUnit.unit) ?_ (Ev.pure _ _ _)
  rw [List.size_toArray, List.range_eq_range']
  have R := fun f => evRange (w := w) (p := p) (σ := Unit) (fun k => ⟨hd L (dicO (es ++ fs.take k) (n + k)) (M ++ [dicO fs m]), g, d, t, os⟩) f (c := 9) (N := fs.length)
  have R' := fun f h => R f h fs.length 0 (by omega)
  simp only [List.take_zero, List.append_nil, Nat.add_zero, List.take_length] at R'
  refine R' _ ?_
  intro k hk
  have hek : fs.toArray[k]? = some fs[k] := by simp [hk]
  obtain ⟨u, hu⟩ := hf fs[k] (List.getElem_mem hk)
  refine Ev.mono (N := 1 + (4 + (1 + 0))) ?_ (by omega)
  refine Ev.bind (evEntL hb) ?_
  try dsimp only
  rw [hek]
  try dsimp only
  rw [if_neg Bool.false_ne_true]
  have tk : fs.take (k + 1) = fs.take k ++ [fs[k]] := by rw [List.take_add_one]; simp [hk]
  have hfr : ∀ e ∈ es ++ fs.take k, e.hash ≠ fs[k].hash := by
    intro e he h
    have : es ++ fs = (es ++ fs.take k) ++ (fs[k] :: fs.drop (k + 1)) := by
      rw [List.append_assoc]
      congr 1
      have := List.take_append_drop k fs
      rw [List.drop_eq_getElem_cons hk] at this
      exact this.symm
    rw [this, List.map_append, List.nodup_append] at hd0
    exact hd0.2.2 _ (List.mem_map_of_mem he) _ (List.mem_map_of_mem List.mem_cons_self) h
  have hp := Ev.put (w := w) (g := g) (d := d) (t := t) (os := os) (p := p) (L := L) (M := M ++ [dicO fs m]) (es := es ++ fs.take k) (n := n + k) (k := fs[k].hash) (u := u) (v := fs[k].val) ha h11 (by rw [List.length_append, List.length_take]; omega) hfr
  have e3 : (⟨fs[k].hash, .int fs[k].hash u, fs[k].val⟩ : DictEntry) = fs[k] := by rw [← hu]
  rw [e3, List.append_assoc, ← tk] at hp
  refine Ev.bind (Ev.holding (by rw [hu]; exact hp)) ?_
  refine Ev.bind (evEpoL hb) ?_
  rw [if_neg (by simp)]
  exact Ev.pure _ _ _
end
end Mine
end
section
open PySem PySem.W PySem.Calls PyProof.Rows
set_option Elab.async false
set_option maxRecDepth 100000
namespace Mine
/-- the keys grow -/
noncomputable def Inc : Int → List (Int × Str) → Prop
  | _, [] => True
  | lo, r :: l => lo < r.1 ∧ r.1 < 1000000 ∧ Inc r.1 l
theorem Inc.gt : ∀ {l : List (Int × Str)} {lo : Int}, Inc lo l → ∀ r ∈ l, lo < r.1
  | r :: l, lo, ⟨a, _, c⟩, q, hq => by
    rcases List.mem_cons.mp hq with rfl | hq
    · exact a
    · have := Inc.gt c q hq; omega
theorem Inc.weak : ∀ {l : List (Int × Str)} {lo lo' : Int}, Inc lo l → lo' ≤ lo → Inc lo' l
  | [], _, _, _, _ => trivial
  | _ :: _, _, _, ⟨a, b, c⟩, h => ⟨by omega, b, c⟩
theorem Inc.fit : ∀ {l : List (Int × Str)} {lo : Int} {ks : List Int}, Inc lo l → 0 ≤ lo → (∀ k ∈ ks, k ≤ lo) → Fit ks l
  | [], _, _, _, _, _ => trivial
  | r :: l, lo, ks, ⟨a, b, c⟩, h0, hk => ⟨by omega, b, fun h => by have := hk _ h; omega, c.fit (by omega) fun k h => by
      rcases List.mem_append.mp h with h | h
      · have := hk k h; omega
      · rw [List.mem_singleton.mp h]; omega⟩
theorem Inc.nodup : ∀ {l : List (Int × Str)} {lo : Int}, Inc lo l → (l.map (·.1)).Nodup
  | [], _, _ => List.nodup_nil
  | r :: l, lo, ⟨a, b, c⟩ => by
    rw [List.map_cons, List.nodup_cons]
    refine ⟨fun h => ?_, c.nodup⟩
    obtain ⟨q, hq, e⟩ := List.mem_map.mp h
    have := c.gt q hq
    omega
theorem Inc.cut : ∀ (n : Nat) {l : List (Int × Str)} {lo : Int}, Inc lo l → Inc lo (l.take n) ∧ ∃ lo', lo ≤ lo' ∧ (∀ r ∈ l.take n, r.1 ≤ lo') ∧ Inc lo' (l.drop n)
  | 0, l, lo, h => ⟨by rw [List.take_zero]; exact trivial, lo, Int.le_refl _, by simp, h⟩
  | n + 1, [], lo, h => ⟨trivial, lo, Int.le_refl _, by simp, trivial⟩
  | n + 1, r :: l, lo, ⟨a, b, c⟩ => by
    obtain ⟨h1, lo', h2, h3, h4⟩ := Inc.cut n c
    refine ⟨⟨a, b, h1⟩, lo', by omega, fun q hq => ?_, h4⟩
    rcases List.mem_cons.mp hq with rfl | hq
    · exact h2
    · exact h3 q hq
theorem ents_hash : ∀ (l : List (Int × Str)) (t : Nat), (ents t l).map (·.hash) = l.map (·.1)
  | [], _ => rfl
  | r :: l, t => by show r.1 :: _ = _; rw [ents_hash l]; rfl
theorem ents2_hash : ∀ (l : List (Int × Str)) (t : Nat), (ents2 t l).map (·.hash) = l.map (·.1)
  | [], _ => rfl
  | r :: l, t => by show r.1 :: _ = _; rw [ents2_hash l]; rfl
theorem ents_int : ∀ (l : List (Int × Str)) (t : Nat), IntE (ents t l)
  | [], _ => fun _ h => nomatch h
  | r :: l, t => fun e he => by
    rcases List.mem_cons.mp he with rfl | he
    · exact ⟨_, rfl⟩
    · exact ents_int l _ e he
theorem ents2_int : ∀ (l : List (Int × Str)) (t : Nat), IntE (ents2 t l)
  | [], _ => fun _ h => nomatch h
  | r :: l, t => fun e he => by
    rcases List.mem_cons.mp he with rfl | he
    · exact ⟨_, rfl⟩
    · exact ents2_int l _ e he
theorem ents_len (l : List (Int × Str)) (t : Nat) : (ents t l).length = l.length := by have := congrArg List.length (ents_hash l t); simpa using this
theorem ents2_len (l : List (Int × Str)) (t : Nat) : (ents2 t l).length = l.length := by have := congrArg List.length (ents2_hash l t); simpa using this
noncomputable def chE : Nat → Nat → List (Int × Str) → List DictEntry
  | 0, t, l => ents2 t l
  | j + 1, t, l => ents t (l.take 17) ++ chE j (t + 51) (l.drop 17)
noncomputable def chS : Nat → Nat → List (Int × Str) → List Obj
  | 0, t, l => [dicO (ents2 t l) l.length]
  | j + 1, t, l => dicO (ents t (l.take 17)) 17 :: chS j (t + 51) (l.drop 17)
theorem nodup_join {es fs : List DictEntry} {lo : Int} {l : List (Int × Str)} (h1 : (es.map (·.hash)).Nodup) (h2 : ∀ e ∈ es, e.hash ≤ lo) (h3 : fs.map (·.hash) = l.map (·.1)) (h4 : Inc lo l) : ((es ++ fs).map (·.hash)).Nodup := by
  rw [List.map_append, List.nodup_append]
  refine ⟨h1, h3 ▸ h4.nodup, fun a ha b hb => ?_⟩
  obtain ⟨e, he, rfl⟩ := List.mem_map.mp ha
  rw [h3] at hb
  obtain ⟨r, hr, rfl⟩ := List.mem_map.mp hb
  have := h2 e he
  have := h4.gt r hr
  omega
section
variable {w : World} {g : Array GenState} {d : Drawn} {t : Nat} {os : OsState} {p P : Pos} {L M : List Obj} {es fs : List DictEntry} {n m : Nat}
noncomputable abbrev Q := Sem Value × Sem Value
noncomputable abbrev item (q : Q) : Option (Sem Value) × Sem Value := (some q.1, q.2)
variable {f : (Option (Sem Value) × Sem Value) → (Option Addr × List Q) → Sem (ForInStep (Option Addr × List Q))} {F : List Q → Option Addr → Sem (Option Addr)}
theorem gath (hf1 : ∀ (q : Q) (mn : Option Addr) (run : List Q), run.length + 1 < 17 → f (item q) (mn, run) = Pure.pure (.yield (mn, run ++ [q]))) (mn : Option Addr) :
    ∀ (items run : List Q), run.length + items.length < 17 → forIn (items.map item) (mn, run) f = Pure.pure (mn, run ++ items)
  | [], run, _ => by simp
  | q :: rest, run, h => by
    rw [List.length_cons] at h
    rw [List.map_cons, List.forIn_cons, hf1 q mn run (by omega), pure_bind]
    have := gath hf1 mn rest (run ++ [q]) (by simp; omega)
    simpa using this
theorem gathFull (hf1 : ∀ (q : Q) (mn : Option Addr) (run : List Q), run.length + 1 < 17 → f (item q) (mn, run) = Pure.pure (.yield (mn, run ++ [q])))
    (hf2 : ∀ (q : Q) (mn : Option Addr) (run : List Q), run.length + 1 = 17 → f (item q) (mn, run) = (F (run ++ [q]) mn >>= fun m => Pure.pure (.yield (m, [])))) (mn : Option Addr) (more : List (Option (Sem Value) × Sem Value)) :
    ∀ (items run : List Q), run.length + items.length = 17 → items ≠ [] → forIn (items.map item ++ more) (mn, run) f = (F (run ++ items) mn >>= fun m => forIn more (m, []) f)
  | [], run, _, h => absurd rfl h
  | [q], run, h, _ => by
    rw [List.map_cons, List.map_nil, List.cons_append, List.nil_append, List.forIn_cons, hf2 q mn run (by simpa using h), bind_assoc]
    rfl
  | q :: q' :: rest, run, h, _ => by
    rw [List.length_cons] at h
    rw [List.map_cons, List.cons_append, List.forIn_cons, hf1 q mn run (by rw [List.length_cons] at h; omega), pure_bind]
    have := gathFull hf1 hf2 mn more (q' :: rest) (run ++ [q]) (by simp at h ⊢; omega) (by simp)
    simpa using this
theorem evFlush {a : Addr} {rows : List (Int × Str)} {lo : Int} {t' N : Nat} (hh : Value → Value → Sem Unit) (ha : a = L.length) (h11 : Nat.ble 11 a = true) (hne : es ≠ [])
    (hsub : Ev w N (subDict (rows.map (pr P))) P ⟨lh (L ++ dicO es n :: M), g, d, t, os⟩ (L ++ dicO es n :: M).length P ⟨hd (L ++ dicO es n :: M) (dicO fs rows.length) [], g, d, t', os⟩)
    (h1 : (es.map (·.hash)).Nodup) (h2 : ∀ e ∈ es, e.hash ≤ lo) (h3 : fs.map (·.hash) = rows.map (·.1)) (h4 : Inc lo rows) (h5 : IntE fs) (hs : es.length + rows.length ≤ 1000) :
    Ev w (N + (9 * rows.length + 6)) (do
      let sub ← holding [.ref a] (subDict (rows.map (pr P)))
      (holding [.ref a, .ref sub] (mergeMapping a (.ref sub) false)).onRaise (hh (.ref sub))
      Pure.pure (some a)) P ⟨hd L (dicO es n) M, g, d, t, os⟩ (some a) P ⟨hd L (dicO (es ++ fs) (n + rows.length)) (M ++ [dicO fs rows.length]), g, d, t', os⟩ := by
  refine Ev.bind (N := N) (M := 9 * rows.length + 6) (Ev.holding hsub) ?_
  have hl : fs.length = rows.length := by have := congrArg List.length h3; simpa using this
  rw [← hd_last]
  refine Ev.bind (N := 9 * rows.length + 6) (M := 0) (a := ()) (Ev.onRaise (Ev.holding ?_)) (Ev.pure _ _ _)
  have := evMerge (w := w) (g := g) (d := d) (t := t') (os := os) (p := P) (L := L) (M := M) (es := es) (fs := fs) (n := n) (m := rows.length) (a := a) (b := (L ++ dicO es n :: M).length) ha (lenL L M _).symm h11 (by
      rw [beq_eq_false_iff_ne]
      have e : 11 ≤ L.length := by rw [ha] at h11; exact Nat.le_of_ble_eq_true h11
      have := lenL L M (dicO es n)
      intro h
      have h' : (L ++ dicO es n :: M).length = 1 := h
      omega) hne h5 (nodup_join h1 h2 h3 h4) (by rw [hl]; exact hs)
  rw [hl] at this
  exact this
end
end Mine
end
section
open PySem PySem.W PySem.Calls PyProof.Rows
set_option Elab.async false
set_option maxRecDepth 100000
namespace Mine
section
variable {w : World} {g : Array GenState} {d : Drawn} {t : Nat} {os : OsState} {p P : Pos} {L M : List Obj} {es fs : List DictEntry} {n m : Nat}
variable {f : (Option (Sem Value) × Sem Value) → (Option Addr × List Q) → Sem (ForInStep (Option Addr × List Q))} {F : List Q → Option Addr → Sem (Option Addr)} {G : Option Addr × List Q → Sem Value}
theorem evChunks {a : Addr} (hh : Value → Value → Sem Unit) (ha : a = L.length) (h11 : Nat.ble 11 a = true)
    (hf1 : ∀ (q : Q) (mn : Option Addr) (run : List Q), run.length + 1 < 17 → f (item q) (mn, run) = Pure.pure (.yield (mn, run ++ [q])))
    (hf2 : ∀ (q : Q) (mn : Option Addr) (run : List Q), run.length + 1 = 17 → f (item q) (mn, run) = (F (run ++ [q]) mn >>= fun m => Pure.pure (.yield (m, []))))
    (hF : ∀ chunk : List Q, chunk ≠ [] → F chunk (some a) = (do
      let sub ← holding [.ref a] (subDict chunk)
      (holding [.ref a, .ref sub] (mergeMapping a (.ref sub) false)).onRaise (hh (.ref sub))
      Pure.pure (some a)))
    (hG : ∀ run, G (some a, run) = (F run (some a) >>= fun r => match r with | some d => Pure.pure (.ref d) | none => newDict)) :
    ∀ (j : Nat) (rest : List (Int × Str)) (es : List DictEntry) (n : Nat) (M : List Obj) (t : Nat) (lo : Int), rest.length = 17 * j + 4 → Inc lo rest → (es.map (·.hash)).Nodup → (∀ e ∈ es, e.hash ≤ lo) → 0 ≤ lo → es ≠ [] → es.length + rest.length ≤ 1000 →
      Ev w (23 * rest.length + 10 * (j + 1)) (forIn ((rest.map (pr P)).map item) (some a, []) f >>= G) P ⟨hd L (dicO es n) M, g, d, t, os⟩ (.ref a) P ⟨hd L (dicO (es ++ chE j t rest) (n + rest.length)) (M ++ chS j t rest), g, d, t + 3 * rest.length, os⟩
  | 0, rest, es, n, M, t, lo, hl, hI, hn, hlo, h0, hne, hs => by
    have h11' : Nat.ble 11 (L ++ dicO es n :: M).length = true := by
      have e : 11 ≤ L.length := by rw [ha] at h11; exact Nat.le_of_ble_eq_true h11
      have := lenL L M (dicO es n)
      exact Nat.ble_eq_true_of_le (by omega)
    rw [gath hf1 (some a) (rest.map (pr P)) [] (by rw [List.length_map]; simp; omega), pure_bind, hG, List.nil_append, hF _ (by intro h; rw [List.map_eq_nil_iff] at h; subst h; simp at hl)]
    have sb := evSubShort (w := w) (g := g) (d := d) (t := t) (os := os) (P := P) (L := L ++ dicO es n :: M) (rows := rest) h11' (by omega) (hI.fit h0 (by simp))
    have fl := evFlush (M := M) (n := n) hh ha h11 hne sb hn hlo (ents2_hash rest t) hI (ents2_int rest t) hs
    have e : t + 2 * rest.length + rest.length = t + 3 * rest.length := by omega
    rw [e] at fl
    refine Ev.mono (N := 13 * rest.length + 1 + (9 * rest.length + 6) + 0) (Ev.bind fl (Ev.pure _ _ _)) (by omega)
  | j + 1, rest, es, n, M, t, lo, hl, hI, hn, hlo, h0, hne, hs => by
    have h11' : Nat.ble 11 (L ++ dicO es n :: M).length = true := by
      have e : 11 ≤ L.length := by rw [ha] at h11; exact Nat.le_of_ble_eq_true h11
      have := lenL L M (dicO es n)
      exact Nat.ble_eq_true_of_le (by omega)
    have hA : (rest.take 17).length = 17 := by rw [List.length_take]; omega
    have hB : (rest.drop 17).length = 17 * j + 4 := by rw [List.length_drop]; omega
    obtain ⟨i1, lo', i2, i3, i4⟩ := Inc.cut 17 hI
    have sb := evSubLong (w := w) (g := g) (d := d) (t := t) (os := os) (P := P) (L := L ++ dicO es n :: M) (rows := rest.take 17) h11' (by omega) (by omega) (i1.fit h0 (by simp))
    have fl := evFlush (M := M) (n := n) hh ha h11 hne sb hn hlo (ents_hash (rest.take 17) t) i1 (ents_int (rest.take 17) t) (by omega)
    have hn' := nodup_join hn hlo (ents_hash (rest.take 17) t) i1
    have hlo' : ∀ e ∈ es ++ ents t (rest.take 17), e.hash ≤ lo' := by
      intro e he
      rcases List.mem_append.mp he with he | he
      · have := hlo e he; omega
      · have : e.hash ∈ (ents t (rest.take 17)).map (·.hash) := List.mem_map_of_mem he
        rw [ents_hash] at this
        obtain ⟨r, hr, e'⟩ := List.mem_map.mp this
        have := i3 r hr
        omega
    have ih := evChunks hh ha h11 hf1 hf2 hF hG j (rest.drop 17) (es ++ ents t (rest.take 17)) (n + 17) (M ++ [dicO (ents t (rest.take 17)) 17]) (t + 51) lo' hB i4 hn' hlo' (by omega) (by simp [hne]) (by rw [List.length_append, ents_len]; omega)
    rw [hA] at fl
    have e1 : (rest.map (pr P)).map item = ((rest.take 17).map (pr P)).map item ++ ((rest.drop 17).map (pr P)).map item := by rw [← List.map_append, ← List.map_append, List.take_append_drop]
    rw [e1, gathFull hf1 hf2 (some a) _ ((rest.take 17).map (pr P)) [] (by rw [List.length_map]; simp; omega) (by intro h; rw [List.map_eq_nil_iff] at h; rw [h] at hA; simp at hA), bind_assoc, List.nil_append, hF _ (by intro h; rw [List.map_eq_nil_iff] at h; rw [h] at hA; simp at hA)]
    have e2 : n + rest.length = n + 17 + (rest.drop 17).length := by rw [hB]; omega
    have e3 : t + 3 * rest.length = t + 51 + 3 * (rest.drop 17).length := by rw [hB]; omega
    have e4 : es ++ chE (j + 1) t rest = es ++ ents t (rest.take 17) ++ chE j (t + 51) (rest.drop 17) := by rw [List.append_assoc]; rfl
    have e5 : M ++ chS (j + 1) t rest = M ++ [dicO (ents t (rest.take 17)) 17] ++ chS j (t + 51) (rest.drop 17) := by rw [List.append_assoc]; rfl
    rw [e2, e3, e4, e5]
    refine Ev.mono (N := 13 * 17 + 2 + (9 * 17 + 6) + (23 * (rest.drop 17).length + 10 * (j + 1))) ?_ (by rw [hB]; omega)
    rw [hA] at *
    exact Ev.bind fl ih
end
end Mine
end
section
open PySem PySem.W PySem.Calls PyProof.Rows
set_option Elab.async false
set_option maxRecDepth 100000
namespace Mine
section
variable {w : World} {g : Array GenState} {d : Drawn} {t : Nat} {os : OsState} {p P : Pos} {L M : List Obj} {es fs : List DictEntry} {n m : Nat}
theorem evDisplay {rows : List (Int × Str)} {lo : Int} (h11 : Nat.ble 11 L.length = true) (hl : rows.length = 650) (h0 : 0 ≤ lo) (hI : Inc lo rows) :
    Ev w 20000 (dictDisplay ((rows.map (pr P)).map item)) P ⟨lh L, g, d, t, os⟩ (.ref L.length) P ⟨hd L (dicO (ents t (rows.take 17) ++ chE 37 (t + 51) (rows.drop 17)) 650) (chS 37 (t + 51) (rows.drop 17)), g, d, t + 1950, os⟩ := by
  unfold dictDisplay
  extract_lets flush
  have hne17 : ∀ (q : Q) (run : List Q), run.length + 1 < 17 → ¬ ((run ++ [q]).length == 17) = true := fun q run h => by simp; omega
  have heq17 : ∀ (q : Q) (run : List Q), run.length + 1 = 17 → ((run ++ [q]).length == 17) = true := fun q run h => by simp; omega
  have hA : (rows.take 17).length = 17 := by rw [List.length_take]; omega
  have hB : (rows.drop 17).length = 17 * 37 + 4 := by rw [List.length_drop]; omega
  obtain ⟨i1, lo', i2, i3, i4⟩ := Inc.cut 17 hI
  have e1 : (rows.map (pr P)).map item = ((rows.take 17).map (pr P)).map item ++ ((rows.drop 17).map (pr P)).map item := by rw [← List.map_append, ← List.map_append, List.take_append_drop]
  rw [e1]
  change Ev w 20000 (forIn (((rows.take 17).map (pr P)).map item ++ ((rows.drop 17).map (pr P)).map item) ((none : Option Addr), ([] : List Q)) _ >>= _) _ _ _ _ _
  have hfl0 : ∀ chunk : List Q, chunk ≠ [] → flush chunk none = (subDict chunk >>= fun a => Pure.pure (some a)) := fun chunk h => by
    show (if chunk.isEmpty = true then _ else _) = _
    rw [if_neg (by simpa using h)]
  have hfl1 : ∀ chunk : List Q, chunk ≠ [] → flush chunk (some L.length) = (do
      let sub ← holding [.ref L.length] (subDict chunk)
      (holding [.ref L.length, .ref sub] (mergeMapping L.length (.ref sub) false)).onRaise ((fun _ x => do let _ ← holding [.ref L.length, x] (runValue (.builtin "proto.let_go" {}))) (.ref sub : Value))
      Pure.pure (some L.length)) := fun chunk h => by
    show (if chunk.isEmpty = true then _ else _) = _
    rw [if_neg (by simpa using h)]
  have go : ∀ (f : (Option (Sem Value) × Sem Value) → (Option Addr × List Q) → Sem (ForInStep (Option Addr × List Q))) (G : Option Addr × List Q → Sem Value)
    (hf1 : ∀ (q : Q) (mn : Option Addr) (run : List Q), run.length + 1 < 17 → f (item q) (mn, run) = Pure.pure (.yield (mn, run ++ [q])))
    (hf2 : ∀ (q : Q) (mn : Option Addr) (run : List Q), run.length + 1 = 17 → f (item q) (mn, run) = (flush (run ++ [q]) mn >>= fun m => Pure.pure (.yield (m, []))))
    (hG : ∀ run, G (some L.length, run) = (flush run (some L.length) >>= fun r => match r with | some d => Pure.pure (.ref d) | none => newDict)),
    Ev w 20000 (forIn (((rows.take 17).map (pr P)).map item ++ ((rows.drop 17).map (pr P)).map item) ((none : Option Addr), ([] : List Q)) f >>= G) P ⟨lh L, g, d, t, os⟩ (.ref L.length) P ⟨hd L (dicO (ents t (rows.take 17) ++ chE 37 (t + 51) (rows.drop 17)) 650) (chS 37 (t + 51) (rows.drop 17)), g, d, t + 1950, os⟩ := by
    intro f G hf1 hf2 hG
    rw [gathFull hf1 hf2 none _ ((rows.take 17).map (pr P)) [] (by rw [List.length_map]; simp; omega) (by intro h; rw [List.map_eq_nil_iff] at h; rw [h] at hA; simp at hA), bind_assoc, List.nil_append, hfl0 _ (by intro h; rw [List.map_eq_nil_iff] at h; rw [h] at hA; simp at hA), bind_assoc]
    have sb := evSubLong (w := w) (g := g) (d := d) (t := t) (os := os) (P := P) (L := L) (rows := rows.take 17) h11 (by omega) (by omega) (i1.fit h0 (by simp))
    rw [hA] at sb
    have hlo' : ∀ e ∈ ents t (rows.take 17), e.hash ≤ lo' := by
      intro e he
      have : e.hash ∈ (ents t (rows.take 17)).map (·.hash) := List.mem_map_of_mem he
      rw [ents_hash] at this
      obtain ⟨r, hr, e'⟩ := List.mem_map.mp this
      have := i3 r hr
      omega
    have ch := evChunks (w := w) (g := g) (d := d) (os := os) (P := P) (L := L) (F := flush) (G := G) (a := L.length) (fun _ x => do let _ ← holding [.ref L.length, x] (runValue (.builtin "proto.let_go" {}))) rfl h11 hf1 hf2 hfl1 hG 37 (rows.drop 17) (ents t (rows.take 17)) 17 [] (t + 51) lo' hB i4 (by rw [ents_hash]; exact i1.nodup) hlo' (by omega) (by intro h; have := ents_len (rows.take 17) t; rw [h, hA] at this; simp at this) (by rw [ents_len]; omega)
    rw [hB] at ch
    refine Ev.mono (N := 13 * 17 + 2 + (23 * (17 * 37 + 4) + 10 * (37 + 1))) ?_ (by omega)
    exact Ev.bind sb ((Ev.bind (N := 0) (M := 23 * (17 * 37 + 4) + 10 * (37 + 1)) (Ev.pure _ _ _) ch).mono (by omega))
  refine go _ _ ?_ ?_ ?_
  · intro q mn run h
    show (if ((run ++ [q]).length == 17) = true then _ else _) = _
    rw [if_neg (hne17 q run h)]
  · intro q mn run h
    show (if ((run ++ [q]).length == 17) = true then _ else _) = _
    rw [if_pos (heq17 q run h)]
  · intro run
    rfl
end
end Mine
end
section
open PySem PySem.W PySem.Calls PyProof.Rows
set_option Elab.async false
set_option maxRecDepth 100000
namespace Mine
noncomputable def S11a (P : Params) : BT := (.node (boot_o_0 P) (.node (boot_o_1 P) (.node (h3_4 P) (.node (boot_o_7 P) (.node (k15 P) (.node (h31_0 P) (.node (k63 P) (.node (k127 P) .nil .nil) .nil) (.node (k95 P) (.node (h159_0 P) .nil .nil) .nil)) (.node (h47_0 P) (.node (k79 P) (.node (h143_0 P) .nil .nil) .nil) (.node (k111 P) .nil .nil))) (.node (h23_0 P) (.node (k39 P) (.node (h71_0 P) (.node (h135_0 P) .nil .nil) .nil) (.node (h103_0 P) (.node (h167_0 P) .nil .nil) .nil)) (.node (k55 P) (.node (h87_0 P) (.node (h151_0 P) .nil .nil) .nil) (.node (h119_0 P) .nil .nil)))) (.node (h11_0 P) (.node (h19_0 P) (.node (k35 P) (.node (k67 P) (.node (h131_0 P) .nil .nil) .nil) (.node (h99_0 P) (.node (h163_0 P) .nil .nil) .nil)) (.node (k51 P) (.node (k83 P) (.node (h147_0 P) .nil .nil) .nil) (.node (k115 P) .nil .nil))) (.node (h27_0 P) (.node (h43_0 P) (.node (h75_0 P) (.node (h139_0 P) .nil .nil) .nil) (.node (k107 P) (.node (h171_0 P) .nil .nil) .nil)) (.node (k59 P) (.node (k91 P) (.node (h155_0 P) .nil .nil) .nil) (.node (k123 P) .nil .nil))))) (.node (boot_o_5 P) (.node (boot_o_9 P) (.node (k17 P) (.node (h33_0 P) (.node (k65 P) (.node (k129 P) .nil .nil) .nil) (.node (k97 P) (.node (h161_0 P) .nil .nil) .nil)) (.node (k49 P) (.node (k81 P) (.node (h145_0 P) .nil .nil) .nil) (.node (h113_0 P) .nil .nil))) (.node (h25_0 P) (.node (k41 P) (.node (k73 P) (.node (h137_0 P) .nil .nil) .nil) (.node (k105 P) (.node (h169_0 P) .nil .nil) .nil)) (.node (h57_0 P) (.node (h89_0 P) (.node (h153_0 P) .nil .nil) .nil) (.node (h121_0 P) .nil .nil)))) (.node (h13_0 P) (.node (k21 P) (.node (k37 P) (.node (k69 P) (.node (k133 P) .nil .nil) .nil) (.node (k101 P) (.node (h165_0 P) .nil .nil) .nil)) (.node (k53 P) (.node (k85 P) (.node (h149_0 P) .nil .nil) .nil) (.node (h117_0 P) .nil .nil))) (.node (h29_0 P) (.node (k45 P) (.node (k77 P) (.node (h141_0 P) .nil .nil) .nil) (.node (k109 P) .nil .nil)) (.node (h61_0 P) (.node (k93 P) (.node (h157_0 P) .nil .nil) .nil) (.node (h125_0 P) .nil .nil)))))) (.node (k2 P) (.node (boot_o_4 P) (.node (boot_o_8 P) (.node (h16_0 P) (.node (k32 P) (.node (h64_0 P) (.node (h128_0 P) .nil .nil) .nil) (.node (h96_0 P) (.node (h160_0 P) .nil .nil) .nil)) (.node (k48 P) (.node (k80 P) (.node (h144_0 P) .nil .nil) .nil) (.node (k112 P) .nil .nil))) (.node (h24_0 P) (.node (h40_0 P) (.node (k72 P) (.node (h136_0 P) .nil .nil) .nil) (.node (k104 P) (.node (h168_0 P) .nil .nil) .nil)) (.node (k56 P) (.node (k88 P) (.node (h152_0 P) .nil .nil) .nil) (.node (h120_0 P) .nil .nil)))) (.node (h12_2 P) (.node (k20 P) (.node (h36_0 P) (.node (h68_0 P) (.node (k132 P) .nil .nil) .nil) (.node (k100 P) (.node (h164_0 P) .nil .nil) .nil)) (.node (k52 P) (.node (k84 P) (.node (h148_0 P) .nil .nil) .nil) (.node (h116_0 P) .nil .nil))) (.node (h28_0 P) (.node (k44 P) (.node (k76 P) (.node (h140_0 P) .nil .nil) .nil) (.node (k108 P) (.node (h172_0 P) .nil .nil) .nil)) (.node (k60 P) (.node (h92_0 P) (.node (h156_0 P) .nil .nil) .nil) (.node (h124_0 P) .nil .nil))))) (.node (boot_o_6 P) (.node (boot_o_10 P) (.node (k18 P) (.node (k34 P) (.node (k66 P) (.node (k130 P) .nil .nil) .nil) (.node (k98 P) (.node (h162_0 P) .nil .nil) .nil)) (.node (h50_0 P) (.node (k82 P) (.node (h146_0 P) .nil .nil) .nil) (.node (k114 P) .nil .nil))) (.node (h26_0 P) (.node (k42 P) (.node (k74 P) (.node (h138_0 P) .nil .nil) .nil) (.node (h106_0 P) (.node (h170_0 P) .nil .nil) .nil)) (.node (k58 P) (.node (k90 P) (.node (h154_0 P) .nil .nil) .nil) (.node (h122_0 P) .nil .nil)))) (.node (h14_0 P) (.node (h22_0 P) (.node (k38 P) (.node (k70 P) (.node (k134 P) .nil .nil) .nil) (.node (k102 P) (.node (h166_0 P) .nil .nil) .nil)) (.node (h54_0 P) (.node (h86_0 P) (.node (h150_0 P) .nil .nil) .nil) (.node (h118_0 P) .nil .nil))) (.node (h30_0 P) (.node (k46 P) (.node (h78_0 P) (.node (h142_0 P) .nil .nil) .nil) (.node (h110_0 P) .nil .nil)) (.node (k62 P) (.node (k94 P) (.node (h158_0 P) .nil .nil) .nil) (.node (h126_0 P) .nil .nil)))))))

noncomputable def tg11 : List Expr := match st 11 with | .Assign ts _ _ => ts | _ => []
noncomputable def ks11 : List (Option Expr) := match st 11 with | .Assign _ (.Dict ks _ _) _ => ks | _ => []
noncomputable def vs11 : List Expr := match st 11 with | .Assign _ (.Dict _ vs _) _ => vs | _ => []
noncomputable def dp11 : Pos := match st 11 with | .Assign _ (.Dict _ _ p) _ => p | _ => default
noncomputable def ap11 : Pos := match st 11 with | .Assign _ _ p => p | _ => default
noncomputable abbrev val11 : Expr := .Dict ks11 vs11 dp11
theorem st11 : (bodyE.drop 11).take 1 = [.Assign tg11 val11 ap11] := by kernel_rfl
noncomputable def incB : Int → List (Int × Str) → Bool
  | _, [] => true
  | lo, r :: l => decide (lo < r.1) && decide (r.1 < 1000000) && incB r.1 l
theorem incB_inc : ∀ {l : List (Int × Str)} {lo : Int}, incB lo l = true → Inc lo l
  | [], _, _ => trivial
  | r :: l, lo, h => by
    unfold incB at h
    simp only [Bool.and_eq_true, decide_eq_true_eq] at h
    exact ⟨h.1.1, h.1.2, incB_inc h.2⟩
theorem b3_inc : Inc 0 b3kv := incB_inc (by kernel_rfl)
theorem b3_len : b3kv.length = 650 := by kernel_rfl
theorem b3_items : (evalEachOpt ks11 env0).zip ((evalEach vs11 env0).map fun v => do let x ← v; standAt dp11; pure x) = (b3kv.map (pr dp11)).map item := by kernel_rfl
theorem swaps11 : swapsWithSole tg11 val11 ap11.line env0 = Pure.pure false := by kernel_rfl
theorem heap11 (P : Params) : hd ((S10t P).list 134) (dicO (ents 404 (b3kv.take 17) ++ chE 37 (404 + 51) (b3kv.drop 17)) 650) (chS 37 (404 + 51) (b3kv.drop 17)) = absHeap (S11a P) 173 {} := by kernel_rfl
theorem len10 (P : Params) : ((S10t P).list 134).length = 134 := by unfold BT.list; rw [List.length_map, List.length_range]
end Mine
end
section
open PySem PySem.W PySem.Calls PyProof.Rows
set_option Elab.async false
set_option maxRecDepth 100000
namespace Mine
/-- what follows the display -/
noncomputable def rest11 (v : Value) : Sem Flow := do assignStores env0 v (← swappedStores tg11 val11 env0) ((assignEach tg11 env0).map (·.2))
theorem exec11 : exec (.Assign tg11 val11 ap11) env0 = ((standAt ap11 >>= fun _ => eval val11 env0) >>= rest11) := by
  rw [arm_exec_Assign, swaps11, bind_assoc]
  rfl
theorem ev11 (w : World) (os : OsState) (p : Pos) : Ev w 20010 (standAt ap11 >>= fun _ => eval val11 env0) p ⟨lh ((S10t w.params).list 134), Array.mk [], ⟨0, 0, 0, 0⟩, 404, os⟩ (.ref 134) dp11 ⟨absHeap (S11a w.params) 173 {}, Array.mk [], ⟨0, 0, 0, 0⟩, 2354, os⟩ := by
  refine Ev.mono (N := 1 + (1 + 20000)) (Ev.bind (Ev.standAt _) ?_) (by omega)
  rw [arm_eval_Dict]
  refine Ev.bind (Ev.standAt _) ?_
  rw [b3_items]
  have := evDisplay (w := w) (g := Array.mk []) (d := ⟨0, 0, 0, 0⟩) (t := 404) (os := os) (P := dp11) (L := (S10t w.params).list 134) (rows := b3kv) (lo := 0) (by rw [len10]; rfl) b3_len (Int.le_refl 0) b3_inc
  rw [heap11, len10] at this
  exact this
noncomputable def PcE (w : World) : Prop := (fun os => Fast.tw10110043849684766642 Fast.tw14364793385576792824 pw w 11 (some (.ref 6)) 1 60 (stB (S11a w.params) 173 2354 os) ⟨(rest11 (.ref 134)).wrap doneF deadEnd id id, cE, dp11, [topFrame p0]⟩) = fun os => some (.next, stB (S11t w.params) 173 2355 os, cE, ⟨85, 0, 85, 13⟩)
theorem pcE (w : World) : PcE w := byRow2 "special-get-raises" (P := PcE) (fun w => by unfold PcE; kernel_rfl) (fun w => by unfold PcE; kernel_rfl) w
theorem seg_mono {w : World} (k : Nat) : ∀ (n : Nat) (s : Shared) (t : Thread) (r : Flow × Shared × Code × Pos), segRun treeTable pw w 11 ann0 1 n s t = some r → segRun treeTable pw w 11 ann0 1 (n + k) s t = some r
  | 0, _, _, _, h => by simp [segRun] at h
  | n + 1, s, t, r, h => by
    rw [show n + 1 + k = n + k + 1 by omega]
    unfold segRun at h ⊢
    cases he : endAt 1 t with
    | some f => rw [he] at h; exact h
    | none =>
      rw [he] at h
      cases hk : stepOk 11 ann0 t with
      | false => rw [hk] at h; cases h
      | true =>
        rw [hk] at h
        cases hs : step (denote treeTable) pw w s t with
        | halt o s₂ => rw [hs] at h; cases h
        | go s₂ t₂ => rw [hs] at h; exact seg_mono k n s₂ t₂ r h
theorem pieces_one {l : List Stmt} {s : Stmt} {m : Sem Value} {r : Value → Sem Flow} (hl : l = [s]) (hs : exec s env0 = m >>= r) (p : Pos) :
    piecesOf l env0 cE p [topFrame p0] = ⟨m.wrap (fun v => (r v).wrap doneF deadEnd id id) deadEnd id id, cE, p, [topFrame p0]⟩ := by
  subst hl
  unfold piecesOf
  rw [execs_cons_wrap, hs, Sem.bind_eq_wrap', Sem.wrap_wrap]
  congr 1
  refine Sem.wrap_congr _ _ _ (fun v => ?_) fun _ => rfl
  refine Sem.wrap_congr _ _ _ (fun f => ?_) fun _ => rfl
  cases f <;> rfl
theorem pcE' (w : World) (os : OsState) : segRun treeTable pw w 11 ann0 1 60 (stB (S11a w.params) 173 2354 os).abs ⟨(rest11 (.ref 134)).wrap doneF deadEnd id id, cE, dp11, [topFrame p0]⟩ = some (.next, (stB (S11t w.params) 173 2355 os).abs, cE, ⟨85, 0, 85, 13⟩) := by
  have h := pcE w
  unfold PcE at h
  rw [← Fast.te10110043849684766642, ← Fast.te14364793385576792824] at h
  exact segRun_of (congrFun h os)
theorem seg_join {w : World} {N n k M : Nat} {s s₁ : Shared} {t t₁ : Thread} {r : Flow × Shared × Code × Pos} (hn : n ≤ N) (h : segGo treeTable pw w 11 ann0 1 n s t = some (s₁, t₁)) (k' : segRun treeTable pw w 11 ann0 1 k s₁ t₁ = some r) (hM : N + k ≤ M) : segRun treeTable pw w 11 ann0 1 M s t = some r := by
  have e3 := seg_mono (M - (n + k)) _ _ _ _ (seg_go h k')
  rw [show n + k + (M - (n + k)) = M by omega] at e3
  exact e3
theorem abs10 (P : Params) (os : OsState) : (stB (S10t P) 134 404 os).abs = ⟨lh ((S10t P).list 134), Array.mk [], ⟨0, 0, 0, 0⟩, 404, os⟩ := rfl
theorem abs11 (P : Params) (os : OsState) : (stB (S11a P) 173 2354 os).abs = ⟨absHeap (S11a P) 173 {}, Array.mk [], ⟨0, 0, 0, 0⟩, 2354, os⟩ := rfl
theorem run_of_ev {w : World} {N k M : Nat} {m : Sem Value} {r : Value → Sem Flow} {p p₁ : Pos} {s s₁ : Shared} {v : Value} {l : List Stmt} {st : Stmt} {R : Flow × Shared × Code × Pos} (hl : l = [st]) (hs : exec st env0 = m >>= r) (h : Ev w N m p s v p₁ s₁)
    (k' : segRun treeTable pw w 11 ann0 1 k s₁ ⟨(r v).wrap doneF deadEnd id id, cE, p₁, [topFrame p0]⟩ = some R) (hM : N + k ≤ M) : segRun treeTable pw w 11 ann0 1 M s (piecesOf l env0 cE p [topFrame p0]) = some R := by
  obtain ⟨n, hn, e⟩ := h (fun v => (r v).wrap doneF deadEnd id id) deadEnd id id
  rw [pieces_one hl hs p]
  exact seg_join hn e k' hM
theorem pc11 (w : World) (os : OsState) : segRun treeTable pw w 11 ann0 1 21000 (stB (S10t w.params) 134 404 os).abs (piecesOf ((bodyE.drop 11).take 1) env0 cE ⟨83, 0, 84, 30⟩ [topFrame p0]) = some (.next, (stB (S11t w.params) 173 2355 os).abs, cE, ⟨85, 0, 85, 13⟩) :=
  run_of_ev st11 exec11 (by rw [abs10]; exact ev11 w os _) (by have := pcE' w os; rw [abs11] at this; exact this) (by decide)
end Mine
end
section
open PySem PySem.W PySem.Calls PyProof.Rows
set_option Elab.async false
set_option maxRecDepth 100000
namespace Mine
noncomputable def sPre (w : World) (os : OsState) : Shared := ⟨⟨(SPrel w.params).toArray, {}⟩, Array.mk [], ⟨0, 0, 0, 0⟩, 187, os⟩
theorem pcPre (w : World) : (fun os => topGo treeTable pw w 11 ann0 12 ⟨boot_heap w.params, Array.mk [], boot_drawn, boot_toks, os⟩ (topStub pw)) = fun os => some (sPre w os, ⟨denote treeTable cE, cE, p0, [topFrame p0]⟩) := by kernel_rfl
theorem pcBlk (w : World) : (fun os => segRun treeTable pw w 11 ann0 1 1 (sPre w os) (blockOf bodyE env0 cE p0 [topFrame p0])) = fun os => some (.next, (stB (SBlkt w.params) 15 187 os).abs, cE, p0) := by kernel_rfl
theorem pcFin (w : World) : (fun os => topRun treeTable pw w 11 ann0 2 ((stB (S21t w.params) 230 2440 os).abs) ⟨doneF .next, cE, ⟨154, 0, 188, 43⟩, [topFrame p0]⟩) = fun os => some ((stB (S21t w.params) 230 2440 os).abs) := by kernel_rfl
theorem body_cut : bodyE = bodyE.take 9 ++ ((bodyE.drop 9).take 1 ++ ((bodyE.drop 10).take 1 ++ ((bodyE.drop 11).take 1 ++ (bodyE.drop 12 ++ [])))) := by kernel_rfl
theorem pc_app {w : World} {n N : Nat} {t t' : BT} {m k m' k' : Nat} {p p' : Pos} {l rest : List Stmt} {r : Shared} (os : OsState) (h : PcQ w n t m k p l t' m' k' p')
    (kk : topRun treeTable pw w 11 ann0 N (stB t' m' k' os).abs (restOf rest env0 cE p' [topFrame p0]) = some r) :
    topRun treeTable pw w 11 ann0 (n + N) (stB t m k os).abs (restOf (l ++ rest) env0 cE p [topFrame p0]) = some r :=
  piece_app (segRun_of (congrFun (Pc.ofQ h) os)) kk
noncomputable def Mtop : Nat := 12 + (1 + (674 + (999 + (30 + (21000 + (285 + 2))))))
theorem top_run (w : World) (os : OsState) : topRun treeTable pw w 11 ann0 Mtop ⟨boot_heap w.params, Array.mk [], boot_drawn, boot_toks, os⟩ (topStub pw) = some ((stB (S21t w.params) 230 2440 os).abs) := by
  refine go_top (congrFun (pcPre w) os) (piece_block (congrFun (pcBlk w) os) ?_)
  rw [body_cut]
  exact pc_app os (pc8 w) (pc_app os (pc9 w) (pc_app os (pc10 w) (piece_app (pc11 w os) (pc_app os (pc21 w) (congrFun (pcFin w) os)))))
end Mine
end
section
open PySem PySem.W PySem.Calls PyProof.Rows
set_option Elab.async false
set_option maxRecDepth 100000
set_option maxHeartbeats 0
namespace Mine
noncomputable def q0 : Program := view pw [0, 2, 4, 5, 6, 7, 9, 10, 12, 13, 15, 16, 17, 18, 19, 20, 21]
noncomputable def loose0 : List Str := [Str.ofString "Whitespace", Str.ofString "b1_set", Str.ofString "b3_exceptions"]
noncomputable def H0 : Hook := kHook Mine.K Mine.Ka (fun _ => by kernel_rfl)
noncomputable abbrev Xt0 : Shared → Bool := fun s => xlAt q0 [] s && recOk [] s
noncomputable abbrev sEnd (w : World) (os : OsState) : Shared := ⟨absHeap (S21t w.params) 230 {}, Array.mk [], ⟨0, 0, 0, 0⟩, 2440, os⟩
theorem lk1 (w : World) : (staticsOk (importedModules pw.main.body) (boot_heap w.params) (absHeap (S21t w.params) 230 {}) && namesBound pw (absHeap (S21t w.params) 230 {}) && laidKept (boot_heap w.params) (absHeap (S21t w.params) 230 {})) = true := by kernel_rfl
theorem lk3 (w : World) : (fun os => Mine.Ka.map (sEnd w os).heap.get?) = fun os => (K w.params).map fun p => some p.2 := by kernel_rfl

theorem lk2 (w : World) : (fun os => openSeen q0 loose0 (importedModules pw.main.body) Xt0 true (sEnd w os)) = fun _ => openGood q0 loose0 := by
  rw [Fast.te4187177175401517315]
  kernel_rfl
end Mine
end
section
open PySem PySem.W PySem.Calls PyProof.Rows
set_option Elab.async false
set_option maxRecDepth 100000
set_option maxHeartbeats 0
namespace Mine
theorem size0 (w : World) : ((boot_heap w.params).isNs mainGlobals && (Array.mk [] : Array GenState).size == 0, (boot_heap w.params).objs.size, (boot_heap w.params).nsMap mainGlobals "__annotations__") = (true, 11, ann0) := by kernel_rfl
theorem open0 : ∀ w : World, (fencedOpening treeTable pw w 50000).map (fun s => (s.heap, s.gens, s.drawn, s.toks)) = some (boot_heap w.params, Array.mk [], boot_drawn, boot_toks) :=
  boot_open (by kernel_rfl) (by decide +kernel) (fun s => by kernel_rfl)
theorem left0 : LeftO pw q0 loose0 Xt0 (Hook.obs H0) (Hook.val H0) 50000 :=
  LeftO.of_pieces (H₀ := boot_heap) (H₁ := fun P => absHeap (S21t P) 230 {}) (gs₀ := Array.mk []) (gs₁ := Array.mk []) (d₀ := boot_drawn) (d₁ := ⟨0, 0, 0, 0⟩) (k₀ := boot_toks) (k₁ := 2440) (m₀ := 11) (ann := ann0) (M := Mtop)
    open0 size0 top_run (by decide +kernel) (fun w => by
      funext os
      refine looks_pair ?_ (looks_pair (congrFun (lk2 w) os) (congrFun (lk3 w) os))
      have := lk1 w
      simp only [Bool.and_eq_true] at this ⊢
      exact ⟨⟨⟨this.1.1, this.1.2⟩, rfl⟩, this.2⟩)
theorem said0 : OpenLaw.wellSaid PySem.Challenge.rw_tl0044_01 = true := by
  rw [Fast.te9446332074065402090]
  decide +kernel
end Mine
end
section
set_option Elab.async false
set_option maxRecDepth 100000
namespace Mine
noncomputable abbrev R3 := Nat × Nat × Nat
noncomputable def T8 : List R3 := [(0, 0, 0), (0, 0, 1), (0, 1, 0), (0, 1, 1), (1, 0, 0), (1, 0, 1), (1, 1, 0), (1, 1, 1)]
noncomputable def fits (t : R3) (a : Nat) (r : R3) : Bool := Nat.beq (t.1 + t.2.1 + t.2.2) a && (Nat.ble t.1 r.1 && (Nat.ble t.2.1 r.2.1 && Nat.ble t.2.2 r.2.2))
noncomputable def sub3 (r t : R3) : R3 := (r.1 - t.1, r.2.1 - t.2.1, r.2.2 - t.2.2)
noncomputable def zero3 (r : R3) : Bool := Nat.beq (r.1 + r.2.1 + r.2.2) 0
/-- in how many ways the letters, given by their amounts, are dealt to the rooms -/
noncomputable def ways : List Nat → R3 → Nat
  | [], r => if zero3 r = true then 1 else 0
  | a :: l, r => (T8.map fun t => if fits t a r = true then ways l (sub3 r t) else 0).sum
theorem sum_add {β : Type} (g h : β → Nat) (k : List β) : (k.map fun y => g y + h y).sum = (k.map g).sum + (k.map h).sum := by
  induction k with
  | nil => rfl
  | cons y k ih => simp only [List.map_cons, List.sum_cons, ih]; omega
theorem sum_comm {α β : Type} (f : α → β → Nat) (l : List α) (k : List β) : (l.map fun x => (k.map fun y => f x y).sum).sum = (k.map fun y => (l.map fun x => f x y).sum).sum := by
  induction l with
  | nil => 
    show 0 = (k.map fun _ => 0).sum
    induction k with
    | nil => rfl
    | cons y k ih => simpa using ih
  | cons x l ih => simp only [List.map_cons, List.sum_cons, ih, sum_add]
theorem if_sum {α : Type} (c : Prop) [Decidable c] (f : α → Nat) (l : List α) : (if c then (l.map f).sum else 0) = (l.map fun x => if c then f x else 0).sum := by
  by_cases h : c
  · simp [h]
  · simp only [h, if_false]
    induction l with
    | nil => rfl
    | cons x l ih => simpa using ih
theorem le_swap {x y z : Nat} (h1 : x ≤ z) (h2 : y ≤ z - x) : y ≤ z ∧ x ≤ z - y := by omega
theorem fits_swap1 {t u : R3} {a b : Nat} {r : R3} (h : (fits t a r && fits u b (sub3 r t)) = true) : (fits u b r && fits t a (sub3 r u)) = true := by
  unfold fits sub3 at h ⊢
  simp only [Bool.and_eq_true, Nat.beq_eq, Nat.ble_eq] at h ⊢
  obtain ⟨⟨h1, h2, h3, h4⟩, k1, k2, k3, k4⟩ := h
  exact ⟨⟨k1, (le_swap h2 k2).1, (le_swap h3 k3).1, (le_swap h4 k4).1⟩, h1, (le_swap h2 k2).2, (le_swap h3 k3).2, (le_swap h4 k4).2⟩
theorem fits_swap (t u : R3) (a b : Nat) (r : R3) : (fits t a r && fits u b (sub3 r t)) = (fits u b r && fits t a (sub3 r u)) := Bool.eq_iff_iff.mpr ⟨fits_swap1, fits_swap1⟩
theorem ways_swap (a b : Nat) (l : List Nat) (r : R3) : ways (a :: b :: l) r = ways (b :: a :: l) r := by
  show (T8.map fun t => if fits t a r = true then (T8.map fun u => if fits u b (sub3 r t) = true then ways l (sub3 (sub3 r t) u) else 0).sum else 0).sum =
    (T8.map fun u => if fits u b r = true then (T8.map fun t => if fits t a (sub3 r u) = true then ways l (sub3 (sub3 r u) t) else 0).sum else 0).sum
  simp only [if_sum]
  rw [sum_comm]
  congr 1
  apply List.map_congr_left
  intro u _
  congr 1
  apply List.map_congr_left
  intro t _
  have e := fits_swap t u a b r
  have e2 : sub3 (sub3 r t) u = sub3 (sub3 r u) t := by
    unfold sub3
    dsimp only
    rw [Nat.sub_right_comm r.1, Nat.sub_right_comm r.2.1, Nat.sub_right_comm r.2.2]
  rw [e2]
  have k : ∀ (c1 c2 : Bool) (z : Nat), (if c1 = true then if c2 = true then z else 0 else 0) = if (c1 && c2) = true then z else 0 := by intro c1 c2 z; cases c1 <;> cases c2 <;> rfl
  rw [k, k, e]
theorem ways_perm {l k : List Nat} (p : l.Perm k) : ∀ r, ways l r = ways k r := by
  induction p with
  | nil => intro r; rfl
  | cons a _ ih => intro r; show (T8.map _).sum = (T8.map _).sum; simp only [ih]
  | swap a b l => intro r; exact ways_swap _ _ _ _
  | trans _ _ h1 h2 => intro r; rw [h1, h2]
/-- a text of blanks and tabs: runs of blanks, a tab behind each, and blanks behind them all -/
structure Ws where
  runs : List Nat
  b : Nat
noncomputable def sumL : List Nat → Nat
  | [] => 0
  | x :: l => x + sumL l
noncomputable def maxL : List Nat → Nat
  | [] => 0
  | x :: l => if Nat.ble x (maxL l) then maxL l else x
noncomputable def divs (t : Nat) : List Nat → Nat
  | [] => 0
  | x :: l => x / t + divs t l
namespace Ws
noncomputable def n (x : Ws) : Nat := sumL x.runs + x.runs.length + x.b
noncomputable def nt (x : Ws) : Nat := x.runs.length
noncomputable def lng (x : Ws) : Nat := if Nat.ble (maxL x.runs) x.b then x.b else maxL x.runs
noncomputable def ind (x : Ws) (t : Nat) : Nat := x.b + t * (divs t x.runs + x.nt)
noncomputable def simp (x : Ws) : Bool := Nat.beq (maxL x.runs) 0
noncomputable def less (x y : Ws) : Bool :=
  if Nat.ble y.n x.n then false else if x.simp && y.simp then Nat.ble x.nt y.nt
  else (List.range ((if Nat.ble x.lng y.lng then y.lng else x.lng) + 1 - 1)).all fun k => !Nat.ble (y.ind (k + 2)) (x.ind (k + 2))
end Ws
noncomputable def pre (m : Nat) : Nat → List Nat → List Nat
  | _, [] => []
  | t, x :: l => (m + (t + x)) :: pre m (t + x) l
noncomputable def leadW (m : Nat) (a : List Nat) : Ws := ⟨pre m 0 a, 0⟩
noncomputable def least (k : Nat) (r : R3) : Nat := (if Nat.ble k r.1 then 1 else 0) + ((if Nat.ble k r.2.1 then 1 else 0) + (if Nat.ble k r.2.2 then 1 else 0))
noncomputable def theirs (r : R3) : List Nat := [least 1 r, least 2 r, least 3 r, least 4 r, least 5 r]
noncomputable def oneCase (r : R3) (a : List Nat) : Bool :=
  let m := r.1 + r.2.1 + r.2.2
  let x := leadW m a
  let y : Ws := leadW m (theirs r)
  let w := ways a r
  (x.less ⟨y.runs.reverse, 1⟩ == Nat.blt 0 w) && (decide (x.runs = y.runs) == Nat.beq w 1)
/-- all falling lists of k amounts, none over c, that sum up to m -/
noncomputable def falls (P : List Nat → Bool) : Nat → Nat → Nat → List Nat → Bool
  | 0, _, m, acc => if Nat.beq m 0 then P acc.reverse else true
  | k + 1, c, m, acc => (List.range (c + 1)).all fun a => if Nat.ble a m then (if Nat.ble m (a * (k + 1)) then falls P k a (m - a) (a :: acc) else true) else true
noncomputable def allCases : Bool := (List.range 4).all fun x => (List.range 5).all fun y => (List.range 5).all fun z => falls (oneCase (x + 1, y + 1, z + 1)) 5 14 (x + 1 + (y + 1) + (z + 1)) []
theorem allCases_ok : allCases = true := by decide +kernel
theorem sumL_le : ∀ (l : List Nat) (c : Nat), (∀ x ∈ l, x ≤ c) → sumL l ≤ c * l.length
  | [], _, _ => Nat.zero_le _
  | x :: l, c, h => by
    have h1 := h x List.mem_cons_self
    have h2 := sumL_le l c fun y hy => h y (List.mem_cons_of_mem _ hy)
    show x + sumL l ≤ c * (l.length + 1)
    rw [Nat.mul_succ]; omega
theorem falls_ok {P : List Nat → Bool} : ∀ (k c m : Nat) (acc : List Nat), falls P k c m acc = true → ∀ l : List Nat, l.length = k → l.Pairwise (· ≥ ·) → (∀ x ∈ l, x ≤ c) → sumL l = m → P (acc.reverse ++ l) = true
  | 0, c, m, acc, h, l, hl, _, _, hs => by
    rw [List.length_eq_zero_iff.mp hl] at hs ⊢
    have : m = 0 := hs.symm
    subst this
    rw [List.append_nil]
    exact h
  | k + 1, c, m, acc, h, [], hl, _, _, _ => by simp at hl
  | k + 1, c, m, acc, h, x :: l, hl, hp, hc, hs => by
    have hx := hc x List.mem_cons_self
    have h1 := List.all_eq_true.mp h x (by rw [List.mem_range]; omega)
    have hs' : x + sumL l = m := hs
    have hp' := List.pairwise_cons.mp hp
    have hl' : l.length = k := by simpa using hl
    have hb := sumL_le l x fun y hy => hp'.1 y hy
    rw [hl'] at hb
    rw [if_pos (Nat.ble_eq_true_of_le (by omega)), if_pos (Nat.ble_eq_true_of_le (by rw [Nat.mul_succ]; omega))] at h1
    have := falls_ok k x (m - x) (x :: acc) h1 l hl' hp'.2 (fun y hy => hp'.1 y hy) (by omega)
    rw [List.reverse_cons, List.append_assoc] at this
    exact this
theorem case_ok {r : R3} {l : List Nat} (h1 : 1 ≤ r.1 ∧ r.1 ≤ 4) (h2 : 1 ≤ r.2.1 ∧ r.2.1 ≤ 5) (h3 : 1 ≤ r.2.2 ∧ r.2.2 ≤ 5) (hl : l.length = 5) (hp : l.Pairwise (· ≥ ·)) (hs : sumL l = r.1 + r.2.1 + r.2.2) : oneCase r l = true := by
  have a := List.all_eq_true.mp allCases_ok (r.1 - 1) (by rw [List.mem_range]; omega)
  have b := List.all_eq_true.mp a (r.2.1 - 1) (by rw [List.mem_range]; omega)
  have c := List.all_eq_true.mp b (r.2.2 - 1) (by rw [List.mem_range]; omega)
  rw [show r.1 - 1 + 1 = r.1 by omega, show r.2.1 - 1 + 1 = r.2.1 by omega, show r.2.2 - 1 + 1 = r.2.2 by omega] at c
  have hm : ∀ (l : List Nat) (x : Nat), x ∈ l → x ≤ sumL l := by
    intro l
    induction l with
    | nil => intro x hx; cases hx
    | cons y l ih =>
      intro x hx
      show x ≤ y + sumL l
      rcases List.mem_cons.mp hx with rfl | hx
      · omega
      · have := ih x hx; omega
  exact falls_ok 5 14 _ [] c l hl hp (fun x hx => by have := hm l x hx; omega) hs
theorem less_same (R : List Nat) : Ws.less ⟨R, 1⟩ ⟨0 :: R, 0⟩ = false := by
  unfold Ws.less
  rw [if_pos (Nat.ble_eq_true_of_le (by show 0 + sumL R + (R.length + 1) + 0 ≤ sumL R + R.length + 1; omega))]
theorem pairs_ok : ((List.range 9).all fun m => (!Ws.less ⟨[0], 0⟩ ⟨[m + 1], 0⟩) && (!Ws.less ⟨[0, 1], 0⟩ ⟨[0], m + 2⟩) && (!Ws.less ⟨[0, 0, 0], 0⟩ ⟨[0, 0], m + 1⟩) && (!Ws.less ⟨[0, 0], m + 1⟩ ⟨[0, m, m], 0⟩) && Ws.less ⟨[0, 0], m⟩ ⟨[0, m, m], 0⟩ && Ws.less ⟨[0, 0], m⟩ ⟨[0, 0], m + 1⟩) = true := by decide +kernel
end Mine
end
section
open PySem PySem.W PySem.Calls PyProof.Rows
set_option Elab.async false
namespace Mine
section
variable {prog : Program} {w : World} {A₀ A : Around} {s : Shared} {base h₀ : Heap} {outer : List Env} {L : Addr} {m mg mb : Str → Option Value} {env : Env} {K : Frag} {p : Program} {loose : List Str} {mean : ExcName → Option Value}
  {R : Result → Shared → Prop} {name qual : Str} {params : Arguments} {body : List Stmt} {scope : Scope} {dV kV doc pm cdv ct oc : Value} {an od : Option Addr} {osl : Array (Option Value)} {f : Addr} {args : Args} {binds : List (Str × Value)}

/-- a def is entered; what stands at the call is its base, whole, and stays so -/
theorem code_defS (B : Below A₀ base outer h₀) (F : Fr h₀ L s.heap m) (X₀ : K.In h₀) (T : Top p loose mean mg mb h₀) (hA : A.frames = some (env :: outer)) (hf : env.frame = some L) (hke : env.scope.kind = .function)
    (ho : K.lookup f = some ⟨oc, od, .func (fnOf name qual params body scope dV kV doc pm an cdv ct), osl⟩) (hcd : codeIn K cdv qual = true) (hroom : A.depth < recursionLimit)
    (hbind : BindsTo s (fnOf name qual params body scope dV kV doc pm an cdv ct) args binds) (hloc : ∀ y ∈ binds, scope.names.lookup y.1 = some .local)
    (h : ∀ L' h₁, Fr s.heap L' h₁ (fun y => binds.reverse.lookup y) → News s.heap L' h₁ [] → Below A base (env :: outer) s.heap → K.In s.heap → Top p loose mean mg mb s.heap →
      wpAny (model prog w) (A.deeper (envOf qual scope L' f cdv)) (execs body (envOf qual scope L' f cdv))
        (fun fl s' => LeaveK h₀ L m s.heap (fun r s' => s.heap.StaysIn s'.heap → R r s') (match fl with | .ret v => v | _ => .none) s')
        (fun e s' => wpAny (model prog w) (A.deeper (envOf qual scope L' f cdv)) (leaving (envOf qual scope L' f cdv) e) (fun _ s'' => R (.error e) s'') (fun e' s'' => R (.error e') s'') s')
        { s with heap := h₁, toks := s.toks + binds.length })
    (hco : scope.isCoroutine = false) (hgen : scope.isGenerator = false) (hk : scope.kind = .function)
    (hcell : ∀ x ∈ scope.names, x.2 ≠ .cell) : codeAny (model prog w) A (.call (.ref f) args) R s := by
  obtain ⟨FG, BG, st, lv⟩ := groundX (R := R) (news := []) B F News.nil hA hf hke
  have X := X₀.keeps F.keep
  refine codeAny_call_def (fd := fnOf name qual params body scope dV kV doc pm an cdv ct) (body := body) (binds := binds) hroom (X _ _ ho) rfl (T.nolimit.keeps F.keep) (codeRec_of X hcd) rfl hbind hcell hloc (fun h₁ hns hk₁ => ?_) hco hgen hk
  refine wpAny_mono (h s.heap.objs.size h₁ ⟨hns, fun b o e => hk₁ b o e, Nat.le_refl _⟩ News.nil BG X (T.keeps F.keep)) (fun fl s' hl => lv _ _ ?_) fun _ _ y => y
  obtain ⟨L', m', news', F', N', k⟩ := hl
  exact ⟨L', m', news', F', N', fun a b => k a b F'.keep⟩

theorem news_grow {h h' : Heap} {new news : List (Addr × Obj)} (N : News h₀ L h news) (st : h.StaysIn h') (N' : News h₀ L h' new) : News h₀ L h' (new ++ news) := fun p hp => by
  rcases List.mem_append.mp hp with hp | hp
  · exact N' p hp
  · exact ⟨st _ _ (N p hp).1, (N p hp).2⟩
end

/-- the names at the entry -/
noncomputable def lookR (b : List (Str × Value)) : Str → Option Value := fun y => b.reverse.lookup y
/-- a name stored -/
noncomputable def put (m : Str → Option Value) (x : Str) (v : Value) : Str → Option Value := fun y => if y = x then some v else m y
section
variable {prog : Program} {w : World} {A₀ A : Around} {base h₀ g : Heap} {gens : Array GenState} {drawn : Drawn} {toks : Nat} {os : OsState} {outer : List Env} {L : Addr} {m mg mb : Str → Option Value} {env : Env} {K : Frag} {p : Program} {loose : List Str} {mean : ExcName → Option Value}
  {R : Result → Shared → Prop} {name qual : Str} {params : Arguments} {body : List Stmt} {scope : Scope} {dV kV doc pm cdv ct oc : Value} {an od : Option Addr} {osl : Array (Option Value)} {f : Addr} {args : Args} {binds : List (Str × Value)}
/-- code_defS, its state laid open: short terms -/
theorem code_defE (B : Below A₀ base outer h₀) (F : Fr h₀ L g m) (X₀ : K.In h₀) (T : Top p loose mean mg mb h₀) (hA : A.frames = some (env :: outer)) (hf : env.frame = some L) (hke : env.scope.kind = .function)
    (ho : K.lookup f = some ⟨oc, od, .func (fnOf name qual params body scope dV kV doc pm an cdv ct), osl⟩) (hcd : codeIn K cdv qual = true) (hroom : A.depth < recursionLimit)
    (hbind : BindsTo ⟨g, gens, drawn, toks, os⟩ (fnOf name qual params body scope dV kV doc pm an cdv ct) args binds) (hloc : ∀ y ∈ binds, scope.names.lookup y.1 = some .local)
    (h : ∀ L' h₁ tk, Fr g L' h₁ (lookR binds) → News g L' h₁ [] → Below A base (env :: outer) g → K.In g → Top p loose mean mg mb g →
      wpAny (model prog w) (A.deeper (envOf qual scope L' f cdv)) (execs body (envOf qual scope L' f cdv))
        (fun fl s' => LeaveK h₀ L m g (fun r s' => g.StaysIn s'.heap → R r s') (match fl with | .ret v => v | _ => .none) s')
        (fun e s' => wpAny (model prog w) (A.deeper (envOf qual scope L' f cdv)) (leaving (envOf qual scope L' f cdv) e) (fun _ s'' => R (.error e) s'') (fun e' s'' => R (.error e') s'') s')
        ⟨h₁, gens, drawn, tk, os⟩)
    (hco : scope.isCoroutine = false) (hgen : scope.isGenerator = false) (hk : scope.kind = .function)
    (hcell : ∀ x ∈ scope.names, x.2 ≠ .cell) : codeAny (model prog w) A (.call (.ref f) args) R ⟨g, gens, drawn, toks, os⟩ :=
  code_defS (s := ⟨g, gens, drawn, toks, os⟩) B F X₀ T hA hf hke ho hcd hroom hbind hloc (fun L' h₁ F N B X T => h L' h₁ _ F N B X T) hco hgen hk hcell
end
section
variable {M : Model} {A : Around} {E : Value → Shared → Prop} {s : Shared} {h₀ : Heap} {L a : Addr} {m : Str → Option Value} {cn : Str} {cs : Scope} {ccd : Value} {cl : List (Str × Addr)} {x : Str} {v : Value} {Q : Unit → Shared → Prop} {news : List (Addr × Obj)}
theorem storeP {h : Heap} {g : Array GenState} {d : Drawn} {t : Nat} {o : OsState} (F : Fr h₀ L h m) (N : News h₀ L h news) (k : ∀ h' : Heap, Fr h₀ L h' (put m x v) → News h₀ L h' news → Q () ⟨h', g, d, t + 1, o⟩)
    (hk : cs.kind = .function) (hl : (envX cn cs L a ccd cl).kindOf x = some .local) : wpAny M A (storeName (envX cn cs L a ccd cl) x v) Q E ⟨h, g, d, t, o⟩ := storeX_L (s := ⟨h, g, d, t, o⟩) F N k hk hl
end
section
variable {prog : Program} {w : World} {M : Model} {A : Around} {E : Value → Shared → Prop} {h₀ h : Heap} {L : Addr} {m : Str → Option Value} {g : Array GenState} {d : Drawn} {t : Nat} {o : OsState} {env : Env} {pos : Pos} {kk : Nat} {a b : Int} {ta tb : Tok} {Q : Value → Shared → Prop} {news : List (Addr × Obj)}
theorem constI (k : Q (.int a t) ⟨h, g, d, t + 1, o⟩) : wpAny M A (eval (.Constant (.int a) kk pos) env) Q E ⟨h, g, d, t, o⟩ := wpAny_Constant_int k
theorem constS {x : Str} (k : Q (.str x t) ⟨h, g, d, t + 1, o⟩) : wpAny M A (eval (.Constant (.str x) kk pos) env) Q E ⟨h, g, d, t, o⟩ := Calls.Constant_str k
theorem addI (k : Q (.int (a + b) t) ⟨h, g, d, t + 1, o⟩) : wpAny (model prog w) A (binaryOp .Add (.int a ta) (.int b tb)) Q E ⟨h, g, d, t, o⟩ := add_int k
theorem subI (k : Q (.int (a - b) t) ⟨h, g, d, t + 1, o⟩) : wpAny (model prog w) A (binaryOp .Sub (.int a ta) (.int b tb)) Q E ⟨h, g, d, t, o⟩ := sub_int k
theorem mulI (k : Q (.int (a * b) t) ⟨h, g, d, t + 1, o⟩) (hm : IntMulOk a b) : wpAny (model prog w) A (binaryOp .Mult (.int a ta) (.int b tb)) Q E ⟨h, g, d, t, o⟩ := mul_int k hm
theorem modI (hb : b ≠ 0) (k : Q (.int (a.fmod b) t) ⟨h, g, d, t + 1, o⟩) : wpAny (model prog w) A (binaryOp .Mod (.int a ta) (.int b tb)) Q E ⟨h, g, d, t, o⟩ := mod_int' hb k
theorem divI (hb : b ≠ 0) (k : Q (.int (a.fdiv b) t) ⟨h, g, d, t + 1, o⟩) (hp : Builtin.divisionGoesByPylong a b = false) : wpAny (model prog w) A (binaryOp .FloorDiv (.int a ta) (.int b tb)) Q E ⟨h, g, d, t, o⟩ := floordiv_int hb k (Or.inl hp)
theorem newListP {vs : List Value} (F : Fr h₀ L h m) (N : News h₀ L h news) (k : ∀ l h', Fr h₀ L h' m → News h₀ L h' ((l, W.listOf vs.toArray 0) :: news) → (∀ p ∈ news, p.1 < l) → Q (.ref l) ⟨h', g, d, t, o⟩) (hsz : vs.length ≤ sizeLine) : wpAny M A (newList vs) Q E ⟨h, g, d, t, o⟩ := newList_K (s := ⟨h, g, d, t, o⟩) F N k hsz
end
noncomputable def Stop (P : Prop) : Prop := P
theorem stopHere {P : Prop} (h : Stop P) : P := h
/-- what follows a piece of code, taken as a variable: terms stay small in the walk -/
noncomputable def Fnl (P : Prop) : Prop := P
noncomputable def NextP (M : Model) (A : Around) (env : Env) (rest : List Stmt) (Q : Flow → Shared → Prop) (E : Value → Shared → Prop) (f : Flow) (s : Shared) : Prop :=
  match f with
  | .next => wpAny M A (execs rest env) Q E s
  | f => Q f s
section
variable {M : Model} {A : Around} {env : Env} {rest : List Stmt} {E : Value → Shared → Prop} {s : Shared}
theorem opqE {α : Type} {c : Sem α} {Q : α → Shared → Prop} (hP : PassesOwn M A env E) (h : ∀ (Q' : α → Shared → Prop) (E' : Value → Shared → Prop), (∀ v s, Q v s → Q' v s) → PassesOwn M A env E' → wpAny M A c (fun v s => Fnl (Q' v s)) E' s) : wpAny M A c Q E s := h Q E (fun _ _ x => x) hP
theorem opqQ {α : Type} {c : Sem α} {Q : α → Shared → Prop} (h : ∀ (Q' : α → Shared → Prop), (∀ v s, Q v s → Q' v s) → wpAny M A c (fun v s => Fnl (Q' v s)) E s) : wpAny M A c Q E s := h Q (fun _ _ x => x)
theorem execsO {st : Stmt} {Q : Flow → Shared → Prop} (h : ∀ Q' : Flow → Shared → Prop, (∀ f s', NextP M A env rest Q E f s' → Q' f s') → wpAny M A (exec st env) (fun f s => Fnl (Q' f s)) E s) : wpAny M A (execs (st :: rest) env) Q E s :=
  wpAny_execs_cons (h _ fun _ _ x => x)
theorem finN {Q Q' : Flow → Shared → Prop} (hQ : ∀ f s', NextP M A env rest Q E f s' → Q' f s') (h : wpAny M A (execs rest env) Q E s) : Fnl (Q' .next s) := hQ _ _ h
theorem finR {Q Q' : Flow → Shared → Prop} {v : Value} (hQ : ∀ f s', NextP M A env rest Q E f s' → Q' f s') (h : Q (.ret v) s) : Fnl (Q' (.ret v) s) := hQ _ _ h
theorem finB {Q Q' : Flow → Shared → Prop} (hQ : ∀ f s', NextP M A env rest Q E f s' → Q' f s') (h : Q .brk s) : Fnl (Q' .brk s) := hQ _ _ h
theorem finC {Q Q' : Flow → Shared → Prop} (hQ : ∀ f s', NextP M A env rest Q E f s' → Q' f s') (h : Q .cont s) : Fnl (Q' .cont s) := hQ _ _ h
theorem finQ {α : Type} {Q Q' : α → Shared → Prop} {v : α} (hQ : ∀ v s', Q v s' → Q' v s') (h : Q v s) : Fnl (Q' v s) := hQ _ _ h
theorem joinN {c : Sem Flow} {Q : Flow → Shared → Prop} (Mid : Shared → Prop) (h2 : ∀ s', Mid s' → Q .next s') (h1 : ∀ Q' : Flow → Shared → Prop, (∀ s', Mid s' → Q' .next s') → (∀ v s', Q (.ret v) s' → Q' (.ret v) s') → wpAny M A c Q' E s) : wpAny M A c Q E s := h1 Q h2 fun _ _ x => x
theorem toks_any {α : Type} {M : Model} {A : Around} {t : Sem α} {Q : α → Shared → Prop} {E : Value → Shared → Prop} {h : Heap} {g : Array GenState} {d : Drawn} {a b : Nat} {os : OsState} (k : ∀ tk, wpAny M A t Q E ⟨h, g, d, tk, os⟩) : wpAny M A t Q E ⟨h, g, d, a + b, os⟩ := k _
theorem toksE {env : Env} {st : List Stmt} {M : Model} {A : Around} {Q : Flow → Shared → Prop} {E : Value → Shared → Prop} {h : Heap} {g : Array GenState} {d : Drawn} {a b : Nat} {os : OsState} (k : ∀ tk, wpAny M A (execs st env) Q E ⟨h, g, d, tk, os⟩) : wpAny M A (execs st env) Q E ⟨h, g, d, a + b, os⟩ := k _
noncomputable def Fnm (P : Prop) : Prop := P
theorem opqL {α : Type} {c : Sem α} {Q : α → Shared → Prop} (hP : PassesOwn M A env E) (h : ∀ (Q' : α → Shared → Prop) (E' : Value → Shared → Prop), (∀ v s, Q v s → Q' v s) → PassesOwn M A env E' → wpAny M A c (fun v s => Fnm (Q' v s)) E' s) : wpAny M A c Q E s := h Q E (fun _ _ x => x) hP
theorem finM {α : Type} {Q Q' : α → Shared → Prop} {v : α} (hQ : ∀ v s', Q v s' → Q' v s') (h : Q v s) : Fnm (Q' v s) := hQ _ _ h
theorem hide {G : Prop} (h : ∀ G' : Prop, (G → G') → G') : G := h G fun x => x
end
section
variable {M : Model} {A : Around} {E : Value → Shared → Prop} {h₀ h : Heap} {L : Addr} {m : Str → Option Value} {gens : Array GenState} {drawn : Drawn} {toks : Nat} {os : OsState}
/-- two roads that both end with x stored go on as one -/
theorem join_store {x : Str} {news : List (Addr × Obj)} {c : Sem Flow} {Q : Flow → Shared → Prop} (_ : Fr h₀ L h m) (_ : News h₀ L h news) (P : Value → Prop)
    (h1 : ∀ Q' : Flow → Shared → Prop, (∀ v h' tk, P v → Fr h₀ L h' (put m x v) → News h₀ L h' news → Q' .next ⟨h', gens, drawn, tk, os⟩) → wpAny M A c Q' E ⟨h, gens, drawn, toks, os⟩)
    (h2 : ∀ v h' tk, P v → Fr h₀ L h' (put m x v) → News h₀ L h' news → Q .next ⟨h', gens, drawn, tk, os⟩) : wpAny M A c Q E ⟨h, gens, drawn, toks, os⟩ := h1 Q h2
theorem put_same {x : Str} {v : Value} (F : Fr h₀ L h m) (hv : m x = some v) : Fr h₀ L h (put m x v) := by
  have e : put m x v = m := by
    funext y
    unfold put
    split
    · next q => rw [q, hv]
    · rfl
  rw [e]; exact F
end
/-- a call of f upon vs hands back a value v with R v new h', whatever the caller's frame; new: what it leaves on the ledger; every object that stood stays -/
noncomputable def Spec (w : World) (f : Addr) (d : Nat) (vs : List Value) (pre : Heap → Prop) (R : Value → List (Addr × Obj) → Prop) : Prop :=
   ∀ (p : Program) (loose : List Str) (mean : ExcName → Option Value) (mg mb : Str → Option Value) (dp un : Nat) (gd : Option (List Code)) (cn : Str) (cs : Scope) (ad : Addr) (ccd : Value) (cl : List (Str × Addr)) (outer : List Env) (A₀ : Around) (base h₀ : Heap) (L : Addr) (m : Str → Option Value) (g : Heap) (gens : Array GenState) (drawn : Drawn) (toks : Nat) (os : OsState) (Q E : Value → Shared → Prop),
    Below A₀ base outer h₀ → Fr h₀ L g m → (Mine.K w.params).In h₀ → Top p loose mean mg mb h₀ → cs.kind = .function → pre g →
      dp + d < recursionLimit → un + 8 * d < cLine →
      (∀ (v : Value) (new : List (Addr × Obj)) (h' : Heap) (tk' : Nat), R v new → g.StaysIn h' → Fr h₀ L h' m → News h₀ L h' new → Q v ⟨h', gens, drawn, tk', os⟩) →
      wpAny (model PySem.Challenge.rw_tl0044_01.row.prog w) (ktrTop dp un gd cn cs L ad ccd cl outer) (call (.ref f) vs) Q E ⟨g, gens, drawn, toks, os⟩
end Mine
end
open PySem PySem.W PySem.Calls PyProof.Rows
local macro_rules | `(tactic| passes_own) => `(tactic| with_reducible assumption)
local macro_rules | `(tactic| walk_at "eval Constant int") => `(tactic| with_reducible refine' Mine.constI ?_)
local macro_rules | `(tactic| walk_at "eval Constant str") => `(tactic| with_reducible refine' Mine.constS ?_)
local macro_rules | `(tactic| walk_at "binaryOp Add int int") => `(tactic| with_reducible refine' Mine.addI ?_)
local macro_rules | `(tactic| walk_at "binaryOp Sub int int") => `(tactic| with_reducible refine' Mine.subI ?_)
local macro_rules | `(tactic| walk_at "binaryOp Mod int int") => `(tactic| (with_reducible refine' Mine.modI ?z ?_; (case z => first | decide | omega)))
local macro_rules | `(tactic| walk_at "storeName") => `(tactic| k_dflt (refine' Mine.storeP ?F ?N ?_ ?a ?b; (case F => k_asm); (case N => k_asm); (case a => rfl); (case b => rfl); k_whole; intro h' F' N'; (try k_sweep)))
local macro_rules | `(tactic| walk_at "newList") => `(tactic| k_dflt (refine' Mine.newListP ?F ?N ?_ ?z; (case F => k_asm); (case N => k_asm); (case z => size_fits); k_whole; intro l' h' F' N' l1; (try k_lt l1); (try k_sweep)))
local macro_rules | `(tactic| walk_at "Fnl") => `(tactic| first | refine Mine.finN (by with_reducible assumption) ?_ | refine Mine.finR (by with_reducible assumption) ?_ | refine Mine.finB (by with_reducible assumption) ?_ | refine Mine.finQ (by with_reducible assumption) ?_)
section
open PySem PySem.W PySem.Calls PyProof.Rows
set_option Elab.async false
set_option maxRecDepth 100000
set_option maxHeartbeats 0
namespace Mine
noncomputable def CallStop (P : Prop) : Prop := P
theorem callHere {P : Prop} (h : CallStop P) : P := h
/-- a call by its contract: the caller's facts are found, the ledger grows by what the callee leaves -/
theorem callS {w : World} {f : Addr} {d : Nat} {vs : List Value} {pre : Heap → Prop} {R : Value → List (Addr × Obj) → Prop} {p : Program} {loose : List Str} {mean : ExcName → Option Value} {mg mb : Str → Option Value} {dp un : Nat} {gd : Option (List Code)} {cn : Str} {cs : Scope} {ad : Addr} {ccd : Value} {cl : List (Str × Addr)} {outer : List Env} {A₀ : Around} {base h₀ : Heap} {L : Addr} {m : Str → Option Value} {g : Heap} {gens : Array GenState} {drawn : Drawn} {toks : Nat} {os : OsState} {Q E : Value → Shared → Prop} {news : List (Addr × Obj)}
    (S : Spec w f d vs pre R) (hret : ∀ (v : Value) (new : List (Addr × Obj)) (h' : Heap) (tk' : Nat), R v new → g.StaysIn h' → Fr h₀ L h' m → News h₀ L h' new → News h₀ L h' (new ++ news) → Q v ⟨h', gens, drawn, tk', os⟩) (hpre : pre g)
    (B : Below A₀ base outer h₀ := by k_asm) (F : Fr h₀ L g m := by k_asm) (X : (Mine.K w.params).In h₀ := by k_asm) (T : Top p loose mean mg mb h₀ := by k_asm) (hk : cs.kind = .function := by first | exact rfl | assumption) (hd : dp + d < recursionLimit := by ktr_room) (hu : un + 8 * d < cLine := by ktr_units)
    (N : News h₀ L g news := by first | with_reducible assumption | assumption) :
    wpAny (model PySem.Challenge.rw_tl0044_01.row.prog w) (ktrTop dp un gd cn cs L ad ccd cl outer) (call (.ref f) vs) Q E ⟨g, gens, drawn, toks, os⟩ :=
  S _ _ _ _ _ _ _ _ _ _ _ _ _ _ _ _ _ _ _ _ _ _ _ _ _ _ B F X T hk hpre hd hu fun v new h' tk' hR st F' N' => hret v new h' tk' hR st F' N' (news_grow N st N')
end Mine
end
section
open PySem PySem.W PySem.Calls PyProof.Rows
set_option Elab.async false
namespace Mine
/-- a turn's end: the state c behind it; ps: what the names hold, Led: the ledger's part, S: what is said of it -/
noncomputable def EndS {σ : Type} (h₀ : Heap) (L : Addr) (Led : σ → List (Addr × Obj)) (ps : σ → List (Str × Value)) (stored : List Str) (m₀ : Str → Option Value) (S : σ → Prop) (own : List (Addr × Obj)) (adr : List Addr) (s₁ s₂ : Shared) : Prop :=
  ∃ (c : σ) (h' : Heap) (tk : Nat) (m' : Str → Option Value) (news' : List (Addr × Obj)), s₂ = { s₁ with heap := h', toks := tk } ∧ Fr h₀ L h' m' ∧ News h₀ L h' news' ∧ (∀ p ∈ Led c, p ∈ news') ∧ (∀ p ∈ own, p ∈ news') ∧ (Led c).map (·.1) = adr ∧
    (∀ p ∈ ps c, m' p.1 = some p.2) ∧ (∀ z, (∀ p ∈ ps c, z ≠ p.1) → stored.contains z = false → m' z = m₀ z) ∧ S c
noncomputable def PostS {σ : Type} (h₀ : Heap) (L : Addr) (Led : σ → List (Addr × Obj)) (ps : σ → List (Str × Value)) (stored : List Str) (m₀ : Str → Option Value) (S : σ → Prop) (own : List (Addr × Obj)) (adr : List Addr) (s₁ : Shared) (Q : Flow → Shared → Prop) (f : Flow) (s₂ : Shared) : Prop :=
  match f with
  | .ret v => Q (.ret v) s₂
  | .brk => Q .next s₂
  | _ => EndS h₀ L Led ps stored m₀ S own adr s₁ s₂
theorem EndS.mk {σ : Type} {h₀ : Heap} {L : Addr} {Led : σ → List (Addr × Obj)} {ps : σ → List (Str × Value)} {stored : List Str} {m₀ : Str → Option Value} {S : σ → Prop} {own news' : List (Addr × Obj)} {adr : List Addr} {s₁ : Shared} {h' : Heap} {tk : Nat} {m' : Str → Option Value} (c : σ)
    (F : Fr h₀ L h' m') (N : News h₀ L h' news') (hl : ∀ p ∈ Led c, p ∈ news') (ho : ∀ p ∈ own, p ∈ news') (ha : (Led c).map (·.1) = adr) (hk : ∀ p ∈ ps c, m' p.1 = some p.2) (hr : ∀ z, (∀ p ∈ ps c, z ≠ p.1) → stored.contains z = false → m' z = m₀ z) (hs : S c) :
    EndS h₀ L Led ps stored m₀ S own adr s₁ { s₁ with heap := h', toks := tk } := ⟨c, h', tk, m', news', rfl, F, N, hl, ho, ha, hk, hr, hs⟩

theorem nextS {σ : Type} {h₀ : Heap} {L : Addr} {Led : σ → List (Addr × Obj)} {ps : σ → List (Str × Value)} {stored : List Str} {m₀ : Str → Option Value} {S : σ → Prop} {own news' : List (Addr × Obj)} {adr : List Addr} {s₁ : Shared} {Q : Flow → Shared → Prop} {h' : Heap} {tk : Nat} {m' : Str → Option Value} (c : σ)
    (F : Fr h₀ L h' m') (N : News h₀ L h' news') (hl : ∀ p ∈ Led c, p ∈ news') (ho : ∀ p ∈ own, p ∈ news') (ha : (Led c).map (·.1) = adr) (hk : ∀ p ∈ ps c, m' p.1 = some p.2) (hr : ∀ z, (∀ p ∈ ps c, z ≠ p.1) → stored.contains z = false → m' z = m₀ z) (hs : S c) :
    PostS h₀ L Led ps stored m₀ S own adr s₁ Q .next { s₁ with heap := h', toks := tk } := EndS.mk c F N hl ho ha hk hr hs

theorem kst_same {m₁ m₀ : Str → Option Value} {stored : List Str} {ps : List (Str × Value)} (h1 : ∀ p ∈ ps, m₁ p.1 = some p.2) (h2 : ∀ z, (∀ p ∈ ps, z ≠ p.1) → stored.contains z = false → m₁ z = m₀ z) :
    kstB (fun z => if stored.contains z then m₁ z else m₀ z) ps = m₁ := by
  funext y
  refine kstB_eq h1 fun hn => ?_
  show (if stored.contains y = true then m₁ y else m₀ y) = m₁ y
  cases h3 : stored.contains y with
  | true => simp
  | false => simp only [Bool.false_eq_true, if_false]; exact (h2 y hn h3).symm

section
variable {prog : Program} {w : World} {A : Around} {E : Value → Shared → Prop} {s : Shared} {env : Env} {h₀ : Heap} {x : Str} {body : List Stmt} {Q : Flow → Shared → Prop}

/-- a loop of one name over whatever is walked -/
theorem loopS {σ : Type} {I : Addr} {fp wr : List Addr} {n : Nat} {P : Nat → Value → Prop} {St : Nat → Heap → Prop} {m₀ : Str → Option Value} (Led : σ → List (Addr × Obj)) (ps : σ → List (Str × Value)) (stored : List Str) (S : Nat → σ → Prop) (c₀ : σ)
    (W : Walks prog w A I fp wr n P St) (hLf : env.locals ∉ fp) (hwr : ∀ b ∈ wr, h₀.get? b = none) (hnw : ∀ p ∈ Led c₀, p.1 ∉ wr) (hfp : ∀ q ∈ Led c₀, q.1 ∉ fp) (hst : St 0 s.heap) (F : Fr h₀ env.locals s.heap m₀) (N : News h₀ env.locals s.heap (Led c₀))
    (hk : ∀ p ∈ ps c₀, m₀ p.1 = some p.2) (hp : S 0 c₀)
    (turn : ∀ i (c : σ) v (u : Str → Option Value) h tk own, i < n → P i v → OwnOff own ((Led c₀).map (·.1)) → S i c →
      Fr h₀ env.locals h (fun y => if y = x then some v else kstB (fun z => if stored.contains z then u z else m₀ z) (ps c) y) → News h₀ env.locals h (Led c ++ own) →
      wpAny (model prog w) A (execs body env) (PostS h₀ env.locals Led ps stored m₀ (S (i + 1)) own ((Led c₀).map (·.1)) { s with heap := h, toks := tk } Q) E { s with heap := h, toks := tk })
    (done : ∀ (c : σ) (u : Str → Option Value) h tk, S n c → Fr h₀ env.locals h (kstB (fun z => if stored.contains z then u z else m₀ z) (ps c)) → News h₀ env.locals h (Led c) → Q .next { s with heap := h, toks := tk }) :
    LoopAtV prog w A h₀ env x body Q E (.ref I) s := by
  refine loop_invN (fun i m nx => ∃ c : σ, nx = Led c ∧ (∀ p ∈ ps c, m p.1 = some p.2) ∧ (∀ z, (∀ p ∈ ps c, z ≠ p.1) → stored.contains z = false → m z = m₀ z) ∧ S i c) W hLf hwr hnw hfp hst F N ⟨c₀, rfl, hk, fun _ _ _ => rfl, hp⟩ ?_ ?_
  · rintro i v m₁ nx h tk own hi hP _ hoff ⟨c, rfl, h1, h2, h3⟩ F₁ N₁
    have e := kst_same h1 h2
    refine wpAny_mono (turn i c v m₁ h tk own hi hP hoff h3 (by rw [e]; exact F₁) N₁) (fun f s₂ q => ?_) fun _ _ y => y
    have up : EndS h₀ env.locals Led ps stored m₀ (S (i + 1)) own ((Led c₀).map (·.1)) { s with heap := h, toks := tk } s₂ →
        InvEndN h₀ env.locals (fun m nx => ∃ c : σ, nx = Led c ∧ (∀ p ∈ ps c, m p.1 = some p.2) ∧ (∀ z, (∀ p ∈ ps c, z ≠ p.1) → stored.contains z = false → m z = m₀ z) ∧ S (i + 1) c) own ((Led c₀).map (·.1)) { s with heap := h, toks := tk } s₂ := by
      rintro ⟨c', h', tk', m', news', rfl, F', N', hl, ho, ha, hk', hr', hs'⟩
      exact ⟨h', tk', m', news', Led c', rfl, F', N', hl, ho, ha, c', rfl, hk', hr', hs'⟩
    cases f with
    | ret v => exact q
    | brk => exact q
    | next => exact up q
    | cont => exact up q
  · rintro m₁ nx h tk ⟨c, rfl, h1, h2, h3⟩ F₁ N₁
    exact done c m₁ h tk h3 (by rw [kst_same h1 h2]; exact F₁) N₁

/-- a loop of two names over enumerate(..) -/
theorem pairS {σ α : Type} {K : ItemKind α} {as : List α} {xv : Value} {m₀ : Str → Option Value} {xi xc : Str} (Led : σ → List (Addr × Obj)) (ps : σ → List (Str × Value)) (stored : List Str) (S : Nat → σ → Prop) (c₀ : σ)
    (src : PairSrcL prog w A E h₀ env.locals K as xv s m₀ (Led c₀)) (hk : ∀ p ∈ ps c₀, m₀ p.1 = some p.2) (hp : S 0 c₀)
    (turn : ∀ i (c : σ) a t v (u : Str → Option Value) h tk own, as[i]? = some a → K.is a v → (∀ p ∈ own, ∀ q ∈ Led c₀, p.1 ≠ q.1) → S i c →
      Fr h₀ env.locals h (fun y => if y = xc then some v else if y = xi then some (.int i t) else kstB (fun z => if stored.contains z then u z else m₀ z) (ps c) y) → News h₀ env.locals h (Led c ++ own) →
      wpAny (model prog w) A (execs body env) (PostS h₀ env.locals Led ps stored m₀ (S (i + 1)) own ((Led c₀).map (·.1)) { s with heap := h, toks := tk } Q) E { s with heap := h, toks := tk })
    (done : ∀ (c : σ) (u : Str → Option Value) h tk, S as.length c → Fr h₀ env.locals h (kstB (fun z => if stored.contains z then u z else m₀ z) (ps c)) → News h₀ env.locals h (Led c) → Q .next { s with heap := h, toks := tk }) :
    wpAny (model prog w) A (pyIter xv) (fun it s₂ => PairAt3 prog w A h₀ env xi xc body Q E it s₂) E s := by
  refine (src env rfl) xi xc body Q (fun i m nx => ∃ c : σ, nx = Led c ∧ (∀ p ∈ ps c, m p.1 = some p.2) ∧ (∀ z, (∀ p ∈ ps c, z ≠ p.1) → stored.contains z = false → m z = m₀ z) ∧ S i c) ⟨c₀, rfl, hk, fun _ _ _ => rfl, hp⟩ ?_ ?_
  · rintro i a t v m₁ nx s₁ own ⟨h, tk, rfl⟩ ha hK ⟨c, rfl, h1, h2, h3⟩ hadr hoff F₁ N₁
    have e := kst_same h1 h2
    have N₂ : News h₀ env.locals h (Led c ++ own) := fun p hp => N₁ p ((List.mem_append.mp hp).elim (fun q => List.mem_append.mpr (.inr q)) fun q => List.mem_append.mpr (.inl q))
    refine wpAny_mono (turn i c a t v m₁ h tk own ha hK hoff h3 (by rw [e]; exact F₁) N₂) (fun f s₂ q => ?_) fun _ _ y => y
    have up : EndS h₀ env.locals Led ps stored m₀ (S (i + 1)) own ((Led c₀).map (·.1)) { s with heap := h, toks := tk } s₂ →
        LoopStep2 h₀ env.locals own (Led c) (fun m nx => ∃ c : σ, nx = Led c ∧ (∀ p ∈ ps c, m p.1 = some p.2) ∧ (∀ z, (∀ p ∈ ps c, z ≠ p.1) → stored.contains z = false → m z = m₀ z) ∧ S (i + 1) c) { s with heap := h, toks := tk } .next s₂ := by
      rintro ⟨c', h', tk', m', news', rfl, F', N', hl, ho, ha, hk', hr', hs'⟩
      exact ⟨rfl, h', tk', m', Led c', rfl, F', fun p hp => N' p ((List.mem_append.mp hp).elim (ho p) (hl p)), ha.trans hadr.symm, c', rfl, hk', hr', hs'⟩
    cases f with
    | ret v => exact q
    | brk => exact q
    | next => exact up q
    | cont => exact up q
  · rintro h tk m₁ nx F₁ N₁ hadr ⟨c, rfl, h1, h2, h3⟩
    exact done c m₁ h tk h3 (by rw [kst_same h1 h2]; exact F₁) N₁

theorem take_split {α : Type} {l : List α} {i : Nat} {n : α} (h : l[i]? = some n) : l = l.take i ++ n :: l.drop (i + 1) ∧ l.take (i + 1) = l.take i ++ [n] := by
  obtain ⟨hi, e⟩ := List.getElem?_eq_some_iff.mp h
  refine ⟨?_, by rw [List.take_add_one, h]; rfl⟩
  have := List.take_append_drop i l
  rw [List.drop_eq_getElem_cons hi, e] at this
  exact this.symm
/-- over the signs of a text -/
theorem strS {σ : Type} {xt : Str} {tx : Tok} {m₀ : Str → Option Value} (Led : σ → List (Addr × Obj)) (ps : σ → List (Str × Value)) (stored : List Str) (S : List Nat → σ → Prop) (c₀ : σ)
    (hh : A.handled = none) (F : Fr h₀ env.locals s.heap m₀) (N : News h₀ env.locals s.heap (Led c₀)) (hk : ∀ p ∈ ps c₀, m₀ p.1 = some p.2) (hp : S [] c₀)
    (turn : ∀ (pre : List Nat) (n : Nat) (post : List Nat) (c : σ) t (u : Str → Option Value) h tk own, xt.cps.toList = pre ++ n :: post → OwnOff own ((Led c₀).map (·.1)) → S pre c →
      Fr h₀ env.locals h (fun y => if y = x then some (.str ⟨#[n]⟩ t) else kstB (fun z => if stored.contains z then u z else m₀ z) (ps c) y) → News h₀ env.locals h (Led c ++ own) →
      wpAny (model prog w) A (execs body env) (PostS h₀ env.locals Led ps stored m₀ (S (pre ++ [n])) own ((Led c₀).map (·.1)) { s with heap := h, toks := tk } Q) E { s with heap := h, toks := tk })
    (done : ∀ (c : σ) (u : Str → Option Value) h tk, S xt.cps.toList c → Fr h₀ env.locals h (kstB (fun z => if stored.contains z then u z else m₀ z) (ps c)) → News h₀ env.locals h (Led c) → Q .next { s with heap := h, toks := tk }) :
    wpAny (model prog w) A (pyIter (.str xt tx)) (fun it s₂ => LoopAtV prog w A h₀ env x body Q E it s₂) E s := by
  refine wpAny_pyIter_str fun o St hW hst => ?_
  have W := hW A hh
  refine loopS (s := { s with heap := s.heap.push o }) Led ps stored (fun i => S (xt.cps.toList.take i)) c₀ W ?_ ?_ ?_ ?_ hst (F.push _) (fun p hp => ⟨Heap.get?_push_of_some _ (N p hp).1, (N p hp).2⟩) hk hp ?_ ?_
  · intro hm
    exact absurd F.ns.lt ((List.mem_singleton.mp hm) ▸ Nat.lt_irrefl _)
  · intro b' hb
    rw [List.mem_singleton.mp hb]
    exact next_is_new F
  · intro p hp hI
    exact absurd (Heap.lt_size (N p hp).1) ((List.mem_singleton.mp hI) ▸ Nat.lt_irrefl _)
  · intro p hp hI
    exact absurd (Heap.lt_size (N p hp).1) ((List.mem_singleton.mp hI) ▸ Nat.lt_irrefl _)
  · rintro i c v u h tk own hi ⟨n, t, hn, rfl⟩ hoff h3 F₁ N₁
    have hn' : xt.cps.toList[i]? = some n := by rw [Array.getElem?_toList]; exact hn
    obtain ⟨e1, e2⟩ := take_split hn'
    try dsimp only
    rw [e2]
    exact turn _ n _ c t u h tk own e1 hoff h3 F₁ N₁
  · rintro c u h tk h3 F₁ N₁
    refine done c u h tk ?_ F₁ N₁
    have : xt.cps.toList.take xt.cps.size = xt.cps.toList := List.take_of_length_le (by simp)
    exact this ▸ h3

/-- over enumerate(..), by what is taken -/
theorem enumS {σ α : Type} {K : ItemKind α} {as : List α} {xv : Value} {m₀ : Str → Option Value} {xi xc : Str} (Led : σ → List (Addr × Obj)) (ps : σ → List (Str × Value)) (stored : List Str) (S : List α → σ → Prop) (c₀ : σ)
    (src : PairSrcL prog w A E h₀ env.locals K as xv s m₀ (Led c₀)) (hk : ∀ p ∈ ps c₀, m₀ p.1 = some p.2) (hp : S [] c₀)
    (turn : ∀ (pre : List α) (a : α) (post : List α) (c : σ) t v (u : Str → Option Value) h tk own, as = pre ++ a :: post → K.is a v → (∀ p ∈ own, ∀ q ∈ Led c₀, p.1 ≠ q.1) → S pre c →
      Fr h₀ env.locals h (fun y => if y = xc then some v else if y = xi then some (.int pre.length t) else kstB (fun z => if stored.contains z then u z else m₀ z) (ps c) y) → News h₀ env.locals h (Led c ++ own) →
      wpAny (model prog w) A (execs body env) (PostS h₀ env.locals Led ps stored m₀ (S (pre ++ [a])) own ((Led c₀).map (·.1)) { s with heap := h, toks := tk } Q) E { s with heap := h, toks := tk })
    (done : ∀ (c : σ) (u : Str → Option Value) h tk, S as c → Fr h₀ env.locals h (kstB (fun z => if stored.contains z then u z else m₀ z) (ps c)) → News h₀ env.locals h (Led c) → Q .next { s with heap := h, toks := tk }) :
    wpAny (model prog w) A (pyIter xv) (fun it s₂ => PairAt3 prog w A h₀ env xi xc body Q E it s₂) E s := by
  refine pairS Led ps stored (fun i => S (as.take i)) c₀ src hk hp ?_ ?_
  · rintro i c a t v u h tk own ha hK hoff h3 F₁ N₁
    obtain ⟨e1, e2⟩ := take_split ha
    try dsimp only
    rw [e2]
    have hl : (as.take i).length = i := by
      obtain ⟨hi, _⟩ := List.getElem?_eq_some_iff.mp ha
      rw [List.length_take]; omega
    exact turn _ a _ c t v u h tk own e1 hK hoff h3 (by rw [hl]; exact F₁) N₁
  · rintro c u h tk h3 F₁ N₁
    exact done c u h tk (by have := List.take_length (l := as); rw [this] at h3; exact h3) F₁ N₁
end
end Mine
end
section
open PySem PySem.W PySem.Calls PyProof.Rows
set_option Elab.async false
namespace Mine
section
variable {prog : Program} {w : World} {A : Around} {E : Value → Shared → Prop} {s : Shared} {env : Env} {h₀ : Heap} {x : Str} {body : List Stmt} {Q : Flow → Shared → Prop}
/-- over range(a, b) -/
theorem rangeS {σ : Type} {r : Addr} {a₀ b₀ : Int} {t₀ u₀ v₀ : Tok} {n : Nat} {m₀ : Str → Option Value} (Led : σ → List (Addr × Obj)) (ps : σ → List (Str × Value)) (stored : List Str) (S : Nat → σ → Prop) (c₀ : σ)
    (hh : A.handled = none) (hr : IsRange s.heap r a₀ b₀ 1 t₀ u₀ v₀) (hsmall : Builtin.Range.small a₀ b₀ 1 = true) (hn : Builtin.Range.rangeSize a₀ b₀ 1 = (n : Int)) (F : Fr h₀ env.locals s.heap m₀) (N : News h₀ env.locals s.heap (Led c₀)) (hk : ∀ p ∈ ps c₀, m₀ p.1 = some p.2) (hp : S 0 c₀)
    (turn : ∀ (i : Nat) (c : σ) t (u : Str → Option Value) h tk own, i < n → OwnOff own ((Led c₀).map (·.1)) → S i c →
      Fr h₀ env.locals h (fun y => if y = x then some (.int (a₀ + i) t) else kstB (fun z => if stored.contains z then u z else m₀ z) (ps c) y) → News h₀ env.locals h (Led c ++ own) →
      wpAny (model prog w) A (execs body env) (PostS h₀ env.locals Led ps stored m₀ (S (i + 1)) own ((Led c₀).map (·.1)) { s with heap := h, toks := tk } Q) E { s with heap := h, toks := tk })
    (done : ∀ (c : σ) (u : Str → Option Value) h tk, S n c → Fr h₀ env.locals h (kstB (fun z => if stored.contains z then u z else m₀ z) (ps c)) → News h₀ env.locals h (Led c) → Q .next { s with heap := h, toks := tk }) :
    wpAny (model prog w) A (pyIter (.ref r)) (fun it s₂ => LoopAtV prog w A h₀ env x body Q E it s₂) E s := by
  refine wpAny_pyIter_range hr hsmall ?_
  have W : Walks prog w A s.heap.objs.size [s.heap.objs.size] [s.heap.objs.size] n (fun i v => i < n ∧ ∃ t, v = .int (a₀ + i * 1) t)
      (fun i h => IsRangeIter h s.heap.objs.size (a₀ + (i : Nat) * 1) ((n : Int) - (i : Nat)) 1) := (Walks.range hh _ a₀ 1 n).bound
  refine loopS (s := { s with heap := s.heap.push _ }) Led ps stored S c₀ W ?_ ?_ ?_ ?_ (by show IsRangeIter _ _ _ _ _; rw [hn]; simpa using Heap.get?_push_size _ rfl) (F.push _) (fun p hp => ⟨Heap.get?_push_of_some _ (N p hp).1, (N p hp).2⟩) hk hp ?_ ?_
  · intro hm
    exact absurd F.ns.lt ((List.mem_singleton.mp hm) ▸ Nat.lt_irrefl _)
  · intro b hb
    rw [List.mem_singleton.mp hb]
    exact next_is_new F
  · intro p hp hI
    exact absurd (Heap.lt_size (N p hp).1) ((List.mem_singleton.mp hI) ▸ Nat.lt_irrefl _)
  · intro p hp hI
    exact absurd (Heap.lt_size (N p hp).1) ((List.mem_singleton.mp hI) ▸ Nat.lt_irrefl _)
  · rintro i c v u h tk own hi ⟨_, t, rfl⟩ hoff h3 F₁ N₁
    exact turn i c t u h tk own hi hoff h3 (by rw [Int.mul_one] at F₁; exact F₁) N₁
  · intro c u h tk h3 F₁ N₁
    exact done c u h tk h3 F₁ N₁
/-- over a list of the base -/
theorem listS {σ : Type} {l : Addr} {items : Array Value} {m₀ : Str → Option Value} (Led : σ → List (Addr × Obj)) (ps : σ → List (Str × Value)) (stored : List Str) (S : Nat → σ → Prop) (c₀ : σ)
    (hh : A.handled = none) (hl : h₀.IsList l items) (F : Fr h₀ env.locals s.heap m₀) (N : News h₀ env.locals s.heap (Led c₀)) (hk : ∀ p ∈ ps c₀, m₀ p.1 = some p.2) (hp : S 0 c₀)
    (turn : ∀ (i : Nat) (c : σ) v (u : Str → Option Value) h tk own, items[i]? = some v → OwnOff own ((Led c₀).map (·.1)) → S i c →
      Fr h₀ env.locals h (fun y => if y = x then some v else kstB (fun z => if stored.contains z then u z else m₀ z) (ps c) y) → News h₀ env.locals h (Led c ++ own) →
      wpAny (model prog w) A (execs body env) (PostS h₀ env.locals Led ps stored m₀ (S (i + 1)) own ((Led c₀).map (·.1)) { s with heap := h, toks := tk } Q) E { s with heap := h, toks := tk })
    (done : ∀ (c : σ) (u : Str → Option Value) h tk, S items.size c → Fr h₀ env.locals h (kstB (fun z => if stored.contains z then u z else m₀ z) (ps c)) → News h₀ env.locals h (Led c) → Q .next { s with heap := h, toks := tk }) :
    wpAny (model prog w) A (pyIter (.ref l)) (fun it s₂ => LoopAtV prog w A h₀ env x body Q E it s₂) E s := by
  have hls : s.heap.IsList l items := hl.at fun o e => F.keep l o e
  obtain ⟨ol, hol, _⟩ := id hl
  have hlt : l < h₀.objs.size := Heap.lt_size hol
  have hne : l ≠ s.heap.objs.size := Nat.ne_of_lt (Nat.lt_trans (Nat.lt_of_lt_of_le hlt F.above) F.ns.lt)
  refine wpAny_pyIter_list hls ?_
  have W := Walks.list (prog := prog) (w := w) hh s.heap.objs.size l hne items
  refine loopS (s := { s with heap := s.heap.push _ }) Led ps stored S c₀ W ?_ ?_ ?_ ?_ ⟨⟨_, Heap.get?_push_size _ rfl, rfl, rfl⟩, hls.at fun o e => Heap.get?_push_of_some _ e⟩ (F.push _) (fun p hp => ⟨Heap.get?_push_of_some _ (N p hp).1, (N p hp).2⟩) hk hp ?_ ?_
  · intro hm
    rcases List.mem_cons.mp hm with e | hm
    · exact absurd F.ns.lt (e ▸ Nat.lt_irrefl _)
    · exact absurd (Nat.lt_of_lt_of_le hlt F.above) ((List.mem_singleton.mp hm) ▸ Nat.lt_irrefl _)
  · intro b hb
    rw [List.mem_singleton.mp hb]
    exact next_is_new F
  · intro p hp hI
    exact absurd (Heap.lt_size (N p hp).1) ((List.mem_singleton.mp hI) ▸ Nat.lt_irrefl _)
  · intro p hp hI
    rcases List.mem_cons.mp hI with e | hm
    · exact absurd (Heap.lt_size (N p hp).1) (e ▸ Nat.lt_irrefl _)
    · have h2 := (N p hp).2.2
      rw [List.mem_singleton.mp hm, hol] at h2
      cases h2
  · rintro i c v u h tk own hi hP hoff h3 F₁ N₁
    exact turn i c v u h tk own hP hoff h3 F₁ N₁
  · intro c u h tk h3 F₁ N₁
    exact done c u h tk h3 F₁ N₁
end
end Mine
end
section
open PySem PySem.W PySem.Calls PyProof.Rows
set_option Elab.async false
namespace Mine
/-- a turn's end where the ledger's addresses may have changed and the tokens are told; (I, o): the walker's own object -/
noncomputable def PostM {σ : Type} (h₀ : Heap) (L : Addr) (Led : σ → List (Addr × Obj)) (ps : σ → List (Str × Value)) (stored : List Str) (m₀ : Str → Option Value) (S : σ → Prop) (T : Nat) (I : Addr) (o : Obj) (s₁ : Shared) (Q : Flow → Shared → Prop) (f : Flow) (s₂ : Shared) : Prop :=
  match f with
  | .ret v => Q (.ret v) s₂
  | .brk => Q .next s₂
  | _ => ∃ (c : σ) (h' : Heap) (tk : Nat) (m' : Str → Option Value) (news' : List (Addr × Obj)), s₂ = { s₁ with heap := h', toks := tk } ∧ T ≤ tk ∧ Fr h₀ L h' m' ∧ News h₀ L h' news' ∧ (∀ p ∈ Led c, p ∈ news') ∧ (I, o) ∈ news' ∧ (∀ p ∈ Led c, p.1 ≠ I) ∧
    (∀ p ∈ ps c, m' p.1 = some p.2) ∧ (∀ z, (∀ p ∈ ps c, z ≠ p.1) → stored.contains z = false → m' z = m₀ z) ∧ S c
theorem nextM {σ : Type} {h₀ : Heap} {L : Addr} {Led : σ → List (Addr × Obj)} {ps : σ → List (Str × Value)} {stored : List Str} {m₀ : Str → Option Value} {S : σ → Prop} {news' : List (Addr × Obj)} {T : Nat} {I : Addr} {o : Obj} {s₁ : Shared} {Q : Flow → Shared → Prop} {h' : Heap} {tk : Nat} {m' : Str → Option Value} (c : σ)
    (ht : T ≤ tk) (F : Fr h₀ L h' m') (N : News h₀ L h' news') (hl : ∀ p ∈ Led c, p ∈ news') (ho : (I, o) ∈ news') (ha : ∀ p ∈ Led c, p.1 ≠ I) (hk : ∀ p ∈ ps c, m' p.1 = some p.2) (hr : ∀ z, (∀ p ∈ ps c, z ≠ p.1) → stored.contains z = false → m' z = m₀ z) (hs : S c) :
    PostM h₀ L Led ps stored m₀ S T I o s₁ Q .next { s₁ with heap := h', toks := tk } := ⟨c, h', tk, m', news', rfl, ht, F, N, hl, ho, ha, hk, hr, hs⟩
section
variable {prog : Program} {w : World} {A : Around} {E : Value → Shared → Prop} {s : Shared} {env : Env} {h₀ : Heap} {x : Str} {body : List Stmt} {Q : Flow → Shared → Prop}
theorem iterStr_next {it : Addr} {x : Str} {t : Tok} {i c : Nat} {Q : Option Value → Shared → Prop} (hit : s.heap.IsStrIter it (strIterType x) x t i) (hx : x.cps[i]? = some c)
    (hQ : ∀ h', h'.IsStrIter it (strIterType x) x t (i + 1) → Heap.SameBut it s.heap h' → Q (some (.str ⟨#[c]⟩ s.toks)) { s with heap := h', toks := s.toks + 1 }) :
    wpAny (model prog w) A (pyNext (.ref it)) Q E s := by
  cases ha : x.cps.all (· < 128)
  · have e : strIterType x = "str_iterator" := by simp [strIterType, ha]
    rw [e] at hit hQ
    exact wpAny_pyNext_wide_item hit hx hQ
  · have e : strIterType x = "str_ascii_iterator" := by simp [strIterType, ha]
    rw [e] at hit hQ
    exact wpAny_pyNext_ascii_item hit hx hQ
theorem iterStr_end {it : Addr} {x : Str} {t : Tok} {i : Nat} {Q : Option Value → Shared → Prop} (hh : A.handled = none) (hit : s.heap.IsStrIter it (strIterType x) x t i) (hx : x.cps[i]? = none)
    (hQ : ∀ h', Heap.ExtBut it s.heap h' → Q none { s with heap := h' }) : wpAny (model prog w) A (pyNext (.ref it)) Q E s := by
  cases ha : x.cps.all (· < 128)
  · have e : strIterType x = "str_iterator" := by simp [strIterType, ha]
    rw [e] at hit
    exact wpAny_pyNext_wide_end hh hit hx hQ
  · have e : strIterType x = "str_ascii_iterator" := by simp [strIterType, ha]
    rw [e] at hit
    exact wpAny_pyNext_ascii_end hh hit hx hQ
/-- what stands behind a For over xv -/
noncomputable def LoopM (prog : Program) (w : World) (A : Around) (env : Env) (x : Str) (px : Pos) (body : List Stmt) (Q : Flow → Shared → Prop) (E : Value → Shared → Prop) (it : Value) (s₂ : Shared) : Prop :=
  codeAny (model prog w) A (.forLoop (.Name x px) it body [] env) (fun r s' => match r with | .ok f => Q f s' | .error e => cameBackBy (model prog w) A env E e s') s₂
theorem For_M {px pos : Pos} {iter : Expr} (h : wpAny (model prog w) A (eval iter env) (fun xv s₁ => wpAny (model prog w) A (pyIter xv) (fun it s₂ => LoopM prog w A env x px body Q E it s₂) E s₁) E s)
    (hs : ∀ x, foldedSetIterable iter env x = pure x := by intro _; rfl) :
    wpAny (model prog w) A (exec (.For (.Name x px) iter body [] pos) env) Q E s := wpAny_For h hs
theorem strM {σ : Type} {xt : Str} {tx : Tok} {px : Pos} {m₀ : Str → Option Value} (Led : σ → List (Addr × Obj)) (ps : σ → List (Str × Value)) (stored : List Str) (S : List Nat → σ → Prop) (c₀ : σ) (T : Nat) (hT : T ≤ s.toks)
    (hh : A.handled = none) (hx : env.kindOf x = some .local) (hpp : (env.scope.kind == .class || (env.scope.kind == .module && env.locals != env.globals)) = false) (hE : PassesOwn (model prog w) A env E)
    (F : Fr h₀ env.locals s.heap m₀) (N : News h₀ env.locals s.heap (Led c₀)) (hk : ∀ p ∈ ps c₀, m₀ p.1 = some p.2) (hp : S [] c₀)
    (turn : ∀ (pre : List Nat) (n : Nat) (post : List Nat) (c : σ) t (u : Str → Option Value) h tk I o, xt.cps.toList = pre ++ n :: post → S pre c → T ≤ t → t < tk → (∀ p ∈ Led c, p.1 ≠ I) →
      Fr h₀ env.locals h (fun y => if y = x then some (.str ⟨#[n]⟩ t) else kstB (fun z => if stored.contains z then u z else m₀ z) (ps c) y) → News h₀ env.locals h (Led c ++ [(I, o)]) →
      wpAny (model prog w) A (execs body env) (PostM h₀ env.locals Led ps stored m₀ (S (pre ++ [n])) T I o { s with heap := h, toks := tk } Q) E { s with heap := h, toks := tk })
    (done : ∀ (c : σ) (u : Str → Option Value) h tk, T ≤ tk → S xt.cps.toList c → Fr h₀ env.locals h (kstB (fun z => if stored.contains z then u z else m₀ z) (ps c)) → News h₀ env.locals h (Led c) → Q .next { s with heap := h, toks := tk }) :
    wpAny (model prog w) A (pyIter (.str xt tx)) (fun it s₂ => LoopM prog w A env x px body Q E it s₂) E s := by
  refine wpAny_pyIter_strU ?_
  unfold LoopM
  generalize hI : s.heap.objs.size = I
  have hn : h₀.get? I = none := by rw [← hI]; exact next_is_new F
  have hLI : env.locals ≠ I := by rw [← hI]; exact Nat.ne_of_lt F.ns.lt
  refine codeAny_forLoop (fun k s' => ∃ (i : Nat) (c : σ) (u : Str → Option Value) (h : Heap) (tk : Nat), s' = { s with heap := h, toks := tk } ∧ h.IsStrIter I (strIterType xt) xt tx i ∧ Fr h₀ env.locals h (kstB (fun z => if stored.contains z then u z else m₀ z) (ps c)) ∧ News h₀ env.locals h (Led c) ∧ (∀ p ∈ Led c, p.1 ≠ I) ∧ S (xt.cps.toList.take i) c ∧ T ≤ tk ∧ i ≤ xt.cps.size ∧ k = xt.cps.size + 1 - i) ?_ (xt.cps.size + 1)
    ⟨0, c₀, m₀, _, s.toks, rfl, ⟨_, Heap.get?_push_size _ rfl |> fun e => by rw [← hI]; exact e, rfl, rfl⟩, by rw [kst_same hk fun _ _ _ => rfl]; exact F.push _, fun p hp => ⟨Heap.get?_push_of_some _ (N p hp).1, (N p hp).2⟩, fun p hp => by rw [← hI]; exact Nat.ne_of_lt (Heap.lt_size (N p hp).1), hp, hT, Nat.zero_le _, rfl⟩
  rintro k s' ⟨i, c, u, h, tk, rfl, hit, F', N', hne, hS, htk, hi, rfl⟩
  by_cases hlt : i < xt.cps.size
  · have hc : xt.cps[i]? = some xt.cps[i] := by simp [hlt]
    refine iterStr_next (s := { s with heap := h, toks := tk }) hit hc fun h₁ hit₁ hs₁ => ?_
    have k1 : ∀ b o, b ≠ I → h.get? b = some o → h₁.get? b = some o := fun b o hb e => hs₁.extBut b o hb e
    have F₁ : Fr h₀ env.locals h₁ _ := ⟨F'.ns.at' fun o e => k1 _ o hLI e, fun b o e => k1 b o (fun q => by rw [q, hn] at e; cases e) (F'.keep b o e), F'.above⟩
    have N₁ : News h₀ env.locals h₁ (Led c) := fun p hp => ⟨k1 _ _ (hne p hp) (N' p hp).1, (N' p hp).2⟩
    refine wpAny_assign_Name (wpAny_storeName_local hx F₁.ns (fun h₂ hn₂ hs₂ => ?_) hpp)
    have F₂ := F₁.set hn₂ hs₂
    have N₂ : News h₀ env.locals h₂ (Led c) := N₁.set hs₂
    obtain ⟨o, ho, hot, hod⟩ := hit₁
    have ho₂ : h₂.get? I = some o := (hs₂.2 I fun q => hLI q.symm).trans ho
    have hn' : xt.cps.toList[i]? = some xt.cps[i] := by rw [Array.getElem?_toList]; exact hc
    obtain ⟨e1, e2⟩ := take_split hn'
    have N₃ : News h₀ env.locals h₂ (Led c ++ [(I, o)]) := fun p hp => by
      rcases List.mem_append.mp hp with hp | hp
      · exact N₂ p hp
      · rw [List.mem_singleton.mp hp]; exact ⟨ho₂, fun q => hLI q.symm, hn⟩
    refine wpAny_mono (wpAny_passesOwn hE (turn _ _ _ c tk u h₂ (tk + 1 + 1) I o e1 hS htk (Nat.lt_succ_of_lt (Nat.lt_succ_self _)) hne F₂ N₃)) (fun f s₃ h₃ => ?_) fun _ _ e => e
    have up : (∃ (c : σ) (h' : Heap) (tk' : Nat) (m' : Str → Option Value) (news' : List (Addr × Obj)), s₃ = { s with heap := h', toks := tk' } ∧ T ≤ tk' ∧ Fr h₀ env.locals h' m' ∧ News h₀ env.locals h' news' ∧ (∀ p ∈ Led c, p ∈ news') ∧ (I, o) ∈ news' ∧ (∀ p ∈ Led c, p.1 ≠ I) ∧ (∀ p ∈ ps c, m' p.1 = some p.2) ∧ (∀ z, (∀ p ∈ ps c, z ≠ p.1) → stored.contains z = false → m' z = m₀ z) ∧ S (List.take i xt.cps.toList ++ [xt.cps[i]]) c) →
        ∃ m, m < xt.cps.size + 1 - i ∧ ∃ (i : Nat) (c : σ) (u : Str → Option Value) (h : Heap) (tk : Nat), s₃ = { s with heap := h, toks := tk } ∧ h.IsStrIter I (strIterType xt) xt tx i ∧ Fr h₀ env.locals h (kstB (fun z => if stored.contains z then u z else m₀ z) (ps c)) ∧ News h₀ env.locals h (Led c) ∧ (∀ p ∈ Led c, p.1 ≠ I) ∧ S (xt.cps.toList.take i) c ∧ T ≤ tk ∧ i ≤ xt.cps.size ∧ m = xt.cps.size + 1 - i := by
      rintro ⟨c', h', tk', m', news', rfl, ht', F'', N'', hl, ho', ha, hk', hr', hs'⟩
      exact ⟨xt.cps.size + 1 - (i + 1), by omega, i + 1, c', m', h', tk', rfl, ⟨o, (N'' _ ho').1, hot, hod⟩, by rw [kst_same hk' hr']; exact F'', fun p hp => N'' p (hl p hp), ha, by rw [e2]; exact hs', ht', hlt, rfl⟩
    cases f with
    | ret v => exact h₃
    | brk => exact h₃
    | next => exact up h₃
    | cont => exact up h₃
  · have hin : i = xt.cps.size := by omega
    subst hin
    refine iterStr_end (s := { s with heap := h, toks := tk }) hh hit (by simp) fun h₁ hs₁ => wpAny_execs_nil ?_
    have F₁ : Fr h₀ env.locals h₁ _ := ⟨F'.ns.at' fun o e => hs₁ _ o hLI e, fun b o e => hs₁ b o (fun q => by rw [q, hn] at e; cases e) (F'.keep b o e), F'.above⟩
    refine done c u h₁ tk htk ?_ F₁ fun p hp => ⟨hs₁ _ _ (hne p hp) (N' p hp).1, (N' p hp).2⟩
    have : xt.cps.toList.take xt.cps.size = xt.cps.toList := List.take_of_length_le (by simp)
    exact this ▸ hS
end
end Mine
end
section
open PySem PySem.W PySem.Calls PyProof.Rows
set_option Elab.async false
set_option maxRecDepth 100000
namespace Mine
/-- a turn's end; what is kept (keep) stays as it is, the ledger's addresses may have changed -/
noncomputable def PostG {σ : Type} (h₀ : Heap) (L : Addr) (Led : σ → List (Addr × Obj)) (ps : σ → List (Str × Value)) (stored : List Str) (m₀ : Str → Option Value) (S : σ → Prop) (I : Addr) (keep : List (Addr × Obj)) (s₁ : Shared) (Q : Flow → Shared → Prop) (f : Flow) (s₂ : Shared) : Prop :=
  match f with
  | .ret v => Q (.ret v) s₂
  | .brk => Q .next s₂
  | _ => ∃ (c : σ) (h' : Heap) (tk : Nat) (m' : Str → Option Value) (news' : List (Addr × Obj)), s₂ = { s₁ with heap := h', toks := tk } ∧ Fr h₀ L h' m' ∧ News h₀ L h' news' ∧ (∀ p ∈ Led c, p ∈ news') ∧ (∀ p ∈ keep, p ∈ news') ∧ (∀ p ∈ Led c, p.1 ≠ I) ∧
    (∀ p ∈ ps c, m' p.1 = some p.2) ∧ (∀ z, (∀ p ∈ ps c, z ≠ p.1) → stored.contains z = false → m' z = m₀ z) ∧ S c
theorem nextG {σ : Type} {h₀ : Heap} {L : Addr} {Led : σ → List (Addr × Obj)} {ps : σ → List (Str × Value)} {stored : List Str} {m₀ : Str → Option Value} {S : σ → Prop} {news' : List (Addr × Obj)} {I : Addr} {keep : List (Addr × Obj)} {s₁ : Shared} {Q : Flow → Shared → Prop} {h' : Heap} {tk : Nat} {m' : Str → Option Value} (c : σ)
    (F : Fr h₀ L h' m') (N : News h₀ L h' news') (hl : ∀ p ∈ Led c, p ∈ news') (ho : ∀ p ∈ keep, p ∈ news') (ha : ∀ p ∈ Led c, p.1 ≠ I) (hk : ∀ p ∈ ps c, m' p.1 = some p.2) (hr : ∀ z, (∀ p ∈ ps c, z ≠ p.1) → stored.contains z = false → m' z = m₀ z) (hs : S c) :
    PostG h₀ L Led ps stored m₀ S I keep s₁ Q .next { s₁ with heap := h', toks := tk } := ⟨c, h', tk, m', news', rfl, F, N, hl, ho, ha, hk, hr, hs⟩
section
variable {prog : Program} {w : World} {A : Around} {E : Value → Shared → Prop} {s : Shared} {env : Env} {h₀ : Heap} {x : Str} {body : List Stmt} {Q : Flow → Shared → Prop}
theorem loopG {σ : Type} {I : Addr} {fp : List Addr} {n : Nat} {P : Nat → Value → Prop} {St : Nat → Heap → Prop} {px : Pos} {m₀ : Str → Option Value} (fx : List (Addr × Obj)) (Led : σ → List (Addr × Obj)) (ps : σ → List (Str × Value)) (stored : List Str) (S : Nat → σ → Prop) (c₀ : σ)
    (W : Walks prog w A I fp [I] n P St) (hI₀ : h₀.get? I = none) (hLI : env.locals ≠ I) (hfx : ∀ b ∈ fp, b = I ∨ (∃ o, h₀.get? b = some o) ∨ ∃ o, (b, o) ∈ fx) (hIo : ∀ i h, St i h → ∃ o, h.get? I = some o)
    (hx : env.kindOf x = some .local) (hpp : (env.scope.kind == .class || (env.scope.kind == .module && env.locals != env.globals)) = false) (hE : PassesOwn (model prog w) A env E)
    (hst : St 0 s.heap) (F : Fr h₀ env.locals s.heap m₀) (N : News h₀ env.locals s.heap (Led c₀ ++ fx)) (hne : ∀ p ∈ Led c₀, p.1 ≠ I) (hnf : ∀ p ∈ fx, p.1 ≠ I) (hk : ∀ p ∈ ps c₀, m₀ p.1 = some p.2) (hp : S 0 c₀)
    (turn : ∀ i (c : σ) v (u : Str → Option Value) h tk o, i < n → P i v → S i c → (∀ p ∈ Led c, p.1 ≠ I) →
      Fr h₀ env.locals h (fun y => if y = x then some v else kstB (fun z => if stored.contains z then u z else m₀ z) (ps c) y) → News h₀ env.locals h (Led c ++ (I, o) :: fx) →
      wpAny (model prog w) A (execs body env) (PostG h₀ env.locals Led ps stored m₀ (S (i + 1)) I ((I, o) :: fx) { s with heap := h, toks := tk } Q) E { s with heap := h, toks := tk })
    (done : ∀ (c : σ) (u : Str → Option Value) h tk, S n c → Fr h₀ env.locals h (kstB (fun z => if stored.contains z then u z else m₀ z) (ps c)) → News h₀ env.locals h (Led c ++ fx) → Q .next { s with heap := h, toks := tk }) :
    LoopM prog w A env x px body Q E (.ref I) s := by
  unfold LoopM
  refine codeAny_forLoop (fun k s' => ∃ (i : Nat) (c : σ) (u : Str → Option Value) (h : Heap) (tk : Nat), s' = { s with heap := h, toks := tk } ∧ St i h ∧ Fr h₀ env.locals h (kstB (fun z => if stored.contains z then u z else m₀ z) (ps c)) ∧ News h₀ env.locals h (Led c ++ fx) ∧ (∀ p ∈ Led c, p.1 ≠ I) ∧ S i c ∧ i ≤ n ∧ k = n + 1 - i) ?_ (n + 1)
    ⟨0, c₀, m₀, s.heap, s.toks, rfl, hst, by rw [kst_same hk fun _ _ _ => rfl]; exact F, N, hne, hp, Nat.zero_le _, rfl⟩
  rintro k s' ⟨i, c, u, h, tk, rfl, hs, F', N', hc, hS, hi, rfl⟩
  have off : ∀ p ∈ Led c ++ fx, p.1 ≠ I := fun p hp => (List.mem_append.mp hp).elim (hc p) (hnf p)
  rcases Nat.lt_or_ge i n with hlt | hge
  · refine W.item i _ _ _ hlt hs fun v h₁ tk₁ hP hs₁ hk₁ => ?_
    have k₁ : ∀ b o, b ≠ I → h.get? b = some o → h₁.get? b = some o := fun b o hb e => hk₁ b o (by simpa using hb) e
    have F₁ : Fr h₀ env.locals h₁ _ := ⟨F'.ns.at' fun o e => k₁ _ o hLI e, fun b o e => k₁ b o (fun q => by rw [q, hI₀] at e; cases e) (F'.keep b o e), F'.above⟩
    refine wpAny_assign_Name (wpAny_storeName_local hx F₁.ns (fun h₂ hn₂ hs₂ => ?_) hpp)
    have F₂ := F₁.set hn₂ hs₂
    have k₂ : ∀ b o, b ≠ env.locals → h₁.get? b = some o → h₂.get? b = some o := fun b o hb e => hs₂.extBut b o hb e
    obtain ⟨o, ho⟩ := hIo _ _ hs₁
    have ho₂ := k₂ _ _ (fun q => hLI q.symm) ho
    have N₂ : News h₀ env.locals h₂ (Led c ++ (I, o) :: fx) := fun p hp => by
      rcases List.mem_append.mp hp with hp | hp
      · have z := N' p (List.mem_append_left _ hp)
        exact ⟨k₂ _ _ z.2.1 (k₁ _ _ (hc p hp) z.1), z.2⟩
      · rcases List.mem_cons.mp hp with rfl | hp
        · exact ⟨ho₂, fun q => hLI q.symm, hI₀⟩
        · have z := N' p (List.mem_append_right _ hp)
          exact ⟨k₂ _ _ z.2.1 (k₁ _ _ (hnf p hp) z.1), z.2⟩
    refine wpAny_mono (wpAny_passesOwn hE (turn i c v u h₂ _ o hlt hP hS hc F₂ N₂)) (fun f s₃ q => ?_) fun _ _ e => e
    have hs₂' : St (i + 1) h₂ := W.frame _ _ _ hs₁ fun b hb o' e => by
      by_cases hbL : b = env.locals
      · exfalso
        rcases hfx b hb with q | ⟨o'', q⟩ | ⟨o'', q⟩
        · exact hLI (hbL.symm.trans q)
        · rw [hbL, Heap.get?_none_of_le F.above] at q; cases q
        · exact (N _ (List.mem_append_right _ q)).2.1 hbL
      · exact k₂ b o' hbL e
    have up : (∃ (c : σ) (h' : Heap) (tk' : Nat) (m' : Str → Option Value) (news' : List (Addr × Obj)), s₃ = { s with heap := h', toks := tk' } ∧ Fr h₀ env.locals h' m' ∧ News h₀ env.locals h' news' ∧ (∀ p ∈ Led c, p ∈ news') ∧ (∀ p ∈ (I, o) :: fx, p ∈ news') ∧ (∀ p ∈ Led c, p.1 ≠ I) ∧
        (∀ p ∈ ps c, m' p.1 = some p.2) ∧ (∀ z, (∀ p ∈ ps c, z ≠ p.1) → stored.contains z = false → m' z = m₀ z) ∧ S (i + 1) c) →
        ∃ m, m < n + 1 - i ∧ ∃ (i : Nat) (c : σ) (u : Str → Option Value) (h : Heap) (tk : Nat), s₃ = { s with heap := h, toks := tk } ∧ St i h ∧ Fr h₀ env.locals h (kstB (fun z => if stored.contains z then u z else m₀ z) (ps c)) ∧ News h₀ env.locals h (Led c ++ fx) ∧ (∀ p ∈ Led c, p.1 ≠ I) ∧ S i c ∧ i ≤ n ∧ m = n + 1 - i := by
      rintro ⟨c', h', tk', m', news', rfl, F'', N'', hl, hkp, ha, hk', hr', hs'⟩
      refine ⟨n + 1 - (i + 1), by omega, i + 1, c', m', h', tk', rfl, W.frame _ _ _ hs₂' fun b hb o' e => ?_, by rw [kst_same hk' hr']; exact F'', fun p hp => (List.mem_append.mp hp).elim (fun q => N'' p (hl p q)) fun q => N'' p (hkp p (.tail _ q)), ha, hs', hlt, rfl⟩
      rcases hfx b hb with rfl | ⟨o'', q⟩ | ⟨o'', q⟩
      · rw [ho₂] at e
        cases e
        exact (N'' _ (hkp _ (.head _))).1
      · have e0 := F₂.keep b o'' q
        rw [e] at e0
        rw [Option.some.inj e0]
        exact F''.keep b o'' q
      · have e0 := (N₂ _ (List.mem_append_right _ (.tail _ q))).1
        dsimp only at e0
        rw [e] at e0
        rw [Option.some.inj e0]
        exact (N'' _ (hkp _ (.tail _ q))).1
    cases f with
    | ret v => exact q
    | brk => exact q
    | next => exact up q
    | cont => exact up q
  · have : i = n := by omega
    subst this
    refine W.done _ _ _ hs fun h₁ tk₁ hk₁ => wpAny_execs_nil ?_
    have k₁ : ∀ b o, b ≠ I → h.get? b = some o → h₁.get? b = some o := fun b o hb e => hk₁ b o (by simpa using hb) e
    exact done c u h₁ tk₁ hS ⟨F'.ns.at' fun o e => k₁ _ o hLI e, fun b o e => k₁ b o (fun q => by rw [q, hI₀] at e; cases e) (F'.keep b o e), F'.above⟩ fun p hp => ⟨k₁ _ _ (off p hp) (N' p hp).1, (N' p hp).2⟩
/-- over a list -/
theorem listG {σ : Type} {l : Addr} {items : Array Value} {px : Pos} {m₀ : Str → Option Value} (fx : List (Addr × Obj)) (Led : σ → List (Addr × Obj)) (ps : σ → List (Str × Value)) (stored : List Str) (S : Nat → σ → Prop) (c₀ : σ)
    (hh : A.handled = none) (hl : s.heap.IsList l items) (hlf : (∃ o, h₀.get? l = some o) ∨ ∃ o, (l, o) ∈ fx)
    (hx : env.kindOf x = some .local) (hpp : (env.scope.kind == .class || (env.scope.kind == .module && env.locals != env.globals)) = false) (hE : PassesOwn (model prog w) A env E)
    (F : Fr h₀ env.locals s.heap m₀) (N : News h₀ env.locals s.heap (Led c₀ ++ fx)) (hk : ∀ p ∈ ps c₀, m₀ p.1 = some p.2) (hp : S 0 c₀)
    (turn : ∀ i (c : σ) v (u : Str → Option Value) h tk I o, items[i]? = some v → S i c → (∀ p ∈ Led c, p.1 ≠ I) → (∀ p ∈ fx, p.1 ≠ I) →
      Fr h₀ env.locals h (fun y => if y = x then some v else kstB (fun z => if stored.contains z then u z else m₀ z) (ps c) y) → News h₀ env.locals h (Led c ++ (I, o) :: fx) →
      wpAny (model prog w) A (execs body env) (PostG h₀ env.locals Led ps stored m₀ (S (i + 1)) I ((I, o) :: fx) { s with heap := h, toks := tk } Q) E { s with heap := h, toks := tk })
    (done : ∀ (c : σ) (u : Str → Option Value) h tk, S items.size c → Fr h₀ env.locals h (kstB (fun z => if stored.contains z then u z else m₀ z) (ps c)) → News h₀ env.locals h (Led c ++ fx) → Q .next { s with heap := h, toks := tk }) :
    wpAny (model prog w) A (pyIter (.ref l)) (fun it s₂ => LoopM prog w A env x px body Q E it s₂) E s := by
  have hlt : l < s.heap.objs.size := by obtain ⟨_, e, _⟩ := hl; exact Heap.lt_size e
  refine wpAny_pyIter_list hl ?_
  have nI : ∀ p ∈ Led c₀ ++ fx, p.1 ≠ s.heap.objs.size := fun p hp => Nat.ne_of_lt (Heap.lt_size (N p hp).1)
  refine loopG (s := { s with heap := s.heap.push _ }) fx Led ps stored S c₀ (Walks.list hh s.heap.objs.size l (Nat.ne_of_lt hlt) items) (next_is_new F) (Nat.ne_of_lt F.ns.lt) (fun b hb => ?_) (fun i h st => by obtain ⟨o, e, _⟩ := st.1; exact ⟨o, e⟩) hx hpp hE
    ⟨⟨_, Heap.get?_push_size _ rfl, rfl, rfl⟩, hl.push _⟩ (F.push _) (fun p hp => ⟨Heap.get?_push_of_some _ (N p hp).1, (N p hp).2⟩) (fun p hp => nI p (List.mem_append_left _ hp)) (fun p hp => nI p (List.mem_append_right _ hp)) hk hp ?_ ?_
  · rcases List.mem_cons.mp hb with e | hb
    · exact .inl e
    · rw [List.mem_singleton.mp hb]; exact .inr hlf
  · intro i c v u h tk o hi hP hS hc F' N'
    exact turn i c v u h tk _ o hP hS hc (fun p hp => nI p (List.mem_append_right _ hp)) F' N'
  · exact done
/-- over a dict's keys -/
theorem dictG {σ : Type} {d : Addr} {od : Obj} {kvs : List (Int × Value)} {px : Pos} {m₀ : Str → Option Value} (fx : List (Addr × Obj)) (Led : σ → List (Addr × Obj)) (ps : σ → List (Str × Value)) (stored : List Str) (S : Nat → σ → Prop) (c₀ : σ)
    (hh : A.handled = none) (hd : od.IsDictOf (PySem.intKind prog w) kvs) (hdf : (d, od) ∈ fx) (lo : (d == sysModules) = false)
    (hx : env.kindOf x = some .local) (hpp : (env.scope.kind == .class || (env.scope.kind == .module && env.locals != env.globals)) = false) (hE : PassesOwn (model prog w) A env E)
    (F : Fr h₀ env.locals s.heap m₀) (N : News h₀ env.locals s.heap (Led c₀ ++ fx)) (hk : ∀ p ∈ ps c₀, m₀ p.1 = some p.2) (hp : S 0 c₀)
    (turn : ∀ i (c : σ) k (v : Value) t (u : Str → Option Value) h tk I o, kvs[i]? = some (k, v) → S i c → (∀ p ∈ Led c, p.1 ≠ I) → (∀ p ∈ fx, p.1 ≠ I) →
      Fr h₀ env.locals h (fun y => if y = x then some (.int k t) else kstB (fun z => if stored.contains z then u z else m₀ z) (ps c) y) → News h₀ env.locals h (Led c ++ (I, o) :: fx) →
      wpAny (model prog w) A (execs body env) (PostG h₀ env.locals Led ps stored m₀ (S (i + 1)) I ((I, o) :: fx) { s with heap := h, toks := tk } Q) E { s with heap := h, toks := tk })
    (done : ∀ (c : σ) (u : Str → Option Value) h tk, S kvs.length c → Fr h₀ env.locals h (kstB (fun z => if stored.contains z then u z else m₀ z) (ps c)) → News h₀ env.locals h (Led c ++ fx) → Q .next { s with heap := h, toks := tk }) :
    wpAny (model prog w) A (pyIter (.ref d)) (fun it s₂ => LoopM prog w A env x px body Q E it s₂) E s := by
  have hm := (N _ (List.mem_append_right _ hdf)).1
  have hD : s.heap.DictOf (PySem.intKind prog w) d kvs := Heap.dictOf_iff.mpr ⟨od, hm, hd⟩
  obtain ⟨ep, hA⟩ := hD.dictAt
  have hlt : d < s.heap.objs.size := Heap.lt_size hm
  refine wpAny_pyIter_dict lo hA ?_
  have nI : ∀ p ∈ Led c₀ ++ fx, p.1 ≠ s.heap.objs.size := fun p hp => Nat.ne_of_lt (Heap.lt_size (N p hp).1)
  refine loopG (s := { s with heap := s.heap.push _ }) fx Led ps stored S c₀ (Walks.dictKeys (knd := PySem.intKind prog w) hh s.heap.objs.size d (Nat.ne_of_lt hlt) kvs ep) (next_is_new F) (Nat.ne_of_lt F.ns.lt) (fun b hb => ?_) (fun i h st => by obtain ⟨o, e, _⟩ := st.1; exact ⟨o, e⟩) hx hpp hE
    ⟨⟨_, Heap.get?_push_size _ rfl, rfl, rfl⟩, hA.at' fun o e => Heap.get?_push_of_some _ e⟩ (F.push _) (fun p hp => ⟨Heap.get?_push_of_some _ (N p hp).1, (N p hp).2⟩) (fun p hp => nI p (List.mem_append_left _ hp)) (fun p hp => nI p (List.mem_append_right _ hp)) hk hp ?_ ?_
  · rcases List.mem_cons.mp hb with e | hb
    · exact .inl e
    · rw [List.mem_singleton.mp hb]; exact .inr (.inr ⟨od, hdf⟩)
  · rintro i c v u h tk o hi ⟨k, y, hy, hkv⟩ hS hc F' N'
    obtain ⟨t, rfl⟩ : ∃ t, v = .int k t := by
      have q : Value.isInt k v = true := hkv
      cases v <;> simp [Value.isInt] at q
      rename_i a b
      first | exact ⟨_, by rw [q]⟩ | exact ⟨b, by rw [← q]⟩
    exact turn i c k y t u h tk _ o hy hS hc (fun p hp => nI p (List.mem_append_right _ hp)) F' N'
  · exact done
end
end Mine
end
section
open PySem PySem.W PySem.Calls PyProof.Rows
set_option Elab.async false
set_option maxRecDepth 100000
namespace Mine
section
variable {prog : Program} {w : World} {A : Around} {E : Value → Shared → Prop} {s : Shared} {env : Env} {h₀ : Heap} {body : List Stmt} {Q : Flow → Shared → Prop} {target : Expr}
/-- a loop whose target is any pattern -/
noncomputable def LoopT (prog : Program) (w : World) (A : Around) (env : Env) (target : Expr) (body : List Stmt) (Q : Flow → Shared → Prop) (E : Value → Shared → Prop) (it : Value) (s₂ : Shared) : Prop :=
  codeAny (model prog w) A (.forLoop target it body [] env) (fun r s' => match r with | .ok f => Q f s' | .error e => cameBackBy (model prog w) A env E e s') s₂
theorem For_T {pos : Pos} {iter : Expr} (h : wpAny (model prog w) A (eval iter env) (fun xv s₁ => wpAny (model prog w) A (pyIter xv) (fun it s₂ => LoopT prog w A env target body Q E it s₂) E s₁) E s)
    (hs : ∀ x, foldedSetIterable iter env x = pure x := by intro _; rfl) :
    wpAny (model prog w) A (exec (.For target iter body [] pos) env) Q E s := wpAny_For h hs
/-- a turn's end: the fixed ledger stands, the names that are not stored are as they were -/
noncomputable def PostT (h₀ : Heap) (L : Addr) (fx : List (Addr × Obj)) (stored : List Str) (m₀ : Str → Option Value) (s₁ : Shared) (Q : Flow → Shared → Prop) (f : Flow) (s₂ : Shared) : Prop :=
  match f with
  | .ret v => Q (.ret v) s₂
  | .brk => Q .next s₂
  | _ => ∃ (h' : Heap) (tk : Nat) (m' : Str → Option Value) (news' : List (Addr × Obj)), s₂ = { s₁ with heap := h', toks := tk } ∧ Fr h₀ L h' m' ∧ News h₀ L h' news' ∧ (∀ p ∈ fx, p ∈ news') ∧ (∀ z, stored.contains z = false → m' z = m₀ z)
theorem nextT {L : Addr} {fx news' : List (Addr × Obj)} {stored : List Str} {m₀ m' : Str → Option Value} {s₁ : Shared} {h' : Heap} {tk : Nat} (F : Fr h₀ L h' m') (N : News h₀ L h' news') (hf : ∀ p ∈ fx, p ∈ news') (hr : ∀ z, stored.contains z = false → m' z = m₀ z) :
    PostT h₀ L fx stored m₀ s₁ Q .next { s₁ with heap := h', toks := tk } := ⟨h', tk, m', news', rfl, F, N, hf, hr⟩
theorem listT {l : Addr} {items : Array Value} {elts : List Expr} {x1} {tpos : Pos} {m₀ : Str → Option Value} (fx : List (Addr × Obj)) (stored : List Str)
    (hh : A.handled = none) (hl : s.heap.IsList l items) (hlf : ∃ o, (l, o) ∈ fx) (hE : PassesOwn (model prog w) A env E) (hv : ∀ (i : Nat) v, items[i]? = some v → ∃ T, v = .ref T)
    (F : Fr h₀ env.locals s.heap m₀) (N : News h₀ env.locals s.heap fx)
    (turn : ∀ (i : Nat) v (m' : Str → Option Value) h tk I o, items[i]? = some v → (∀ p ∈ fx, p.1 ≠ I) → (∀ z, stored.contains z = false → m' z = m₀ z) →
      Fr h₀ env.locals h m' → News h₀ env.locals h ((I, o) :: fx) →
      wpAny (model prog w) A (assign (.Tuple elts x1 tpos) env v) (fun _ s₂ => wpAny (model prog w) A (execs body env) (PostT h₀ env.locals ((I, o) :: fx) stored m₀ { s with heap := h, toks := tk } Q) E s₂) E { s with heap := h, toks := tk })
    (done : ∀ (m' : Str → Option Value) h tk, (∀ z, stored.contains z = false → m' z = m₀ z) → Fr h₀ env.locals h m' → News h₀ env.locals h fx → Q .next { s with heap := h, toks := tk }) :
    wpAny (model prog w) A (pyIter (.ref l)) (fun it s₂ => LoopT prog w A env (.Tuple elts x1 tpos) body Q E it s₂) E s := by
  have hlt : l < s.heap.objs.size := by obtain ⟨_, e, _⟩ := hl; exact Heap.lt_size e
  refine wpAny_pyIter_list hl ?_
  generalize hI : s.heap.objs.size = I at hlt ⊢
  have nI : ∀ p ∈ fx, p.1 ≠ I := fun p hp => hI ▸ Nat.ne_of_lt (Heap.lt_size (N p hp).1)
  have hI₀ : h₀.get? I = none := by rw [← hI]; exact next_is_new F
  have hLI : env.locals ≠ I := by rw [← hI]; exact Nat.ne_of_lt F.ns.lt
  have W := Walks.list (prog := prog) (w := w) (A := A) hh I l (Nat.ne_of_lt hlt) items
  obtain ⟨ol, hol⟩ := hlf
  unfold LoopT
  refine codeAny_forLoop_any (fun k s' => ∃ (i : Nat) (m' : Str → Option Value) (h : Heap) (tk : Nat), s' = { s with heap := h, toks := tk } ∧ (h.IsListIter I l i ∧ h.IsList l items) ∧ Fr h₀ env.locals h m' ∧ News h₀ env.locals h fx ∧ (∀ z, stored.contains z = false → m' z = m₀ z) ∧ i ≤ items.size ∧ k = items.size + 1 - i) ?_ (items.size + 1)
    ⟨0, m₀, s.heap.push _, s.toks, rfl, ⟨⟨_, hI ▸ Heap.get?_push_size _ rfl, rfl, rfl⟩, hl.push _⟩, F.push _, fun p hp => ⟨Heap.get?_push_of_some _ (N p hp).1, (N p hp).2⟩, fun _ _ => rfl, Nat.zero_le _, rfl⟩
  rintro k s' ⟨i, m', h, tk, rfl, hs, F', N', hm, hi, rfl⟩
  rcases Nat.lt_or_ge i items.size with hlt' | hge
  · refine W.item i _ _ _ hlt' hs fun v h₁ tk₁ hP hs₁ hk₁ => ?_
    have k₁ : ∀ b o, b ≠ I → h.get? b = some o → h₁.get? b = some o := fun b o hb e => hk₁ b o (by simpa using hb) e
    have F₁ : Fr h₀ env.locals h₁ m' := ⟨F'.ns.at' fun o e => k₁ _ o hLI e, fun b o e => k₁ b o (fun q => by rw [q, hI₀] at e; cases e) (F'.keep b o e), F'.above⟩
    obtain ⟨o, ho, _⟩ := id hs₁.1
    have N₁ : News h₀ env.locals h₁ ((I, o) :: fx) := fun p hp => by
      rcases List.mem_cons.mp hp with rfl | hp
      · exact ⟨ho, fun q => hLI q.symm, hI₀⟩
      · have z := N' p hp
        exact ⟨k₁ _ _ (nI p hp) z.1, z.2⟩
    obtain ⟨TT, hTT⟩ := hv i v hP
    subst hTT
    refine wpAny_letOwnedTupleGo_listiter hs₁.1 ?_
    refine wpAny_passesOwn hE (wpAny_mono (turn i (.ref TT) m' h₁ tk₁ I o hP nI hm F₁ N₁) (fun _ s₂ q => wpAny_mono (wpAny_passesOwn hE q) (fun f s₃ q => ?_) fun _ _ e => e) fun _ _ e => e)
    have up : (∃ (h' : Heap) (tk' : Nat) (m' : Str → Option Value) (news' : List (Addr × Obj)), s₃ = { s with heap := h', toks := tk' } ∧ Fr h₀ env.locals h' m' ∧ News h₀ env.locals h' news' ∧ (∀ p ∈ (I, o) :: fx, p ∈ news') ∧ (∀ z, stored.contains z = false → m' z = m₀ z)) →
        ∃ m, m < items.size + 1 - i ∧ ∃ (i : Nat) (m' : Str → Option Value) (h : Heap) (tk : Nat), s₃ = { s with heap := h, toks := tk } ∧ (h.IsListIter I l i ∧ h.IsList l items) ∧ Fr h₀ env.locals h m' ∧ News h₀ env.locals h fx ∧ (∀ z, stored.contains z = false → m' z = m₀ z) ∧ i ≤ items.size ∧ m = items.size + 1 - i := by
      rintro ⟨h', tk', m'', news', rfl, F'', N'', hkp, hm''⟩
      refine ⟨items.size + 1 - (i + 1), by omega, i + 1, m'', h', tk', rfl, W.frame _ _ _ hs₁ fun b hb o' e => ?_, F'', fun p hp => N'' p (hkp p (.tail _ hp)), hm'', hlt', rfl⟩
      rcases List.mem_cons.mp hb with rfl | hb
      · rw [ho] at e
        cases e
        exact (N'' _ (hkp _ (.head _))).1
      · rw [List.mem_singleton.mp hb] at e ⊢
        have e0 := (N₁ _ (.tail _ hol)).1
        dsimp only at e0
        rw [e] at e0
        rw [Option.some.inj e0]
        exact (N'' _ (hkp _ (.tail _ hol))).1
    cases f with
    | ret v => exact q
    | brk => exact q
    | next => exact up q
    | cont => exact up q
  · have : i = items.size := by omega
    subst this
    refine W.done _ _ _ hs fun h₁ tk₁ hk₁ => wpAny_execs_nil ?_
    have k₁ : ∀ b o, b ≠ I → h.get? b = some o → h₁.get? b = some o := fun b o hb e => hk₁ b o (by simpa using hb) e
    exact done m' h₁ tk₁ hm ⟨F'.ns.at' fun o e => k₁ _ o hLI e, fun b o e => k₁ b o (fun q => by rw [q, hI₀] at e; cases e) (F'.keep b o e), F'.above⟩ fun p hp => ⟨k₁ _ _ (nI p hp) (N' p hp).1, (N' p hp).2⟩
end
end Mine
end
section
open PySem PySem.W PySem.Calls PyProof.Rows
set_option Elab.async false
namespace Mine
section
variable {prog : Program} {w : World} {A₀ A : Around} {s : Shared} {base h₀ : Heap} {outer : List Env} {L : Addr} {m mg mb : Str → Option Value} {env : Env} {K : Frag} {p : Program} {loose : List Str} {mean : ExcName → Option Value} {news : List (Addr × Obj)}
  {R : Result → Shared → Prop} {name qual : Str} {params : Arguments} {body : List Stmt} {scope : Scope} {dV kV doc pm cdv ct oc : Value} {an od : Option Addr} {osl : Array (Option Value)} {f : Addr} {args : Args} {binds : List (Str × Value)}
/-- as code_defS, but what the ledger names may be changed -/
theorem code_defSN (B : Below A₀ base outer h₀) (F : Fr h₀ L s.heap m) (X₀ : K.In h₀) (N : News h₀ L s.heap news) (T : Top p loose mean mg mb h₀) (hA : A.frames = some (env :: outer)) (hf : env.frame = some L) (hke : env.scope.kind = .function)
    (ho : K.lookup f = some ⟨oc, od, .func (fnOf name qual params body scope dV kV doc pm an cdv ct), osl⟩) (hcd : codeIn K cdv qual = true) (hroom : A.depth < recursionLimit)
    (hbind : BindsTo s (fnOf name qual params body scope dV kV doc pm an cdv ct) args binds) (hloc : ∀ y ∈ binds, scope.names.lookup y.1 = some .local)
    (h : ∀ g L' h₁, (∀ b o, s.heap.get? b = some o → b ∉ news.map (·.1) → g.get? b = some o) → Fr g L' h₁ (fun y => binds.reverse.lookup y) → News g L' h₁ news → (∀ p ∈ news, p.1 < L') → Below A base (env :: outer) g → K.In g → Top p loose mean mg mb g →
      wpAny (model prog w) (A.deeper (envOf qual scope L' f cdv)) (execs body (envOf qual scope L' f cdv))
        (fun fl s' => LeaveK h₀ L m g (fun r s' => g.StaysIn s'.heap → R r s') (match fl with | .ret v => v | _ => .none) s')
        (fun e s' => wpAny (model prog w) (A.deeper (envOf qual scope L' f cdv)) (leaving (envOf qual scope L' f cdv) e) (fun _ s'' => R (.error e) s'') (fun e' s'' => R (.error e') s'') s')
        { s with heap := h₁, toks := s.toks + binds.length })
    (hco : scope.isCoroutine = false) (hgen : scope.isGenerator = false) (hk : scope.kind = .function)
    (hcell : ∀ x ∈ scope.names, x.2 ≠ .cell) : codeAny (model prog w) A (.call (.ref f) args) R s := by
  obtain ⟨FG, BG, st, lv⟩ := groundX (R := R) B F N hA hf hke
  have X := X₀.keeps F.keep
  refine codeAny_call_def (fd := fnOf name qual params body scope dV kV doc pm an cdv ct) (body := body) (binds := binds) hroom (X _ _ ho) rfl (T.nolimit.keeps F.keep) (codeRec_of X hcd) rfl hbind hcell hloc (fun h₁ hns hk₁ => ?_) hco hgen hk
  refine wpAny_mono (h _ s.heap.objs.size h₁ (fun b o e hb => hideAll_get _ e hb) ⟨hns, fun b o e => hk₁ b o (of_hideAll _ e), Nat.le_of_eq (hideAll_size _ _)⟩
    (fun p hp => ⟨hk₁ _ _ (N p hp).1, Nat.ne_of_lt (Heap.lt_size (N p hp).1), hideAll_none _ (List.mem_map_of_mem hp)⟩) (fun p hp => Heap.lt_size (N p hp).1) BG (X₀.keeps st) (T.keeps st)) (fun fl s' hl => lv _ _ ?_) fun _ _ y => y
  obtain ⟨L', m', news', F', N', k⟩ := hl
  exact ⟨L', m', news', F', N', fun a b => k a b F'.keep⟩
/-- as code_defS, with cells -/
theorem code_defCS (B : Below A₀ base outer h₀) (F : Fr h₀ L s.heap m) (X₀ : K.In h₀) (T : Top p loose mean mg mb h₀) (hA : A.frames = some (env :: outer)) (hf : env.frame = some L) (hke : env.scope.kind = .function)
    (ho : K.lookup f = some ⟨oc, od, .func (fnOf name qual params body scope dV kV doc pm an cdv ct), osl⟩) (hcd : codeIn K cdv qual = true) (hroom : A.depth < recursionLimit)
    (hbind : BindsTo s (fnOf name qual params body scope dV kV doc pm an cdv ct) args binds) (hkind : (binds.all fun y => scope.names.lookup y.1 == some .local || scope.names.lookup y.1 == some .cell) = true)
    (hnd : ((cellsFrom 0 scope.names []).map (·.1)).Nodup)
    (h : ∀ g L' h₁ tk cells, s.heap.StaysIn g → Fr g L' h₁ (bindL (envOfC qual scope L' f cdv).kindOf binds fun _ => none) → News g L' h₁ (cells ++ []) →
      CellsAre (bindC (envOfC qual scope L' f cdv).kindOf binds fun _ => none) (cellsFrom (L' + 1) scope.names []) cells → Below A base (env :: outer) g → K.In g → Top p loose mean mg mb g →
      wpAny (model prog w) (A.deeper (envOfC qual scope L' f cdv)) (execs body (envOfC qual scope L' f cdv))
        (fun fl s' => LeaveK h₀ L m g (fun r s' => s.heap.StaysIn s'.heap → R r s') (match fl with | .ret v => v | _ => .none) s')
        (fun e s' => wpAny (model prog w) (A.deeper (envOfC qual scope L' f cdv)) (leaving (envOfC qual scope L' f cdv) e) (fun _ s'' => R (.error e) s'') (fun e' s'' => R (.error e') s'') s')
        { s with heap := h₁, toks := tk })
    (hco : scope.isCoroutine = false) (hgen : scope.isGenerator = false) (hk : scope.kind = .function) : codeAny (model prog w) A (.call (.ref f) args) R s := by
  obtain ⟨FG, BG, st, lv⟩ := groundX (R := R) (news := []) B F News.nil hA hf hke
  have X := X₀.keeps F.keep
  refine codeAny_call_function hroom (X _ _ ho) rfl hco hgen rfl (codeRec_of X hcd) (hbind _ _ _ _ ?_)
  refine wpAny_newFunctionEnv_cells hk (kindsX hkind _) fun env' he s' x => ?_
  subst he
  refine ⟨((T.nolimit.keeps F.keep)).keeps x.toInCall.keep, codeAny_func ?_⟩
  obtain ⟨h₁, tk, rfl, _⟩ := x.done
  have hk₁ := x.toInCall.keep
  obtain ⟨cells, NC, Y⟩ := Cl.news (h₀ := s.heap) (Nat.le_refl _) fun n c hm => ⟨x.cell n c (lookup_of_mem_nodup (cellsFrom_names scope.names 0 (s.heap.objs.size + 1) [] [] rfl ▸ hnd) hm), x.above n c hm⟩
  refine wpAny_mono (h s.heap s.heap.objs.size h₁ tk cells (fun _ _ e => e) ⟨x.toInCall.ns, fun b o e => hk₁ b o e, Nat.le_refl _⟩ (fun p hp => ?_) Y BG X (T.keeps F.keep)) (fun fl s' hl => lv _ _ ?_) fun _ _ y => y
  · rw [List.append_nil] at hp
    exact NC p hp
  · obtain ⟨L', m', news', F', N', k⟩ := hl
    exact ⟨L', m', news', F', N', fun a b => k a b F'.keep⟩
end
end Mine
end
section
open PySem PySem.W PySem.Calls PyProof.Rows PyProof.Rows.LCg
set_option Elab.async false
set_option maxRecDepth 100000
set_option maxHeartbeats 0
namespace Mine
section
variable {prog : Program} {w : World} {A : Around} {E : Value → Shared → Prop} {s : Shared} {h₀ : Heap} {L : Addr} {m : Str → Option Value} {env : Env}
/-- an element's end: the ledger as it was, the tokens not below T -/
noncomputable def EndC (h₀ : Heap) (L : Addr) (m : Str → Option Value) (s₁ : Shared) (T : Nat) (all : List (Addr × Obj)) (G : Value → Prop) (y : Value) (s₂ : Shared) : Prop :=
  ∃ h' tk, s₂ = { s₁ with heap := h', toks := tk } ∧ T ≤ tk ∧ Fr h₀ L h' m ∧ News h₀ L h' all ∧ G y
theorem EndC.mk {s₁ : Shared} {T : Nat} {all all' : List (Addr × Obj)} {G : Value → Prop} {y : Value} {h' : Heap} {tk : Nat} (ht : T ≤ tk) (F : Fr h₀ L h' m) (N : News h₀ L h' all') (sub : ∀ p ∈ all, p ∈ all') (g : G y) :
    EndC h₀ L m s₁ T all G y { s₁ with heap := h', toks := tk } := ⟨h', tk, rfl, ht, F, fun p hp => N p (sub p hp), g⟩
/-- each sign's turn in a comprehension over a text -/
noncomputable def TurnsC (prog : Program) (w : World) (A : Around) (h₀ : Heap) (L : Addr) (m : Str → Option Value) (env : Env) (elt : Expr) (x : Str) (scope : Scope) (cl : List (Str × Addr)) (s : Shared) (T : Nat) (xt : Str) (news : List (Addr × Obj)) (G : List Nat → List Value → Prop) : Prop :=
  ∀ (pre : List Nat) (n : Nat) (post : List Nat) t I oI C oC D m₂ ys h tk (E' : Value → Shared → Prop), xt.cps.toList = pre ++ n :: post → G pre ys → ys.length = pre.length → T ≤ t → t < tk → NsObj oC m₂ → m₂ x = some (.str ⟨#[n]⟩ t) → Fr h₀ L h m → News h₀ L h ((I, oI) :: (C, oC) :: (D, lst ys) :: news) → Off3 I C D news → ((@Ne Nat I C) ∧ (@Ne Nat I D) ∧ (@Ne Nat C D)) →
    wpAny (model prog w) A (eval elt (compEnvC scope cl C env)) (EndC h₀ L m { s with heap := h, toks := tk } T ((I, oI) :: (C, oC) :: (D, lst ys) :: news) (fun y => G (pre ++ [n]) (ys ++ [y]))) E' { s with heap := h, toks := tk }
theorem blockS {elt iter : Expr} {x : Str} {px : Pos} {scope : Scope} {cl : List (Str × Addr)} {pos : Pos} {xt : Str} {tx : Tok} {T : Nat} {news : List (Addr × Obj)} {G : List Nat → List Value → Prop} {RR : Value → Addr → Result → Shared → Prop}
    (hh : A.handled = none) (hsz : xt.cps.size ≤ sizeLine) (hcell : ∀ y ∈ scope.names, y.2 ≠ .cell) (hkind : scope.kind = .function) (hx : scope.names.lookup x = some .local)
    (hT : T ≤ s.toks) (F : Fr h₀ L s.heap m) (N : News h₀ L s.heap news) (g0 : G [] []) (turns : TurnsC prog w A h₀ L m env elt x scope cl s T xt news G)
    (hRR : ∀ D C h tk m' ys, T ≤ tk → Fr h₀ L h m → News h₀ L h ((D, lst ys) :: news) → Off1 D news → h.Ns C m' → h₀.get? C = none → h₀.get? D = none → C ≠ L → D ≠ L → C ≠ D → (∀ p ∈ news, p.1 ≠ C) → G xt.cps.toList ys → RR (.ref D) C (.ok .next) { s with heap := h, toks := tk }) :
    wpAny (model prog w) A (pyIter (.str xt tx)) (fun it s₂ => wpAny (model prog w) A (newList []) (fun acc s₃ => wpAny (model prog w) A (newFunctionEnv scope env.globals cl [] env.qual none .none (some env)) (fun cenv s₄ =>
      codeAny (model prog w) A (.compStart (.ListComp elt [⟨.Name x px, iter, [], 0⟩] scope pos) 0 it acc { cenv with scope := relabel scope env }) (RR acc cenv.locals) s₄) E s₃) E s₂) E s := by
  have hLlt : L < s.heap.objs.size := F.ns.lt
  refine wpAny_pyIter_strU ?_
  generalize hI : s.heap.objs.size = I at *
  generalize hP : s.heap.push { cls := .type (strIterType xt), data := .fields #[.str xt tx, .int 0 0] } = H1
  have z1 : H1.objs.size = I + 1 := by rw [← hP, Heap.size_push, hI]
  have kp1 : ∀ b o, s.heap.get? b = some o → H1.get? b = some o := fun b o e => hP ▸ Heap.get?_push_of_some _ e
  have i1 : H1.get? I = some { cls := .type (strIterType xt), data := .fields #[.str xt tx, .int 0 0] } := by rw [← hP, ← hI]; exact Heap.get?_push_size _ rfl
  have lt0 : ∀ b o, s.heap.get? b = some o → b < I := fun b o e => hI ▸ Heap.lt_size e
  have fresh : ∀ a, I ≤ a → h₀.get? a = none := fun a ha => by
    cases e : h₀.get? a with
    | none => rfl
    | some o => exact absurd (lt0 a o (F.keep a o e)) (Nat.not_lt.mpr ha)
  refine wpAny_newObj_type (wpAny_newFunctionEnv hcell (by intro y hy; simp at hy) (fun h₁ hns₁ hsb₁ => ?_) hkind)
  dsimp only at hns₁ hsb₁ ⊢
  generalize hQ : H1.push { cls := .type "list", dict := none, data := .seq ([] : List Value).toArray } = H2 at hns₁ hsb₁ ⊢
  have z2 : H2.objs.size = I + 2 := by rw [← hQ, Heap.size_push, z1]
  have i2 : H2.get? H1.objs.size = some (lst []) := by rw [← hQ]; exact Heap.get?_push_size _ rfl
  generalize hD : H1.objs.size = D at *
  generalize hC : H2.objs.size = C at *
  have eD : D = I + 1 := z1
  have eC : C = I + 2 := z2
  have ID : I ≠ D := by rw [eD]; exact Nat.ne_of_lt (Nat.lt_succ_self _)
  have IC : I ≠ C := by rw [eC]; exact Nat.ne_of_lt (Nat.lt_succ_of_lt (Nat.lt_succ_self _))
  have DC : D ≠ C := by rw [eC, eD]; exact Nat.ne_of_lt (Nat.lt_succ_self _)
  have hI₀ := fresh I (Nat.le_refl _)
  have hD₀ := fresh D (by rw [eD]; exact Nat.le_succ _)
  have hC₀ := fresh C (by rw [eC]; exact Nat.le_trans (Nat.le_succ _) (Nat.le_succ _))
  have LI : L ≠ I := Nat.ne_of_lt hLlt
  have LD : L ≠ D := by rw [eD]; exact Nat.ne_of_lt (Nat.lt_succ_of_lt hLlt)
  have LC : L ≠ C := by rw [eC]; exact Nat.ne_of_lt (Nat.lt_succ_of_lt (Nat.lt_succ_of_lt hLlt))
  have up2 : ∀ b o, H1.get? b = some o → H2.get? b = some o := fun b o e => hQ ▸ Heap.get?_push_of_some _ e
  have up3 : ∀ b o, b ≠ C → H2.get? b = some o → h₁.get? b = some o := fun b o hb e => hsb₁.extBut b o hb (Heap.get?_push_of_some _ e)
  have old : ∀ b o, s.heap.get? b = some o → h₁.get? b = some o := fun b o e => up3 b o (by rw [eC]; exact Nat.ne_of_lt (Nat.lt_succ_of_lt (Nat.lt_succ_of_lt (lt0 b o e)))) (up2 b o (kp1 b o e))
  have off : Off3 I C D news := Off3.of fun p hp => by
    have := lt0 _ _ (N p hp).1
    exact ⟨Nat.ne_of_lt this, by rw [eC]; exact Nat.ne_of_lt (Nat.lt_succ_of_lt (Nat.lt_succ_of_lt this)), by rw [eD]; exact Nat.ne_of_lt (Nat.lt_succ_of_lt this)⟩
  have offm := off.mem
  have loop : ∀ s₃ : Shared, s₃ = { s with heap := h₁, toks := s.toks + ([] : List (Str × Value)).length } →
      codeAny (model prog w) A (.compLoop (.ListComp elt [⟨.Name x px, iter, [], 0⟩] scope pos) 0 (.ref I) (.ref D) (compEnvC scope cl C env)) (RR (.ref D) C) s₃ := by
    rintro s₃ rfl
    refine codeAny_compLoop_tests (fun k s' => ∃ (h : Heap) (tk i : Nat) (ys : List Value) (m' : Str → Option Value), s' = { s with heap := h, toks := tk } ∧ i ≤ xt.cps.size ∧ k = xt.cps.size + 1 - i ∧ ys.length = i ∧ h.IsStrIter I (strIterType xt) xt tx i ∧ Fr h₀ L h m ∧ h.Ns C m' ∧
        News h₀ L h ((D, lst ys) :: news) ∧ T ≤ tk ∧ G (xt.cps.toList.take i) ys) ?_ (xt.cps.size + 1)
      ⟨h₁, _, 0, [], _, rfl, Nat.zero_le _, rfl, rfl, ⟨_, up3 _ _ IC (up2 _ _ i1), rfl, rfl⟩, F.keeps old, hns₁, fun p hp => ?_, hT, g0⟩
    · rintro k s' ⟨h, tk, i, ys, m', rfl, hi, rfl, hyl, hit, F', hn', N', htk, hG⟩
      by_cases hlt : i < xt.cps.size
      · have hc : xt.cps[i]? = some xt.cps[i] := by simp [hlt]
        refine iterStr_next (s := { s with heap := h, toks := tk }) hit hc fun h₂ hit₂ hs₂ => ?_
        have k₂ : ∀ b o, b ≠ I → h.get? b = some o → h₂.get? b = some o := fun b o hb e => hs₂.extBut b o hb e
        have F₂ : Fr h₀ L h₂ m := ⟨F'.ns.at' fun o e => k₂ _ o LI e, fun b o e => k₂ b o (fun q => by rw [q, hI₀] at e; cases e) (F'.keep b o e), F'.above⟩
        refine wpAny_assign_Name (wpAny_storeName_local (lookup_relabel_local hx) (hn'.at' fun o e => k₂ _ o (Ne.symm IC) e) (fun h₃ hn₃ hs₃ => ?_) (by simp [compEnvC, relabel, hkind]))
        refine wpAny_tests_nil ?_
        simp only [if_true]
        have k₃ : ∀ b o, b ≠ C → h₂.get? b = some o → h₃.get? b = some o := fun b o hb e => hs₃.extBut b o hb e
        obtain ⟨oI, heI, hIt, hId⟩ := hit₂
        have heI₃ := k₃ _ _ IC heI
        obtain ⟨oC, heC, hoC⟩ := ns_obj hn₃
        have F₃ : Fr h₀ L h₃ m := ⟨F₂.ns.at' fun o e => k₃ _ o LC e, fun b o e => k₃ b o (fun q => by rw [q, hC₀] at e; cases e) (F₂.keep b o e), F₂.above⟩
        have N₃ : News h₀ L h₃ ((I, oI) :: (C, oC) :: (D, lst ys) :: news) := fun p hp => by
          rcases List.mem_cons.mp hp with rfl | hp
          · exact ⟨heI₃, Ne.symm LI, hI₀⟩
          rcases List.mem_cons.mp hp with rfl | hp
          · exact ⟨heC, Ne.symm LC, hC₀⟩
          have q := N' p hp
          rcases List.mem_cons.mp hp with rfl | hp
          · exact ⟨k₃ _ _ DC (k₂ _ _ (Ne.symm ID) q.1), q.2⟩
          · exact ⟨k₃ _ _ (offm p hp).2.1 (k₂ _ _ (offm p hp).1 q.1), q.2⟩
        have hn₄ : xt.cps.toList[i]? = some xt.cps[i] := by rw [Array.getElem?_toList]; exact hc
        obtain ⟨e1, e2⟩ := take_split hn₄
        have hpl : (xt.cps.toList.take i).length = i := by rw [List.length_take, Array.length_toList]; omega
        refine wpAny_mono (turns _ _ _ tk I oI C oC D _ ys h₃ (tk + 1 + 1) _ e1 hG (by rw [hyl, hpl]) htk (Nat.lt_succ_of_lt (Nat.lt_succ_self _)) hoC (by simp) F₃ N₃ off ⟨IC, ID, Ne.symm DC⟩) (fun y s₄ h₄ => ?_) fun _ _ e => e
        obtain ⟨h₄, tk₄, rfl, ht₄, F₄, N₄, G₄⟩ := h₄
        have zI := (N₄ _ (.head _)).1
        have zC := (N₄ _ (.tail _ (.head _))).1
        have zD := (N₄ _ (.tail _ (.tail _ (.head _)))).1
        refine append_at (hsz := by show ys.toArray.size ≤ sizeLine; rw [List.size_toArray, hyl]; exact Nat.le_trans hi hsz) zD fun h₅ hs₅ hD₅ => ?_
        have k₅ : ∀ b o, b ≠ D → h₄.get? b = some o → h₅.get? b = some o := fun b o hb e => hs₅.extBut b o hb e
        refine ⟨xt.cps.size + 1 - (i + 1), by omega, h₅, tk₄, i + 1, ys ++ [y], _, rfl, hlt, rfl, by rw [List.length_append, List.length_singleton, hyl], ⟨oI, k₅ _ _ ID zI, hIt, hId⟩,
          ⟨F₄.ns.at' fun o e => k₅ _ o LD e, fun b o e => k₅ b o (fun q => by rw [q, hD₀] at e; cases e) (F₄.keep b o e), F₄.above⟩, (hoC.ns zC).sameBut hs₅ (Ne.symm DC), fun p hp => ?_, ht₄, by rw [e2]; exact G₄⟩
        rcases List.mem_cons.mp hp with rfl | hp
        · exact ⟨hD₅.trans (congrArg some (lst_snoc ys y)), Ne.symm LD, hD₀⟩
        · have q := N₄ p (.tail _ (.tail _ (.tail _ hp)))
          exact ⟨k₅ _ _ (offm p hp).2.2 q.1, q.2⟩
      · have hin : i = xt.cps.size := by omega
        subst hin
        refine iterStr_end (s := { s with heap := h, toks := tk }) hh hit (by simp) fun h₂ hs₂ => ?_
        have k₂ : ∀ b o, b ≠ I → h.get? b = some o → h₂.get? b = some o := fun b o hb e => hs₂ b o hb e
        have F₂ : Fr h₀ L h₂ m := ⟨F'.ns.at' fun o e => k₂ _ o LI e, fun b o e => k₂ b o (fun q => by rw [q, hI₀] at e; cases e) (F'.keep b o e), F'.above⟩
        refine hRR D C h₂ tk _ ys htk F₂ (fun p hp => ?_) off.one (hn'.at' fun o e => k₂ _ o (Ne.symm IC) e) hC₀ hD₀ (Ne.symm LC) (Ne.symm LD) (Ne.symm DC) (fun p hp => (offm p hp).2.1) ?_
        · have q := N' p hp
          rcases List.mem_cons.mp hp with rfl | hp
          · exact ⟨k₂ _ _ (Ne.symm ID) q.1, q.2⟩
          · exact ⟨k₂ _ _ (offm p hp).1 q.1, q.2⟩
        · have : xt.cps.toList.take xt.cps.size = xt.cps.toList := List.take_of_length_le (by simp)
          exact this ▸ hG
    · rcases List.mem_cons.mp hp with rfl | hp
      · exact ⟨up3 _ _ DC i2, Ne.symm LD, hD₀⟩
      · exact ⟨old _ _ (N p hp).1, (N p hp).2⟩
  have it₁ : h₁.IsStrIter I (strIterType xt) xt tx 0 := ⟨_, up3 _ _ IC (up2 _ _ i1), rfl, rfl⟩
  refine codeAny_compStart_list (loop _ rfl) ?_
  cases ha : xt.cps.all (· < 128)
  · have e : strIterType xt = "str_iterator" := by simp [strIterType, ha]
    rw [e] at it₁
    exact wpAny_pyIter_striter_wide it₁ (loop _ rfl)
  · have e : strIterType xt = "str_ascii_iterator" := by simp [strIterType, ha]
    rw [e] at it₁
    exact wpAny_pyIter_striter_ascii it₁ (loop _ rfl)
/-- a comprehension over a text, its value -/
noncomputable def SrcE (prog : Program) (w : World) (A : Around) (h₀ : Heap) (L : Addr) (m : Str → Option Value) (env : Env) (elt : Expr) (x : Str) (scope : Scope) (cl : List (Str × Addr)) (Q : Value → Shared → Prop) (xv : Value) (s₁ : Shared) : Prop :=
  ∃ (xt : Str) (tx : Tok) (T : Nat) (news : List (Addr × Obj)) (G : List Nat → List Value → Prop), xv = .str xt tx ∧ A.handled = none ∧ xt.cps.size ≤ sizeLine ∧ T ≤ s₁.toks ∧ Fr h₀ L s₁.heap m ∧ News h₀ L s₁.heap news ∧ G [] [] ∧ TurnsC prog w A h₀ L m env elt x scope cl s₁ T xt news G ∧
    ∀ ys D h tk, G xt.cps.toList ys → T ≤ tk → Fr h₀ L h m → News h₀ L h ((D, lst ys) :: news) → Off1 D news → Q (.ref D) { s₁ with heap := h, toks := tk }
/-- a comprehension over a text, bound to a name -/
noncomputable def SrcA (prog : Program) (w : World) (A : Around) (h₀ : Heap) (L : Addr) (m : Str → Option Value) (env : Env) (elt : Expr) (x : Str) (scope : Scope) (cl : List (Str × Addr)) (y : Str) (Q : Flow → Shared → Prop) (xv : Value) (s₁ : Shared) : Prop :=
  ∃ (xt : Str) (tx : Tok) (T : Nat) (news : List (Addr × Obj)) (G : List Nat → List Value → Prop), xv = .str xt tx ∧ A.handled = none ∧ xt.cps.size ≤ sizeLine ∧ T ≤ s₁.toks ∧ Fr h₀ L s₁.heap m ∧ News h₀ L s₁.heap news ∧ G [] [] ∧ TurnsC prog w A h₀ L m env elt x scope cl s₁ T xt news G ∧
    ∀ ys D h tk, G xt.cps.toList ys → T ≤ tk → Fr h₀ L h (fun z => if z = y then some (.ref D) else m z) → News h₀ L h ((D, lst ys) :: news) → Off1 D news → Q .next { s₁ with heap := h, toks := tk }
theorem ListComp_S {elt iter : Expr} {x : Str} {px : Pos} {scope : Scope} {cl : List (Str × Addr)} {pos : Pos} {Q : Value → Shared → Prop} (_F₀ : Fr h₀ L s.heap m)
    (hclos : closureFor scope env = pure cl) (hcell : ∀ y ∈ scope.names, y.2 ≠ .cell) (hkind : scope.kind = .function)
    (hnames : ∀ y ∈ scope.names, y.2 = .local → scope.names.lookup y.1 = some .local) (hx : scope.names.lookup x = some .local)
    (h : wpAny (model prog w) A (eval iter env) (SrcE prog w A h₀ L m env elt x scope cl Q) E s)
    (hs : ∀ x, foldedSetIterable iter env x = pure x := by intro _; rfl) :
    wpAny (model prog w) A (eval (.ListComp elt [⟨.Name x px, iter, [], 0⟩] scope pos) env) Q E s := by
  rw [eval_ListComp]
  refine wpAny_comprehension_free (use := none) rfl hs hclos hkind hnames (wpAny_mono h (fun xv s₁ h₁ => ?_) fun _ _ e => e)
  obtain ⟨xt, tx, T, news, G, rfl, hh, hsz, hT, F, N, g0, turns, fin⟩ := h₁
  refine blockS hh hsz hcell hkind hx hT F N g0 turns ?_
  intro D C h₂ tk m' ys ht F' N' o1 hn hC₀ hD₀ hCL hDL hCD offC hG
  refine ⟨m', hn, fun h'' hs'' => ?_⟩
  have k : ∀ b o, b ≠ C → h₂.get? b = some o → h''.get? b = some o := fun b o hb e => hs''.extBut b o hb e
  refine fin ys D h'' tk hG ht ⟨F'.ns.at' fun o e => k _ o (Ne.symm hCL) e, fun b o e => k b o (fun q => by rw [q, hC₀] at e; cases e) (F'.keep b o e), F'.above⟩ (fun p hp => ?_) o1
  have q := N' p hp
  rcases List.mem_cons.mp hp with rfl | hp
  · exact ⟨k _ _ (Ne.symm hCD) q.1, q.2⟩
  · exact ⟨k _ _ (offC p hp) q.1, q.2⟩
theorem Assign_ListComp_S {elt iter : Expr} {x y : Str} {px py : Pos} {scope : Scope} {cl : List (Str × Addr)} {pos spos : Pos} {Q : Flow → Shared → Prop} (_F₀ : Fr h₀ L s.heap m) (hLe : env.locals = L)
    (hsw : swapsWith (.ListComp elt [⟨.Name x px, iter, [], 0⟩] scope pos) (some (.Name y py)) spos.line env = pure true)
    (hclos : closureFor scope env = pure cl) (hcell : ∀ z ∈ scope.names, z.2 ≠ .cell) (hkind : scope.kind = .function)
    (hnames : ∀ z ∈ scope.names, z.2 = .local → scope.names.lookup z.1 = some .local) (hx : scope.names.lookup x = some .local)
    (hy : env.kindOf y = some .local) (hp : (env.scope.kind == .class || (env.scope.kind == .module && env.locals != env.globals)) = false)
    (h : wpAny (model prog w) A (eval iter env) (SrcA prog w A h₀ L m env elt x scope cl y Q) E s)
    (hs : ∀ x, foldedSetIterable iter env x = pure x := by intro _; rfl) :
    wpAny (model prog w) A (exec (.Assign [.Name y py] (.ListComp elt [⟨.Name x px, iter, [], 0⟩] scope pos) spos) env) Q E s := by
  subst hLe
  rw [exec_Assign_Name_used _ _ _ _ hsw]
  refine wpAny_bind (wpAny_standAt (wpAny_bind ?_))
  show wpAny _ A (do let _ ← comprehension (.ListComp elt [⟨.Name x px, iter, [], 0⟩] scope pos) scope env _ (newList []) false (eval iter env) (some (assign (.Name y py) env))) _ _ s
  refine wpAny_bind (wpAny_mono (wpAny_comprehension_free (use := some (assign (.Name y py) env)) (Q := fun _ s' => Q .next s') rfl hs hclos hkind hnames
    (wpAny_mono h (fun xv s₁ h₁ => ?_) fun _ _ e => e)) (fun _ s' hq => wpAny_pure (wpAny_pure hq)) fun _ _ e => e)
  obtain ⟨xt, tx, T, news, G, rfl, hh, hsz, hT, F, N, g0, turns, fin⟩ := h₁
  refine blockS hh hsz hcell hkind hx hT F N g0 turns ?_
  intro D C h₂ tk m' ys ht F' N' o1 hn hC₀ hD₀ hCL hDL hCD offC hG
  show wpAny _ A (assign (.Name y py) env (.ref D)) _ _ _
  refine wpAny_assign_Name (wpAny_storeName_local hy F'.ns (fun h₃ hn₃ hs₃ => ?_) hp)
  have F₃ := F'.set hn₃ hs₃
  have N₃ := N'.set hs₃
  refine ⟨m', hn.sameBut hs₃ hCL, fun h'' hs'' => ?_⟩
  have k : ∀ b o, b ≠ C → h₃.get? b = some o → h''.get? b = some o := fun b o hb e => hs''.extBut b o hb e
  refine fin ys D h'' _ hG (Nat.le_succ_of_le ht) ⟨F₃.ns.at' fun o e => k _ o (Ne.symm hCL) e, fun b o e => k b o (fun q => by rw [q, hC₀] at e; cases e) (F₃.keep b o e), F₃.above⟩ (fun p hp => ?_) o1
  have q := N₃ p hp
  rcases List.mem_cons.mp hp with rfl | hp
  · exact ⟨k _ _ (Ne.symm hCD) q.1, q.2⟩
  · exact ⟨k _ _ (offC p hp) q.1, q.2⟩
end
end Mine
end
section
open PySem PySem.W PySem.Calls PyProof.Rows
set_option Elab.async false
set_option maxRecDepth 100000
namespace Mine
noncomputable def Held (P : Prop) : Prop := P
noncomputable def notDictO (o : Obj) : Prop := ∀ es n, o.data ≠ .dict es n
/-- a def leaves whose callee's raise was caught in it: the caller's own frame may have other slots -/
noncomputable def LeaveC (h₀ : Heap) (L : Addr) (m : Str → Option Value) (g : Heap) (R : Result → Shared → Prop) (v : Value) (s' : Shared) : Prop :=
  ∃ (L' : Addr) (m' : Str → Option Value) (oL : Obj) (sl : Array (Option Value)) (news' : List (Addr × Obj)), g.get? L = some oL ∧ Fr (hideAll g [L]) L' s'.heap m' ∧ News (hideAll g [L]) L' s'.heap ((L, { oL with slots := sl }) :: news') ∧ (∀ p ∈ news', notDictO p.2) ∧
    (Fr h₀ L s'.heap m → News h₀ L s'.heap news' → (∀ b o, g.get? b = some o → b ≠ L → s'.heap.get? b = some o) → R (.ok (.ret v)) s')
section
variable {prog : Program} {w : World} {A₀ A : Around} {s : Shared} {base h₀ : Heap} {outer : List Env} {L : Addr} {m mg mb : Str → Option Value} {env : Env} {K : Frag} {p : Program} {loose : List Str} {mean : ExcName → Option Value}
  {R : Result → Shared → Prop} {name qual : Str} {params : Arguments} {body : List Stmt} {scope : Scope} {dV kV doc pm cdv ct oc : Value} {an od : Option Addr} {osl : Array (Option Value)} {f : Addr} {args : Args} {binds : List (Str × Value)}
theorem hide_get {g : Heap} {L b : Addr} {o : Obj} (e : g.get? b = some o) (hb : b ≠ L) : (hideAll g [L]).get? b = some o := hideAll_get _ e (by simpa using hb)
theorem fr_not {h : Heap} (F : Fr h₀ L h m) : h₀.get? L = none := Heap.get?_none_of_le F.above
theorem code_defL (B : Below A₀ base outer h₀) (F : Fr h₀ L s.heap m) (X₀ : K.In h₀) (T : Top p loose mean mg mb h₀) (hA : A.frames = some (env :: outer)) (hf : env.frame = some L) (hke : env.scope.kind = .function)
    (ho : K.lookup f = some ⟨oc, od, .func (fnOf name qual params body scope dV kV doc pm an cdv ct), osl⟩) (hcd : codeIn K cdv qual = true) (hroom : A.depth < recursionLimit)
    (hbind : BindsTo s (fnOf name qual params body scope dV kV doc pm an cdv ct) args binds) (hloc : ∀ y ∈ binds, scope.names.lookup y.1 = some .local)
    (h : ∀ L' h₁, Fr s.heap L' h₁ (fun y => binds.reverse.lookup y) → News s.heap L' h₁ [] → Below A base (env :: outer) s.heap → K.In s.heap → Top p loose mean mg mb s.heap → Held (K.In (hideAll s.heap [L]) ∧ Top p loose mean mg mb (hideAll s.heap [L])) →
      wpAny (model prog w) (A.deeper (envOf qual scope L' f cdv)) (execs body (envOf qual scope L' f cdv))
        (fun fl s' => LeaveC h₀ L m s.heap R (match fl with | .ret v => v | _ => .none) s')
        (fun e s' => wpAny (model prog w) (A.deeper (envOf qual scope L' f cdv)) (leaving (envOf qual scope L' f cdv) e) (fun _ s'' => R (.error e) s'') (fun e' s'' => R (.error e') s'') s')
        { s with heap := h₁, toks := s.toks + binds.length })
    (hco : scope.isCoroutine = false) (hgen : scope.isGenerator = false) (hk : scope.kind = .function)
    (hcell : ∀ x ∈ scope.names, x.2 ≠ .cell) : codeAny (model prog w) A (.call (.ref f) args) R s := by
  have hL₀ := fr_not F
  obtain ⟨FG, BG, st, lv⟩ := groundX (R := R) (news := []) B F News.nil hA hf hke
  have X := X₀.keeps F.keep
  have stL : ∀ b o, h₀.get? b = some o → (hideAll s.heap [L]).get? b = some o := fun b o e => hide_get (F.keep b o e) fun q => by rw [q, hL₀] at e; cases e
  refine codeAny_call_def (fd := fnOf name qual params body scope dV kV doc pm an cdv ct) (body := body) (binds := binds) hroom (X _ _ ho) rfl (T.nolimit.keeps F.keep) (codeRec_of X hcd) rfl hbind hcell hloc (fun h₁ hns hk₁ => ?_) hco hgen hk
  refine wpAny_mono (h s.heap.objs.size h₁ ⟨hns, fun b o e => hk₁ b o e, Nat.le_refl _⟩ News.nil BG X (T.keeps F.keep) ⟨X₀.keeps stL, T.keeps stL⟩) (fun fl s' hl => ?_) fun _ _ y => y
  obtain ⟨L', m', oL, sl, news', hoL, F', N', nd, k⟩ := hl
  obtain ⟨oL', es, ep, hg, hd, r⟩ := F.ns
  rw [hoL] at hg
  cases hg
  have hL := (N' _ (.head _)).1
  have up : ∀ b o, s.heap.get? b = some o → b ≠ L → s'.heap.get? b = some o := fun b o e hb => F'.keep b o (hide_get e hb)
  refine k ⟨⟨_, es, ep, hL, hd, r⟩, fun b o e => up b o (F.keep b o e) (fun q => by rw [q, hL₀] at e; cases e), F.above⟩ (fun q hq => ?_) up
  have z := N' q (.tail _ hq)
  refine ⟨z.1, fun e => ?_, ?_⟩
  · rw [e, hL] at z
    have := Option.some.inj z.1
    exact nd q hq es ep (by rw [← this]; exact hd)
  · cases e : h₀.get? q.1 with
    | none => rfl
    | some o => have := stL _ _ e; rw [z.2.2] at this; cases this
end
section
variable {prog : Program} {w : World} {A₀ : Around} {E : Value → Shared → Prop} {s' : Shared} {G B0 h : Heap} {outer : List Env} {L a e t : Addr} {m mg mb : Str → Option Value} {name : Str} {scope : Scope} {cd : Value}
  {vs : List Value} {b₀ : Stmt} {suite : List Stmt} {pos np : Pos} {rest : List ExceptHandler} {Q : Flow → Shared → Prop} {p : Program} {loose : List Str} {mean : ExcName → Option Value} {x : Str} {X T' : String}
/-- an exception that a callee has raised is met by the first clause -/
theorem caught_own (hA : A₀.frames = some outer) (hG : ∀ b o, G.get? b = some o → B0.get? b = some o) (F : Fr G L h m) (hsm : h.UpToSlots s'.heap) (R : RaisedK B0 (envOf name scope L a cd :: outer) e (.type X) t vs [] s'.heap)
    (T : Top p loose mean mg mb G) {K : Frag} (XK : K.In G) (hne : nsIn K mainGlobals x = some none) (hv : bootBuiltins x = some (.type T'))
    (hexc : isSubtype (.type T') (.type "BaseException") = pure true) (hnt : isSubtype (.type ((Manifest.find? T').elim "type" fun y => y.metatype)) (.type "tuple") = pure false) (hsub : isSubtype (.type X) (.type T') = pure true)
    (k : ∀ h', Fr G L h' m → B0.StaysIn h' → h.UpToSlots h' →
      wpAny (model prog w) ((A₀.deeper (envOf name scope L a cd)).mark (some (.ref e))) (execs (b₀ :: suite) (envOf name scope L a cd)) Q E { s' with heap := h' })
    (hn : x ≠ "__name__" := by decide +kernel)
    (hk : scope.kind = .function := by rfl) (hx : (envOf name scope L a cd).kindOf x = some .globalImplicit := by rfl) (hd : (x == ("__debug__" : Str)) = false := by decide)
    (hE : PassesOwnAt (model prog w) ((A₀.deeper (envOf name scope L a cd)).mark (some (.ref e))) (A₀.deeper (envOf name scope L a cd)) (envOf name scope L a cd) E := by passes_own) :
    wpAny (model prog w) (A₀.deeper (envOf name scope L a cd)) (noteFrame (.ref e) (envOf name scope L a cd))
      (fun _ s₂ => wpAny (model prog w) (A₀.deeper (envOf name scope L a cd)) (setFlight (.ref e) none) (fun _ s₃ =>
        wpAny (model prog w) (A₀.deeper (envOf name scope L a cd)) (handleBy (.ref e) (envOf name scope L a cd) (.ExceptHandler (some (.Name x np)) none (b₀ :: suite) pos :: rest)) Q E s₃) E s₂) E s' := by
  obtain ⟨⟨B, hB, _, hfl, _⟩, _⟩ := R
  refine wpAny_looks_onW (Around.frames_deeper hA) rfl hfl fun h₄ y₄ sm₄ => ?_
  refine wpAny_landsW y₄ fun h₅ y₅ sm₅ => ?_
  have up₅ := hsm.trans (sm₄.trans sm₅)
  have F₅ : Fr G L h₅ m := F.of_stays (fun b o q => y₅.1 b o (hB b o (hG b o q))) up₅
  obtain ⟨ob, hob, hobc⟩ := y₅.there
  refine wpAny_handleBy_builtin (X := X) (T := T') (b := true) hexc hnt hsub (ld_builtin_at F₅ T.g (mg_none_of XK T.g hne) T.b ((T.builtins x hn).trans hv) ⟨rfl, ⟨ob, hob, hobc⟩, ?_⟩ hk hx hd)
  refine lands_againW y₅ fun h₆ y₆ sm₆ => ?_
  exact wpAny_passesOwnAt hE (k h₆ (F.of_stays (fun b o q => y₆.1 b o (hB b o (hG b o q))) (up₅.trans sm₆)) (fun b o q => y₆.1 b o (hB b o q)) (up₅.trans sm₆))
end
/-- as Spec, called from the law alone; the law's own frame may get other slots -/
noncomputable def SpecL (w : World) (f : Addr) (d : Nat) (vs : List Value) (pre : Heap → Prop) (R : Value → List (Addr × Obj) → Prop) : Prop :=
   ∀ (p : Program) (loose : List Str) (mean : ExcName → Option Value) (mg mb : Str → Option Value) (dp un : Nat) (gd : Option (List Code)) (cn : Str) (cs : Scope) (ad : Addr) (ccd : Value) (cl : List (Str × Addr)) (A₀ : Around) (base h₀ : Heap) (L : Addr) (m : Str → Option Value) (g : Heap) (gens : Array GenState) (drawn : Drawn) (toks : Nat) (os : OsState) (Q E : Value → Shared → Prop),
    Below A₀ base [] h₀ → Fr h₀ L g m → (Mine.K w.params).In h₀ → Top p loose mean mg mb h₀ → cs.kind = .function → pre g →
      dp + d < recursionLimit → un + 8 * d < cLine →
      (∀ (v : Value) (new : List (Addr × Obj)) (h' : Heap) (tk' : Nat), R v new → (∀ b o, g.get? b = some o → b ≠ L → h'.get? b = some o) → Fr h₀ L h' m → News h₀ L h' new → Q v ⟨h', gens, drawn, tk', os⟩) →
      wpAny (model PySem.Challenge.rw_tl0044_01.row.prog w) (ktrTop dp un gd cn cs L ad ccd cl []) (call (.ref f) vs) Q E ⟨g, gens, drawn, toks, os⟩
end Mine
end
section
open PySem PySem.W PySem.Calls PyProof.Rows
set_option Elab.async false
set_option maxRecDepth 100000
set_option maxHeartbeats 0
namespace Mine
open PySem
namespace HA
theorem slot_wd_get : Slot "wrapper_descriptor" "__get__" "wrapper_descriptor.__get__" :=
  .of (owner := "wrapper_descriptor") (n := "__get__") (by rw [typeLookup_type, builtinLookup_eq_fast]; kernel_rfl) (by decide +kernel) (by decide +kernel) (by decide +kernel)
    (by first | exact .inl (by decide +kernel) | exact .inr (by decide +kernel)) (by rw [isSubtype_type]; kernel_rfl)
theorem entry_wd_get : entryFor table "wrapper_descriptor.__get__" = some Builtin.«wrapper_descriptor.__get__» := entryFor_of_tree (by kernel_rfl)
theorem args_wd_get (a b c : Value) : argsOk "wrapper_descriptor.__get__" ⟨[a, b, c], []⟩ := by unfold argsOk; kernel_rfl
theorem type_gi : typeOf (.builtin "str.__getitem__") = pure (.type "wrapper_descriptor") := by show builtinType _ = _; rw [builtinType_eq_fast]; kernel_rfl
theorem lk_gi : typeLookup (.type "str") "__getitem__" = pure (some (.builtin "str.__getitem__")) := by rw [typeLookup_type, builtinLookup_eq_fast]; kernel_rfl
theorem lk_wd_get : typeLookup (.type "wrapper_descriptor") "__get__" = pure (some (.builtin "wrapper_descriptor.__get__")) := by rw [typeLookup_type, builtinLookup_eq_fast]; kernel_rfl
theorem lk_wd_set : typeLookup (.type "wrapper_descriptor") "__set__" = pure none := by rw [typeLookup_type, builtinLookup_eq_fast]; kernel_rfl
theorem lk_wd_del : typeLookup (.type "wrapper_descriptor") "__delete__" = pure none := by rw [typeLookup_type, builtinLookup_eq_fast]; kernel_rfl
theorem owner_gi : ".".intercalate ("str.__getitem__".cutAt '.').dropLast = "str" := by
  have e0 : "str.__getitem__".cutAt '.' = ["str", "__getitem__"] := by first | rfl | decide +kernel
  rw [e0]; decide +kernel
theorem sub_gi : isSubtype (.type "str") (.type (".".intercalate ("str.__getitem__".cutAt '.').dropLast)) = pure true := by
  rw [owner_gi, isSubtype_type]; kernel_rfl
noncomputable def bound (x : Str) (t : Tok) : Obj := { cls := .type "method-wrapper", data := .fields #[.builtin "str.__getitem__", .str x t] }
variable {prog : Program} {w : World} {A : Around} {E : Value → Shared → Prop} {h : Heap} {g : Array GenState} {d : Drawn} {t : Nat} {os : OsState} {x : Str} {u : Tok}
theorem gi_get {R : Result → Shared → Prop} (hq : R (.ok (.ret (.ref h.objs.size))) ⟨h.push (bound x u), g, d, t, os⟩) :
    codeAny (model prog w) A (.call (.builtin "wrapper_descriptor.__get__") ⟨[.builtin "str.__getitem__", .str x u, .type "str"], []⟩) R ⟨h, g, d, t, os⟩ := by
  have hT : (⟨h, g, d, t, os⟩ : Shared).TypeIs (.str x u) "str" := rfl
  have hT5 : (⟨h, g, d, t, os⟩ : Shared).TypeIs (.builtin "str.__getitem__") "wrapper_descriptor" := type_gi
  have f9 : isSubtype (.type "str") (.type (".".intercalate ("str.__getitem__".cutAt '.').dropLast)) = pure true := sub_gi
  refine codeAny_call_builtin slot_wd_get.plain entry_wd_get (slot_wd_get.check _ _ _ _ _ _ _ _ hT5 (args_wd_get _ _ _) ?_)
  repeat (any_goals (first | assumption | wp_step))
theorem gi_entry {tk : Tok} {Q : Fin → Shared → Prop} (hq : Q (.done (.ret (.ref h.objs.size))) ⟨h.push (bound x u), g, d, t, os⟩) :
    wpAny (model prog w) A (Builtin.«object.__getattribute__» ⟨[.str x u, .str "__getitem__" tk], []⟩) Q E ⟨h, g, d, t, os⟩ := by
  have hT : (⟨h, g, d, t, os⟩ : Shared).TypeIs (.str x u) "str" := rfl
  have hT5 : (⟨h, g, d, t, os⟩ : Shared).TypeIs (.builtin "str.__getitem__") "wrapper_descriptor" := type_gi
  have f4 := lk_gi
  have f5 := type_gi
  have f6 := lk_wd_get
  have f7 := lk_wd_set
  have f8 := lk_wd_del
  repeat (any_goals (first | assumption | wp_step))
  refine gi_get ?_
  repeat (any_goals (first | assumption | wp_step))
theorem gi_call {tk : Tok} {R : Result → Shared → Prop} (hq : R (.ok (.ret (.ref h.objs.size))) ⟨h.push (bound x u), g, d, t, os⟩) :
    codeAny (model prog w) A (.call (.builtin "object.__getattribute__") ⟨[.str x u, .str "__getitem__" tk], []⟩) R ⟨h, g, d, t, os⟩ :=
  codeAny_call_builtin F.slot_str_getattribute.plain F.entry_object_getattribute (F.slot_str_getattribute.check _ _ _ _ _ _ _ _ (show (⟨h, g, d, t, os⟩ : Shared).TypeIs (.str x u) "str" from rfl) (F.args_object_getattribute_2 _ _) (gi_entry hq))
theorem by_gi {tk : Tok} {Q : Value → Shared → Prop} (hq : Q (.ref h.objs.size) ⟨h.push (bound x u), g, d, t, os⟩) : wpAny (model prog w) A (getAttrBy (.str x u) (.str "__getitem__" tk) false) Q E ⟨h, g, d, t, os⟩ := by
  have hT : (⟨h, g, d, t, os⟩ : Shared).TypeIs (.str x u) "str" := rfl
  have f2 := F.slot_str_getattribute.lookup
  have f3 := F.slot_str_getattribute.bind (.str x u)
  repeat (any_goals (first | assumption | wp_step))
  refine gi_call ?_
  repeat (any_goals (first | assumption | wp_step))
theorem kind_ha : builtinKind "hasattr" = none := by decide +kernel
theorem plain_ha : plainId "hasattr" = true := by decide +kernel
theorem entry_ha : entryFor table "hasattr" = some Builtin.«hasattr» := entryFor_of_tree (by kernel_rfl)
theorem args_ha (a b : Value) : argsOk "hasattr" ⟨[a, b], []⟩ := by unfold argsOk; kernel_rfl
theorem call_ha {tk : Tok} {Q : Value → Shared → Prop} (hq : Q (.bool true) ⟨h.push (bound x u), g, d, t, os⟩) : wpAny (model prog w) A (call (.builtin "hasattr") [.str x u, .str "__getitem__" tk]) Q E ⟨h, g, d, t, os⟩ := by
  refine Calls.call_function_entry kind_ha plain_ha entry_ha (args_ha _ _) ?_
  unfold Builtin.«hasattr»
  refine wpAny_bind (wpAny_of_eq (a := [.str x u, .str "__getitem__" tk]) rfl ?_)
  change wpAny _ _ (Bind.bind _ _) _ _ _
  refine wpAny_bind (wpAny_of_eq (a := ()) rfl ?_)
  change wpAny _ _ (Bind.bind _ _) _ _ _
  refine wpAny_bind (wpAny_of_eq (a := Value.type "str") rfl ?_)
  change wpAny _ _ (Bind.bind _ _) _ _ _
  refine wpAny_bind (wpAny_of_eq (a := some (Str.ofString "__getitem__")) rfl ?_)
  change wpAny _ _ (Bind.bind _ _) _ _ _
  refine wpAny_bind (wpAny_of_eq lk_gi ?_)
  change wpAny _ _ (Bind.bind _ _) _ _ _
  refine wpAny_bind (wpAny_of_eq F.slot_str_getattribute.lookup ?_)
  have f5 : (withoutEnding? "str.__getitem__" "#data") = none := by decide +kernel
  dsimp only
  rw [f5]
  rw [if_neg (by rw [Option.isSome_none, Bool.false_and]; exact Bool.false_ne_true)]
  refine wpAny_bind (wpAny_of_eq (a := (0 : Nat)) rfl ?_)
  rw [if_neg (show ¬ ((0 : Nat) == 1) = true from by decide)]
  refine wpAny_bind ?_
  unfold getAttrBy?
  refine wpAny_bind (wpAny_attempt (by_gi ?_))
  refine wpAny_pure ?_
  try dsimp only
  rw [if_neg (by simp)]
  exact wpAny_pure ⟨_, rfl, hq⟩
theorem call_haK {Q : Value → Shared → Prop} {s : Shared} {h₀ : Heap} {L : Addr} {m : Str → Option Value} {news : List (Addr × Obj)} {tk : Tok} (F : Fr h₀ L s.heap m) (N : News h₀ L s.heap news) (h : ∀ h', Fr h₀ L h' m → News h₀ L h' news → Q (.bool true) { s with heap := h' }) :
    wpAny (model prog w) A (call (.builtin "hasattr") [.str x u, .str (Str.ofString "__getitem__") tk]) Q E s := by
  obtain ⟨hp, g, d, t, os⟩ := s
  exact call_ha (h _ (F.push _) (fun p hp => ⟨Heap.get?_push_of_some _ (N p hp).1, (N p hp).2⟩))
end HA
end Mine
end
section
open PySem PySem.W PySem.Calls PyProof.Rows
set_option Elab.async false
set_option maxRecDepth 100000
set_option maxHeartbeats 0
namespace Mine
open PySem.Spec PyProof.V
/-- the entries of an int-keyed dict as it lies -/
noncomputable def intKeyed (es : List DictEntry) : Bool := es.all fun e => match e.key with | .int k _ => e.hash == hashInt k | _ => false
section
variable {prog : Program} {w : World} {A : Around} {E : Value → Shared → Prop} {s : Shared} {h : Heap} {a : Addr} {es : Array DictEntry} {n : Nat} {K : Frag} {h₀ : Heap} {L : Addr} {m : Str → Option Value}
theorem keysOf_int (hk : intKeyed es.toList = true) : KeysOf (intKind prog w) es := fun e he => by
  have := List.all_eq_true.mp hk e (Array.mem_toList_iff.mpr he)
  revert this
  cases hx : e.key <;> intro q <;> first | exact absurd q Bool.false_ne_true | skip
  rename_i k t
  exact ⟨k, by show Value.isInt k (.int k t) = true; simp [Value.isInt], beq_iff_eq.mp q⟩
theorem map_top (ho : h.get? a = some ⟨.type "dict", none, .dict es n, #[]⟩) (hk : intKeyed es.toList = true) : h.MapOf (intKind prog w) a (fun k => findBy Value.isInt es k) :=
  ⟨_, es, n, ho, ⟨rfl, rfl, rfl⟩, rfl, keysOf_int hk, fun _ => rfl⟩
theorem method_get {pl : Sem Bool} {Q : Value × List Value → Shared → Prop} (F : Fr h₀ L s.heap m) (X : K.In h₀) (hl : K.lookup a = some ⟨.type "dict", none, .dict es n, #[]⟩) (hk : intKeyed es.toList = true)
    (h : Q (.builtin "dict.get", [.ref a]) s) : wpAny (model prog w) A (getMethod (.ref a) (Str.ofString "get") pl) Q E s :=
  have hD := map_top (prog := prog) (w := w) ((X.keeps F.keep) _ _ hl) hk
  getMethod_builtin hD.typeIs PySem.F.plainAttrs_dict PySem.F.slot_dict_get PySem.F.type_dict_get hD.noDict h
theorem call_get {k : Int} {t : Tok} {Q : Value → Shared → Prop} (F : Fr h₀ L s.heap m) (X : K.In h₀) (hl : K.lookup a = some ⟨.type "dict", none, .dict es n, #[]⟩) (hk : intKeyed es.toList = true) (lo : (a == sysModules) = false)
    (h : Q ((findBy Value.isInt es k).getD .none) { s with toks := s.toks + 1 }) : wpAny (model prog w) A (call (.builtin "dict.get") [.ref a, .int k t]) Q E s :=
  have hD := map_top (prog := prog) (w := w) ((X.keeps F.keep) _ _ hl) hk
  call_meetsIn PySem.F.slot_dict_get hD.typeIs PySem.F.entry_dict_get (PySem.F.args_dict_get_2 _ _) (meets_dict_get _ a (by show Value.isInt k (.int k t) = true; simp [Value.isInt]) lo) ⟨_, hD, h⟩
/-- every value a text -/
noncomputable def strVals (es : List DictEntry) : Bool := es.all fun e => match e.val with | .str _ _ => true | _ => false
theorem find_str {k : Int} (hs : strVals es.toList = true) : findBy Value.isInt es k = none ∨ ∃ x t, findBy Value.isInt es k = some (.str x t) := by
  unfold findBy
  rw [← Array.find?_toList]
  cases hf : es.toList.find? (fun d => Value.isInt k d.key) with
  | none => exact .inl rfl
  | some e =>
    have := List.all_eq_true.mp hs e (List.mem_of_find?_eq_some hf)
    revert this
    cases hx : e.val <;> intro q <;> first | exact absurd q Bool.false_ne_true | skip
    rename_i x t
    exact .inr ⟨x, t, by simp [hx]⟩
theorem call_get2 {k : Int} {t : Tok} {Q : Value → Shared → Prop} (F : Fr h₀ L s.heap m) (X : K.In h₀) (hl : K.lookup a = some ⟨.type "dict", none, .dict es n, #[]⟩) (hk : intKeyed es.toList = true) (hs : strVals es.toList = true) (lo : (a == sysModules) = false)
    (h1 : findBy Value.isInt es k = none → Q .none { s with toks := s.toks + 1 }) (h2 : ∀ x t, findBy Value.isInt es k = some (.str x t) → Q (.str x t) { s with toks := s.toks + 1 }) : wpAny (model prog w) A (call (.builtin "dict.get") [.ref a, .int k t]) Q E s := by
  refine call_get F X hl hk lo ?_
  rcases find_str (k := k) hs with e | ⟨x, u, e⟩
  · rw [e]; exact h1 e
  · rw [e]; exact h2 x u e
/-- the entries of a set of ints as it lies -/
noncomputable def intElems (es : List (Int × Value)) : Bool := es.all fun e => match e.2 with | .int k _ => e.1 == hashInt k | _ => false
noncomputable def elemIn (es : List (Int × Value)) (k : Int) : Bool := es.any fun e => Value.isInt k e.2
theorem set_top {sa : Array (Int × Value)} {tb : SetTable} (ho : h.get? a = some ⟨.type "set", none, .set sa n tb, #[]⟩) (hk : intElems sa.toList = true) (hb : sa.size < scanBound) (hf : tb.fits sa.size = true) : h.SetOf (intKind prog w) a (elemIn sa.toList) sa.size := by
  refine ⟨_, sa, n, tb, ho, ⟨rfl, rfl, rfl⟩, rfl, fun e he => ?_, fun k => ?_, hb, hf, rfl⟩
  · have := List.all_eq_true.mp hk e he
    revert this
    cases hx : e.2 <;> intro q <;> first | exact absurd q Bool.false_ne_true | skip
    rename_i k t
    exact ⟨⟨k, by show Value.isInt k (.int k t) = true; simp [Value.isInt], beq_iff_eq.mp q⟩, by first | rfl | exact hx ▸ rfl⟩
  · unfold elemIn
    rw [List.any_eq_true]; rfl
theorem in_top {sa : Array (Int × Value)} {tb : SetTable} {k : Int} {t : Tok} {Q : Value → Shared → Prop} (F : Fr h₀ L s.heap m) (X : K.In h₀) (hl : K.lookup a = some ⟨.type "set", none, .set sa n tb, #[]⟩) (hk : intElems sa.toList = true) (hb : sa.size < scanBound) (hf : tb.fits sa.size = true)
    (h : Q (.bool (elemIn sa.toList k)) { s with toks := s.toks + 1 }) : wpAny (model prog w) A (compareOp .In (.int k t) (.ref a)) Q E s :=
  wpAny_inSet_of (knd := intKind prog w) (by show Value.isInt k (.int k t) = true; simp [Value.isInt]) rfl (set_top ((X.keeps F.keep) _ _ hl) hk hb hf) h
end
noncomputable def b1F (c : Nat) : Bool := elemIn b1E.toList c
noncomputable def b3F (c : Nat) : Str := match findBy Value.isInt b3E c with | some (.str x _) => x | _ => Txt.lower ⟨#[c]⟩
theorem b1_spec (w : World) (c : Nat) (ta : Tok) : Spec w 133 1 [.str ⟨#[c]⟩ ta] (fun _ => True) (fun v new => v = .bool (b1F c) ∧ new = []) := by
  unfold Spec
  k_fill
  intro p loose mean mg mb dp un gd cn cs ad ccd cl outer A₀ base h₀ L m g gens drawn toks os Q E B F X T hk hpre hd hu hret
  refine wpAny_call ?_
  (refine' Mine.code_defE ?k1 ?k2 ?k3 ?k5 ?kA ?kF ?kK ?k6 ?k7 ?k8 ?k9 ?kB ?_ ?c2 ?c3 ?c4 ?c5; (case kA => exact rfl); (case kF => exact rfl); (case kK => assumption); (case k1 => k_asm); (case k2 => k_asm); (case k3 => k_asm); (case k5 => k_asm); (case k6 => k_is); (case k7 => k_is); (case k8 => ktr_room); (case k9 => first | exact BindsTo.of_eq (binds := [(_, _)]) rfl | exact BindsTo.of_eq (binds := [(_, _), (_, _)]) rfl | exact BindsTo.of_eq (binds := [(_, _), (_, _), (_, _)]) rfl | exact BindsTo.of_eq rfl); (case c5 => decide); (case kB => exact locs rfl); (case c2 => exact rfl); (case c3 => exact rfl); (case c4 => exact rfl); k_whole; intro L' h' tk' F' N' B' X' T'; (try dsimp only); (try k_fold))
  (repeat' (first | ((with_reducible show wpAny _ _ (call (Value.builtin _) [Value.ref _, Value.int _ _]) _ _ _); k_dflt (refine call_get2 (by k_asm) (by k_asm) (by k_is) (by decide +kernel) (by decide +kernel) (by decide) ?_ ?_)) | ((with_reducible show wpAny _ _ (getMethod (Value.ref _) (Str.ofString "get") _) _ _ _); k_dflt (refine method_get (by k_asm) (by k_asm) (by k_is) (by decide +kernel) ?_)) | ((with_reducible show wpAny _ _ (compareOp CmpOp.In (Value.int _ _) (Value.ref _)) _ _ _); k_dflt (refine in_top (by k_asm) (by k_asm) (by k_is) (by decide +kernel) (by decide +kernel) (by kernel_rfl) ?_)) | (with_reducible refine Mine.toksE ?_; intro _) | (k_unfold; (try dsimp only)) | (k_end; wrow_close) | walk1 | (dsimp only; walk1) | (leave1; (try dsimp only))))
  exact hret _ _ _ _ ⟨rfl, rfl⟩ (by k_asm) (by k_asm) (by k_asm)
theorem b3_spec (w : World) (c : Nat) (ta : Tok) : Spec w 179 1 [.str ⟨#[c]⟩ ta] (fun _ => True) (fun v new => ∃ t, v = .str (b3F c) t ∧ new = []) := by
  unfold Spec
  k_fill
  intro p loose mean mg mb dp un gd cn cs ad ccd cl outer A₀ base h₀ L m g gens drawn toks os Q E B F X T hk hpre hd hu hret
  refine wpAny_call ?_
  (refine' Mine.code_defE ?k1 ?k2 ?k3 ?k5 ?kA ?kF ?kK ?k6 ?k7 ?k8 ?k9 ?kB ?_ ?c2 ?c3 ?c4 ?c5; (case kA => exact rfl); (case kF => exact rfl); (case kK => assumption); (case k1 => k_asm); (case k2 => k_asm); (case k3 => k_asm); (case k5 => k_asm); (case k6 => k_is); (case k7 => k_is); (case k8 => ktr_room); (case k9 => first | exact BindsTo.of_eq (binds := [(_, _)]) rfl | exact BindsTo.of_eq (binds := [(_, _), (_, _)]) rfl | exact BindsTo.of_eq (binds := [(_, _), (_, _), (_, _)]) rfl | exact BindsTo.of_eq rfl); (case c5 => decide); (case kB => exact locs rfl); (case c2 => exact rfl); (case c3 => exact rfl); (case c4 => exact rfl); k_whole; intro L' h' tk' F' N' B' X' T'; (try dsimp only); (try k_fold))
  (repeat' (first | ((with_reducible show wpAny _ _ (call (Value.builtin "str.lower") _) _ _ _); (refine SCL.lower (by show (1 : Nat) ≤ 5592405; decide) ?_); intro _) | ((with_reducible show wpAny _ _ (call (Value.builtin _) [Value.ref _, Value.int _ _]) _ _ _); k_dflt (refine call_get2 (by k_asm) (by k_asm) (by k_is) (by decide +kernel) (by decide +kernel) (by decide) ?_ ?_)) | ((with_reducible show wpAny _ _ (getMethod (Value.ref _) (Str.ofString "get") _) _ _ _); k_dflt (refine method_get (by k_asm) (by k_asm) (by k_is) (by decide +kernel) ?_)) | ((with_reducible show wpAny _ _ (compareOp CmpOp.In (Value.int _ _) (Value.ref _)) _ _ _); k_dflt (refine in_top (by k_asm) (by k_asm) (by k_is) (by decide +kernel) (by decide +kernel) (by kernel_rfl) ?_)) | (with_reducible refine Mine.toksE ?_; intro _) | (k_unfold; (try dsimp only)) | (k_end; wrow_close) | walk1 | (dsimp only; walk1) | (leave1; (try dsimp only))))
  · rename findBy Value.isInt b3E _ = none => hb
    have e : b3F c = Txt.lower ⟨#[c]⟩ := by unfold b3F; rw [hb]
    exact hret _ _ _ _ ⟨_, by rw [e], rfl⟩ (by k_asm) (by k_asm) (by k_asm)
  · rename findBy Value.isInt b3E _ = some _ => hb
    have e := congrArg (fun o : Option Value => match o with | some (.str x _) => x | _ => Txt.lower ⟨#[c]⟩) hb
    exact hret _ _ _ _ ⟨_, by rw [show b3F c = _ from e], rfl⟩ (by k_asm) (by k_asm) (by k_asm)
theorem c11_spec (w : World) (a : Str) (ta : Tok) : Spec w 186 1 [.str a ta] (fun _ => True) (fun v new => v = .bool (a == Str.ofString " ") ∧ new = []) := by
  unfold Spec
  k_fill
  intro p loose mean mg mb dp un gd cn cs ad ccd cl outer A₀ base h₀ L m g gens drawn toks os Q E B F X T hk hpre hd hu hret
  refine wpAny_call ?_
  (refine' Mine.code_defE ?k1 ?k2 ?k3 ?k5 ?kA ?kF ?kK ?k6 ?k7 ?k8 ?k9 ?kB ?_ ?c2 ?c3 ?c4 ?c5; (case kA => exact rfl); (case kF => exact rfl); (case kK => assumption); (case k1 => k_asm); (case k2 => k_asm); (case k3 => k_asm); (case k5 => k_asm); (case k6 => k_is); (case k7 => k_is); (case k8 => ktr_room); (case k9 => first | exact BindsTo.of_eq (binds := [(_, _)]) rfl | exact BindsTo.of_eq (binds := [(_, _), (_, _)]) rfl | exact BindsTo.of_eq (binds := [(_, _), (_, _), (_, _)]) rfl | exact BindsTo.of_eq rfl); (case c5 => decide); (case kB => exact locs rfl); (case c2 => exact rfl); (case c3 => exact rfl); (case c4 => exact rfl); k_whole; intro L' h' tk' F' N' B' X' T'; (try dsimp only); (try k_fold))
  (repeat' (first | ((with_reducible show wpAny _ _ (call (Value.builtin "str.lower") _) _ _ _); (refine SCL.lower (by show (1 : Nat) ≤ 5592405; decide) ?_); intro _) | ((with_reducible show wpAny _ _ (call (Value.builtin _) [Value.ref _, Value.int _ _]) _ _ _); k_dflt (refine call_get2 (by k_asm) (by k_asm) (by k_is) (by decide +kernel) (by decide +kernel) (by decide) ?_ ?_)) | ((with_reducible show wpAny _ _ (getMethod (Value.ref _) (Str.ofString "get") _) _ _ _); k_dflt (refine method_get (by k_asm) (by k_asm) (by k_is) (by decide +kernel) ?_)) | ((with_reducible show wpAny _ _ (compareOp CmpOp.In (Value.int _ _) (Value.ref _)) _ _ _); k_dflt (refine in_top (by k_asm) (by k_asm) (by k_is) (by decide +kernel) (by decide +kernel) (by kernel_rfl) ?_)) | (with_reducible refine Mine.toksE ?_; intro _) | (k_unfold; (try dsimp only)) | (k_end; wrow_close) | walk1 | (dsimp only; walk1) | (leave1; (try dsimp only))))
  exact hret _ _ _ _ ⟨rfl, rfl⟩ (by k_asm) (by k_asm) (by k_asm)
theorem add_spec (w : World) (a b : Int) (ta tb : Tok) : Spec w 94 1 [.int a ta, .int b tb] (fun _ => True) (fun v new => ∃ t, v = .int (a + b) t ∧ new = []) := by
  unfold Spec
  k_fill
  intro p loose mean mg mb dp un gd cn cs ad ccd cl outer A₀ base h₀ L m g gens drawn toks os Q E B F X T hk hpre hd hu hret
  refine wpAny_call ?_
  (refine' Mine.code_defE ?k1 ?k2 ?k3 ?k5 ?kA ?kF ?kK ?k6 ?k7 ?k8 ?k9 ?kB ?_ ?c2 ?c3 ?c4 ?c5; (case kA => exact rfl); (case kF => exact rfl); (case kK => assumption); (case k1 => k_asm); (case k2 => k_asm); (case k3 => k_asm); (case k5 => k_asm); (case k6 => k_is); (case k7 => k_is); (case k8 => ktr_room); (case k9 => first | exact BindsTo.of_eq (binds := [(_, _)]) rfl | exact BindsTo.of_eq (binds := [(_, _), (_, _)]) rfl | exact BindsTo.of_eq (binds := [(_, _), (_, _), (_, _)]) rfl | exact BindsTo.of_eq rfl); (case c5 => decide); (case kB => exact locs rfl); (case c2 => exact rfl); (case c3 => exact rfl); (case c4 => exact rfl); k_whole; intro L' h' tk' F' N' B' X' T'; (try dsimp only); (try k_fold))
  (repeat' (first | ((with_reducible show wpAny _ _ (call (Value.builtin _) [Value.str _ _, Value.str _ _]) _ _ _); k_dflt (refine HA.call_haK (by k_asm) (by k_asm) ?_; intro hz9 Fz9 Nz9)) | ((with_reducible show wpAny _ _ (call (Value.builtin "str.lower") _) _ _ _); (refine SCL.lower (by show (1 : Nat) ≤ 5592405; decide) ?_); intro _) | ((with_reducible show wpAny _ _ (call (Value.builtin _) [Value.ref _, Value.int _ _]) _ _ _); k_dflt (refine call_get2 (by k_asm) (by k_asm) (by k_is) (by decide +kernel) (by decide +kernel) (by decide) ?_ ?_)) | ((with_reducible show wpAny _ _ (getMethod (Value.ref _) (Str.ofString "get") _) _ _ _); k_dflt (refine method_get (by k_asm) (by k_asm) (by k_is) (by decide +kernel) ?_)) | ((with_reducible show wpAny _ _ (compareOp CmpOp.In (Value.int _ _) (Value.ref _)) _ _ _); k_dflt (refine in_top (by k_asm) (by k_asm) (by k_is) (by decide +kernel) (by decide +kernel) (by kernel_rfl) ?_)) | (with_reducible refine Mine.toksE ?_; intro _) | (k_unfold; (try dsimp only)) | (k_end; wrow_close) | walk1 | (dsimp only; walk1) | (leave1; (try dsimp only))))
  exact hret _ _ _ _ ⟨_, rfl, rfl⟩ (by k_asm) (by k_asm) (by k_asm)
theorem concat_spec (w : World) (a b : Str) (ta tb : Tok) : Spec w 101 1 [.str a ta, .str b tb] (fun _ => a.length + b.length ≤ 1000000) (fun v new => ∃ t, v = .str (a ++ b) t ∧ new = []) := by
  unfold Spec
  k_fill
  intro p loose mean mg mb dp un gd cn cs ad ccd cl outer A₀ base h₀ L m g gens drawn toks os Q E B F X T hk hpre hd hu hret
  refine wpAny_call ?_
  (refine' Mine.code_defE ?k1 ?k2 ?k3 ?k5 ?kA ?kF ?kK ?k6 ?k7 ?k8 ?k9 ?kB ?_ ?c2 ?c3 ?c4 ?c5; (case kA => exact rfl); (case kF => exact rfl); (case kK => assumption); (case k1 => k_asm); (case k2 => k_asm); (case k3 => k_asm); (case k5 => k_asm); (case k6 => k_is); (case k7 => k_is); (case k8 => ktr_room); (case k9 => first | exact BindsTo.of_eq (binds := [(_, _)]) rfl | exact BindsTo.of_eq (binds := [(_, _), (_, _)]) rfl | exact BindsTo.of_eq (binds := [(_, _), (_, _), (_, _)]) rfl | exact BindsTo.of_eq rfl); (case c5 => decide); (case kB => exact locs rfl); (case c2 => exact rfl); (case c3 => exact rfl); (case c4 => exact rfl); k_whole; intro L' h' tk' F' N' B' X' T'; (try dsimp only); (try k_fold))
  (repeat' (first | ((with_reducible show wpAny _ _ (call (Value.builtin _) [Value.str _ _, Value.str _ _]) _ _ _); k_dflt (refine HA.call_haK (by k_asm) (by k_asm) ?_; intro hz9 Fz9 Nz9)) | ((with_reducible show wpAny _ _ (call (Value.builtin "str.lower") _) _ _ _); (refine SCL.lower (by show (1 : Nat) ≤ 5592405; decide) ?_); intro _) | ((with_reducible show wpAny _ _ (call (Value.builtin _) [Value.ref _, Value.int _ _]) _ _ _); k_dflt (refine call_get2 (by k_asm) (by k_asm) (by k_is) (by decide +kernel) (by decide +kernel) (by decide) ?_ ?_)) | ((with_reducible show wpAny _ _ (getMethod (Value.ref _) (Str.ofString "get") _) _ _ _); k_dflt (refine method_get (by k_asm) (by k_asm) (by k_is) (by decide +kernel) ?_)) | ((with_reducible show wpAny _ _ (compareOp CmpOp.In (Value.int _ _) (Value.ref _)) _ _ _); k_dflt (refine in_top (by k_asm) (by k_asm) (by k_is) (by decide +kernel) (by decide +kernel) (by kernel_rfl) ?_)) | (with_reducible refine Mine.toksE ?_; intro _) | (k_unfold; (try dsimp only)) | (k_end; wrow_close) | walk1 | (dsimp only; walk1) | (leave1; (try dsimp only))))
  exact hret _ _ _ _ ⟨_, rfl, rfl⟩ (by k_asm) (by k_asm) (fun _ h => nomatch h)
end Mine
end
section
open PySem PySem.W PySem.Calls PyProof.Rows
set_option Elab.async false
set_option maxRecDepth 100000
set_option maxHeartbeats 0
namespace Mine
noncomputable def prepStep (acc : Str) (n : Nat) : Str := if b1F n then acc else acc ++ b3F n
noncomputable def prepF (l : List Nat) : Str := l.foldl prepStep Str.empty
theorem b3vals : ∀ e ∈ b3E.toList, (match e.val with | .str x _ => decide (x.length ≤ 8) | _ => true) = true := List.all_eq_true.mp (by decide +kernel : b3E.toList.all (fun e => match e.val with | .str x _ => decide (x.length ≤ 8) | _ => true) = true)
theorem lower_len1 (c : Nat) : (Txt.lower ⟨#[c]⟩).length ≤ 3 := by have := PyProof.Rows.len_lower (⟨#[c]⟩ : Str); exact this
theorem b3F_len (c : Nat) : (b3F c).length ≤ 8 := by
  unfold b3F findBy
  rw [← Array.find?_toList]
  cases hf : b3E.toList.find? (fun d => Value.isInt (c : Int) d.key) with
  | none => exact Nat.le_trans (lower_len1 c) (by decide)
  | some e =>
    have := b3vals e (List.mem_of_find?_eq_some hf)
    revert this
    simp only [Option.map_some]
    cases e.val <;> intro q <;> first | exact of_decide_eq_true q | exact Nat.le_trans (lower_len1 c) (by decide)
theorem prepF_snoc (l : List Nat) (n : Nat) : prepF (l ++ [n]) = prepStep (prepF l) n := by unfold prepF; rw [List.foldl_append]; rfl
theorem prepF_len_go (l : List Nat) : ∀ acc : Str, (l.foldl prepStep acc).length ≤ acc.length + 8 * l.length := by
  induction l with
  | nil => intro acc; exact Nat.le_refl _
  | cons n r ih =>
    intro acc
    rw [List.foldl_cons, List.length_cons]
    have h1 := ih (prepStep acc n)
    have h2 : (prepStep acc n).length ≤ acc.length + 8 := by
      unfold prepStep
      split
      · omega
      · rw [Str.length_append]; have := b3F_len n; omega
    omega
theorem prepF_len (l : List Nat) : (prepF l).length ≤ 8 * l.length := by
  have := prepF_len_go l Str.empty
  have e : Str.empty.length = 0 := rfl
  unfold prepF; omega
theorem prepared_spec (w : World) (a : Str) (ta : Tok) : Spec w 200 3 [.str a ta] (fun _ => a.length ≤ 1000) (fun v new => ∃ t, v = .str (prepF a.cps.toList) t ∧ new = []) := by
  unfold Spec
  k_fill
  intro p loose mean mg mb dp un gd cn cs ad ccd cl outer A₀ base h₀ L m g gens drawn toks os Q E B F X T hk hpre hd hu hret
  refine wpAny_call ?_
  (refine' Mine.code_defE ?k1 ?k2 ?k3 ?k5 ?kA ?kF ?kK ?k6 ?k7 ?k8 ?k9 ?kB ?_ ?c2 ?c3 ?c4 ?c5; (case kA => exact rfl); (case kF => exact rfl); (case kK => assumption); (case k1 => k_asm); (case k2 => k_asm); (case k3 => k_asm); (case k5 => k_asm); (case k6 => k_is); (case k7 => k_is); (case k8 => ktr_room); (case k9 => first | exact BindsTo.of_eq (binds := [(_, _)]) rfl | exact BindsTo.of_eq (binds := [(_, _), (_, _)]) rfl | exact BindsTo.of_eq (binds := [(_, _), (_, _), (_, _)]) rfl | exact BindsTo.of_eq rfl); (case c5 => decide); (case kB => exact locs rfl); (case c2 => exact rfl); (case c3 => exact rfl); (case c4 => exact rfl); k_whole; intro L' h' tk' F' N' B' X' T'; (try dsimp only); (try k_fold))
  (repeat' (first | ((with_reducible show wpAny _ _ (exec (Stmt.For (PySem.Expr.Name _ _) (PySem.Expr.Name _ _) (_ :: _) [] _) _) _ _ _); (rename Fr _ _ _ _ => lFz9); (with_unfolding_all refine For_invVF lFz9 (by exact rfl) (by exact rfl) ?_)) | ((with_reducible show wpAny _ _ (call (Value.ref _) _) _ _ _); refine opqQ ?_; intro Q5 hQ5; refine callS (b3_spec _ _ _) ?_ (by trivial); intro v9 new9 h9 tk9 hR9 st9 F9 N9 N10; (obtain ⟨t9, e9, e8⟩ := hR9; subst e9 e8); (try simp only [List.nil_append, List.cons_append] at N10); (try k_sweep); refine finQ hQ5 ?_; clear hQ5; clear Q5; (try dsimp only)) | ((with_reducible show wpAny _ _ (call (Value.ref _) _) _ _ _); refine opqQ ?_; intro Q5 hQ5; refine callS (b1_spec _ _ _) ?_ (by trivial); intro v9 new9 h9 tk9 hR9 st9 F9 N9 N10; (obtain ⟨e9, e8⟩ := hR9; subst e9 e8); (try simp only [List.nil_append, List.cons_append] at N10); (try k_sweep); refine finQ hQ5 ?_; clear hQ5; clear Q5; (try dsimp only)) | (with_reducible refine Mine.toksE ?_; intro _) | (k_unfold; (try dsimp only)) | (k_end; wrow_close) | walk1 | (dsimp only; walk1) | (leave1; (try dsimp only))))
  refine strS (σ := Str × Tok) (fun _ => []) (fun c => [(Str.ofString "told", .str c.1 c.2)]) [Str.ofString "sign", Str.ofString "held"] (fun pre c => c.1 = prepF pre) (_, _) (by exact rfl) (by k_asm) News.nil (List.forall_mem_cons.mpr ⟨rfl, List.forall_mem_nil _⟩) rfl ?_ ?_
  · rintro pre n post ⟨x9, u9⟩ t9 u h9 tk9 own9 e9 o9 s9 F9 N9
    dsimp only [kstB, envOf] at F9 N9 s9
    have hx9 : x9.length ≤ 8 * pre.length := s9 ▸ prepF_len pre
    have hpl : pre.length ≤ a.length := by
      have := congrArg List.length e9
      simp only [List.length_append, List.length_cons, Array.length_toList] at this
      show _ ≤ a.cps.size
      omega
    have hb9 := b3F_len n
    (try k_fold)
    (repeat' (first | ((with_reducible show wpAny _ _ (exec (Stmt.For (PySem.Expr.Name _ _) (PySem.Expr.Name _ _) (_ :: _) [] _) _) _ _ _); (rename Fr _ _ _ _ => lFz9); (with_unfolding_all refine For_invVF lFz9 (by exact rfl) (by exact rfl) ?_)) | ((with_reducible show wpAny _ _ (call (Value.ref _) _) _ _ _); refine opqQ ?_; intro Q5 hQ5; refine callS (b3_spec _ _ _) ?_ (by trivial); intro v9 new9 h9 tk9 hR9 st9 F9 N9 N10; (obtain ⟨t9, e9, e8⟩ := hR9; subst e9 e8); (try simp only [List.nil_append, List.cons_append] at N10); (try k_sweep); refine finQ hQ5 ?_; clear hQ5; clear Q5; (try dsimp only)) | ((with_reducible show wpAny _ _ (call (Value.ref _) _) _ _ _); refine opqQ ?_; intro Q5 hQ5; refine callS (b1_spec _ _ _) ?_ (by trivial); intro v9 new9 h9 tk9 hR9 st9 F9 N9 N10; (obtain ⟨e9, e8⟩ := hR9; subst e9 e8); (try simp only [List.nil_append, List.cons_append] at N10); (try k_sweep); refine finQ hQ5 ?_; clear hQ5; clear Q5; (try dsimp only)) | (with_reducible refine Mine.toksE ?_; intro _) | (k_unfold; (try dsimp only)) | (k_end; wrow_close) | walk1 | (dsimp only; walk1) | (leave1; (try dsimp only))))
    · refine nextS (_, _) (by k_asm) (by k_asm) (fun _ h => nomatch h) (fun _ h => h) rfl (List.forall_mem_cons.mpr ⟨rfl, List.forall_mem_nil _⟩) ?_ ?_
      · (intro z h1 h2; (simp only [List.mem_cons, List.not_mem_nil, or_false, forall_eq, forall_eq_or_imp, false_imp_iff, implies_true, and_true] at h1); (simp only [List.contains_cons, List.contains_nil, Bool.or_false, Bool.or_eq_false_iff, beq_eq_false_iff_ne] at h2); (simp [put, lookR, h1, h2]); (try rfl))
      · show x9 ++ b3F n = _
        rw [prepF_snoc, ← s9]; unfold prepStep
        rw [if_neg (by simpa using ‹(b1F n == false) = true›)]
    · exfalso; revert ‹(b1F n == false) = false›; revert ‹(b1F n != true) = true›; cases b1F n <;> decide
    · refine nextS (_, _) (by k_asm) (by k_asm) (fun _ h => nomatch h) (fun _ h => h) rfl (List.forall_mem_cons.mpr ⟨rfl, List.forall_mem_nil _⟩) ?_ ?_
      · (intro z h1 h2; (simp only [List.mem_cons, List.not_mem_nil, or_false, forall_eq, forall_eq_or_imp, false_imp_iff, implies_true, and_true] at h1); (simp only [List.contains_cons, List.contains_nil, Bool.or_false, Bool.or_eq_false_iff, beq_eq_false_iff_ne] at h2); (simp [put, lookR, h1, h2]); (try rfl))
      · show x9 = _
        rw [prepF_snoc, ← s9]; unfold prepStep
        rw [if_pos (by revert ‹(b1F n == false) = false›; cases b1F n <;> decide)]
  · rintro ⟨x9, u9⟩ u h9 tk9 s9 F9 N9
    dsimp only [kstB, envOf] at F9 N9 s9
    (repeat' (first | ((with_reducible show wpAny _ _ (exec (Stmt.For (PySem.Expr.Name _ _) (PySem.Expr.Name _ _) (_ :: _) [] _) _) _ _ _); (rename Fr _ _ _ _ => lFz9); (with_unfolding_all refine For_invVF lFz9 (by exact rfl) (by exact rfl) ?_)) | ((with_reducible show wpAny _ _ (call (Value.ref _) _) _ _ _); refine opqQ ?_; intro Q5 hQ5; refine callS (b3_spec _ _ _) ?_ (by trivial); intro v9 new9 h9 tk9 hR9 st9 F9 N9 N10; (obtain ⟨t9, e9, e8⟩ := hR9; subst e9 e8); (try simp only [List.nil_append, List.cons_append] at N10); (try k_sweep); refine finQ hQ5 ?_; clear hQ5; clear Q5; (try dsimp only)) | ((with_reducible show wpAny _ _ (call (Value.ref _) _) _ _ _); refine opqQ ?_; intro Q5 hQ5; refine callS (b1_spec _ _ _) ?_ (by trivial); intro v9 new9 h9 tk9 hR9 st9 F9 N9 N10; (obtain ⟨e9, e8⟩ := hR9; subst e9 e8); (try simp only [List.nil_append, List.cons_append] at N10); (try k_sweep); refine finQ hQ5 ?_; clear hQ5; clear Q5; (try dsimp only)) | (with_reducible refine Mine.toksE ?_; intro _) | (k_unfold; (try dsimp only)) | (k_end; wrow_close) | walk1 | (dsimp only; walk1) | (leave1; (try dsimp only))))
    exact hret _ _ _ _ ⟨_, by rw [s9], rfl⟩ (by k_asm) (by k_asm) (by k_asm)
end Mine
end
section
open PySem PySem.W PySem.Calls PyProof.Rows
set_option Elab.async false
set_option maxRecDepth 100000
set_option maxHeartbeats 0
namespace Mine
open PySem.Spec PyProof.V
/-- a sign's code, by its kind and form -/
noncomputable def codeF (kind form : Int) : Int := if 3 < kind then [13261, 223, 64261 + Int.fmod form 2, 13240, 32, 890].getD (kind - 4).toNat 0 else if form < 13 then 119808 + 52 * form + [10, 18, 19, 21].getD kind.toNat 0 else 65 + 32 * (form - 13) + [10, 18, 19, 21].getD kind.toNat 0
noncomputable def hidS (sp : Int) (us : List Int) (i : Nat) : Str := if (sp.fdiv 15 + 5 * (i : Int)).fmod 29 < 27 then ⟨#[(us.getD ((sp.fdiv 15 + 5 * (i : Int)).fmod 29).toNat 0).toNat]⟩ else Str.empty
theorem hidS_len (sp : Int) (us : List Int) (i : Nat) : (hidS sp us i).length ≤ 1 := by
  unfold hidS
  split
  · exact Nat.le_refl _
  · exact Nat.zero_le _
noncomputable def pieceF (sp : Int) (us : List Int) (i : Nat) (k : Int) : Str := (if (sp.fdiv 15 + 5 * (i : Int)).fmod 29 < 27 then ⟨#[(us.getD ((sp.fdiv 15 + 5 * (i : Int)).fmod 29).toNat 0).toNat]⟩ else Str.empty) ++ ⟨#[(codeF k ((sp + (i : Int)).fmod 15)).toNat]⟩
noncomputable def typedF (sp : Int) (us ks : List Int) : Str := (ks.zipIdx).foldl (fun acc x => acc ++ pieceF sp us x.2 x.1) Str.empty
theorem typedF_snoc (sp : Int) (us ks : List Int) (k : Int) : typedF sp us (ks ++ [k]) = typedF sp us ks ++ pieceF sp us ks.length k := by
  unfold typedF
  rw [List.zipIdx_append, List.foldl_append]
  simp
theorem pieceF_len (sp : Int) (us : List Int) (i : Nat) (k : Int) : (pieceF sp us i k).length ≤ 2 := by
  unfold pieceF
  rw [Str.length_append]
  have e0 : Str.empty.length = 0 := rfl
  have e1 : ∀ c : Nat, (⟨#[c]⟩ : Str).length = 1 := fun _ => rfl
  split <;> simp only [e0, e1] <;> omega
theorem typedF_len (sp : Int) (us : List Int) : ∀ (n : Nat) (ks : List Int), ks.length = n → (typedF sp us ks).length ≤ 2 * n := by
  intro n
  induction n with
  | zero => intro ks h; rw [List.length_eq_zero_iff.mp h]; exact Nat.le_refl _
  | succ n ih =>
    intro ks h
    have hne : ks ≠ [] := by intro e; rw [e] at h; cases h
    obtain ⟨l, k, rfl⟩ : ∃ l k, ks = l ++ [k] := ⟨ks.dropLast, ks.getLast hne, (List.dropLast_concat_getLast hne).symm⟩
    rw [typedF_snoc, Str.length_append]
    have h1 := ih l (by simpa using h)
    have h2 := pieceF_len sp us l.length k
    omega
theorem getD_bnd {l : List Int} {lo hi d : Int} (h : ∀ x ∈ l, lo ≤ x ∧ x ≤ hi) (hd : lo ≤ d ∧ d ≤ hi) (i : Nat) : lo ≤ l.getD i d ∧ l.getD i d ≤ hi := by
  rw [List.getD_eq_getElem?_getD]
  cases e : l[i]? with
  | none => exact hd
  | some x => exact h x (List.mem_of_getElem? e)
theorem typed_spec (w : World) (lk lu : Addr) (vk vu : List Value) (ks us : List Int) (sp : Int) (ts : Tok) (hk1 : ∀ k ∈ ks, 0 ≤ k ∧ k ≤ 9) (hk2 : ks.length ≤ 8) (hu1 : us.length = 27) (hu2 : ∀ u ∈ us, 0 ≤ u ∧ u ≤ 70000) (hs : 0 ≤ sp ∧ sp ≤ 100000000) : Spec w 193 3 [.ref lk, .int sp ts, .ref lu] (fun g => g.IsList lk vk.toArray ∧ IntsAre vk ks ∧ g.IsList lu vu.toArray ∧ IntsAre vu us) (fun v new => ∃ t, v = .str (typedF sp us ks) t ∧ new = []) := by
  unfold Spec
  k_fill
  intro p loose mean mg mb dp un gd cn cs ad ccd cl outer A₀ base h₀ L m g gens drawn toks os Q E B F X T hk hpre hd hu hret
  refine wpAny_call ?_
  (refine' Mine.code_defE ?k1 ?k2 ?k3 ?k5 ?kA ?kF ?kK ?k6 ?k7 ?k8 ?k9 ?kB ?_ ?c2 ?c3 ?c4 ?c5; (case kA => exact rfl); (case kF => exact rfl); (case kK => assumption); (case k1 => k_asm); (case k2 => k_asm); (case k3 => k_asm); (case k5 => k_asm); (case k6 => k_is); (case k7 => k_is); (case k8 => ktr_room); (case k9 => first | exact BindsTo.of_eq (binds := [(_, _)]) rfl | exact BindsTo.of_eq (binds := [(_, _), (_, _)]) rfl | exact BindsTo.of_eq (binds := [(_, _), (_, _), (_, _)]) rfl | exact BindsTo.of_eq rfl); (case c5 => decide); (case kB => exact locs rfl); (case c2 => exact rfl); (case c3 => exact rfl); (case c4 => exact rfl); k_whole; intro L' h' tk' F' N' B' X' T'; (try dsimp only); (try k_fold))
  obtain ⟨p1, p2, p3, p4⟩ := hpre
  (repeat' (first | ((with_reducible show wpAny _ _ (exec (Stmt.If (PySem.Expr.Compare _ _ _ _) _ _ _) _) _ _ _); (fail_if_success (with_reducible show wpAny _ _ (exec (Stmt.If (Expr.Compare (Expr.Name (Str.ofString "form") _) _ _ _) _ _ _) _) _ _ _)); refine stopHere ?_) | ((with_reducible show wpAny _ _ (call (Value.ref _) _) _ _ _); refine opqQ ?_; intro Q5 hQ5; refine callS (concat_spec _ _ _ _ _) ?_ (by ((try dsimp only); (try simp only [Str.length_append]); (try simp only [show ∀ c : Nat, (⟨#[c]⟩ : Str).length = 1 from fun _ => rfl]); omega)); intro v9 new9 h9 tk9 hR9 st9 F9 N9 N10; (obtain ⟨t9, e9, e8⟩ := hR9; subst e9 e8); (try simp only [List.nil_append, List.cons_append] at N10); (try k_sweep); refine finQ hQ5 ?_; clear hQ5; clear Q5; (try dsimp only)) | ((with_reducible show wpAny _ _ (call (Value.type _) [Value.ref _]) _ _ _); (with_unfolding_all refine call_enum_list rfl (by assumption) (IntsAre.areOf (by assumption)) (by assumption) (by assumption) ?_); intro _ _ _ _ _) | (with_reducible refine Mine.toksE ?_; intro _) | (k_unfold; (try dsimp only)) | (k_end; wrow_close) | walk1 | (dsimp only; walk1) | (leave1; (try dsimp only))))
  refine enumS (K := ItemKind.int) (σ := Str × Tok) (fun _ => []) (fun c => [(Str.ofString "text", .str c.1 c.2)]) [Str.ofString "at", Str.ofString "kind", Str.ofString "hidden", Str.ofString "form", Str.ofString "code"] (fun pre c => c.1 = typedF sp us pre) (_, _) (by assumption) (List.forall_mem_cons.mpr ⟨rfl, List.forall_mem_nil _⟩) rfl ?_ ?_
  · rintro pre a post ⟨x9, u9⟩ t9 v u h9 tk9 own9 e9 K9 o9 s9 F9 N9
    obtain ⟨ta9, rfl⟩ := ItemKind.int_is K9
    dsimp only [kstB, envOf] at F9 N9 s9
    simp only [List.nil_append] at N9
    have ha9 := hk1 a (by rw [e9]; exact List.mem_append_right _ (List.mem_cons_self ..))
    obtain ⟨hs1, hs2⟩ := hs
    obtain ⟨ha1, ha2⟩ := ha9
    have hpl : pre.length ≤ 7 := by have := congrArg List.length e9; simp only [List.length_append, List.length_cons] at this; omega
    have hx9 : x9.length ≤ 2 * pre.length := by rw [s9]; exact typedF_len sp us _ pre rfl
    have b1 : 0 ≤ ((sp.fdiv 15 + 5 * (pre.length : Int)).fmod 29) ∧ ((sp.fdiv 15 + 5 * (pre.length : Int)).fmod 29) < 29 := ⟨Int.fmod_nonneg_of_pos _ (by decide), Int.fmod_lt_of_pos _ (by decide)⟩
    have b2 : 0 ≤ ((sp + (pre.length : Int)).fmod 15) ∧ ((sp + (pre.length : Int)).fmod 15) < 15 := ⟨Int.fmod_nonneg_of_pos _ (by decide), Int.fmod_lt_of_pos _ (by decide)⟩
    have b3 : 0 ≤ (((sp + (pre.length : Int)).fmod 15).fmod 2) ∧ (((sp + (pre.length : Int)).fmod 15).fmod 2) < 2 := ⟨Int.fmod_nonneg_of_pos _ (by decide), Int.fmod_lt_of_pos _ (by decide)⟩
    have b4 := getD_bnd hu2 (d := 0) (by decide) ((sp.fdiv 15 + 5 * (pre.length : Int)).fmod 29).toNat
    have b5 := getD_bnd (l := [10, 18, 19, 21]) (lo := 0) (hi := 21) (d := 0) (by decide) (by decide) a.toNat
    have b6 := getD_bnd (l := [13261, 223, 64261 + ((sp + (pre.length : Int)).fmod 15).fmod 2, 13240, 32, 890]) (lo := 0) (hi := 64262) (d := 0) (by simp only [List.mem_cons, List.not_mem_nil, or_false, forall_eq_or_imp, forall_eq]; omega) (by decide) (a - 4).toNat
    have cb : 0 ≤ codeF a ((sp + (pre.length : Int)).fmod 15) ∧ codeF a ((sp + (pre.length : Int)).fmod 15) ≤ 1114111 := by unfold codeF; split; omega; split <;> omega
    have pc : typedF sp us (pre ++ [a]) = x9 ++ hidS sp us pre.length ++ ⟨#[(codeF a ((sp + (pre.length : Int)).fmod 15)).toNat]⟩ := by rw [typedF_snoc, ← s9, Str.append_assoc]; rfl
    have hl := hidS_len sp us pre.length
    (try k_fold)
    (try dsimp only)
    (repeat' (first | ((with_reducible show wpAny _ _ (exec (Stmt.If (PySem.Expr.Compare _ _ _ _) _ _ _) _) _ _ _); (fail_if_success (with_reducible show wpAny _ _ (exec (Stmt.If (Expr.Compare (Expr.Name (Str.ofString "form") _) _ _ _) _ _ _) _) _ _ _)); refine stopHere ?_) | ((with_reducible show wpAny _ _ (call (Value.ref _) _) _ _ _); refine opqQ ?_; intro Q5 hQ5; refine callS (concat_spec _ _ _ _ _) ?_ (by ((try dsimp only); (try simp only [Str.length_append]); (try simp only [show ∀ c : Nat, (⟨#[c]⟩ : Str).length = 1 from fun _ => rfl]); omega)); intro v9 new9 h9 tk9 hR9 st9 F9 N9 N10; (obtain ⟨t9, e9, e8⟩ := hR9; subst e9 e8); (try simp only [List.nil_append, List.cons_append] at N10); (try k_sweep); refine finQ hQ5 ?_; clear hQ5; clear Q5; (try dsimp only)) | ((with_reducible show wpAny _ _ (call (Value.type _) [Value.ref _]) _ _ _); (with_unfolding_all refine call_enum_list rfl (by assumption) (IntsAre.areOf (by assumption)) (by assumption) (by assumption) ?_); intro _ _ _ _ _) | (with_reducible refine Mine.toksE ?_; intro _) | (k_unfold; (try dsimp only)) | (k_end; wrow_close) | walk1 | (dsimp only; walk1) | (leave1; (try dsimp only))))
    unfold Stop
    rename Fr _ _ _ _ => FM
    rename News _ _ _ _ => NM
    refine join_store (x := Str.ofString "text") FM NM (fun v => ∃ x t, v = .str x t ∧ x = x9 ++ hidS sp us pre.length) ?_ ?_
    · intro Q3 hJ
      refine wpAny_If ?_
      (repeat' (first | ((with_reducible show wpAny _ _ (exec (Stmt.If (PySem.Expr.Compare _ _ _ _) _ _ _) _) _ _ _); (fail_if_success (with_reducible show wpAny _ _ (exec (Stmt.If (Expr.Compare (Expr.Name (Str.ofString "form") _) _ _ _) _ _ _) _) _ _ _)); refine stopHere ?_) | ((with_reducible show wpAny _ _ (call (Value.ref _) _) _ _ _); refine opqQ ?_; intro Q5 hQ5; refine callS (concat_spec _ _ _ _ _) ?_ (by ((try dsimp only); (try simp only [Str.length_append]); (try simp only [show ∀ c : Nat, (⟨#[c]⟩ : Str).length = 1 from fun _ => rfl]); omega)); intro v9 new9 h9 tk9 hR9 st9 F9 N9 N10; (obtain ⟨t9, e9, e8⟩ := hR9; subst e9 e8); (try simp only [List.nil_append, List.cons_append] at N10); (try k_sweep); refine finQ hQ5 ?_; clear hQ5; clear Q5; (try dsimp only)) | ((with_reducible show wpAny _ _ (call (Value.type _) [Value.ref _]) _ _ _); (with_unfolding_all refine call_enum_list rfl (by assumption) (IntsAre.areOf (by assumption)) (by assumption) (by assumption) ?_); intro _ _ _ _ _) | (with_reducible refine Mine.toksE ?_; intro _) | (k_unfold; (try dsimp only)) | (k_end; wrow_close) | walk1 | (dsimp only; walk1) | (leave1; (try dsimp only))))
      · exact hJ _ _ _ ⟨_, _, rfl, by unfold hidS; rw [if_pos (by assumption)]⟩ (by k_asm) (by k_asm)
      · exact hJ _ _ _ ⟨_, _, rfl, by unfold hidS; rw [if_neg (by assumption), Str.append_empty]⟩ (put_same (by k_asm) rfl) (by k_asm)
    rintro _ h2 tk2 ⟨x2, t2, rfl, hx2⟩ F2 N2
    have lx2 : x2.length ≤ 2 * pre.length + 1 := by rw [hx2, Str.length_append]; omega
    rw [← hx2] at pc
    (try clear FM); (try clear NM); (try clear F9); (try clear N9); clear hl b4
    (try dsimp only)
    (repeat' (first | ((with_reducible show wpAny _ _ (exec (Stmt.If (PySem.Expr.Compare _ _ _ _) _ _ _) _) _ _ _); (fail_if_success (with_reducible show wpAny _ _ (exec (Stmt.If (Expr.Compare (Expr.Name (Str.ofString "form") _) _ _ _) _ _ _) _) _ _ _)); refine stopHere ?_) | ((with_reducible show wpAny _ _ (call (Value.ref _) _) _ _ _); refine opqQ ?_; intro Q5 hQ5; refine callS (concat_spec _ _ _ _ _) ?_ (by ((try dsimp only); (try simp only [Str.length_append]); (try simp only [show ∀ c : Nat, (⟨#[c]⟩ : Str).length = 1 from fun _ => rfl]); omega)); intro v9 new9 h9 tk9 hR9 st9 F9 N9 N10; (obtain ⟨t9, e9, e8⟩ := hR9; subst e9 e8); (try simp only [List.nil_append, List.cons_append] at N10); (try k_sweep); refine finQ hQ5 ?_; clear hQ5; clear Q5; (try dsimp only)) | ((with_reducible show wpAny _ _ (call (Value.type _) [Value.ref _]) _ _ _); (with_unfolding_all refine call_enum_list rfl (by assumption) (IntsAre.areOf (by assumption)) (by assumption) (by assumption) ?_); intro _ _ _ _ _) | (with_reducible refine Mine.toksE ?_; intro _) | (k_unfold; (try dsimp only)) | (k_end; wrow_close) | walk1 | (dsimp only; walk1) | (leave1; (try dsimp only))))
    unfold Stop
    rename Fr _ _ _ _ => FM
    rename News _ _ _ _ => NM
    refine join_store (x := Str.ofString "code") FM NM (fun v => ∃ t, v = .int (codeF a ((sp + (pre.length : Int)).fmod 15)) t) ?_ ?_
    · intro Q3 hJ
      refine wpAny_If ?_
      (repeat' (first | ((with_reducible show wpAny _ _ (exec (Stmt.If (PySem.Expr.Compare _ _ _ _) _ _ _) _) _ _ _); (fail_if_success (with_reducible show wpAny _ _ (exec (Stmt.If (Expr.Compare (Expr.Name (Str.ofString "form") _) _ _ _) _ _ _) _) _ _ _)); refine stopHere ?_) | ((with_reducible show wpAny _ _ (call (Value.ref _) _) _ _ _); refine opqQ ?_; intro Q5 hQ5; refine callS (concat_spec _ _ _ _ _) ?_ (by ((try dsimp only); (try simp only [Str.length_append]); (try simp only [show ∀ c : Nat, (⟨#[c]⟩ : Str).length = 1 from fun _ => rfl]); omega)); intro v9 new9 h9 tk9 hR9 st9 F9 N9 N10; (obtain ⟨t9, e9, e8⟩ := hR9; subst e9 e8); (try simp only [List.nil_append, List.cons_append] at N10); (try k_sweep); refine finQ hQ5 ?_; clear hQ5; clear Q5; (try dsimp only)) | ((with_reducible show wpAny _ _ (call (Value.type _) [Value.ref _]) _ _ _); (with_unfolding_all refine call_enum_list rfl (by assumption) (IntsAre.areOf (by assumption)) (by assumption) (by assumption) ?_); intro _ _ _ _ _) | (with_reducible refine Mine.toksE ?_; intro _) | (k_unfold; (try dsimp only)) | (k_end; wrow_close) | walk1 | (dsimp only; walk1) | (leave1; (try dsimp only))))
      all_goals (
        rename News _ _ _ (_ :: _) => N8
        refine hJ (.int _ _) _ _ ?_ (by k_asm) (fun p hp => N8 p (.tail _ hp))
        refine ⟨_, congrArg (fun z => Value.int z _) ?_⟩
        unfold codeF
        simp only [*, if_true, if_false])
    rintro _ h3 tk3 ⟨t3, rfl⟩ F3 N3
    generalize codeF a ((sp + (pre.length : Int)).fmod 15) = c3 at *
    obtain ⟨cb1, cb2⟩ := cb
    (try clear FM); (try clear NM); (try clear F2); (try clear N2); clear b1 b2 b3 b5 b6
    (try dsimp only)
    (repeat' (first | ((with_reducible show wpAny _ _ (exec (Stmt.If (PySem.Expr.Compare _ _ _ _) _ _ _) _) _ _ _); (fail_if_success (with_reducible show wpAny _ _ (exec (Stmt.If (Expr.Compare (Expr.Name (Str.ofString "form") _) _ _ _) _ _ _) _) _ _ _)); refine stopHere ?_) | ((with_reducible show wpAny _ _ (call (Value.ref _) _) _ _ _); refine opqQ ?_; intro Q5 hQ5; refine callS (concat_spec _ _ _ _ _) ?_ (by ((try dsimp only); (try simp only [Str.length_append]); (try simp only [show ∀ c : Nat, (⟨#[c]⟩ : Str).length = 1 from fun _ => rfl]); omega)); intro v9 new9 h9 tk9 hR9 st9 F9 N9 N10; (obtain ⟨t9, e9, e8⟩ := hR9; subst e9 e8); (try simp only [List.nil_append, List.cons_append] at N10); (try k_sweep); refine finQ hQ5 ?_; clear hQ5; clear Q5; (try dsimp only)) | ((with_reducible show wpAny _ _ (call (Value.type _) [Value.ref _]) _ _ _); (with_unfolding_all refine call_enum_list rfl (by assumption) (IntsAre.areOf (by assumption)) (by assumption) (by assumption) ?_); intro _ _ _ _ _) | (with_reducible refine Mine.toksE ?_; intro _) | (k_unfold; (try dsimp only)) | (k_end; wrow_close) | walk1 | (dsimp only; walk1) | (leave1; (try dsimp only))))
    refine nextS (_, _) (by k_asm) (by k_asm) (fun _ h => nomatch h) (by intro p h; (try simp only [List.nil_append] at h); simp [h]) rfl (List.forall_mem_cons.mpr ⟨rfl, List.forall_mem_nil _⟩) ?_ ?_
    · (intro z h1 h2; (simp only [List.mem_cons, List.not_mem_nil, or_false, forall_eq, forall_eq_or_imp, false_imp_iff, implies_true, and_true] at h1); (simp only [List.contains_cons, List.contains_nil, Bool.or_false, Bool.or_eq_false_iff, beq_eq_false_iff_ne] at h2); (simp [put, lookR, h1, h2]); (try rfl))
    · exact pc.symm
  · rintro ⟨x9, u9⟩ u h9 tk9 s9 F9 N9
    dsimp only [kstB, envOf] at F9 N9 s9
    (repeat' (first | ((with_reducible show wpAny _ _ (exec (Stmt.If (PySem.Expr.Compare _ _ _ _) _ _ _) _) _ _ _); (fail_if_success (with_reducible show wpAny _ _ (exec (Stmt.If (Expr.Compare (Expr.Name (Str.ofString "form") _) _ _ _) _ _ _) _) _ _ _)); refine stopHere ?_) | ((with_reducible show wpAny _ _ (call (Value.ref _) _) _ _ _); refine opqQ ?_; intro Q5 hQ5; refine callS (concat_spec _ _ _ _ _) ?_ (by ((try dsimp only); (try simp only [Str.length_append]); (try simp only [show ∀ c : Nat, (⟨#[c]⟩ : Str).length = 1 from fun _ => rfl]); omega)); intro v9 new9 h9 tk9 hR9 st9 F9 N9 N10; (obtain ⟨t9, e9, e8⟩ := hR9; subst e9 e8); (try simp only [List.nil_append, List.cons_append] at N10); (try k_sweep); refine finQ hQ5 ?_; clear hQ5; clear Q5; (try dsimp only)) | ((with_reducible show wpAny _ _ (call (Value.type _) [Value.ref _]) _ _ _); (with_unfolding_all refine call_enum_list rfl (by assumption) (IntsAre.areOf (by assumption)) (by assumption) (by assumption) ?_); intro _ _ _ _ _) | (with_reducible refine Mine.toksE ?_; intro _) | (k_unfold; (try dsimp only)) | (k_end; wrow_close) | walk1 | (dsimp only; walk1) | (leave1; (try dsimp only))))
    exact hret _ _ _ _ ⟨_, by rw [s9], rfl⟩ (by k_asm) (by k_asm) (by k_asm)
end Mine
end
section
open PySem PySem.W PySem.Calls PyProof.Rows
set_option Elab.async false
set_option maxRecDepth 100000
set_option maxHeartbeats 0
namespace Mine
open PySem.Spec PyProof.V
noncomputable def letF (k : Int) : Str := ([Str.ofString "k", Str.ofString "s", Str.ofString "t", Str.ofString "v", Str.ofString "kk", Str.ofString "ss", Str.ofString "st", Str.ofString "kv", Str.ofString " ", Str.ofString " ι"].getD k.toNat Str.empty)
noncomputable def unseen0 : List Int := [173, 847, 6150, 6155, 6156, 6157, 8203, 8204, 8205, 8288, 65279, 65024, 65025, 65026, 65027, 65028, 65029, 65030, 65031, 65032, 65033, 65034, 65035, 65036, 65037, 65038, 65039]
noncomputable def beside0 : List Int := [172, 174, 846, 848, 6149, 6151, 6154, 6158, 8202, 8206, 8287, 8289, 65278, 65280, 65023, 65040]
theorem find_kv (c : Int) (d : Str) : ∀ (l : List (Int × Str)) (n : Nat), (match (((l.zipIdx n).map fun x => (⟨x.1.1, .int x.1.1 (b3tok x.2), .str x.1.2 (b3tok x.2 + 1)⟩ : DictEntry)).find? (fun e => Value.isInt c e.key)).map (fun e => e.val) with | some (.str x _) => x | _ => d) = ((l.find? (fun p => p.1 == c)).map (·.2)).getD d
  | [], n => rfl
  | p :: l, n => by
    rw [List.zipIdx_cons, List.map_cons, List.find?_cons, List.find?_cons]
    dsimp only [Value.isInt]
    cases p.1 == c
    · exact find_kv c d l (n + 1)
    · rfl
noncomputable def b3G (c : Nat) : Str := ((b3kv.find? (fun p => p.1 == (c : Int))).map (·.2)).getD (Txt.lower ⟨#[c]⟩)
theorem b3_G (c : Nat) : b3F c = b3G c := by
  unfold b3F findBy b3E
  rw [List.find?_toArray]
  exact find_kv c _ b3kv 0
theorem code_ok : ((List.range 10).all fun k => (List.range 15).all fun f => !b1F (codeF k f).toNat && decide (b3G (codeF k f).toNat = letF k)) = true := by decide +kernel
theorem hid_ok : (unseen0.all fun u => b1F u.toNat) = true := by decide +kernel
theorem bes_ok : (beside0.all fun u => !b1F u.toNat && decide (b3G u.toNat = ⟨#[u.toNat]⟩)) = true := by decide +kernel
noncomputable def meantF (ks : List Int) : Str := ks.foldl (fun a k => a ++ letF k) Str.empty
theorem meantF_snoc (ks : List Int) (k : Int) : meantF (ks ++ [k]) = meantF ks ++ letF k := by unfold meantF; rw [List.foldl_append]; rfl
theorem prepF_app (l l' : List Nat) : prepF (l ++ l') = l'.foldl prepStep (prepF l) := by unfold prepF; rw [List.foldl_append]
theorem cps_app (a b : Str) : (a ++ b).cps.toList = a.cps.toList ++ b.cps.toList := by show (a.cps ++ b.cps).toList = _; simp
theorem code_at {k form : Int} (h0 : 0 ≤ k) (h1 : k ≤ 9) (f0 : 0 ≤ form) (f1 : form < 15) : b1F (codeF k form).toNat = false ∧ b3F (codeF k form).toNat = letF k := by
  have := List.all_eq_true.mp (List.all_eq_true.mp code_ok k.toNat (by rw [List.mem_range]; omega)) form.toNat (by rw [List.mem_range]; omega)
  rw [show ((k.toNat : Nat) : Int) = k by omega, show ((form.toNat : Nat) : Int) = form by omega] at this
  rw [b3_G]
  simpa using this
theorem piece_prep (acc : Str) (sp : Int) (i : Nat) (k : Int) (h0 : 0 ≤ k) (h1 : k ≤ 9) (hs : 0 ≤ sp) : (pieceF sp unseen0 i k).cps.toList.foldl prepStep acc = acc ++ letF k := by
  obtain ⟨c1, c2⟩ := code_at h0 h1 (Int.fmod_nonneg_of_pos (sp + (i : Int)) (by decide : (0 : Int) < 15)) (Int.fmod_lt_of_pos (sp + (i : Int)) (by decide : (0 : Int) < 15))
  unfold pieceF
  rw [cps_app, List.foldl_append]
  have step : ∀ a : Str, (⟨#[(codeF k ((sp + (i : Int)).fmod 15)).toNat]⟩ : Str).cps.toList.foldl prepStep a = a ++ letF k := fun a => by
    show prepStep a _ = _
    unfold prepStep
    rw [c1, c2]; rfl
  rw [step]
  congr 1
  by_cases hh : (sp.fdiv 15 + 5 * (i : Int)).fmod 29 < 27
  · rw [if_pos hh]
    have h29 := Int.fmod_nonneg_of_pos (sp.fdiv 15 + 5 * (i : Int)) (by decide : (0 : Int) < 29)
    have hm : unseen0.getD ((sp.fdiv 15 + 5 * (i : Int)).fmod 29).toNat 0 ∈ unseen0 := by
      have hl : ((sp.fdiv 15 + 5 * (i : Int)).fmod 29).toNat < unseen0.length := by show _ < 27; omega
      rw [List.getD_eq_getElem?_getD, List.getElem?_eq_getElem hl]
      exact List.getElem_mem hl
    show prepStep acc _ = acc
    unfold prepStep
    rw [List.all_eq_true.mp hid_ok _ hm]; rfl
  · rw [if_neg hh]; rfl
theorem typed_prep (sp : Int) (hs : 0 ≤ sp) : ∀ (n : Nat) (ks : List Int), ks.length = n → (∀ k ∈ ks, 0 ≤ k ∧ k ≤ 9) → prepF (typedF sp unseen0 ks).cps.toList = meantF ks
  | 0, ks, hl, _ => by
    rw [List.length_eq_zero_iff.mp hl]; rfl
  | n + 1, ks, hl, hk => by
    rcases List.eq_nil_or_concat ks with rfl | ⟨l, k, rfl⟩
    · simp at hl
    · rw [List.concat_eq_append] at hl hk ⊢
      obtain ⟨a, b⟩ := hk k (by simp)
      rw [typedF_snoc, cps_app, prepF_app, typed_prep sp hs n l (by simpa using hl) (fun x hx => hk x (by simp [hx])), piece_prep _ _ _ _ a b hs, meantF_snoc]
theorem told_ok (sp : Int) (hs : 0 ≤ sp) (ks : List Int) (hk : ∀ k ∈ ks, 0 ≤ k ∧ k ≤ 9) (b : Int) (hb : b ∈ beside0) : prepF ((typedF sp unseen0 ks) ++ ⟨#[b.toNat]⟩).cps.toList = meantF ks ++ ⟨#[b.toNat]⟩ := by
  rw [cps_app, prepF_app, typed_prep sp hs _ ks rfl hk]
  have := List.all_eq_true.mp bes_ok b hb
  simp only [Bool.and_eq_true, Bool.not_eq_true', decide_eq_true_eq] at this
  show prepStep _ _ = _
  unfold prepStep
  rw [this.1, b3_G, this.2]; rfl
end Mine
end
section
open PySem PySem.W PySem.Calls PyProof.Rows
set_option Elab.async false
set_option maxRecDepth 100000
set_option maxHeartbeats 0
namespace Mine
open PySem.Spec PyProof.V
theorem mulOk2 {x : Str} (h : x.length ≤ 1000) : MulOk x 2 := by
  refine ⟨by decide, fun _ _ => ?_, fun _ _ => ?_⟩
  · show ¬ ((x.length : Int) > 4611686018427387903)
    omega
  · show decide (x.length * 2 > sizeLine) = false
    rw [decide_eq_false]; show ¬ (x.length * 2 > 16777216); omega
theorem lenMul2 (x : Str) : (Txt.mul x 2).length = 2 * x.length := by
  have := PyProof.Rows.len_mul x 2
  rw [show decide ((2 : Int) < 0) = false from rfl, if_neg Bool.false_ne_true] at this
  omega
noncomputable abbrev tri (a b : Str) (t u : Tok) (d : Bool) : Obj := W.listOf #[.str a t, .str b u, .bool d] 0
noncomputable def blk (n : Int) : Str := Txt.mul (Str.ofString " ") n
noncomputable def nearS (m : Int) : Str := Str.ofString "\t\t" ++ Txt.mul (Str.ofString " ") (m - 1)
noncomputable def farS (m : Int) : Str := Str.ofString "\t\t" ++ Txt.mul (Str.ofString " ") m
noncomputable def twiceS (m : Int) : Str := Str.ofString "\t" ++ Txt.mul (Txt.mul (Str.ofString " ") (m - 1) ++ Str.ofString "\t") 2
noncomputable def PairsR (x : Str) (m : Int) (v : Value) (new : List (Addr × Obj)) : Prop :=
  ∃ (D l0 l1 l2 l3 l4 l5 l6 : Addr) (t0 t1 t2 t3 t4 t5 t6 u0 u1 u2 u3 u4 u5 u6 : Tok), v = .ref D ∧ new = [(D, W.listOf #[.ref l0, .ref l1, .ref l2, .ref l3, .ref l4, .ref l5, .ref l6] 0),
    (l0, tri (x ++ Str.ofString " ") (Str.ofString "\t" ++ x) t0 u0 false), (l1, tri (Str.ofString "\t") (Txt.mul (Str.ofString " ") m ++ Str.ofString "\t") t1 u1 false), (l2, tri (Str.ofString "\t \t") (Str.ofString "\t " ++ Txt.mul (Str.ofString " ") m) t2 u2 false),
    (l3, tri (Str.ofString "\t\t\t") (farS m) t3 u3 false), (l4, tri (farS m) (twiceS m) t4 u4 false), (l5, tri (nearS m) (twiceS m) t5 u5 true), (l6, tri (nearS m) (farS m) t6 u6 true)]
theorem pairs_spec (w : World) (x : Str) (t : Tok) (mm : Int) (tm : Tok) : Spec w 217 2 [.str x t, .int mm tm] (fun g => x.length ≤ 1000 ∧ 2 ≤ mm ∧ mm ≤ 10) (PairsR x mm) := by
  unfold Spec
  k_fill
  intro p loose mean mg mb dp un gd cn cs ad ccd cl outer A₀ base h₀ L m g gens drawn toks os Q E B F X T hk hpre hd hu hret
  refine wpAny_call ?_
  (refine' Mine.code_defE ?k1 ?k2 ?k3 ?k5 ?kA ?kF ?kK ?k6 ?k7 ?k8 ?k9 ?kB ?_ ?c2 ?c3 ?c4 ?c5; (case kA => exact rfl); (case kF => exact rfl); (case kK => assumption); (case k1 => k_asm); (case k2 => k_asm); (case k3 => k_asm); (case k5 => k_asm); (case k6 => k_is); (case k7 => k_is); (case k8 => ktr_room); (case k9 => first | exact BindsTo.of_eq (binds := [(_, _)]) rfl | exact BindsTo.of_eq (binds := [(_, _), (_, _)]) rfl | exact BindsTo.of_eq (binds := [(_, _), (_, _), (_, _)]) rfl | exact BindsTo.of_eq rfl); (case c5 => decide); (case kB => exact locs rfl); (case c2 => exact rfl); (case c3 => exact rfl); (case c4 => exact rfl); k_whole; intro L' h' tk' F' N' B' X' T'; (try dsimp only); (try k_fold))
  obtain ⟨p1, p2, p3⟩ := hpre
  have l1 : (Str.ofString "\t").length = 1 := rfl
  have l2 : (Str.ofString "\t\t").length = 2 := rfl
  have l3 : (Str.ofString " ").length = 1 := rfl
  have l4 : (Txt.mul (Str.ofString " ") (mm - 1)).length ≤ 9 := len_mul_one (c := 32) rfl (by omega)
  have l5 := Str.length_append (Txt.mul (Str.ofString " ") (mm - 1)) (Str.ofString "\t")
  have l6 := lenMul2 (Txt.mul (Str.ofString " ") (mm - 1) ++ Str.ofString "\t")
  (repeat' (first | ((with_reducible show wpAny _ _ (binaryOp _ (Value.str (_ ++ _) _) (Value.int 2 _)) _ _ _); (refine PySem.SB.mul (mulOk2 (by (have l9 : (Str.ofString "\t").length = 1 := rfl); omega)) ?_); k_whole; intro t9 k9; (have l8 := lenMul2 (Txt.mul (Str.ofString " ") _ ++ Str.ofString "\t")); (have l9 : (Str.ofString "\t").length = 1 := rfl)) | (with_reducible refine Mine.toksE ?_; intro _) | (k_unfold; (try dsimp only)) | (k_end; wrow_close) | walk1 | (dsimp only; walk1) | (leave1; (try dsimp only))))
  rename News h₀ L _ _ => N9
  refine' hret (.ref _) [(_, W.listOf #[.ref ?l0, .ref ?l1, .ref ?l2, .ref ?l3, .ref ?l4, .ref ?l5, .ref ?l6] 0), (?l0, tri _ _ ?t0 ?u0 _), (?l1, tri _ _ ?t1 ?u1 _), (?l2, tri _ _ ?t2 ?u2 _), (?l3, tri _ _ ?t3 ?u3 _), (?l4, tri _ _ ?t4 ?u4 _), (?l5, tri _ _ ?t5 ?u5 _), (?l6, tri _ _ ?t6 ?u6 _)] _ _ ⟨_, _, _, _, _, _, _, _, _, _, _, _, _, _, _, _, _, _, _, _, _, _, rfl, rfl⟩ ?S ?F ?N
  case S => k_asm
  case F => k_asm
  case N =>
    iterate 8 (refine List.forall_mem_cons.mpr ⟨N9 _ ?_, ?_⟩; · (repeat (first | exact List.mem_cons_self | apply List.mem_cons_of_mem)))
    exact List.forall_mem_nil _
end Mine
end
section
open PySem PySem.W PySem.Calls PyProof.Rows
set_option Elab.async false
set_option maxRecDepth 100000
set_option maxHeartbeats 0
namespace Mine
open PySem.Spec PyProof.V
/-- a Whitespace as it stands; P: what lies where -/
noncomputable def WsOn (P : Addr → Obj → Prop) (x : Addr) (n nt : Int) (cnt : List Int) (b : Int) : Prop :=
  ∃ (dx tN tC : Addr) (raw : Str) (tr tn tnt tb : Tok) (e : Nat → Int) (k : Nat → Tok) (nn n1 n2 : Nat) (cv : List Value), P x (instObj 83 dx) ∧ P dx (dictOf [⟨e 0, .str (Str.ofString "raw") (k 0), .str raw tr⟩, ⟨e 1, .str (Str.ofString "n") (k 1), .int n tn⟩, ⟨e 2, .str (Str.ofString "nt") (k 2), .int nt tnt⟩, ⟨e 3, .str (Str.ofString "norm") (k 3), .ref tN⟩, ⟨e 4, .str (Str.ofString "is_simple") (k 4), .bool (decide (cnt.length ≤ 1))⟩] nn) ∧
    P tN { cls := .type "tuple", data := .seq #[.ref tC, .int b tb] n1 } ∧ P tC { cls := .type "tuple", data := .seq cv.toArray n2 } ∧ IntsAre cv cnt ∧ cnt.length ≤ 2000
noncomputable def WsIn (h : Heap) : Addr → Int → Int → List Int → Int → Prop := WsOn fun a o => h.get? a = some o
theorem WsOn.mono {P P' : Addr → Obj → Prop} (hp : ∀ a o, P a o → P' a o) {x n nt cnt b} (h : WsOn P x n nt cnt b) : WsOn P' x n nt cnt b := by
  obtain ⟨dx, tN, tC, raw, tr, tn, tnt, tb, e, k, nn, n1, n2, cv, q1, q2, q3, q4, q5, q6⟩ := h
  exact ⟨dx, tN, tC, raw, tr, tn, tnt, tb, e, k, nn, n1, n2, cv, hp _ _ q1, hp _ _ q2, hp _ _ q3, hp _ _ q4, q5, q6⟩
theorem ints_len {vs : List Value} {ns : List Int} (h : IntsAre vs ns) : vs.length = ns.length := by have := ints_size h; simp at this; omega
/-- what a walk asks of it -/
theorem WsIn.facts {h : Heap} {x n nt cnt b} (q : WsIn h x n nt cnt b) : ∃ (dx tN tC : Addr) (raw : Str) (tr tn tnt tb : Tok) (e : Nat → Int) (k : Nat → Tok) (nn : Nat) (cv : List Value), h.get? x = some (instObj 83 dx) ∧ h.get? dx = some (dictOf [⟨e 0, .str (Str.ofString "raw") (k 0), .str raw tr⟩, ⟨e 1, .str (Str.ofString "n") (k 1), .int n tn⟩, ⟨e 2, .str (Str.ofString "nt") (k 2), .int nt tnt⟩, ⟨e 3, .str (Str.ofString "norm") (k 3), .ref tN⟩, ⟨e 4, .str (Str.ofString "is_simple") (k 4), .bool (decide (cnt.length ≤ 1))⟩] nn) ∧
    IsTup h tN #[.ref tC, .int b tb] ∧ IsTup h tC (List.toArray cv) ∧ IntsAre cv cnt ∧ cv.length = cnt.length ∧ cnt.length ≤ 2000 := by
  obtain ⟨dx, tN, tC, raw, tr, tn, tnt, tb, e, k, nn, n1, n2, cv, q1, q2, q3, q4, q5, q6⟩ := q
  exact ⟨dx, tN, tC, raw, tr, tn, tnt, tb, e, k, nn, cv, q1, q2, ⟨_, q3, rfl, _, rfl⟩, ⟨_, q4, rfl, _, rfl⟩, q5, ints_len q5, q6⟩
theorem InstAt.ofHeap {h : Heap} {x C dx : Addr} {od : Obj} (h1 : h.get? x = some (instObj C dx)) (h2 : h.get? dx = some od) : InstAt h x (instObj C dx) C (some od) := ⟨h1, rfl, rfl, h2⟩
local macro_rules | `(tactic| k_inst) => `(tactic| (refine' InstAt.ofHeap ?h1 ?h2; (case h1 => first | assumption | exact Fr.keep (by k_asm) _ _ (by assumption)); (case h2 => first | assumption | exact Fr.keep (by k_asm) _ _ (by assumption))))
local macro_rules | `(tactic| walk_at "pyIter ref") => `(tactic| (k_here; refine' stopHere ?_))
noncomputable def indL (ts : Int) (cnt : List Int) : Nat → Int
  | 0 => 0
  | k + 1 => indL ts cnt k + (ts + (k : Int)).fdiv ts * cnt.getD (ts + (k : Int)).toNat 0
theorem indL_bnd {ts : Int} {cnt : List Int} (h1 : 1 ≤ ts) (hc : ∀ c ∈ cnt, 0 ≤ c ∧ c ≤ 100000) : ∀ n : Nat, ts + (n : Int) ≤ 200000 → 0 ≤ indL ts cnt n ∧ indL ts cnt n ≤ 200000 * 100000 * (n : Int)
  | 0, _ => ⟨Int.le_refl _, by simp [indL]⟩
  | n + 1, hn => by
    obtain ⟨a, b⟩ := indL_bnd h1 hc n (by omega)
    have g := getD_bnd (d := 0) hc (by decide) (ts + (n : Int)).toNat
    have f0 : 0 ≤ (ts + (n : Int)).fdiv ts := Int.fdiv_nonneg (by omega) (by omega)
    have f1 : (ts + (n : Int)).fdiv ts ≤ 200000 := by
      rw [Int.fdiv_eq_ediv_of_nonneg _ (by omega : 0 ≤ ts)]
      exact Int.le_trans (Int.ediv_le_self _ (by omega)) (by omega)
    have m0 := Int.mul_nonneg f0 g.1
    have m1 := Int.mul_le_mul f1 g.2 g.1 (by decide : (0 : Int) ≤ 200000)
    show 0 ≤ indL ts cnt n + _ ∧ indL ts cnt n + _ ≤ _
    have e : ((n + 1 : Nat) : Int) = (n : Int) + 1 := rfl
    rw [e]
    omega
theorem indent_spec (w : World) (x : Addr) (ts : Int) (tt : Tok) (n nt : Int) (cnt : List Int) (b : Int) : Spec w 52 2 [.ref x, .int ts tt] (fun g => WsIn g x n nt cnt b ∧ 1 ≤ ts ∧ ts ≤ 100000 ∧ (∀ c ∈ cnt, 0 ≤ c ∧ c ≤ 100000) ∧ 0 ≤ nt ∧ nt ≤ 100000 ∧ 0 ≤ b ∧ b ≤ 100000) (fun v new => ∃ t, v = .int (b + ts * (indL ts cnt (cnt.length - ts).toNat + nt)) t ∧ new = []) := by
  unfold Spec
  k_fill
  intro p loose mean mg mb dp un gd cn cs ad ccd cl outer A₀ base h₀ L m g gens drawn toks os Q E B F X T hk hpre hd hu hret
  refine wpAny_call ?_
  (refine' Mine.code_defE ?k1 ?k2 ?k3 ?k5 ?kA ?kF ?kK ?k6 ?k7 ?k8 ?k9 ?kB ?_ ?c2 ?c3 ?c4 ?c5; (case kA => exact rfl); (case kF => exact rfl); (case kK => assumption); (case k1 => k_asm); (case k2 => k_asm); (case k3 => k_asm); (case k5 => k_asm); (case k6 => k_is); (case k7 => k_is); (case k8 => ktr_room); (case k9 => first | exact BindsTo.of_eq (binds := [(_, _)]) rfl | exact BindsTo.of_eq (binds := [(_, _), (_, _)]) rfl | exact BindsTo.of_eq (binds := [(_, _), (_, _), (_, _)]) rfl | exact BindsTo.of_eq rfl); (case c5 => decide); (case kB => exact locs rfl); (case c2 => exact rfl); (case c3 => exact rfl); (case c4 => exact rfl); k_whole; intro L' h' tk' F' N' B' X' T'; (try dsimp only); (try k_fold))
  obtain ⟨hws, q8, q9, q10, q11, q12, q13, q14⟩ := hpre
  obtain ⟨dx, tN, tC, raw, tr, tn, tnt, tb, e, k, nn, cv, q1, q2, q3, q4, q5, q6, q7⟩ := hws.facts
  (repeat' (first | ((with_reducible show wpAny _ _ (exec (Stmt.For (PySem.Expr.Name _ _) (PySem.Expr.Name _ _) (_ :: _) [] _) _) _ _ _); (rename Fr _ _ _ _ => lFz9); (with_unfolding_all refine For_invVF lFz9 (by exact rfl) (by exact rfl) ?_)) | ((with_reducible show wpAny _ _ (call (Value.builtin _) [Value.ref _]) _ _ _); k_dflt (refine len_tuple (IsTup.keeps (by assumption) (Fr.keep (by k_asm))) (by (simp only [List.size_toArray]; omega)) ?_)) | (with_reducible refine Mine.toksE ?_; intro _) | (k_unfold; (try dsimp only)) | (k_end; wrow_close) | walk1 | (dsimp only; walk1) | (leave1; (try dsimp only))))
  unfold Stop
  rename IsRange _ _ _ _ _ _ _ _ => rgX
  refine rangeS (n := ((cnt.length : Int) - ts).toNat) (σ := Int × Tok) (fun _ => []) (fun c => [(Str.ofString "il", .int c.1 c.2)]) [Str.ofString "i"] (fun i d => d.1 = indL ts cnt i) (_, _) (by exact rfl) rgX (small_one (by omega) (by omega) (by omega) (by omega)) (rangeSize_nat _ _) (by k_asm) News.nil (List.forall_mem_cons.mpr ⟨rfl, List.forall_mem_nil _⟩) rfl ?_ ?_
  · rintro i ⟨x9, u9⟩ t9 u h9 tk9 own9 e9 o9 s9 F9 N9
    dsimp only [kstB, envOf] at F9 N9 s9
    have gb := getD_bnd (d := 0) q10 (by decide) (ts + (i : Int)).toNat
    have f0 : 0 ≤ (ts + (i : Int)).fdiv ts := Int.fdiv_nonneg (by omega) (by omega)
    have f1 : (ts + (i : Int)).fdiv ts ≤ 200000 := by
      rw [Int.fdiv_eq_ediv_of_nonneg _ (by omega : 0 ≤ ts)]
      exact Int.le_trans (Int.ediv_le_self _ (by omega)) (by omega)
    have gb1 := gb.1
    have gb2 := gb.2
    clear gb
    (try k_fold)
    (repeat' (first | ((with_reducible show wpAny _ _ (exec (Stmt.For (PySem.Expr.Name _ _) (PySem.Expr.Name _ _) (_ :: _) [] _) _) _ _ _); (rename Fr _ _ _ _ => lFz9); (with_unfolding_all refine For_invVF lFz9 (by exact rfl) (by exact rfl) ?_)) | ((with_reducible show wpAny _ _ (call (Value.builtin _) [Value.ref _]) _ _ _); k_dflt (refine len_tuple (IsTup.keeps (by assumption) (Fr.keep (by k_asm))) (by (simp only [List.size_toArray]; omega)) ?_)) | (with_reducible refine Mine.toksE ?_; intro _) | (k_unfold; (try dsimp only)) | (k_end; wrow_close) | walk1 | (dsimp only; walk1) | (leave1; (try dsimp only))))
    refine nextS (_, _) (by k_asm) (by k_asm) (fun _ h => nomatch h) (by intro p h; (try simp only [List.nil_append] at h); simp [h]) rfl (List.forall_mem_cons.mpr ⟨rfl, List.forall_mem_nil _⟩) ?_ ?_
    · (intro z h1 h2; (simp only [List.mem_cons, List.not_mem_nil, or_false, forall_eq, forall_eq_or_imp, false_imp_iff, implies_true, and_true] at h1); (simp only [List.contains_cons, List.contains_nil, Bool.or_false, Bool.or_eq_false_iff, beq_eq_false_iff_ne] at h2); (simp [put, lookR, h1, h2]); (try rfl))
    · show x9 + _ = _
      rw [s9]; rfl
  · rintro ⟨x9, u9⟩ u h9 tk9 s9 F9 N9
    dsimp only [kstB, envOf] at F9 N9 s9
    (repeat' (first | ((with_reducible show wpAny _ _ (exec (Stmt.For (PySem.Expr.Name _ _) (PySem.Expr.Name _ _) (_ :: _) [] _) _) _ _ _); (rename Fr _ _ _ _ => lFz9); (with_unfolding_all refine For_invVF lFz9 (by exact rfl) (by exact rfl) ?_)) | ((with_reducible show wpAny _ _ (call (Value.builtin _) [Value.ref _]) _ _ _); k_dflt (refine len_tuple (IsTup.keeps (by assumption) (Fr.keep (by k_asm))) (by (simp only [List.size_toArray]; omega)) ?_)) | (with_reducible refine Mine.toksE ?_; intro _) | (k_unfold; (try dsimp only)) | (k_end; wrow_close) | walk1 | (dsimp only; walk1) | (leave1; (try dsimp only))))
    exact hret _ _ _ _ ⟨_, by rw [s9], rfl⟩ (by k_asm) (by k_asm) (by k_asm)
noncomputable def longF (cnt : List Int) (b : Int) : Int := if b > (cnt.length : Int) - 1 then b else (cnt.length : Int) - 1
theorem longest_spec (w : World) (x : Addr) (n nt : Int) (cnt : List Int) (b : Int) : Spec w 45 2 [.ref x] (fun g => WsIn g x n nt cnt b) (fun v new => ∃ t, v = .int (longF cnt b) t ∧ new = []) := by
  unfold Spec
  k_fill
  intro p loose mean mg mb dp un gd cn cs ad ccd cl outer A₀ base h₀ L m g gens drawn toks os Q E B F X T hk hpre hd hu hret
  refine wpAny_call ?_
  (refine' Mine.code_defE ?k1 ?k2 ?k3 ?k5 ?kA ?kF ?kK ?k6 ?k7 ?k8 ?k9 ?kB ?_ ?c2 ?c3 ?c4 ?c5; (case kA => exact rfl); (case kF => exact rfl); (case kK => assumption); (case k1 => k_asm); (case k2 => k_asm); (case k3 => k_asm); (case k5 => k_asm); (case k6 => k_is); (case k7 => k_is); (case k8 => ktr_room); (case k9 => first | exact BindsTo.of_eq (binds := [(_, _)]) rfl | exact BindsTo.of_eq (binds := [(_, _), (_, _)]) rfl | exact BindsTo.of_eq (binds := [(_, _), (_, _), (_, _)]) rfl | exact BindsTo.of_eq rfl); (case c5 => decide); (case kB => exact locs rfl); (case c2 => exact rfl); (case c3 => exact rfl); (case c4 => exact rfl); k_whole; intro L' h' tk' F' N' B' X' T'; (try dsimp only); (try k_fold))
  obtain ⟨dx, tN, tC, raw, tr, tn, tnt, tb, e, k, nn, cv, q1, q2, q3, q4, q5, q6, q7⟩ := hpre.facts
  (repeat' (first | ((with_reducible show wpAny _ _ (exec (Stmt.For (PySem.Expr.Name _ _) (PySem.Expr.Name _ _) (_ :: _) [] _) _) _ _ _); (rename Fr _ _ _ _ => lFz9); (with_unfolding_all refine For_invVF lFz9 (by exact rfl) (by exact rfl) ?_)) | ((with_reducible show wpAny _ _ (call (Value.builtin _) [Value.ref _]) _ _ _); k_dflt (refine len_tuple (IsTup.keeps (by assumption) (Fr.keep (by k_asm))) (by (simp only [List.size_toArray]; omega)) ?_)) | (with_reducible refine Mine.toksE ?_; intro _) | (k_unfold; (try dsimp only)) | (k_end; wrow_close) | walk1 | (dsimp only; walk1) | (leave1; (try dsimp only))))
  exact hret _ _ _ _ ⟨_, by unfold longF; rw [List.size_toArray, q6], rfl⟩ (by k_asm) (by k_asm) (by k_asm)
theorem ws_reads {h : Heap} {tN tC : Addr} {b : Int} {tb : Tok} {cv : List Value} {cnt : List Int} (h1 : IsTup h tN #[.ref tC, .int b tb]) (h2 : IsTup h tC cv.toArray) (h3 : IntsAre cv cnt) : Reads h (.ref tN) (.tuple [.tuple (cnt.map .int), .int b]) [] := by
  obtain ⟨o, ho, hc, n, hd⟩ := h1
  exact reads_tuple_at ho hc hd (.cons (reads_newDataT h2 (ke_carried h3)) (.cons (.int _ _) .nil))
theorem ws_shaped (cnt : List Int) (b : Int) : SeqAt.shaped (.tuple [.tuple (cnt.map .int), .int b]) = true := by
  simp [SeqAt.shaped, PyData.canLay0, PyData.canLayAll0, PyData.depth, PyData.depthAll, ke_canLayAll0, ke_depthAll]
theorem ws_eqv (cnt cnt' : List Int) (b b' : Int) : PyData.eqv (.tuple [.tuple (cnt.map .int), .int b]) (.tuple [.tuple (cnt'.map .int), .int b']) = decide (cnt = cnt' ∧ b = b') := by
  simp only [PyData.eqv, PyData.eqvAll, ked_eqvAll, Bool.and_true, Bool.decide_and]; rfl
theorem ws_cmp {prog : Program} {w : World} {A : Around} {E : Value → Shared → Prop} {s : Shared} {Q : Value → Shared → Prop} {h : Heap} {tN tC tN' tC' : Addr} {b b' : Int} {tb tb' : Tok} {cv cv' : List Value} {cnt cnt' : List Int} (k : ∀ b o, h.get? b = some o → s.heap.get? b = some o) (h1 : IsTup h tN #[.ref tC, .int b tb]) (h2 : IsTup h tC cv.toArray) (h3 : IntsAre cv cnt)
    (h1' : IsTup h tN' #[.ref tC', .int b' tb']) (h2' : IsTup h tC' cv'.toArray) (h3' : IntsAre cv' cnt') (hu : A.units + 64 < cLine) (hq : Q (.bool (decide (cnt = cnt' ∧ b = b'))) s) : wpAny (model prog w) A (compareOp .Eq (.ref tN) (.ref tN')) Q E s :=
  eq_dataH (ws_reads (h1.keeps k) (h2.keeps k) h3) (ws_reads (h1'.keeps k) (h2'.keeps k) h3') (ws_shaped _ _) (ws_shaped _ _) hu (by rw [ws_eqv]; exact hq)
theorem equal_spec (w : World) (x y : Addr) (n nt : Int) (cnt : List Int) (b : Int) (n' nt' : Int) (cnt' : List Int) (b' : Int) : Spec w 59 12 [.ref x, .ref y] (fun g => WsIn g x n nt cnt b ∧ WsIn g y n' nt' cnt' b') (fun v new => v = .bool (decide (cnt = cnt' ∧ b = b')) ∧ new = []) := by
  unfold Spec
  k_fill
  intro p loose mean mg mb dp un gd cn cs ad ccd cl outer A₀ base h₀ L m g gens drawn toks os Q E B F X T hk hpre hd hu hret
  refine wpAny_call ?_
  (refine' Mine.code_defE ?k1 ?k2 ?k3 ?k5 ?kA ?kF ?kK ?k6 ?k7 ?k8 ?k9 ?kB ?_ ?c2 ?c3 ?c4 ?c5; (case kA => exact rfl); (case kF => exact rfl); (case kK => assumption); (case k1 => k_asm); (case k2 => k_asm); (case k3 => k_asm); (case k5 => k_asm); (case k6 => k_is); (case k7 => k_is); (case k8 => ktr_room); (case k9 => first | exact BindsTo.of_eq (binds := [(_, _)]) rfl | exact BindsTo.of_eq (binds := [(_, _), (_, _)]) rfl | exact BindsTo.of_eq (binds := [(_, _), (_, _), (_, _)]) rfl | exact BindsTo.of_eq rfl); (case c5 => decide); (case kB => exact locs rfl); (case c2 => exact rfl); (case c3 => exact rfl); (case c4 => exact rfl); k_whole; intro L' h' tk' F' N' B' X' T'; (try dsimp only); (try k_fold))
  obtain ⟨h1, h2⟩ := hpre
  obtain ⟨dx, tN, tC, raw, tr, tn, tnt, tb, e, k, nn, cv, q1, q2, q3, q4, q5, q6, q7⟩ := h1.facts
  obtain ⟨dx', tN', tC', raw', tr', tn', tnt', tb', e', k', nn', cv', q1', q2', q3', q4', q5', q6', q7'⟩ := h2.facts
  (repeat' (first | ((with_reducible show wpAny _ _ (compareOp CmpOp.Eq (Value.ref _) (Value.ref _)) _ _ _); k_dflt (refine ws_cmp (h := _) (Fr.keep (by k_asm)) (by assumption) (by assumption) (by assumption) (by assumption) (by assumption) (by assumption) (by ke_room) ?_)) | ((with_reducible show wpAny _ _ (exec (Stmt.For (PySem.Expr.Name _ _) (PySem.Expr.Name _ _) (_ :: _) [] _) _) _ _ _); (rename Fr _ _ _ _ => lFz9); (with_unfolding_all refine For_invVF lFz9 (by exact rfl) (by exact rfl) ?_)) | ((with_reducible show wpAny _ _ (call (Value.builtin _) [Value.ref _]) _ _ _); k_dflt (refine len_tuple (IsTup.keeps (by assumption) (Fr.keep (by k_asm))) (by (simp only [List.size_toArray]; omega)) ?_)) | (with_reducible refine Mine.toksE ?_; intro _) | (k_unfold; (try dsimp only)) | (k_end; wrow_close) | walk1 | (dsimp only; walk1) | (leave1; (try dsimp only))))
  exact hret _ _ _ _ ⟨rfl, rfl⟩ (by k_asm) (by k_asm) (by k_asm)
end Mine
end
section
open PySem PySem.W PySem.Calls PyProof.Rows
set_option Elab.async false
set_option maxRecDepth 100000
set_option maxHeartbeats 0
namespace Mine
open PySem.Spec PyProof.V
local macro_rules | `(tactic| k_inst) => `(tactic| (refine' InstAt.ofHeap ?h1 ?h2; (case h1 => first | assumption | exact Fr.keep (by k_asm) _ _ (by assumption)); (case h2 => first | assumption | exact Fr.keep (by k_asm) _ _ (by assumption))))
local macro_rules | `(tactic| walk_at "pyIter ref") => `(tactic| (k_here; refine' stopHere ?_))
noncomputable def indF (n nt : Int) (cnt : List Int) (b ts : Int) : Int := b + ts * (indL ts cnt (cnt.length - ts).toNat + nt)
/-- sizes of a Whitespace's parts -/
structure WsOk (n nt : Int) (cnt : List Int) (b : Int) : Prop where
  n0 : 0 ≤ n ∧ n ≤ 100000
  cnt0 : ∀ c ∈ cnt, 0 ≤ c ∧ c ≤ 100000
  nt0 : 0 ≤ nt ∧ nt ≤ 100000
  b0 : 0 ≤ b ∧ b ≤ 2000
noncomputable def allTs (f g : Int → Int) : Nat → Bool
  | 0 => true
  | k + 1 => allTs f g k && decide (f (2 + (k : Int)) < g (2 + (k : Int)))
noncomputable def lessF (n nt : Int) (cnt : List Int) (b : Int) (n' nt' : Int) (cnt' : List Int) (b' : Int) : Bool :=
  if n ≥ n' then false else if cnt.length ≤ 1 ∧ cnt'.length ≤ 1 then decide (nt ≤ nt') else
    allTs (indF n nt cnt b) (indF n' nt' cnt' b') ((if longF cnt' b' > longF cnt b then longF cnt' b' else longF cnt b) + 1 + 1 - 2).toNat
theorem allTs_false {f g : Int → Int} {i : Nat} (h2 : ¬ f (2 + (i : Int)) < g (2 + (i : Int))) : ∀ {n : Nat}, i < n → allTs f g n = false
  | n + 1, h => by
    unfold allTs
    rcases Nat.lt_succ_iff_lt_or_eq.mp h with h | h
    · rw [allTs_false h2 h]; rfl
    · rw [← h, decide_eq_false h2, Bool.and_false]
theorem WsIn.keep {g h : Heap} {x n nt cnt b} (q : WsIn g x n nt cnt b) (k : g.StaysIn h) : WsIn h x n nt cnt b := WsOn.mono (fun a o e => k a o e) q
theorem less_spec (w : World) (x y : Addr) (n nt : Int) (cnt : List Int) (b : Int) (n' nt' : Int) (cnt' : List Int) (b' : Int) (ok : WsOk n nt cnt b) (ok' : WsOk n' nt' cnt' b') : Spec w 73 4 [.ref x, .ref y] (fun g => WsIn g x n nt cnt b ∧ WsIn g y n' nt' cnt' b') (fun v new => v = .bool (lessF n nt cnt b n' nt' cnt' b') ∧ new = []) := by
  unfold Spec
  k_fill
  intro p loose mean mg mb dp un gd cn cs ad ccd cl outer A₀ base h₀ L m g gens drawn toks os Q E B F X T hk hpre hd hu hret
  refine wpAny_call ?_
  (refine' Mine.code_defE ?k1 ?k2 ?k3 ?k5 ?kA ?kF ?kK ?k6 ?k7 ?k8 ?k9 ?kB ?_ ?c2 ?c3 ?c4 ?c5; (case kA => exact rfl); (case kF => exact rfl); (case kK => assumption); (case k1 => k_asm); (case k2 => k_asm); (case k3 => k_asm); (case k5 => k_asm); (case k6 => k_is); (case k7 => k_is); (case k8 => ktr_room); (case k9 => first | exact BindsTo.of_eq (binds := [(_, _)]) rfl | exact BindsTo.of_eq (binds := [(_, _), (_, _)]) rfl | exact BindsTo.of_eq (binds := [(_, _), (_, _), (_, _)]) rfl | exact BindsTo.of_eq rfl); (case c5 => decide); (case kB => exact locs rfl); (case c2 => exact rfl); (case c3 => exact rfl); (case c4 => exact rfl); k_whole; intro L' h' tk' F' N' B' X' T'; (try dsimp only); (try k_fold))
  obtain ⟨h1, h2⟩ := hpre
  obtain ⟨dx, tN, tC, raw, tr, tn, tnt, tb, e, k, nn, cv, q1, q2, q3, q4, q5, q6, q7⟩ := h1.facts
  obtain ⟨dx', tN', tC', raw', tr', tn', tnt', tb', e', k', nn', cv', q1', q2', q3', q4', q5', q6', q7'⟩ := h2.facts
  refine opqE (env := envOf _ _ L' _ _) (by passes_own) ?_
  intro Q1 E1 hQ1 hP1
  (repeat' (first | ((with_reducible show wpAny _ _ (call (Value.ref _) _) _ _ _); refine opqQ ?_; intro Q5 hQ5; refine callS (indent_spec _ _ _ _ _ _ _ _) ?_ (by (exact ⟨WsIn.keep (by assumption) (Fr.keep (by k_asm)), by omega, by omega, WsOk.cnt0 (by assumption), by omega, by omega, by omega, by omega⟩)); intro v9 new9 h9 tk9 hR9 st9 F9 N9 N10; (obtain ⟨t9, e9, e8⟩ := hR9; subst e9 e8); (try simp only [List.nil_append, List.cons_append] at N10); (try k_sweep); refine finQ hQ5 ?_; clear hQ5; clear Q5; (try dsimp only)) | ((with_reducible show wpAny _ _ (call (Value.ref _) _) _ _ _); refine opqQ ?_; intro Q5 hQ5; refine callS (longest_spec _ _ _ _ _ _) ?_ (by (exact WsIn.keep (by assumption) (Fr.keep (by k_asm)))); intro v9 new9 h9 tk9 hR9 st9 F9 N9 N10; (obtain ⟨t9, e9, e8⟩ := hR9; subst e9 e8); (try simp only [List.nil_append, List.cons_append] at N10); (try k_sweep); refine finQ hQ5 ?_; clear hQ5; clear Q5; (try dsimp only)) | ((with_reducible show wpAny _ _ (exec (Stmt.For (PySem.Expr.Name _ _) (PySem.Expr.Name _ _) (_ :: _) [] _) _) _ _ _); (rename Fr _ _ _ _ => lFz9); (with_unfolding_all refine For_invVF lFz9 (by exact rfl) (by exact rfl) ?_)) | (with_reducible refine Mine.toksE ?_; intro _) | (k_unfold; (try dsimp only)) | (k_end; wrow_close) | walk1 | (dsimp only; walk1) | (leave1; (try dsimp only))))
  · exact hret _ _ _ _ ⟨by unfold lessF; rw [if_pos (by assumption)], rfl⟩ (by k_asm) (by k_asm) (by k_asm)
  · exact hret _ _ _ _ ⟨by unfold lessF; rw [if_neg (by assumption), if_pos ⟨by assumption, by assumption⟩], rfl⟩ (by k_asm) (by k_asm) (by k_asm)
  all_goals (
    unfold Stop
    have hlF : lessF n nt cnt b n' nt' cnt' b' = allTs (indF n nt cnt b) (indF n' nt' cnt' b') ((if longF cnt' b' > longF cnt b then longF cnt' b' else longF cnt b) + 1 + 1 - 2).toNat := by
      unfold lessF; rw [if_neg (by assumption), if_neg (by omega)]
    have lg1 : longF cnt b ≤ 2000 := by have := ok.b0; unfold longF; split <;> omega
    have lg2 : longF cnt' b' ≤ 2000 := by have := ok'.b0; unfold longF; split <;> omega
    have lg3 : 0 ≤ longF cnt b := by have := ok.b0; unfold longF; split <;> omega
    have lg4 : 0 ≤ longF cnt' b' := by have := ok'.b0; unfold longF; split <;> omega
    obtain ⟨o1, o2⟩ := ok.nt0
    obtain ⟨o3, o4⟩ := ok'.nt0
    obtain ⟨o5, o6⟩ := ok.b0
    obtain ⟨o7, o8⟩ := ok'.b0
    have lg5 : 0 ≤ (if longF cnt' b' > longF cnt b then longF cnt' b' else longF cnt b) ∧ (if longF cnt' b' > longF cnt b then longF cnt' b' else longF cnt b) ≤ 2000 := by split <;> omega
    generalize (if longF cnt' b' > longF cnt b then longF cnt' b' else longF cnt b) = mx at *
    obtain ⟨lg6, lg7⟩ := lg5
    rename IsRange _ _ _ _ _ _ _ _ => rgX
    refine rangeS (n := (mx + 1 + 1 - 2).toNat) (σ := Unit) (fun _ => []) (fun c => []) [Str.ofString "ts"] (fun i d => allTs (indF n nt cnt b) (indF n' nt' cnt' b') i = true) () (by exact rfl) rgX (small_one (by omega) (by omega) (by omega) (by omega)) (rangeSize_nat _ _) (by k_asm) News.nil (fun _ h => nomatch h) rfl ?_ ?_
    · rintro i c9 t9 u h9 tk9 own9 e9 o9 s9 F9 N9
      dsimp only [kstB, envOf] at F9 N9
      (try k_fold)
      refine opqQ fun Q2 hQ2 => ?_
      (repeat' (first | ((with_reducible show wpAny _ _ (call (Value.ref _) _) _ _ _); refine opqQ ?_; intro Q5 hQ5; refine callS (indent_spec _ _ _ _ _ _ _ _) ?_ (by (exact ⟨WsIn.keep (by assumption) (Fr.keep (by k_asm)), by omega, by omega, WsOk.cnt0 (by assumption), by omega, by omega, by omega, by omega⟩)); intro v9 new9 h9 tk9 hR9 st9 F9 N9 N10; (obtain ⟨t9, e9, e8⟩ := hR9; subst e9 e8); (try simp only [List.nil_append, List.cons_append] at N10); (try k_sweep); refine finQ hQ5 ?_; clear hQ5; clear Q5; (try dsimp only)) | ((with_reducible show wpAny _ _ (call (Value.ref _) _) _ _ _); refine opqQ ?_; intro Q5 hQ5; refine callS (longest_spec _ _ _ _ _ _) ?_ (by (exact WsIn.keep (by assumption) (Fr.keep (by k_asm)))); intro v9 new9 h9 tk9 hR9 st9 F9 N9 N10; (obtain ⟨t9, e9, e8⟩ := hR9; subst e9 e8); (try simp only [List.nil_append, List.cons_append] at N10); (try k_sweep); refine finQ hQ5 ?_; clear hQ5; clear Q5; (try dsimp only)) | ((with_reducible show wpAny _ _ (exec (Stmt.For (PySem.Expr.Name _ _) (PySem.Expr.Name _ _) (_ :: _) [] _) _) _ _ _); (rename Fr _ _ _ _ => lFz9); (with_unfolding_all refine For_invVF lFz9 (by exact rfl) (by exact rfl) ?_)) | (with_reducible refine Mine.toksE ?_; intro _) | (k_unfold; (try dsimp only)) | (k_end; wrow_close) | walk1 | (dsimp only; walk1) | (leave1; (try dsimp only))))
      · have af : allTs (indF n nt cnt b) (indF n' nt' cnt' b') (mx + 1 + 1 - 2).toNat = false := allTs_false (by unfold indF; omega) e9
        (try dsimp only)
        (try dsimp +zetaDelta only)
        unfold PostS
        (try dsimp only)
        (try dsimp +zetaDelta only)
        (repeat' (first | ((with_reducible show wpAny _ _ (call (Value.ref _) _) _ _ _); refine opqQ ?_; intro Q5 hQ5; refine callS (indent_spec _ _ _ _ _ _ _ _) ?_ (by (exact ⟨WsIn.keep (by assumption) (Fr.keep (by k_asm)), by omega, by omega, WsOk.cnt0 (by assumption), by omega, by omega, by omega, by omega⟩)); intro v9 new9 h9 tk9 hR9 st9 F9 N9 N10; (obtain ⟨t9, e9, e8⟩ := hR9; subst e9 e8); (try simp only [List.nil_append, List.cons_append] at N10); (try k_sweep); refine finQ hQ5 ?_; clear hQ5; clear Q5; (try dsimp only)) | ((with_reducible show wpAny _ _ (call (Value.ref _) _) _ _ _); refine opqQ ?_; intro Q5 hQ5; refine callS (longest_spec _ _ _ _ _ _) ?_ (by (exact WsIn.keep (by assumption) (Fr.keep (by k_asm)))); intro v9 new9 h9 tk9 hR9 st9 F9 N9 N10; (obtain ⟨t9, e9, e8⟩ := hR9; subst e9 e8); (try simp only [List.nil_append, List.cons_append] at N10); (try k_sweep); refine finQ hQ5 ?_; clear hQ5; clear Q5; (try dsimp only)) | ((with_reducible show wpAny _ _ (exec (Stmt.For (PySem.Expr.Name _ _) (PySem.Expr.Name _ _) (_ :: _) [] _) _) _ _ _); (rename Fr _ _ _ _ => lFz9); (with_unfolding_all refine For_invVF lFz9 (by exact rfl) (by exact rfl) ?_)) | (with_reducible refine Mine.toksE ?_; intro _) | (k_unfold; (try dsimp only)) | (k_end; wrow_close) | walk1 | (dsimp only; walk1) | (leave1; (try dsimp only))))
        exact hret _ _ _ _ ⟨by rw [hlF, af], rfl⟩ (by k_asm) (by k_asm) News.nil
      · refine nextS () (by k_asm) (by k_asm) (fun _ h => nomatch h) (by intro p h; (try simp only [List.nil_append] at h); simp [h]) rfl (fun _ h => nomatch h) ?_ ?_
        · (intro z h1 h2; (simp only [List.mem_cons, List.not_mem_nil, or_false, forall_eq, forall_eq_or_imp, false_imp_iff, implies_true, and_true] at h1); (simp only [List.contains_cons, List.contains_nil, Bool.or_false, Bool.or_eq_false_iff, beq_eq_false_iff_ne] at h2); (simp [put, lookR, h1, h2]); (try rfl))
        · show allTs _ _ (i + 1) = true
          unfold allTs
          rw [s9, Bool.true_and, decide_eq_true_eq]
          unfold indF; omega
    · rintro c9 u h9 tk9 s9 F9 N9
      dsimp only [kstB, envOf] at F9 N9
      (repeat' (first | ((with_reducible show wpAny _ _ (call (Value.ref _) _) _ _ _); refine opqQ ?_; intro Q5 hQ5; refine callS (indent_spec _ _ _ _ _ _ _ _) ?_ (by (exact ⟨WsIn.keep (by assumption) (Fr.keep (by k_asm)), by omega, by omega, WsOk.cnt0 (by assumption), by omega, by omega, by omega, by omega⟩)); intro v9 new9 h9 tk9 hR9 st9 F9 N9 N10; (obtain ⟨t9, e9, e8⟩ := hR9; subst e9 e8); (try simp only [List.nil_append, List.cons_append] at N10); (try k_sweep); refine finQ hQ5 ?_; clear hQ5; clear Q5; (try dsimp only)) | ((with_reducible show wpAny _ _ (call (Value.ref _) _) _ _ _); refine opqQ ?_; intro Q5 hQ5; refine callS (longest_spec _ _ _ _ _ _) ?_ (by (exact WsIn.keep (by assumption) (Fr.keep (by k_asm)))); intro v9 new9 h9 tk9 hR9 st9 F9 N9 N10; (obtain ⟨t9, e9, e8⟩ := hR9; subst e9 e8); (try simp only [List.nil_append, List.cons_append] at N10); (try k_sweep); refine finQ hQ5 ?_; clear hQ5; clear Q5; (try dsimp only)) | ((with_reducible show wpAny _ _ (exec (Stmt.For (PySem.Expr.Name _ _) (PySem.Expr.Name _ _) (_ :: _) [] _) _) _ _ _); (rename Fr _ _ _ _ => lFz9); (with_unfolding_all refine For_invVF lFz9 (by exact rfl) (by exact rfl) ?_)) | (with_reducible refine Mine.toksE ?_; intro _) | (k_unfold; (try dsimp only)) | (k_end; wrow_close) | walk1 | (dsimp only; walk1) | (leave1; (try dsimp only))))
      exact hret _ _ _ _ ⟨by rw [hlF, s9], rfl⟩ (by k_asm) (by k_asm) (by k_asm))
end Mine
end
section
open PySem PySem.W PySem.Calls PyProof.Rows
set_option Elab.async false
set_option maxRecDepth 100000
set_option maxHeartbeats 0
namespace Mine
open PySem.Spec PyProof.V
section
variable {prog : Program} {w : World} {A : Around} {K : Frag} {C : Addr} {s : Shared} {h₀ : Heap} {L : Addr} {m : Str → Option Value} {R : Result → Shared → Prop} {Q : Value → Shared → Prop} {E : Value → Shared → Prop}
theorem call_clsS {rest : List Value} {kw : List (Str × Value)} (fI : Addr) (F : Fr h₀ L s.heap m) (X : K.In h₀) (hm : makesIn K C = true)
    (hi : findIn K (.ref C) "__init__" = some (some (.ref fI))) (hf : isFn K (.ref fI) = true)
    (h : ∀ x dx h', Fr h₀ L h' m → News h₀ L h' [(x, instObj C dx), (dx, dictOf [] 0)] → s.heap.StaysIn h' → (∀ b o, s.heap.get? b = some o → b ≠ x ∧ b ≠ dx) → dx < x →
      codeAny (model prog w) (A.under (.builtin "type.__call__" ⟨.ref C :: rest, kw⟩)) (.call (.ref fI) ⟨.ref x :: rest, kw⟩) (InitBack x fun r s' => match r with | .ok (.ret v) => Q v s' | .ok _ => False | .error e => E e s') { s with heap := h' }) :
    wpAny (model prog w) A (call (.ref C) rest kw) Q E s := by
  obtain ⟨hh, g, d, t, os⟩ := s
  have X1 := X.keeps F.keep
  refine wpAny_call (make_core (makes_of X1 hm) (looks_findIn X1 hi) (fun self => bind_fn X1 self (beq_iff_eq.mp hf)) (.inl rfl) (h _ hh.objs.size _ ((F.push _).push _) ?_ (fun b o e => Heap.get?_push_of_some _ (Heap.get?_push_of_some _ e)) (fun b o e => ⟨?_, Nat.ne_of_lt (Heap.lt_size e)⟩) (Nat.lt_succ_self _)))
  · have := (News.nil.push F emptyDict).push (F.push _) (instObj C hh.objs.size)
    rwa [Heap.size_push] at this
  · exact Nat.ne_of_lt (Nat.lt_succ_of_lt (Heap.lt_size e))
end
structure WsS where
  cnt : List Int
  b : Int
  n : Int
  nt : Int
noncomputable def wsPad (cnt : List Int) (b : Int) : List Int := if b ≥ (cnt.length : Int) then cnt ++ List.replicate (b - (cnt.length : Int) + 1).toNat 0 else cnt
noncomputable def wsInc (cnt : List Int) (b : Int) : List Int := (wsPad cnt b).set b.toNat ((wsPad cnt b).getD b.toNat 0 + 1)
noncomputable def wsStep (s : WsS) (ch : Nat) : WsS :=
  if ch = 32 then { s with n := s.n + 1, b := s.b + 1 } else { cnt := wsInc s.cnt s.b, b := 0, n := s.n + 1, nt := s.nt + 1 }
noncomputable def wsF (l : List Nat) : WsS := l.foldl wsStep ⟨[], 0, 0, 0⟩
theorem wsF_snoc (l : List Nat) (ch : Nat) : wsF (l ++ [ch]) = wsStep (wsF l) ch := by unfold wsF; rw [List.foldl_append]; rfl
structure WsBnd (s : WsS) (k : Nat) : Prop where
  len : s.cnt.length ≤ k
  b : 0 ≤ s.b ∧ s.b ≤ k
  n : 0 ≤ s.n ∧ s.n ≤ k
  nt : 0 ≤ s.nt ∧ s.nt ≤ k
  cnt : ∀ c ∈ s.cnt, 0 ≤ c ∧ c ≤ k
theorem wsPad_len (cnt : List Int) (b : Int) (hb : 0 ≤ b) : (wsPad cnt b).length = if b ≥ (cnt.length : Int) then b.toNat + 1 else cnt.length := by
  unfold wsPad
  split
  · rw [List.length_append, List.length_replicate]; omega
  · rfl
theorem wsPad_mem {cnt : List Int} {b : Int} {k : Int} (hk : 0 ≤ k) (h : ∀ c ∈ cnt, 0 ≤ c ∧ c ≤ k) : ∀ c ∈ wsPad cnt b, 0 ≤ c ∧ c ≤ k := by
  unfold wsPad
  split
  · intro c hc
    rcases List.mem_append.mp hc with hc | hc
    · exact h c hc
    · rw [(List.mem_replicate.mp hc).2]; omega
  · exact h
theorem wsInc_mem {cnt : List Int} {b : Int} {k : Int} (hk : 0 ≤ k) (h : ∀ c ∈ cnt, 0 ≤ c ∧ c ≤ k) : ∀ c ∈ wsInc cnt b, 0 ≤ c ∧ c ≤ k + 1 := by
  have h1 := wsPad_mem (b := b) hk h
  unfold wsInc
  intro c hc
  have g := getD_bnd (d := 0) h1 ⟨Int.le_refl _, hk⟩ b.toNat
  rcases List.mem_or_eq_of_mem_set hc with hc | hc
  · have := h1 c hc; omega
  · omega
theorem ws_bnd : ∀ (k : Nat) (l : List Nat), l.length = k → WsBnd (wsF l) k
  | 0, l, h => by
    rw [List.length_eq_zero_iff.mp h]
    exact ⟨Nat.le_refl _, by decide, by decide, by decide, fun _ h => nomatch h⟩
  | k + 1, l, h => by
    rcases List.eq_nil_or_concat l with rfl | ⟨l, ch, rfl⟩
    · simp at h
    · rw [List.concat_eq_append] at h ⊢
      obtain ⟨a1, ⟨a2, a3⟩, ⟨a4, a5⟩, ⟨a6, a7⟩, a8⟩ := ws_bnd k l (by simpa using h)
      rw [wsF_snoc]
      unfold wsStep
      split
      · exact ⟨Nat.le_succ_of_le a1, by dsimp only; omega, by dsimp only; omega, by dsimp only; omega, fun c hc => by have := a8 c hc; omega⟩
      · refine ⟨?_, by dsimp only; omega, by dsimp only; omega, by dsimp only; omega, fun c hc => ?_⟩
        · show (wsInc _ _).length ≤ _
          unfold wsInc
          rw [List.length_set, wsPad_len _ _ a2]
          split <;> omega
        · have := wsInc_mem (by omega) a8 c hc; omega
structure WsL where
  l : Addr
  cv : List Value
  nn : Nat
  s : WsS
  tb : Tok
  tn : Tok
  tt : Tok
local macro_rules | `(tactic| walk_at "pyIter str") => `(tactic| (k_here; refine' stopHere ?_))
theorem news_ne {h₀ h : Heap} {L : Addr} {news : List (Addr × Obj)} {a b : Addr} {o o' : Obj} (N : News h₀ L h news) (ha : (a, o) ∈ news) (hb : (b, o') ∈ news) (ne : o.cls ≠ o'.cls) : @Ne Nat a b := fun q => by
  have h1 := (N _ ha).1
  have h2 := (N _ hb).1
  dsimp only at h1 h2
  rw [show a = b from q, h2] at h1
  exact ne (by rw [Option.some.inj h1])
theorem ws_split {l A B pre post : List Nat} {ch : Nat} (h1 : l = A ++ 120 :: B) (h2 : ∀ z ∈ A, z = 32 ∨ z = 9) (h3 : l = pre ++ ch :: post) (h4 : ∀ z ∈ pre, z = 32 ∨ z = 9) (h5 : ch ≠ 32) (h6 : ch ≠ 9) : pre = A ∧ ch = 120 := by
  rw [h1] at h3
  clear h1
  induction A generalizing pre with
  | nil =>
    cases pre with
    | nil => simp at h3; exact ⟨rfl, h3.1.symm⟩
    | cons a r => simp at h3; have := h4 a (.head _); omega
  | cons a r ih =>
    cases pre with
    | nil => simp at h3; have := h2 a (.head _); omega
    | cons b r' =>
      simp only [List.cons_append, List.cons.injEq] at h3
      obtain ⟨q1, q2⟩ := ih (fun z hz => h2 z (.tail _ hz)) h3.2 (fun z hz => h4 z (.tail _ hz))
      exact ⟨by rw [h3.1, q1], q2⟩
theorem ch_is {a b : Nat} (h : ((⟨#[a]⟩ : Str) == ⟨#[b]⟩) = true) : a = b := by simpa using h
theorem cls_spec (w : World) (raw : Str) (tr : Tok) (A B : List Nat) : Spec w 83 6 [.str raw tr] (fun g => raw.cps.toList = A ++ 120 :: B ∧ (∀ z ∈ A, z = 32 ∨ z = 9) ∧ raw.length ≤ 1500) (fun v new => ∃ x, v = .ref x ∧ WsOn (fun a o => (a, o) ∈ new) x (wsF A).n (wsF A).nt (wsF A).cnt (wsF A).b) := by
  unfold Spec
  k_fill
  intro p loose mean mg mb dp un gd cn cs ad ccd cl outer A₀ base h₀ L m g gens drawn toks os Q E B F X T hk hpre hd hu hret
  obtain ⟨p1, p2, p3⟩ := hpre
  refine call_clsS 38 F X (by k_is) (by k_is) (by k_is) ?_
  intro x dx h9 F9 N9 st9 l1 l2
  (refine' code_defSN ?k1 ?k2 ?k3 ?kN ?k5 ?kA ?kF ?kK ?k6 ?k7 ?k8 ?k9 ?kB ?_ ?c2 ?c3 ?c4 ?c5; (case kA => exact rfl); (case kF => exact rfl); (case kK => assumption); (case k1 => exact B); (case k2 => exact F9); (case k3 => exact X); (case k5 => exact T); (case kN => exact N9); (case k6 => k_is); (case k7 => k_is); (case k8 => ktr_room); (case k9 => exact BindsTo.of_eq rfl); (case c5 => decide); (case kB => exact locs rfl); (case c2 => exact rfl); (case c3 => exact rfl); (case c4 => exact rfl); k_whole; intro g' L' h' st' F' N' l3 B' X' T')
  replace l3 := allLt_of l3
  replace l2 := ltN l2
  obtain ⟨l4, l5, _⟩ := l3
  (try dsimp only)
  (try k_fold)
  refine opqE (env := envOf _ _ L' _ _) (by passes_own) ?_
  intro Q1 E1 hQ1 hP1
  (repeat' (first | ((with_reducible show wpAny _ _ (exec (Stmt.For (PySem.Expr.Name _ _) (PySem.Expr.Attribute _ _ _) (_ :: _) [] _) _) _ _ _); (with_unfolding_all refine For_M ?_ (by exact fun _ => rfl))) | (with_reducible refine Mine.toksE ?_; intro _) | (k_unfold; (try dsimp only)) | (k_end; wrow_close) | walk1 | (dsimp only; walk1) | (leave1; (try dsimp only))))
  unfold Stop
  rename News g' L' _ _ => N9'
  refine strM (σ := WsL) (fun c => [(c.l, W.listOf c.cv.toArray c.nn), (x, instObj 83 dx), (dx, _)]) (fun c => [(Str.ofString "count", .ref c.l), (Str.ofString "b", .int c.s.b c.tb), (Str.ofString "n", .int c.s.n c.tn), (Str.ofString "nt", .int c.s.nt c.tt)]) [Str.ofString "ch"]
    (fun pre c => IntsAre c.cv c.s.cnt ∧ c.s = wsF pre ∧ (∀ z ∈ pre, z = 32 ∨ z = 9) ∧ @LT.lt Nat _ x c.l ∧ @LT.lt Nat _ dx c.l) ⟨_, [], 0, ⟨[], 0, 0, 0⟩, _, _, _⟩ 0 (Nat.zero_le _) (by exact rfl) (by exact rfl) (by exact rfl) (by passes_own) (by k_asm) (List.forall_mem_cons.mpr ⟨N9' _ (.head _), List.forall_mem_cons.mpr ⟨N9' _ (.tail _ (.tail _ (.head _))), List.forall_mem_cons.mpr ⟨N9' _ (.tail _ (.tail _ (.tail _ (.head _)))), List.forall_mem_nil _⟩⟩⟩) (List.forall_mem_cons.mpr ⟨rfl, List.forall_mem_cons.mpr ⟨rfl, List.forall_mem_cons.mpr ⟨rfl, List.forall_mem_cons.mpr ⟨rfl, List.forall_mem_nil _⟩⟩⟩⟩) ⟨.nil, rfl, fun _ h => (nomatch h), ltN (by dsimp only; omega), ltN (by dsimp only; omega)⟩ ?_ ?_
  · rintro pre ch post ⟨l8, cv8, nn8, ⟨cnt8, b8, n8, nt8⟩, tb8, tn8, tt8⟩ t8 u h8 tk8 I8 o8 e8 ⟨s1, s2, s3, s4, s5⟩ s6 s7 s9 F9 N9
    dsimp only [kstB, envOf] at F9 N9 s1 s2 s4 s5 s9
    clear N9'
    simp only [List.cons_append, List.nil_append] at N9
    have hpl : pre.length ≤ raw.length := by
      have := congrArg List.length e8
      simp only [List.length_append, List.length_cons, Array.length_toList] at this
      show _ ≤ raw.cps.size
      omega
    have bn := ws_bnd _ pre rfl
    rw [← s2] at bn
    obtain ⟨a1, ⟨a2, a3⟩, ⟨a4, a5⟩, ⟨a6, a7⟩, a8⟩ := bn
    dsimp only at a1 a2 a3 a4 a5 a6 a7 a8
    have cvl := ints_len s1
    have s10 : @Ne Nat l8 I8 := neN (s9 _ (.head _))
    have s11 : @Ne Nat x I8 := neN (s9 _ (.tail _ (.head _)))
    have s12 : @Ne Nat dx I8 := neN (s9 _ (.tail _ (.tail _ (.head _))))
    clear s9
    (try k_fold)
    refine opqQ fun Q2 hQ2 => ?_
    (repeat' (first | ((with_reducible show wpAny _ _ (exec (Stmt.For (PySem.Expr.Name _ _) (PySem.Expr.Attribute _ _ _) (_ :: _) [] _) _) _ _ _); (with_unfolding_all refine For_M ?_ (by exact fun _ => rfl))) | (with_reducible refine Mine.toksE ?_; intro _) | (k_unfold; (try dsimp only)) | (k_end; wrow_close) | walk1 | (dsimp only; walk1) | (leave1; (try dsimp only))))
    · have e1 : ch = 32 := ch_is (by assumption)
      rename News _ _ _ _ => N10
      refine nextM ⟨_, _, _, ⟨_, _, _, _⟩, _, _, _⟩ (Nat.zero_le _) (by k_asm) N10 (List.forall_mem_cons.mpr ⟨by k_mem, List.forall_mem_cons.mpr ⟨by k_mem, List.forall_mem_cons.mpr ⟨by k_mem, List.forall_mem_nil _⟩⟩⟩) (by k_mem) (by k_all) (List.forall_mem_cons.mpr ⟨rfl, List.forall_mem_cons.mpr ⟨rfl, List.forall_mem_cons.mpr ⟨rfl, List.forall_mem_cons.mpr ⟨rfl, List.forall_mem_nil _⟩⟩⟩⟩) ?_ ⟨s1, ?_, ?_, s4, s5⟩
      · (intro z h1 h2; (simp only [List.mem_cons, List.not_mem_nil, or_false, forall_eq, forall_eq_or_imp, false_imp_iff, implies_true, and_true] at h1); (simp only [List.contains_cons, List.contains_nil, Bool.or_false, Bool.or_eq_false_iff, beq_eq_false_iff_ne] at h2); (simp [put, lookR, h1, h2]); (try rfl))
      · rw [wsF_snoc, ← s2]; unfold wsStep; rw [if_pos e1]
      · intro z hz
        rcases List.mem_append.mp hz with hz | hz
        · exact s3 z hz
        · rw [List.mem_singleton.mp hz]; exact .inl e1
    · have e1 : ch = 9 := ch_is (by assumption)
      have e2 : ¬ ch = 32 := by omega
      rename News _ _ _ _ => N10
      refine nextM ⟨_, _, _, ⟨_, _, _, _⟩, _, _, _⟩ (Nat.zero_le _) (by k_asm) N10 (List.forall_mem_cons.mpr ⟨by k_mem, List.forall_mem_cons.mpr ⟨by k_mem, List.forall_mem_cons.mpr ⟨by k_mem, List.forall_mem_nil _⟩⟩⟩) (by k_mem) (by k_all) (List.forall_mem_cons.mpr ⟨rfl, List.forall_mem_cons.mpr ⟨rfl, List.forall_mem_cons.mpr ⟨rfl, List.forall_mem_cons.mpr ⟨rfl, List.forall_mem_nil _⟩⟩⟩⟩) ?_ ⟨by assumption, ?_, ?_, ?_, ?_⟩
      · (intro z h1 h2; (simp only [List.mem_cons, List.not_mem_nil, or_false, forall_eq, forall_eq_or_imp, false_imp_iff, implies_true, and_true] at h1); (simp only [List.contains_cons, List.contains_nil, Bool.or_false, Bool.or_eq_false_iff, beq_eq_false_iff_ne] at h2); (simp [put, lookR, h1, h2]); (try rfl))
      · rw [wsF_snoc, ← s2]; unfold wsStep wsInc wsPad; rw [if_neg e2, if_pos (by assumption)]; simp only [List.flatten_replicate_singleton]
      · intro z hz
        rcases List.mem_append.mp hz with hz | hz
        · exact s3 z hz
        · rw [List.mem_singleton.mp hz]; exact .inr e1
      · dsimp only; omega
      · dsimp only; omega
    · have e1 : ch = 9 := ch_is (by assumption)
      have e2 : ¬ ch = 32 := by omega
      rename News _ _ _ _ => N10
      refine nextM ⟨_, _, _, ⟨_, _, _, _⟩, _, _, _⟩ (Nat.zero_le _) (by k_asm) N10 (List.forall_mem_cons.mpr ⟨by k_mem, List.forall_mem_cons.mpr ⟨by k_mem, List.forall_mem_cons.mpr ⟨by k_mem, List.forall_mem_nil _⟩⟩⟩) (by k_mem) (by k_all) (List.forall_mem_cons.mpr ⟨rfl, List.forall_mem_cons.mpr ⟨rfl, List.forall_mem_cons.mpr ⟨rfl, List.forall_mem_cons.mpr ⟨rfl, List.forall_mem_nil _⟩⟩⟩⟩) ?_ ⟨by assumption, ?_, ?_, s4, s5⟩
      · (intro z h1 h2; (simp only [List.mem_cons, List.not_mem_nil, or_false, forall_eq, forall_eq_or_imp, false_imp_iff, implies_true, and_true] at h1); (simp only [List.contains_cons, List.contains_nil, Bool.or_false, Bool.or_eq_false_iff, beq_eq_false_iff_ne] at h2); (simp [put, lookR, h1, h2]); (try rfl))
      · rw [wsF_snoc, ← s2]; unfold wsStep wsInc wsPad; rw [if_neg e2, if_neg (by assumption)]
      · intro z hz
        rcases List.mem_append.mp hz with hz | hz
        · exact s3 z hz
        · rw [List.mem_singleton.mp hz]; exact .inr e1
    · have e1 : ¬ ch = 32 := fun q => by subst q; revert ‹(({ cps := #[32] } : Str) == Str.ofString " ") = false›; decide
      have e2 : ¬ ch = 9 := fun q => by subst q; revert ‹(({ cps := #[9] } : Str) == Str.ofString "\t") = false›; decide
      (try dsimp only)
      (try dsimp +zetaDelta only)
      unfold PostM
      (try dsimp only)
      (try dsimp +zetaDelta only)
      (repeat' (first | ((with_reducible show wpAny _ _ (exec (Stmt.For (PySem.Expr.Name _ _) (PySem.Expr.Attribute _ _ _) (_ :: _) [] _) _) _ _ _); (with_unfolding_all refine For_M ?_ (by exact fun _ => rfl))) | (with_reducible refine Mine.toksE ?_; intro _) | (k_unfold; (try dsimp only)) | (k_end; wrow_close) | walk1 | (dsimp only; walk1) | (leave1; (try dsimp only))))
      rename News _ _ _ [_, _, _, _, _, _] => N10
      have d1 := news_ne N10 (.tail _ (.head _)) (.tail _ (.tail _ (.tail _ (.tail _ (.head _))))) (by intro h; injection h with h; exact absurd h (by decide))
      have d2 := news_ne N10 (.tail _ (.head _)) (.tail _ (.tail _ (.tail _ (.head _)))) (by intro h; cases h)
      (repeat' (first | ((with_reducible show wpAny _ _ (exec (Stmt.For (PySem.Expr.Name _ _) (PySem.Expr.Attribute _ _ _) (_ :: _) [] _) _) _ _ _); (with_unfolding_all refine For_M ?_ (by exact fun _ => rfl))) | (with_reducible refine Mine.toksE ?_; intro _) | (k_unfold; (try dsimp only)) | (k_end; wrow_close) | walk1 | (dsimp only; walk1) | (leave1; (try dsimp only))))
      rename Heap.StaysIn g' _ => hst
      rename News h₀ L _ _ => N11
      have hA : pre = A ∧ ch = 120 := ws_split p1 p2 e8 s3 (by omega) (by omega)
      refine' hret (.ref x) [(_, { cls := .type "tuple", data := .seq #[.ref ?D, .int b8 tb8] }), (?D, { cls := .type "tuple", data := .seq cv8.toArray }), (x, instObj 83 dx), (dx, dictOf [⟨?e0, .str (Str.ofString "raw") ?k0, .str raw ?tr⟩, ⟨?e1, .str (Str.ofString "n") ?k1, .int n8 ?tn⟩, ⟨?e2, .str (Str.ofString "nt") ?k2, .int nt8 ?tnt⟩, ⟨?e3, .str (Str.ofString "norm") ?k3, .ref _⟩, ⟨?e4, .str (Str.ofString "is_simple") ?k4, .bool ?bb⟩] ?nn)] _ _ ⟨x, rfl, ?W⟩ ?S ?FF ?N
      case S => exact fun b o e => hst _ _ (st' b o (st9 b o e) (by have := l1 b o e; simp only [List.map_cons, List.map_nil, List.mem_cons, List.not_mem_nil, or_false]; intro q; rcases q with q | q; exact this.1 q; exact this.2 q))
      case FF => k_asm
      case N => 
        iterate 4 (refine List.forall_mem_cons.mpr ⟨N11 _ ?_, ?_⟩; · (repeat (first | exact List.mem_cons_self | apply List.mem_cons_of_mem)))
        exact List.forall_mem_nil _
      case W =>
        have hbb : decide ((cnt8.length : Int) ≤ 1) = decide (cnt8.length ≤ 1) := decide_eq_decide.mpr (by omega)
        rw [hbb]
        rw [← hA.1, ← s2]
        refine ⟨dx, _, _, raw, _, _, _, _, fun i => [_, _, _, _, _].getD i 0, fun i => [_, _, _, _, _].getD i 0, _, _, _, cv8, .tail _ (.tail _ (.head _)), .tail _ (.tail _ (.tail _ (.head _))), .head _, .tail _ (.head _), s1, by dsimp only; omega⟩
  · rintro c8 u h8 tk8 _ ⟨s1, s2, s3, s4, s5⟩ F9 N9
    exfalso
    have := s3 120 (by rw [p1]; simp)
    omega
end Mine
end
section
open PySem PySem.W PySem.Calls PyProof.Rows
set_option Elab.async false
set_option maxRecDepth 100000
set_option maxHeartbeats 0
namespace Mine
open PySem.Spec PyProof.V
/-- as Spec, but what is asked may speak of the tokens -/
noncomputable def SpecT (w : World) (f : Addr) (d : Nat) (vs : List Value) (pre : Heap → Nat → Prop) (R : Value → List (Addr × Obj) → Prop) : Prop :=
   ∀ (p : Program) (loose : List Str) (mean : ExcName → Option Value) (mg mb : Str → Option Value) (dp un : Nat) (gd : Option (List Code)) (cn : Str) (cs : Scope) (ad : Addr) (ccd : Value) (cl : List (Str × Addr)) (outer : List Env) (A₀ : Around) (base h₀ : Heap) (L : Addr) (m : Str → Option Value) (g : Heap) (gens : Array GenState) (drawn : Drawn) (toks : Nat) (os : OsState) (Q E : Value → Shared → Prop),
    Below A₀ base outer h₀ → Fr h₀ L g m → (Mine.K w.params).In h₀ → Top p loose mean mg mb h₀ → cs.kind = .function → pre g toks →
      dp + d < recursionLimit → un + 8 * d < cLine →
      (∀ (v : Value) (new : List (Addr × Obj)) (h' : Heap) (tk' : Nat), R v new → g.StaysIn h' → Fr h₀ L h' m → News h₀ L h' new → toks ≤ tk' → Q v ⟨h', gens, drawn, tk', os⟩) →
      wpAny (model PySem.Challenge.rw_tl0044_01.row.prog w) (ktrTop dp un gd cn cs L ad ccd cl outer) (call (.ref f) vs) Q E ⟨g, gens, drawn, toks, os⟩
theorem noneBooked {P : Params} {h : Heap} (X : (Mine.K P).In h) : NoneBooked h :=
  ⟨fun _ => none, ⟨_, _, _, X 2 (k2 P) rfl, rfl, fun e he => by simp at he, fun _ => rfl⟩, rfl⟩
theorem is_str {M : Model} {A : Around} {E : Value → Shared → Prop} {s : Shared} {y z : Str} {u v : Tok} {Q : Value → Shared → Prop}
    (h0 : (u == 0 || v == 0) = false) (huv : u ≠ v) (hb : NoneBooked s.heap) (h1 : (y == z) = false → Q (.bool false) s) (h2 : (y == z) = true → ∀ b, Q (.bool b) s) : wpAny M A (compareOp .Is (.str y u) (.str z v)) Q E s := by
  show wpAny M A (isSame (.str y u) (.str z v) >>= _) Q E s
  cases h : y == z with
  | false => rw [isSame_str_other y z u v h0 (by simpa using huv) h]; exact wpAny_bind (wpAny_pure (wpAny_pure (h1 h)))
  | true => exact wpAny_bind (wpAny_isSame_str h0 hb fun b => wpAny_pure (h2 h b))
noncomputable def countF (l : List Nat) (b : Str) : Int := l.foldl (fun a n => if ((⟨#[n]⟩ : Str) == b) = true then a + 1 else a) 0
theorem countF_snoc (l : List Nat) (n : Nat) (b : Str) : countF (l ++ [n]) b = if ((⟨#[n]⟩ : Str) == b) = true then countF l b + 1 else countF l b := by unfold countF; rw [List.foldl_append]; rfl
theorem countF_bnd (b : Str) : ∀ (k : Nat) (l : List Nat), l.length = k → 0 ≤ countF l b ∧ countF l b ≤ k
  | 0, l, h => by rw [List.length_eq_zero_iff.mp h]; exact ⟨Int.le_refl _, Int.le_refl _⟩
  | k + 1, l, h => by
    rcases List.eq_nil_or_concat l with rfl | ⟨l, ch, rfl⟩
    · simp at h
    · rw [List.concat_eq_append] at h ⊢
      have := countF_bnd b k l (by simpa using h)
      rw [countF_snoc]
      split <;> omega
/-- the bound that the tokens keep -/
noncomputable def TokMark (_T : Nat) : Prop := True
theorem toks_ge {α : Type} {M : Model} {A : Around} {t : Sem α} {Q : α → Shared → Prop} {E : Value → Shared → Prop} {h : Heap} {g : Array GenState} {d : Drawn} {a b T : Nat} {os : OsState} (_mk : TokMark T) (h1 : T ≤ a + b) (k : ∀ tk, T ≤ tk → wpAny M A t Q E ⟨h, g, d, tk, os⟩) : wpAny M A t Q E ⟨h, g, d, a + b, os⟩ := k _ h1
local macro_rules | `(tactic| walk_at "execs cons") => `(tactic| (k_here; (with_reducible refine' toks_ge ?mk ?h ?_); (case mk => assumption); (case h => (dsimp only; omega)); intro _ _))
local macro_rules | `(tactic| walk_at "execs nil") => `(tactic| (k_here; (with_reducible refine' toks_ge ?mk ?h ?_); (case mk => assumption); (case h => (dsimp only; omega)); intro _ _))
local macro_rules | `(tactic| walk_at "pyIter str") => `(tactic| (k_here; refine' stopHere ?_))
theorem leN {a b : Nat} (h : a ≤ b) : a ≤ b := h
theorem countOf_spec (w : World) (a b : Str) (ta tb : Tok) : SpecT w 108 2 [.str a ta, .str b tb] (fun _ tk => @Ne Nat tb 0 ∧ @LT.lt Nat _ tb tk ∧ a.length ≤ 1000) (fun v new => ∃ t, v = .int (countF a.cps.toList b) t ∧ new = []) := by
  unfold SpecT
  k_fill
  intro p loose mean mg mb dp un gd cn cs ad ccd cl outer A₀ base h₀ L m g gens drawn toks os Q E B F X T hk hpre hd hu hret
  refine wpAny_call ?_
  (refine' Mine.code_defS ?k1 ?k2 ?k3 ?k5 ?kA ?kF ?kK ?k6 ?k7 ?k8 ?k9 ?kB ?_ ?c2 ?c3 ?c4 ?c5; (case kA => exact rfl); (case kF => exact rfl); (case kK => assumption); (case k1 => k_asm); (case k2 => k_asm); (case k3 => k_asm); (case k5 => k_asm); (case k6 => k_is); (case k7 => k_is); (case k8 => ktr_room); (case k9 => first | exact BindsTo.of_eq (binds := [(_, _)]) rfl | exact BindsTo.of_eq (binds := [(_, _), (_, _)]) rfl | exact BindsTo.of_eq (binds := [(_, _), (_, _), (_, _)]) rfl | exact BindsTo.of_eq rfl); (case c5 => decide); (case kB => exact locs rfl); (case c2 => exact rfl); (case c3 => exact rfl); (case c4 => exact rfl); k_whole; intro L' h' F' N' B' X' T'; (try dsimp only); (try k_fold))
  obtain ⟨p1, p2, p3⟩ := hpre
  have mk : TokMark toks := trivial
  (repeat' (first | ((with_reducible show wpAny _ _ (compareOp CmpOp.Is (Value.str _ _) (Value.str _ _)) _ _ _); k_dflt (refine is_str (by (simp only [Bool.or_eq_false_iff, beq_eq_false_iff_ne]; exact ⟨neN (by omega), neN (by omega)⟩)) (by (refine neN ?_; omega)) (by exact noneBooked (Frag.In.keeps (by assumption) (Fr.keep (by k_asm)))) ?_ ?_; focus (all_goals intro hIs))) | ((with_reducible show wpAny _ _ (exec (Stmt.For (PySem.Expr.Name _ _) (PySem.Expr.Name _ _) (_ :: _) [] _) _) _ _ _); (with_unfolding_all refine For_M ?_ (by exact fun _ => rfl))) | (k_unfold; (try dsimp only)) | (k_end; wrow_close) | walk1 | (dsimp only; walk1) | (leave1; (try dsimp only))))
  unfold Stop
  refine strM (σ := Int × Tok) (fun c => []) (fun c => [(Str.ofString "count", .int c.1 c.2)]) [Str.ofString "i"] (fun pre c => c.1 = countF pre b) (_, _) toks (by dsimp only; omega) (by exact rfl) (by exact rfl) (by exact rfl) (by passes_own) (by k_asm) News.nil (List.forall_mem_cons.mpr ⟨rfl, List.forall_mem_nil _⟩) rfl ?_ ?_
  · rintro pre n post ⟨c8, u8⟩ t8 u h8 tk8 I8 o8 e8 s1 s6 s7 s9 F9 N9
    dsimp only [kstB, envOf] at F9 N9 s1 s9
    simp only [List.nil_append] at N9
    have hpl : pre.length ≤ a.length := by
      have := congrArg List.length e8
      simp only [List.length_append, List.length_cons, Array.length_toList] at this
      show _ ≤ a.cps.size
      omega
    have hcb := countF_bnd b _ pre rfl
    rw [← s1] at hcb
    obtain ⟨q1, q2⟩ := hcb
    have sn := countF_snoc pre n b
    replace s6 := leN s6
    replace s7 := ltN s7
    (try k_fold)
    (repeat' (first | ((with_reducible show wpAny _ _ (compareOp CmpOp.Is (Value.str _ _) (Value.str _ _)) _ _ _); k_dflt (refine is_str (by (simp only [Bool.or_eq_false_iff, beq_eq_false_iff_ne]; exact ⟨neN (by omega), neN (by omega)⟩)) (by (refine neN ?_; omega)) (by exact noneBooked (Frag.In.keeps (by assumption) (Fr.keep (by k_asm)))) ?_ ?_; focus (all_goals intro hIs))) | ((with_reducible show wpAny _ _ (exec (Stmt.For (PySem.Expr.Name _ _) (PySem.Expr.Name _ _) (_ :: _) [] _) _) _ _ _); (with_unfolding_all refine For_M ?_ (by exact fun _ => rfl))) | (k_unfold; (try dsimp only)) | (k_end; wrow_close) | walk1 | (dsimp only; walk1) | (leave1; (try dsimp only))))
    all_goals (
      rename News _ _ _ [_] => N10
      refine nextM (_, _) (by (try dsimp only); omega) (by k_asm) N10 (fun _ h => nomatch h) (.head _) (fun _ h => nomatch h) (List.forall_mem_cons.mpr ⟨rfl, List.forall_mem_nil _⟩) ?_ ?_
      · (intro z h1 h2; (simp only [List.mem_cons, List.not_mem_nil, or_false, forall_eq, forall_eq_or_imp, false_imp_iff, implies_true, and_true] at h1); (simp only [List.contains_cons, List.contains_nil, Bool.or_false, Bool.or_eq_false_iff, beq_eq_false_iff_ne] at h2); (simp [put, lookR, h1, h2]); (try rfl))
      · dsimp only
        rw [sn, ← s1]
        simp [*])
  · rintro ⟨c8, u8⟩ u h8 tk8 htk s1 F9 N9
    dsimp only [kstB, envOf] at F9 N9 s1
    (repeat' (first | ((with_reducible show wpAny _ _ (compareOp CmpOp.Is (Value.str _ _) (Value.str _ _)) _ _ _); k_dflt (refine is_str (by (simp only [Bool.or_eq_false_iff, beq_eq_false_iff_ne]; exact ⟨neN (by omega), neN (by omega)⟩)) (by (refine neN ?_; omega)) (by exact noneBooked (Frag.In.keeps (by assumption) (Fr.keep (by k_asm)))) ?_ ?_; focus (all_goals intro hIs))) | ((with_reducible show wpAny _ _ (exec (Stmt.For (PySem.Expr.Name _ _) (PySem.Expr.Name _ _) (_ :: _) [] _) _) _ _ _); (with_unfolding_all refine For_M ?_ (by exact fun _ => rfl))) | (k_unfold; (try dsimp only)) | (k_end; wrow_close) | walk1 | (dsimp only; walk1) | (leave1; (try dsimp only))))
    exact hret _ _ _ _ ⟨_, by rw [s1], rfl⟩ (by k_asm) (by k_asm) News.nil (by (try dsimp only); omega)
end Mine
end
section
open PySem PySem.W PySem.Calls PyProof.Rows
set_option Elab.async false
set_option maxRecDepth 100000
set_option maxHeartbeats 0
namespace Mine
open PySem.Spec PyProof.V
section
variable {prog : Program} {w : World} {A : Around} {E : Value → Shared → Prop} {s : Shared} {env : Env} {h₀ : Heap}
/-- a for over pairs with an else, whose body leaves or goes on with nothing changed -/
theorem elseLoop {R : Result → Shared → Prop} {xi xc : Str} {pk pv pt : Pos} {x1 : Nat} {body oe : List Stmt} {I : Addr} {fp wr : List Addr} {n : Nat} {Pt : Nat → Array Value → Prop} {St : Nat → Heap → Prop} {Mid : Nat → Addr → Heap → Prop}
    {P2 : Nat → Value → Value → Prop} {m : Str → Option Value} (J : Nat → Prop) (hh : A.handled = none) (W : WalksT prog w A I fp wr n Pt St Mid) (h2 : ∀ i vals, Pt i vals → ∃ v0 v1, vals = #[v0, v1] ∧ P2 i v0 v1)
    (hxi : env.kindOf xi = some .local) (hxc : env.kindOf xc = some .local) (hp : (env.scope.kind == .class || (env.scope.kind == .module && env.locals != env.globals)) = false)
    (hLf : env.locals ∉ fp) (hwr : ∀ b ∈ wr, h₀.get? b = none) (hst : St 0 s.heap) (F : Fr h₀ env.locals s.heap m) (h0 : J 0)
    (step : ∀ i v0 v1 (m₁ : Str → Option Value) h tk own, i < n → P2 i v0 v1 → J i → (∀ z, z ≠ xi → z ≠ xc → m₁ z = m z) →
      Fr h₀ env.locals h (fun y => if y = xc then some v1 else if y = xi then some v0 else m₁ y) → News h₀ env.locals h own →
      wpAny (model prog w) A (execs body env) (fun f s₃ => match f with
        | .ret v => R (.ok (.ret v)) s₃
        | .brk => R (.ok .next) s₃
        | _ => ∃ h' tk' m', s₃ = { s with heap := h', toks := tk' } ∧ Fr h₀ env.locals h' m' ∧ News h₀ env.locals h' own ∧ (∀ z, z ≠ xi → z ≠ xc → m' z = m z) ∧ J (i + 1))
        (notedBy (model prog w) A env fun e s' => R (.error e) s') { s with heap := h, toks := tk })
    (hR : ∀ h' tk (m' : Str → Option Value), (∀ z, z ≠ xi → z ≠ xc → m' z = m z) → Fr h₀ env.locals h' m' → J n →
      wpAny (model prog w) A (execs oe env) (fun f s₃ => R (.ok f) s₃) (notedBy (model prog w) A env fun e s' => R (.error e) s') { s with heap := h', toks := tk }) :
    codeAny (model prog w) A (.forLoop (.Tuple [.Name xi pk, .Name xc pv] x1 pt) (.ref I) body oe env) R s := by
  have hLw : env.locals ∉ wr := fun h => hLf (W.sub _ h)
  have keep : ∀ {a b : Heap} {m' : Str → Option Value}, Fr h₀ env.locals a m' → (∀ c o, c ∉ wr → a.get? c = some o → b.get? c = some o) → Fr h₀ env.locals b m' := fun G k =>
    ⟨G.ns.at' fun o e => k _ o hLw e, fun c o e => k c o (fun hb => by rw [hwr c hb] at e; cases e) (G.keep c o e), G.above⟩
  refine codeAny_forLoop_any (fun k s' => ∃ (i : Nat) (h : Heap) (tk : Nat) (m' : Str → Option Value), s' = { s with heap := h, toks := tk } ∧ St i h ∧ Fr h₀ env.locals h m' ∧ (∀ z, z ≠ xi → z ≠ xc → m' z = m z) ∧ J i ∧ i ≤ n ∧ k = n + 1 - i) ?_ (n + 1)
    ⟨0, s.heap, s.toks, m, rfl, hst, F, fun _ _ _ => rfl, h0, Nat.zero_le _, rfl⟩
  rintro k s' ⟨i, H, tk, m', rfl, hs, F', hm, hJ, hi, rfl⟩
  rcases Nat.lt_or_ge i n with hlt | hge
  · refine W.item i _ _ _ hlt hs fun T vals h₁ tk₁ hPt _ hT hMid k₁ => ?_
    obtain ⟨v0, v1, rfl, hP2⟩ := h2 i vals hPt
    refine W.go _ x1 pt i T _ _ _ hMid fun h₂ hs₂ k₂ => ?_
    refine wpAny_assign_Tuple hh (hT.at fun o e => k₂ T o (W.apart i T h₁ hMid) e) rfl rfl fun h₃ x₃ => ?_
    have k₃ : ∀ b o, h₂.get? b = some o → h₃.get? b = some o := fun b o e => x₃ b o (Nat.ne_of_lt (Heap.lt_size e)) e
    have F₃ := keep F' fun c o hc e => k₃ c o (k₂ c o hc (k₁ c o hc e))
    show wpAny _ A (do holding [v1] (assign (.Name xi pk) env v0); do holding [] (assign (.Name xc pv) env v1); pure ()) _ _ _
    refine wpAny_bind (wpAny_holding (wpAny_assign_Name (wpAny_storeName_local hxi F₃.ns (fun h₄ n₄ s₄ => ?_) hp)))
    have F₄ := F₃.set n₄ s₄
    refine wpAny_bind (wpAny_holding (wpAny_assign_Name (wpAny_storeName_local hxc F₄.ns (fun h₅ n₅ s₅ => wpAny_pure ?_) hp)))
    have F₅ := F₄.set n₅ s₅
    have st₅ : St (i + 1) h₅ := W.frame _ _ _ hs₂ fun b hb o e => by
      have nb : b ≠ env.locals := fun q => hLf (q ▸ hb)
      exact s₅.extBut b o nb (s₄.extBut b o nb (k₃ b o e))
    have No : News h₀ env.locals h₅ (ownOf h₀ fp h₅) := news_ownOf hLf
    refine wpAny_mono (step i v0 v1 m' _ _ (ownOf h₀ fp h₅) hlt hP2 hJ hm F₅ No) (fun f s₃ q => ?_) fun _ _ e => e
    have up : (∃ h' tk' m', s₃ = { s with heap := h', toks := tk' } ∧ Fr h₀ env.locals h' m' ∧ News h₀ env.locals h' (ownOf h₀ fp h₅) ∧ (∀ z, z ≠ xi → z ≠ xc → m' z = m z) ∧ J (i + 1)) →
        ∃ k, k < n + 1 - i ∧ ∃ (i : Nat) (h : Heap) (tk : Nat) (m' : Str → Option Value), s₃ = { s with heap := h, toks := tk } ∧ St i h ∧ Fr h₀ env.locals h m' ∧ (∀ z, z ≠ xi → z ≠ xc → m' z = m z) ∧ J i ∧ i ≤ n ∧ k = n + 1 - i := by
      rintro ⟨h', tk', m'', rfl, F'', N'', hm'', hJ''⟩
      refine ⟨n + 1 - (i + 1), by omega, i + 1, h', tk', m'', rfl, W.frame _ _ _ st₅ fun b hb o e => ?_, F'', hm'', hJ'', hlt, rfl⟩
      cases hb0 : h₀.get? b with
      | some o₀ =>
        have e0 := F₅.keep b o₀ hb0
        rw [e] at e0
        rw [Option.some.inj e0]
        exact F''.keep b o₀ hb0
      | none => exact (N'' _ (mem_ownOf hb hb0 e)).1
    cases f with
    | ret v => exact q
    | brk => exact q
    | next => exact up q
    | cont => exact up q
  · have : i = n := by omega
    subst this
    exact W.done _ _ _ hs fun h₁ tk₁ k₁ => hR h₁ tk₁ m' hm (keep F' fun c o hc e => k₁ c o hc e) hJ
/-- a turn's end -/
noncomputable def EndE (h₀ : Heap) (L : Addr) (xi xc : Str) (m : Str → Option Value) (own : List (Addr × Obj)) (J : Prop) (s s₃ : Shared) : Prop :=
  ∃ h' tk' m', s₃ = { s with heap := h', toks := tk' } ∧ Fr h₀ L h' m' ∧ News h₀ L h' own ∧ (∀ z, z ≠ xi → z ≠ xc → m' z = m z) ∧ J
theorem enumElse {Q : Flow → Shared → Prop} {E : Value → Shared → Prop} {xi xc : Str} {pk pv pt : Pos} {x1 : Nat} {body oe : List Stmt} {l : Addr} {items : Array Value} {m : Str → Option Value} (J : Nat → Prop) (hh : A.handled = none) (hl : h₀.IsList l items)
    (hxi : env.kindOf xi = some .local) (hxc : env.kindOf xc = some .local) (hp : (env.scope.kind == .class || (env.scope.kind == .module && env.locals != env.globals)) = false) (hE : PassesOwn (model prog w) A env E)
    (F : Fr h₀ env.locals s.heap m) (h0 : J 0)
    (step : ∀ (i : Nat) v t h tk own, items[i]? = some v → J i →
      Fr h₀ env.locals h (fun y => if y = xc then some v else if y = xi then some (.int i t) else m y) → News h₀ env.locals h own →
      wpAny (model prog w) A (execs body env) (fun f s₃ => match f with
        | .ret v => Q (.ret v) s₃
        | .brk => Q .next s₃
        | _ => EndE h₀ env.locals xi xc m own (J (i + 1)) s s₃)
        E { s with heap := h, toks := tk })
    (hR : ∀ h' tk (m' : Str → Option Value), (∀ z, z ≠ xi → z ≠ xc → m' z = m z) → Fr h₀ env.locals h' m' → J items.size →
      wpAny (model prog w) A (execs oe env) Q E { s with heap := h', toks := tk }) :
    wpAny (model prog w) A (call (.type "enumerate") [.ref l]) (fun x s₁ => wpAny (model prog w) A (pyIter x) (fun it s₂ =>
      codeAny (model prog w) A (.forLoop (.Tuple [.Name xi pk, .Name xc pv] x1 pt) it body oe env) (fun r s' => match r with | .ok f => Q f s' | .error e => cameBackBy (model prog w) A env E e s') s₂) E s₁) E s := by
  have hls : s.heap.IsList l items := hl.at fun o e => F.keep l o e
  obtain ⟨ol, hol, _⟩ := id hl
  have hlt : l < h₀.objs.size := Heap.lt_size hol
  have hLs : env.locals < s.heap.objs.size := F.ns.lt
  have hl2 : l < s.heap.objs.size := Nat.lt_trans (Nat.lt_of_lt_of_le hlt F.above) hLs
  have hn1 : h₀.get? s.heap.objs.size = none := F.fresh
  have hn2 : h₀.get? (s.heap.objs.size + 1) = none := Heap.get?_none_of_le (Nat.le_trans F.above (Nat.le_of_lt (Nat.lt_succ_of_lt hLs)))
  have hlL : env.locals ≠ l := fun q => by
    have := F.above
    rw [q] at this
    exact absurd hlt (Nat.not_lt.mpr this)
  refine call_enumerate_list hls fun h' he hit hsz hk => ?_
  have F' : Fr h₀ env.locals h' m := ⟨F.ns.keeps hk, fun b o e => hk b o (F.keep b o e), F.above⟩
  have W := WalksT.enumerate (prog := prog) (w := w) hh (s.heap.objs.size + 1) s.heap.objs.size l (Nat.succ_ne_self _) (Nat.ne_of_lt (Nat.lt_succ_of_lt hl2)) (Nat.ne_of_lt hl2) items
  have st0 : (∃ old, IsEnum h' (s.heap.objs.size + 1) s.heap.objs.size ((0 : Nat) : Int) old) ∧ h'.IsListIter s.heap.objs.size l 0 ∧ h'.IsList l items := ⟨⟨_, he⟩, hit, hls.at fun o e => hk l o e⟩
  refine W.self 0 { s with heap := h' } _ _ st0 ?_
  refine elseLoop (s := { s with heap := h' }) (P2 := fun i v0 v1 => ∃ t, v0 = .int i t ∧ items[i]? = some v1) J hh W (fun i vals ⟨t, x, hx, e⟩ => ⟨_, _, e, t, rfl, hx⟩) hxi hxc hp ?_ ?_ st0 F' h0 ?_ ?_
  · intro hm
    simp only [List.mem_cons, List.not_mem_nil, or_false] at hm
    rcases hm with q | q | q
    · rw [q] at hLs; exact absurd hLs (Nat.not_lt.mpr (Nat.le_succ _))
    · rw [q] at hLs; exact absurd hLs (Nat.lt_irrefl _)
    · exact hlL q
  · intro b hb
    simp only [List.mem_cons, List.not_mem_nil, or_false] at hb
    rcases hb with rfl | rfl
    · exact hn2
    · exact hn1
  · rintro i v0 v1 m₁ h tk own _ ⟨t, rfl, hx⟩ hJ hm F₁ N₁
    have em : (fun y => if y = xc then some v1 else if y = xi then some (.int i t) else m₁ y) = fun y => if y = xc then some v1 else if y = xi then some (.int i t) else m y := by
      funext y
      by_cases q1 : y = xc
      · rw [if_pos q1, if_pos q1]
      · by_cases q2 : y = xi
        · rw [if_neg q1, if_neg q1, if_pos q2, if_pos q2]
        · rw [if_neg q1, if_neg q1, if_neg q2, if_neg q2, hm y q2 q1]
    rw [em] at F₁
    exact wpAny_mono (wpAny_passesOwn hE (step i v1 t h tk own hx hJ F₁ N₁)) (fun f s₃ q => by cases f <;> exact q) fun _ _ e => e
  · intro h₁ tk m' hm F₁ hJ
    exact wpAny_passesOwn hE (hR h₁ tk m' hm F₁ hJ)
end
local macro_rules | `(tactic| walk_at "call type:enumerate") => `(tactic| (k_here; refine' stopHere ?_))
theorem indexOf_spec (w : World) (l : Addr) (bs : List Bool) (k : Nat) (hk1 : bs[k]? = some true) (hk2 : ∀ j < k, bs[j]? = some false) : Spec w 115 2 [.ref l, .bool true] (fun g => g.IsList l (bs.map Value.bool).toArray) (fun v new => ∃ t, v = .int k t ∧ new = []) := by
  unfold Spec
  k_fill
  intro p loose mean mg mb dp un gd cn cs ad ccd cl outer A₀ base h₀ L m g gens drawn toks os Q E B F X T hk hpre hd hu hret
  refine wpAny_call ?_
  (refine' Mine.code_defE ?k1 ?k2 ?k3 ?k5 ?kA ?kF ?kK ?k6 ?k7 ?k8 ?k9 ?kB ?_ ?c2 ?c3 ?c4 ?c5; (case kA => exact rfl); (case kF => exact rfl); (case kK => assumption); (case k1 => k_asm); (case k2 => k_asm); (case k3 => k_asm); (case k5 => k_asm); (case k6 => k_is); (case k7 => k_is); (case k8 => ktr_room); (case k9 => first | exact BindsTo.of_eq (binds := [(_, _)]) rfl | exact BindsTo.of_eq (binds := [(_, _), (_, _)]) rfl | exact BindsTo.of_eq (binds := [(_, _), (_, _), (_, _)]) rfl | exact BindsTo.of_eq rfl); (case c5 => decide); (case kB => exact locs rfl); (case c2 => exact rfl); (case c3 => exact rfl); (case c4 => exact rfl); k_whole; intro L' h' tk' F' N' B' X' T'; (try dsimp only); (try k_fold))
  (repeat' (first | ((with_reducible show wpAny _ _ (exec (Stmt.For (PySem.Expr.Tuple _ _ _) (PySem.Expr.Call _ _ _ _) (_ :: _) (_ :: _) _) _) _ _ _); (with_unfolding_all refine wpAny_For ?_ (by exact fun _ => rfl))) | (with_reducible refine Mine.toksE ?_; intro _) | (k_unfold; (try dsimp only)) | (k_end; wrow_close) | walk1 | (dsimp only; walk1) | (leave1; (try dsimp only))))
  unfold Stop
  refine enumElse (fun i => ∀ j, j < i → bs[j]? = some false) (by exact rfl) hpre (by exact rfl) (by exact rfl) (by exact rfl) (by passes_own) (by k_asm) (fun _ h => absurd h (Nat.not_lt_zero _)) ?_ ?_
  · rintro i v t9 h9 tk9 own9 hv hJ F9 N9
    dsimp only [envOf] at F9 N9
    obtain ⟨b9, hb9, rfl⟩ : ∃ b, bs[i]? = some b ∧ v = .bool b := by
      simp only [List.getElem?_toArray, List.getElem?_map, Option.map_eq_some_iff] at hv
      obtain ⟨b, h1, h2⟩ := hv
      exact ⟨b, h1, h2.symm⟩
    (repeat' (first | ((with_reducible show wpAny _ _ (exec (Stmt.For (PySem.Expr.Tuple _ _ _) (PySem.Expr.Call _ _ _ _) (_ :: _) (_ :: _) _) _) _ _ _); (with_unfolding_all refine wpAny_For ?_ (by exact fun _ => rfl))) | (with_reducible refine Mine.toksE ?_; intro _) | (k_unfold; (try dsimp only)) | (k_end; wrow_close) | walk1 | (dsimp only; walk1) | (leave1; (try dsimp only))))
    · have e1 : b9 = true := by simpa using ‹(b9 == true) = true›
      have e2 : i = k := by
        subst e1
        rcases Nat.lt_trichotomy i k with q | q | q
        · have := hk2 i q
          rw [hb9] at this; cases this
        · exact q
        · have := hJ k q
          rw [hk1] at this; cases this
      exact hret _ _ _ _ ⟨_, by rw [e2], rfl⟩ (by k_asm) (by k_asm) News.nil
    · have e1 : b9 = false := by simpa using ‹(b9 == true) = false›
      refine ⟨_, _, _, rfl, F9, N9, fun z q1 q2 => by (try dsimp only [put, lookR]); rw [if_neg q2, if_neg q1], fun j hj => ?_⟩
      rcases Nat.lt_succ_iff_lt_or_eq.mp hj with q | q
      · exact hJ j q
      · rw [q, hb9, e1]
  · intro h9 tk9 m9 hm F9 hJ
    exfalso
    have hk3 : k < bs.length := (List.getElem?_eq_some_iff.mp hk1).1
    have := hJ k (by simpa using hk3)
    rw [hk1] at this; cases this
end Mine
end
section
open PySem PySem.W PySem.Calls PyProof.Rows
set_option Elab.async false
set_option maxRecDepth 100000
set_option maxHeartbeats 0
namespace Mine
open PySem.Spec PyProof.V
theorem funFrames_rebase {base B h : Heap} : ∀ {l : List Env}, h.FunFrames base l → (∀ env ∈ l, ∀ a, env.frame = some a → B.get? a = none) → h.FunFrames B l
  | [], _, _ => trivial
  | env :: _, ⟨hk, ⟨L, o, hf, _, ho, hd⟩, hr⟩, hin => ⟨hk, ⟨L, o, hf, hin env (.head _) L hf, ho, hd⟩, funFrames_rebase hr fun e he => hin e (.tail _ he)⟩
theorem below_hide {A : Around} {base g : Heap} {l : List Env} (B : Below A base l g) : Below A (hideAll g (l.filterMap (·.frame))) l g :=
  ⟨B.stack, fun b o e => of_hideAll _ e, funFrames_rebase B.frames fun env he a ha => hideAll_none _ (List.mem_filterMap.mpr ⟨env, he, ha⟩)⟩
local macro_rules | `(tactic| walk_at "call type:enumerate") => `(tactic| (k_here; refine' stopHere ?_))
local macro_rules | `(tactic| walk_at "exec Raise some none") => `(tactic| (k_here; refine' stopHere ?_))
theorem indexOf_raise (w : World) (l : Addr) : ∀ (p : Program) (loose : List Str) (mean : ExcName → Option Value) (mg mb : Str → Option Value) (dp un : Nat) (gd : Option (List Code)) (cn : Str) (cs : Scope) (ad : Addr) (ccd : Value) (cl : List (Str × Addr)) (outer : List Env) (A₀ : Around) (base h₀ : Heap) (L : Addr) (m : Str → Option Value) (g : Heap) (gens : Array GenState) (drawn : Drawn) (toks : Nat) (os : OsState) (Q E : Value → Shared → Prop),
    Below A₀ base outer h₀ → Fr h₀ L g m → (Mine.K w.params).In h₀ → Top p loose mean mg mb h₀ → cs.kind = .function → (∃ bs : List Bool, g.IsList l (bs.map Value.bool).toArray ∧ ∀ b ∈ bs, b = false) →
      dp + 2 < recursionLimit → un + 8 * 2 < cLine →
      (∀ (e t : Addr) (vs : List Value) (h' : Heap) (tk' : Nat), RaisedK (hideAll g ((envX cn cs L ad ccd cl :: outer).filterMap (·.frame))) (envX cn cs L ad ccd cl :: outer) e (.type "ValueError") t vs [] h' → g.UpToSlots h' → E (.ref e) ⟨h', gens, drawn, tk', os⟩) →
      wpAny (model PySem.Challenge.rw_tl0044_01.row.prog w) (ktrTop dp un gd cn cs L ad ccd cl outer) (call (.ref 115) [.ref l, .bool true]) Q E ⟨g, gens, drawn, toks, os⟩ := by
  k_fill
  intro p loose mean mg mb dp un gd cn cs ad ccd cl outer A₀ base h₀ L m g gens drawn toks os Q E B F X T hk hpre hd hu hret
  refine wpAny_call ?_
  (refine' Mine.code_defE ?k1 ?k2 ?k3 ?k5 ?kA ?kF ?kK ?k6 ?k7 ?k8 ?k9 ?kB ?_ ?c2 ?c3 ?c4 ?c5; (case kA => exact rfl); (case kF => exact rfl); (case kK => assumption); (case k1 => k_asm); (case k2 => k_asm); (case k3 => k_asm); (case k5 => k_asm); (case k6 => k_is); (case k7 => k_is); (case k8 => ktr_room); (case k9 => first | exact BindsTo.of_eq (binds := [(_, _)]) rfl | exact BindsTo.of_eq (binds := [(_, _), (_, _)]) rfl | exact BindsTo.of_eq (binds := [(_, _), (_, _), (_, _)]) rfl | exact BindsTo.of_eq rfl); (case c5 => decide); (case kB => exact locs rfl); (case c2 => exact rfl); (case c3 => exact rfl); (case c4 => exact rfl); k_whole; intro L' h' tk' F' N' B' X' T'; (try dsimp only); (try k_fold))
  obtain ⟨bs, hpre, hb⟩ := hpre
  (repeat' (first | ((with_reducible show wpAny _ _ (exec (Stmt.For (PySem.Expr.Tuple _ _ _) (PySem.Expr.Call _ _ _ _) (_ :: _) (_ :: _) _) _) _ _ _); (with_unfolding_all refine wpAny_For ?_ (by exact fun _ => rfl))) | (with_reducible refine Mine.toksE ?_; intro _) | (k_unfold; (try dsimp only)) | (k_end; wrow_close) | walk1 | (dsimp only; walk1) | (leave1; (try dsimp only))))
  unfold Stop
  refine enumElse (fun i => True) (by exact rfl) hpre (by exact rfl) (by exact rfl) (by exact rfl) (by passes_own) (by k_asm) trivial ?_ ?_
  · rintro i v t9 h9 tk9 own9 hv hJ F9 N9
    dsimp only [envOf] at F9 N9
    obtain ⟨b9, hb9, rfl⟩ : ∃ b, bs[i]? = some b ∧ v = .bool b := by
      simp only [List.getElem?_toArray, List.getElem?_map, Option.map_eq_some_iff] at hv
      obtain ⟨b, h1, h2⟩ := hv
      exact ⟨b, h1, h2.symm⟩
    have e1 : b9 = false := hb _ (List.mem_of_getElem? hb9)
    subst e1
    (repeat' (first | ((with_reducible show wpAny _ _ (exec (Stmt.For (PySem.Expr.Tuple _ _ _) (PySem.Expr.Call _ _ _ _) (_ :: _) (_ :: _) _) _) _ _ _); (with_unfolding_all refine wpAny_For ?_ (by exact fun _ => rfl))) | (with_reducible refine Mine.toksE ?_; intro _) | (k_unfold; (try dsimp only)) | (k_end; wrow_close) | walk1 | (dsimp only; walk1) | (leave1; (try dsimp only))))
    exact ⟨_, _, _, rfl, F9, N9, fun z q1 q2 => by (try dsimp only [put, lookR]); rw [if_neg q2, if_neg q1], trivial⟩
  · intro h9 tk9 m9 hm F9 hJ
    have B2 := below_hide B'
    clear B' hm
    (repeat' (first | ((with_reducible show wpAny _ _ (exec (Stmt.For (PySem.Expr.Tuple _ _ _) (PySem.Expr.Call _ _ _ _) (_ :: _) (_ :: _) _) _) _ _ _); (with_unfolding_all refine wpAny_For ?_ (by exact fun _ => rfl))) | (with_reducible refine Mine.toksE ?_; intro _) | (k_unfold; (try dsimp only)) | (k_end; wrow_close) | walk1 | (dsimp only; walk1) | (leave1; (try dsimp only))))
    unfold Stop
    refine Raise_madeB PySem.F.excCall_ValueError PySem.F.excRaise_ValueError rfl ?_
    (repeat' (first | ((with_reducible show wpAny _ _ (exec (Stmt.For (PySem.Expr.Tuple _ _ _) (PySem.Expr.Call _ _ _ _) (_ :: _) (_ :: _) _) _) _ _ _); (with_unfolding_all refine wpAny_For ?_ (by exact fun _ => rfl))) | (with_reducible refine Mine.toksE ?_; intro _) | (k_unfold; (try dsimp only)) | (k_end; wrow_close) | walk1 | (dsimp only; walk1) | (leave1; (try dsimp only))))
    exact hret _ _ _ _ _ ⟨⟨_, fun _ _ e => e, fun _ h => (nomatch h), by assumption, by assumption⟩, by assumption⟩ (by assumption)
end Mine
end
section
open PySem PySem.W PySem.Calls PyProof.Rows
set_option Elab.async false
set_option maxRecDepth 100000
set_option maxHeartbeats 0
namespace Mine
open PySem.Spec PyProof.V PyProof.Rows.LCg
noncomputable def Stop2 (P : Prop) : Prop := P
theorem stopHere2 {P : Prop} (h : Stop2 P) : P := h
noncomputable def Stop3 (P : Prop) : Prop := P
theorem stopHere3 {P : Prop} (h : Stop3 P) : P := h
section
variable {prog : Program} {w : World} {A : Around} {s : Shared} {h₀ : Heap} {L : Addr} {m : Str → Option Value} {env : Env}
/-- a test's end: not taken -/
noncomputable def EndN (h₀ : Heap) (L : Addr) (m : Str → Option Value) (s₁ : Shared) (all : List (Addr × Obj)) (ok : Bool) (s₂ : Shared) : Prop :=
  ok = false ∧ ∃ h' tk, s₂ = { s₁ with heap := h', toks := tk } ∧ Fr h₀ L h' m ∧ News h₀ L h' all
theorem restNone {ct elt : Expr} {x : Str} {scope : Scope} {cl : List (Str × Addr)} {S : List (Addr × Obj) → Prop} {P : Nat → Value → Prop} {Fin : List Value → List (Addr × Obj) → Prop} {news : List (Addr × Obj)} (hS : S news) (fin : Fin [] news)
    (turn : ∀ i v I oI C oC D m₂ h tk (E' : Value → Shared → Prop), P i v → NsObj oC m₂ → m₂ x = some v → Fr h₀ L h m → News h₀ L h ((I, oI) :: (C, oC) :: (D, lst []) :: news) → Off3 I C D news → ((@Ne Nat I C) ∧ (@Ne Nat I D) ∧ (@Ne Nat C D)) →
      wpAny (model prog w) A (isTrue ct (compEnvC scope cl C env) (eval ct (compEnvC scope cl C env))) (EndN h₀ L m { s with heap := h, toks := tk } ((I, oI) :: (C, oC) :: (D, lst []) :: news)) E' { s with heap := h, toks := tk }) :
    ∀ k i, LCt.CompRestT prog w A h₀ L m env ct elt x scope cl s S P Fin k i [] news
  | 0, _ => LCt.CompRestT.zero fin
  | k + 1, i => LCt.CompRestT.succ fun v I oI C oC D m₂ h tk E' hP hC hx F N off ne => wpAny_mono (turn i v I oI C oC D m₂ h tk E' hP hC hx F N off ne) (fun ok s' q => by
      obtain ⟨rfl, h', tk', rfl, F', N'⟩ := q
      rw [if_neg Bool.false_ne_true]
      exact ⟨h', tk', news, rfl, F', N', off, hS, restNone hS fin turn k (i + 1)⟩) fun _ _ e => e
end
noncomputable def First (bs : List Bool) (k : Nat) : Prop := bs[k]? = some true ∧ ∀ j < k, bs[j]? = some false
theorem indexOf_specF (w : World) (l : Addr) (k : Nat) : Spec w 115 2 [.ref l, .bool true] (fun g => ∃ bs : List Bool, g.IsList l (bs.map Value.bool).toArray ∧ First bs k) (fun v new => ∃ t, v = .int k t ∧ new = []) := by
  intro p loose mean mg mb dp un gd cn cs ad ccd cl outer A₀ base h₀ L m g gens drawn toks os Q E B F X T hk hpre
  obtain ⟨bs, h1, h2, h3⟩ := hpre
  exact indexOf_spec w l bs k h2 h3 p loose mean mg mb dp un gd cn cs ad ccd cl outer A₀ base h₀ L m g gens drawn toks os Q E B F X T hk h1
local macro_rules | `(tactic| walk_at "CompSrcT") => `(tactic| refine' stopHere2 ?_)
local macro_rules | `(tactic| walk_at "SrcA") => `(tactic| refine' stopHere2 ?_)
theorem pick_bools (bs : List Bool) (x : Int) (h : 0 ≤ x) : (slicePick (bs.map Value.bool).toArray (some x) none none).toList = (bs.drop x.toNat).map Value.bool := by
  have e : sliceBounds (some x) none none (bs.map Value.bool).toArray.size = (((min x.toNat (bs.map Value.bool).toArray.size : Nat) : Int), (((bs.map Value.bool).toArray.size : Nat) : Int), 1) := by
    simp only [sliceBounds, Option.getD_none, show (1 : Int) > 0 by decide, if_true, if_neg (show ¬ (x < 0) by omega)]
    congr 1
    omega
  rw [kmk_pick_nat _ e]
  show (((bs.map Value.bool).drop (min x.toNat (bs.map Value.bool).toArray.size)).take ((bs.map Value.bool).toArray.size - min x.toNat (bs.map Value.bool).toArray.size)) = _
  rw [List.size_toArray, kmk_drop_min, List.take_of_length_le (by rw [List.length_drop]; omega), List.map_drop]
local macro_rules | `(tactic| walk_at "exec Try cons cons nil nil") => `(tactic| refine' stopHere3 ?_)
noncomputable def markF (n : Nat) : Bool := (⟨#[n]⟩ : Str) == Str.ofString " "
theorem markF_eq (n : Nat) : markF n = decide (n = 32) := by
  unfold markF
  by_cases h : n = 32
  · subst h; decide
  · rw [decide_eq_false h]
    cases e : ((⟨#[n]⟩ : Str) == Str.ofString " ") with
    | false => rfl
    | true => exact absurd (by simpa using (show ((⟨#[n]⟩ : Str) == ⟨#[32]⟩) = true from e)) h
theorem first_of {u v : List Nat} (h : ∀ z ∈ u, z ≠ 32) : First ((u ++ 32 :: v).map markF) u.length := by
  constructor
  · rw [List.getElem?_map, List.getElem?_append_right (Nat.le_refl _), Nat.sub_self]
    rfl
  · intro j hj
    rw [List.getElem?_map, List.getElem?_append_left hj, List.getElem?_eq_getElem hj]
    simp only [Option.map_some, markF_eq, Option.some.injEq, decide_eq_false_iff_not]
    exact h _ (List.getElem_mem hj)
theorem drop_one (u v : List Nat) : List.drop ((u.length : Int) + 1).toNat ((u ++ 32 :: v).map markF) = v.map markF := by
  rw [show ((u.length : Int) + 1).toNat = u.length + 1 by omega, ← List.map_drop, List.drop_append]
  simp
theorem sl_to {x : Str} {u v : List Nat} (h : x.cps.toList = u ++ v) : Txt.slice x none (some (u.length : Int)) = ⟨u.toArray⟩ := by
  have e := eq_of_beq (slice_closes_to (x := x) (j := (u.length : Int)) ⟨by omega, by rw [h, List.length_append]; omega⟩)
  rw [e, h]
  simp
theorem sl_from {x : Str} {u v : List Nat} (h : x.cps.toList = u ++ 32 :: v) : Txt.slice x (some ((u.length : Int) + 1)) none = ⟨v.toArray⟩ := by
  have hl : x.length = u.length + 1 + v.length := by
    have := congrArg List.length h
    simp only [List.length_append, List.length_cons, Array.length_toList] at this
    show x.cps.size = _
    omega
  rw [slice_from_eq (by omega) (by omega) rfl, h, show ((u.length : Int) + 1).toNat = u.length + 1 by omega, List.drop_append, show ((x.length : Int) - ((u.length : Int) + 1)).toNat = v.length by omega]
  simp [List.drop_eq_nil_of_le (show u.length ≤ u.length + 1 by omega)]
theorem fr_hide {g h : Heap} {L L' : Addr} {m : Str → Option Value} (F : Fr g L' h m) : Fr (hideAll g [L]) L' h m := ⟨F.ns, fun b o e => F.keep b o (of_hideAll _ e), by rw [hideAll_size]; exact F.above⟩
theorem hide_over {g h : Heap} {L L' : Addr} {m : Str → Option Value} (F : Fr g L' h m) : ∀ b o, (hideAll g [L]).get? b = some o → (hideAll h [L', L]).get? b = some o := fun b o e => by
  have e0 := of_hideAll _ e
  refine hideAll_get _ (F.keep b o e0) fun hm => ?_
  rcases List.mem_cons.mp hm with q | q
  · rw [q, fr_not F] at e0; cases e0
  · rw [List.mem_singleton.mp q, hideAll_none _ (List.mem_singleton.mpr rfl)] at e; cases e
theorem news_over {g h h7 : Heap} {L L' : Addr} {m m₁ : Str → Option Value} {news : List (Addr × Obj)} (F₀ : g.Ns L m₁) (F : Fr g L' h m) (N : News g L' h news) (st : (hideAll h [L', L]).StaysIn h7) (U : h.UpToSlots h7) :
    ∃ oL sl, g.get? L = some oL ∧ News (hideAll g [L]) L' h7 ((L, { oL with slots := sl }) :: news) := by
  obtain ⟨oL, es, ep, hg, hd, r⟩ := F₀
  obtain ⟨sl, hs⟩ := U L oL (F.keep _ _ hg) (fun vs q => by rw [hd] at q; cases q)
  refine ⟨oL, sl, hg, fun q hq => ?_⟩
  rcases List.mem_cons.mp hq with rfl | hq
  · exact ⟨hs, (fun e => by rw [show L = L' from e, fr_not F] at hg; cases hg), hideAll_none _ (List.mem_singleton.mpr rfl)⟩
  · have z := N q hq
    refine ⟨st _ _ (hideAll_get _ z.1 fun hm => ?_), z.2.1, ?_⟩
    · rcases List.mem_cons.mp hm with e | e
      · exact z.2.1 e
      · rw [List.mem_singleton.mp e, hg] at z; exact absurd z.2.2 (by simp)
    · cases e : (hideAll g [L]).get? q.1 with
      | none => rfl
      | some o => have := of_hideAll _ e; rw [z.2.2] at this; cases this
theorem cut_spec (w : World) (a : Str) (ta : Tok) (u1 u2 u3 : List Nat) (ha : a.cps.toList = u1 ++ 32 :: (u2 ++ 32 :: u3)) (n1 : ∀ z ∈ u1, z ≠ 32) (n2 : ∀ z ∈ u2, z ≠ 32) (n3 : ∀ z ∈ u3, z ≠ 32) : SpecL w 205 12 [.str a ta] (fun g => a.length ≤ 100) (fun v new => ∃ (D : Addr) (t1 t2 t3 : Tok), v = .ref D ∧ new = [(D, W.listOf #[.str ⟨u1.toArray⟩ t1, .str ⟨u2.toArray⟩ t2, .str ⟨u3.toArray⟩ t3] 0)]) := by
  unfold SpecL
  k_fill
  intro p loose mean mg mb dp un gd cn cs ad ccd cl A₀ base h₀ L m g gens drawn toks os Q E B F X T hk hpre hd hu hret
  refine wpAny_call ?_
  (refine' Mine.code_defL ?k1 ?k2 ?k3 ?k5 ?kA ?kF ?kK ?k6 ?k7 ?k8 ?k9 ?kB ?_ ?c2 ?c3 ?c4 ?c5; (case kA => exact rfl); (case kF => exact rfl); (case kK => assumption); (case k1 => k_asm); (case k2 => k_asm); (case k3 => k_asm); (case k5 => k_asm); (case k6 => k_is); (case k7 => k_is); (case k8 => ktr_room); (case k9 => first | exact BindsTo.of_eq (binds := [(_, _)]) rfl | exact BindsTo.of_eq (binds := [(_, _), (_, _)]) rfl | exact BindsTo.of_eq (binds := [(_, _), (_, _), (_, _)]) rfl | exact BindsTo.of_eq rfl); (case c5 => decide); (case kB => exact locs rfl); (case c2 => exact rfl); (case c3 => exact rfl); (case c4 => exact rfl); k_whole; intro L' h' F' N' B' X' T' HH'; (try dsimp only); (try k_fold))
  (repeat' (first | ((with_reducible show wpAny _ _ (call (Value.ref _) _) _ _ _); k_dflt (refine (indexOf_raise _ _) _ _ _ _ _ _ _ _ _ _ _ _ _ _ _ _ _ _ _ _ _ _ _ _ _ _ (by k_asm) (by k_asm) (by k_asm) (by k_asm) (by first | exact rfl | assumption) (by exact ⟨_, by is_list, by assumption⟩) (by ktr_room) (by ktr_units) ?_); intro e9 t9 vs9 h9 tk9 R9 U9; refine stopHere3 ?_) | ((with_reducible show wpAny _ _ (subscriptTail _ (PySem.Expr.Slice _ _ none _) (Value.ref _) (Value.ref _)) _ _ _); k_dflt (refine kmk_slice_lit (by k_asm) (by k_asm) (by kmk_list) (by kmk_part) (by kmk_part) (by exact pick_bools _ _ (by omega)) ?_ (by with_unfolding_all rfl) (by kmk_pure) (by (simp only [List.size_toArray, List.length_map]; show _ ≤ 16777216; (try simp only [List.length_drop, List.length_map, Array.length_toList]); omega))); intro Dz9 hz9 Fz9 Nz9 l1; (try k_lt l1); (try k_sweep)) | ((with_reducible show wpAny _ _ (call (Value.ref _) _) _ _ _); refine opqQ ?_; intro Q5 hQ5; refine callS (indexOf_specF _ _ _) ?_ (by (exact ⟨_, by is_list, by assumption⟩)); intro v9 new9 h9 tk9 hR9 st9 F9 N9 N10; (obtain ⟨t9, e9, e8⟩ := hR9; subst e9 e8); (try simp only [List.nil_append, List.cons_append] at N10); (try k_sweep); refine finQ hQ5 ?_; clear hQ5; clear Q5; (try dsimp only)) | ((with_reducible show wpAny _ _ (exec (Stmt.Assign [Expr.Name (Str.ofString "marks") _] _ _) _) _ _ _); k_dflt (refine Assign_ListComp_S (by k_asm) (by rfl) (by with_unfolding_all rfl) (by with_unfolding_all rfl) (by decide) (by rfl) (by decide) (by rfl) (by rfl) (by rfl) ?_)) | ((with_reducible show wpAny _ _ (call (Value.ref _) _) _ _ _); refine opqQ ?_; intro Q5 hQ5; refine callS (c11_spec _ _ _) ?_ (by trivial); intro v9 new9 h9 tk9 hR9 st9 F9 N9 N10; (obtain ⟨e9, e8⟩ := hR9; subst e9 e8); (try simp only [List.nil_append, List.cons_append] at N10); (try k_sweep); refine finQ hQ5 ?_; clear hQ5; clear Q5; (try dsimp only)) | ((with_reducible show wpAny _ _ (eval (PySem.Expr.ListComp _ _ _ _) _) _ _ _); k_dflt (refine LCt.ListComp_T (F₀ := by k_asm) (by with_unfolding_all rfl) (by decide) (by rfl) (by decide) (by rfl) ?_)) | (with_reducible refine Mine.toksE ?_; intro _) | (k_unfold; (try dsimp only)) | (k_end; wrow_close) | walk1 | (dsimp only; walk1) | (leave1; (try dsimp only))))
  unfold Stop2
  refine ⟨_, _, 0, [], fun pre ys => ys = (pre.map markF).map Value.bool, rfl, by exact rfl, ?sz, Nat.zero_le _, by k_asm, News.nil, rfl, ?turns, ?fin⟩
  case sz => show a.length ≤ 16777216; omega
  case turns =>
    intro pre n post t9 I9 oI9 C9 oC9 D9 m9 ys9 h9 tk9 E9 e9 G9 l9 ht1 ht2 hC9 hx9 F9 N9 off9 ne9
    dsimp only [envOf] at F9 N9
    (repeat' (first | ((with_reducible show wpAny _ _ (call (Value.ref _) _) _ _ _); k_dflt (refine (indexOf_raise _ _) _ _ _ _ _ _ _ _ _ _ _ _ _ _ _ _ _ _ _ _ _ _ _ _ _ _ (by k_asm) (by k_asm) (by k_asm) (by k_asm) (by first | exact rfl | assumption) (by exact ⟨_, by is_list, by assumption⟩) (by ktr_room) (by ktr_units) ?_); intro e9 t9 vs9 h9 tk9 R9 U9; refine stopHere3 ?_) | ((with_reducible show wpAny _ _ (subscriptTail _ (PySem.Expr.Slice _ _ none _) (Value.ref _) (Value.ref _)) _ _ _); k_dflt (refine kmk_slice_lit (by k_asm) (by k_asm) (by kmk_list) (by kmk_part) (by kmk_part) (by exact pick_bools _ _ (by omega)) ?_ (by with_unfolding_all rfl) (by kmk_pure) (by (simp only [List.size_toArray, List.length_map]; show _ ≤ 16777216; (try simp only [List.length_drop, List.length_map, Array.length_toList]); omega))); intro Dz9 hz9 Fz9 Nz9 l1; (try k_lt l1); (try k_sweep)) | ((with_reducible show wpAny _ _ (call (Value.ref _) _) _ _ _); refine opqQ ?_; intro Q5 hQ5; refine callS (indexOf_specF _ _ _) ?_ (by (exact ⟨_, by is_list, by assumption⟩)); intro v9 new9 h9 tk9 hR9 st9 F9 N9 N10; (obtain ⟨t9, e9, e8⟩ := hR9; subst e9 e8); (try simp only [List.nil_append, List.cons_append] at N10); (try k_sweep); refine finQ hQ5 ?_; clear hQ5; clear Q5; (try dsimp only)) | ((with_reducible show wpAny _ _ (exec (Stmt.Assign [Expr.Name (Str.ofString "marks") _] _ _) _) _ _ _); k_dflt (refine Assign_ListComp_S (by k_asm) (by rfl) (by with_unfolding_all rfl) (by with_unfolding_all rfl) (by decide) (by rfl) (by decide) (by rfl) (by rfl) (by rfl) ?_)) | ((with_reducible show wpAny _ _ (call (Value.ref _) _) _ _ _); refine opqQ ?_; intro Q5 hQ5; refine callS (c11_spec _ _ _) ?_ (by trivial); intro v9 new9 h9 tk9 hR9 st9 F9 N9 N10; (obtain ⟨e9, e8⟩ := hR9; subst e9 e8); (try simp only [List.nil_append, List.cons_append] at N10); (try k_sweep); refine finQ hQ5 ?_; clear hQ5; clear Q5; (try dsimp only)) | ((with_reducible show wpAny _ _ (eval (PySem.Expr.ListComp _ _ _ _) _) _ _ _); k_dflt (refine LCt.ListComp_T (F₀ := by k_asm) (by with_unfolding_all rfl) (by decide) (by rfl) (by decide) (by rfl) ?_)) | (with_reducible refine Mine.toksE ?_; intro _) | (k_unfold; (try dsimp only)) | (k_end; wrow_close) | walk1 | (dsimp only; walk1) | (leave1; (try dsimp only))))
    rename News _ _ _ (_ :: _) => N11
    exact EndC.mk (Nat.zero_le _) (by k_asm) N11 (fun _ h => h) (by (try dsimp only); rw [G9, List.map_append, List.map_append]; rfl)
  case fin =>
    intro ys9 D9 h9 tk9 G9 _ F9 N9 off9
    dsimp only [envOf] at F9 N9
    subst G9
    (repeat' (first | ((with_reducible show wpAny _ _ (call (Value.ref _) _) _ _ _); k_dflt (refine (indexOf_raise _ _) _ _ _ _ _ _ _ _ _ _ _ _ _ _ _ _ _ _ _ _ _ _ _ _ _ _ (by k_asm) (by k_asm) (by k_asm) (by k_asm) (by first | exact rfl | assumption) (by exact ⟨_, by is_list, by assumption⟩) (by ktr_room) (by ktr_units) ?_); intro e9 t9 vs9 h9 tk9 R9 U9; refine stopHere3 ?_) | ((with_reducible show wpAny _ _ (subscriptTail _ (PySem.Expr.Slice _ _ none _) (Value.ref _) (Value.ref _)) _ _ _); k_dflt (refine kmk_slice_lit (by k_asm) (by k_asm) (by kmk_list) (by kmk_part) (by kmk_part) (by exact pick_bools _ _ (by omega)) ?_ (by with_unfolding_all rfl) (by kmk_pure) (by (simp only [List.size_toArray, List.length_map]; show _ ≤ 16777216; (try simp only [List.length_drop, List.length_map, Array.length_toList]); omega))); intro Dz9 hz9 Fz9 Nz9 l1; (try k_lt l1); (try k_sweep)) | ((with_reducible show wpAny _ _ (call (Value.ref _) _) _ _ _); refine opqQ ?_; intro Q5 hQ5; refine callS (indexOf_specF _ _ _) ?_ (by (exact ⟨_, by is_list, by assumption⟩)); intro v9 new9 h9 tk9 hR9 st9 F9 N9 N10; (obtain ⟨t9, e9, e8⟩ := hR9; subst e9 e8); (try simp only [List.nil_append, List.cons_append] at N10); (try k_sweep); refine finQ hQ5 ?_; clear hQ5; clear Q5; (try dsimp only)) | ((with_reducible show wpAny _ _ (exec (Stmt.Assign [Expr.Name (Str.ofString "marks") _] _ _) _) _ _ _); k_dflt (refine Assign_ListComp_S (by k_asm) (by rfl) (by with_unfolding_all rfl) (by with_unfolding_all rfl) (by decide) (by rfl) (by decide) (by rfl) (by rfl) (by rfl) ?_)) | ((with_reducible show wpAny _ _ (call (Value.ref _) _) _ _ _); refine opqQ ?_; intro Q5 hQ5; refine callS (c11_spec _ _ _) ?_ (by trivial); intro v9 new9 h9 tk9 hR9 st9 F9 N9 N10; (obtain ⟨e9, e8⟩ := hR9; subst e9 e8); (try simp only [List.nil_append, List.cons_append] at N10); (try k_sweep); refine finQ hQ5 ?_; clear hQ5; clear Q5; (try dsimp only)) | ((with_reducible show wpAny _ _ (eval (PySem.Expr.ListComp _ _ _ _) _) _ _ _); k_dflt (refine LCt.ListComp_T (F₀ := by k_asm) (by with_unfolding_all rfl) (by decide) (by rfl) (by decide) (by rfl) ?_)) | (with_reducible refine Mine.toksE ?_; intro _) | (k_unfold; (try dsimp only)) | (k_end; wrow_close) | walk1 | (dsimp only; walk1) | (leave1; (try dsimp only))))
    unfold Stop2
    rename News _ _ _ [_] => N10
    refine LCt.CompSrcT.ledger (by exact rfl) (by k_asm) N10 (.head _) ?sz ?_
    case sz => simp; show a.cps.size ≤ 16777216; show a.length ≤ _; omega
    intro g9
    refine restNone ?S ?fin ?turn _ _
    case S => exact .inr ⟨_, .head _, rfl, _, rfl⟩
    case turn =>
      intro i9 v9 I9 oI9 C9 oC9 D8 m9 h8 tk8 E9 hP9 hC9 hx9 F8 N8 off8 ne9
      obtain ⟨b9, hb9⟩ : ∃ b, v9 = .bool b := by
        have q := hP9
        simp only [List.getElem?_toArray, List.getElem?_map, Option.map_eq_some_iff] at q
        obtain ⟨n, _, q⟩ := q
        exact ⟨_, q.symm⟩
      subst hb9
      (try dsimp only [envOf] at F8 N8)
      cases b9
      all_goals (repeat' (first | ((with_reducible show wpAny _ _ (call (Value.ref _) _) _ _ _); k_dflt (refine (indexOf_raise _ _) _ _ _ _ _ _ _ _ _ _ _ _ _ _ _ _ _ _ _ _ _ _ _ _ _ _ (by k_asm) (by k_asm) (by k_asm) (by k_asm) (by first | exact rfl | assumption) (by exact ⟨_, by is_list, by assumption⟩) (by ktr_room) (by ktr_units) ?_); intro e9 t9 vs9 h9 tk9 R9 U9; refine stopHere3 ?_) | ((with_reducible show wpAny _ _ (subscriptTail _ (PySem.Expr.Slice _ _ none _) (Value.ref _) (Value.ref _)) _ _ _); k_dflt (refine kmk_slice_lit (by k_asm) (by k_asm) (by kmk_list) (by kmk_part) (by kmk_part) (by exact pick_bools _ _ (by omega)) ?_ (by with_unfolding_all rfl) (by kmk_pure) (by (simp only [List.size_toArray, List.length_map]; show _ ≤ 16777216; (try simp only [List.length_drop, List.length_map, Array.length_toList]); omega))); intro Dz9 hz9 Fz9 Nz9 l1; (try k_lt l1); (try k_sweep)) | ((with_reducible show wpAny _ _ (call (Value.ref _) _) _ _ _); refine opqQ ?_; intro Q5 hQ5; refine callS (indexOf_specF _ _ _) ?_ (by (exact ⟨_, by is_list, by assumption⟩)); intro v9 new9 h9 tk9 hR9 st9 F9 N9 N10; (obtain ⟨t9, e9, e8⟩ := hR9; subst e9 e8); (try simp only [List.nil_append, List.cons_append] at N10); (try k_sweep); refine finQ hQ5 ?_; clear hQ5; clear Q5; (try dsimp only)) | ((with_reducible show wpAny _ _ (exec (Stmt.Assign [Expr.Name (Str.ofString "marks") _] _ _) _) _ _ _); k_dflt (refine Assign_ListComp_S (by k_asm) (by rfl) (by with_unfolding_all rfl) (by with_unfolding_all rfl) (by decide) (by rfl) (by decide) (by rfl) (by rfl) (by rfl) ?_)) | ((with_reducible show wpAny _ _ (call (Value.ref _) _) _ _ _); refine opqQ ?_; intro Q5 hQ5; refine callS (c11_spec _ _ _) ?_ (by trivial); intro v9 new9 h9 tk9 hR9 st9 F9 N9 N10; (obtain ⟨e9, e8⟩ := hR9; subst e9 e8); (try simp only [List.nil_append, List.cons_append] at N10); (try k_sweep); refine finQ hQ5 ?_; clear hQ5; clear Q5; (try dsimp only)) | ((with_reducible show wpAny _ _ (eval (PySem.Expr.ListComp _ _ _ _) _) _ _ _); k_dflt (refine LCt.ListComp_T (F₀ := by k_asm) (by with_unfolding_all rfl) (by decide) (by rfl) (by decide) (by rfl) ?_)) | (with_reducible refine Mine.toksE ?_; intro _) | (k_unfold; (try dsimp only)) | (k_end; wrow_close) | walk1 | (dsimp only; walk1) | (leave1; (try dsimp only))))
      all_goals exact ⟨rfl, _, _, rfl, F8, N8⟩
    case fin =>
      intro D8 h8 tk8 F8 N8 off8
      (try dsimp only [envOf] at F8 N8)
      have f1 : First (a.cps.toList.map markF) u1.length := by rw [ha]; exact first_of n1
      have f2 : First (List.drop ((u1.length : Int) + 1).toNat (a.cps.toList.map markF)) u2.length := by rw [ha, drop_one]; exact first_of n2
      have as : a.cps.size ≤ 100 := hpre
      have al : a.length = u1.length + 1 + (u2.length + 1 + u3.length) := by
        have := congrArg List.length ha
        simp only [List.length_append, List.length_cons, Array.length_toList] at this
        show a.cps.size = _
        omega
      have f3 : ∀ b ∈ List.drop ((u2.length : Int) + 1).toNat (List.drop ((u1.length : Int) + 1).toNat (a.cps.toList.map markF)), b = false := by
        rw [ha, drop_one, drop_one]
        intro b hb
        obtain ⟨z, hz, rfl⟩ := List.mem_map.mp hb
        rw [markF_eq, decide_eq_false (n3 z hz)]
      (repeat' (first | ((with_reducible show wpAny _ _ (call (Value.ref _) _) _ _ _); k_dflt (refine (indexOf_raise _ _) _ _ _ _ _ _ _ _ _ _ _ _ _ _ _ _ _ _ _ _ _ _ _ _ _ _ (by k_asm) (by k_asm) (by k_asm) (by k_asm) (by first | exact rfl | assumption) (by exact ⟨_, by is_list, by assumption⟩) (by ktr_room) (by ktr_units) ?_); intro e9 t9 vs9 h9 tk9 R9 U9; refine stopHere3 ?_) | ((with_reducible show wpAny _ _ (subscriptTail _ (PySem.Expr.Slice _ _ none _) (Value.ref _) (Value.ref _)) _ _ _); k_dflt (refine kmk_slice_lit (by k_asm) (by k_asm) (by kmk_list) (by kmk_part) (by kmk_part) (by exact pick_bools _ _ (by omega)) ?_ (by with_unfolding_all rfl) (by kmk_pure) (by (simp only [List.size_toArray, List.length_map]; show _ ≤ 16777216; (try simp only [List.length_drop, List.length_map, Array.length_toList]); omega))); intro Dz9 hz9 Fz9 Nz9 l1; (try k_lt l1); (try k_sweep)) | ((with_reducible show wpAny _ _ (call (Value.ref _) _) _ _ _); refine opqQ ?_; intro Q5 hQ5; refine callS (indexOf_specF _ _ _) ?_ (by (exact ⟨_, by is_list, by assumption⟩)); intro v9 new9 h9 tk9 hR9 st9 F9 N9 N10; (obtain ⟨t9, e9, e8⟩ := hR9; subst e9 e8); (try simp only [List.nil_append, List.cons_append] at N10); (try k_sweep); refine finQ hQ5 ?_; clear hQ5; clear Q5; (try dsimp only)) | ((with_reducible show wpAny _ _ (exec (Stmt.Assign [Expr.Name (Str.ofString "marks") _] _ _) _) _ _ _); k_dflt (refine Assign_ListComp_S (by k_asm) (by rfl) (by with_unfolding_all rfl) (by with_unfolding_all rfl) (by decide) (by rfl) (by decide) (by rfl) (by rfl) (by rfl) ?_)) | ((with_reducible show wpAny _ _ (call (Value.ref _) _) _ _ _); refine opqQ ?_; intro Q5 hQ5; refine callS (c11_spec _ _ _) ?_ (by trivial); intro v9 new9 h9 tk9 hR9 st9 F9 N9 N10; (obtain ⟨e9, e8⟩ := hR9; subst e9 e8); (try simp only [List.nil_append, List.cons_append] at N10); (try k_sweep); refine finQ hQ5 ?_; clear hQ5; clear Q5; (try dsimp only)) | ((with_reducible show wpAny _ _ (eval (PySem.Expr.ListComp _ _ _ _) _) _ _ _); k_dflt (refine LCt.ListComp_T (F₀ := by k_asm) (by with_unfolding_all rfl) (by decide) (by rfl) (by decide) (by rfl) ?_)) | (with_reducible refine Mine.toksE ?_; intro _) | (k_unfold; (try dsimp only)) | (k_end; wrow_close) | walk1 | (dsimp only; walk1) | (leave1; (try dsimp only))))
      unfold Stop3
      refine wpAny_Try_except ?_
      (repeat' (first | ((with_reducible show wpAny _ _ (call (Value.ref _) _) _ _ _); k_dflt (refine (indexOf_raise _ _) _ _ _ _ _ _ _ _ _ _ _ _ _ _ _ _ _ _ _ _ _ _ _ _ _ _ (by k_asm) (by k_asm) (by k_asm) (by k_asm) (by first | exact rfl | assumption) (by exact ⟨_, by is_list, by assumption⟩) (by ktr_room) (by ktr_units) ?_); intro e9 t9 vs9 h9 tk9 R9 U9; refine stopHere3 ?_) | ((with_reducible show wpAny _ _ (subscriptTail _ (PySem.Expr.Slice _ _ none _) (Value.ref _) (Value.ref _)) _ _ _); k_dflt (refine kmk_slice_lit (by k_asm) (by k_asm) (by kmk_list) (by kmk_part) (by kmk_part) (by exact pick_bools _ _ (by omega)) ?_ (by with_unfolding_all rfl) (by kmk_pure) (by (simp only [List.size_toArray, List.length_map]; show _ ≤ 16777216; (try simp only [List.length_drop, List.length_map, Array.length_toList]); omega))); intro Dz9 hz9 Fz9 Nz9 l1; (try k_lt l1); (try k_sweep)) | ((with_reducible show wpAny _ _ (call (Value.ref _) _) _ _ _); refine opqQ ?_; intro Q5 hQ5; refine callS (indexOf_specF _ _ _) ?_ (by (exact ⟨_, by is_list, by assumption⟩)); intro v9 new9 h9 tk9 hR9 st9 F9 N9 N10; (obtain ⟨t9, e9, e8⟩ := hR9; subst e9 e8); (try simp only [List.nil_append, List.cons_append] at N10); (try k_sweep); refine finQ hQ5 ?_; clear hQ5; clear Q5; (try dsimp only)) | ((with_reducible show wpAny _ _ (exec (Stmt.Assign [Expr.Name (Str.ofString "marks") _] _ _) _) _ _ _); k_dflt (refine Assign_ListComp_S (by k_asm) (by rfl) (by with_unfolding_all rfl) (by with_unfolding_all rfl) (by decide) (by rfl) (by decide) (by rfl) (by rfl) (by rfl) ?_)) | ((with_reducible show wpAny _ _ (call (Value.ref _) _) _ _ _); refine opqQ ?_; intro Q5 hQ5; refine callS (c11_spec _ _ _) ?_ (by trivial); intro v9 new9 h9 tk9 hR9 st9 F9 N9 N10; (obtain ⟨e9, e8⟩ := hR9; subst e9 e8); (try simp only [List.nil_append, List.cons_append] at N10); (try k_sweep); refine finQ hQ5 ?_; clear hQ5; clear Q5; (try dsimp only)) | ((with_reducible show wpAny _ _ (eval (PySem.Expr.ListComp _ _ _ _) _) _ _ _); k_dflt (refine LCt.ListComp_T (F₀ := by k_asm) (by with_unfolding_all rfl) (by decide) (by rfl) (by decide) (by rfl) ?_)) | (with_reducible refine Mine.toksE ?_; intro _) | (k_unfold; (try dsimp only)) | (k_end; wrow_close) | walk1 | (dsimp only; walk1) | (leave1; (try dsimp only))))
      unfold Stop3
      rename RaisedK _ _ _ _ _ _ _ _ => R9
      rename Heap.UpToSlots _ _ => U9
      rename Fr g L' _ _ => F5
      obtain ⟨XL, TL⟩ := HH'
      refine caught_own (G := hideAll g [L]) (by exact rfl) (hide_over F5) (fr_hide F5) U9 R9 TL XL (by k_is) PyProof.Rows.Boot.«ValueError» PySem.F.isExc_ValueError PySem.F.notTuple_ValueError (by rw [isSubtype_type]; kernel_rfl) ?_
      intro h7 F7 st7 U7
      obtain ⟨oL, sl, hoL, N7⟩ := news_over F.ns F5 (by assumption) st7 U7
      (repeat' (first | ((with_reducible show wpAny _ _ (call (Value.ref _) _) _ _ _); k_dflt (refine (indexOf_raise _ _) _ _ _ _ _ _ _ _ _ _ _ _ _ _ _ _ _ _ _ _ _ _ _ _ _ _ (by k_asm) (by k_asm) (by k_asm) (by k_asm) (by first | exact rfl | assumption) (by exact ⟨_, by is_list, by assumption⟩) (by ktr_room) (by ktr_units) ?_); intro e9 t9 vs9 h9 tk9 R9 U9; refine stopHere3 ?_) | ((with_reducible show wpAny _ _ (subscriptTail _ (PySem.Expr.Slice _ _ none _) (Value.ref _) (Value.ref _)) _ _ _); k_dflt (refine kmk_slice_lit (by k_asm) (by k_asm) (by kmk_list) (by kmk_part) (by kmk_part) (by exact pick_bools _ _ (by omega)) ?_ (by with_unfolding_all rfl) (by kmk_pure) (by (simp only [List.size_toArray, List.length_map]; show _ ≤ 16777216; (try simp only [List.length_drop, List.length_map, Array.length_toList]); omega))); intro Dz9 hz9 Fz9 Nz9 l1; (try k_lt l1); (try k_sweep)) | ((with_reducible show wpAny _ _ (call (Value.ref _) _) _ _ _); refine opqQ ?_; intro Q5 hQ5; refine callS (indexOf_specF _ _ _) ?_ (by (exact ⟨_, by is_list, by assumption⟩)); intro v9 new9 h9 tk9 hR9 st9 F9 N9 N10; (obtain ⟨t9, e9, e8⟩ := hR9; subst e9 e8); (try simp only [List.nil_append, List.cons_append] at N10); (try k_sweep); refine finQ hQ5 ?_; clear hQ5; clear Q5; (try dsimp only)) | ((with_reducible show wpAny _ _ (exec (Stmt.Assign [Expr.Name (Str.ofString "marks") _] _ _) _) _ _ _); k_dflt (refine Assign_ListComp_S (by k_asm) (by rfl) (by with_unfolding_all rfl) (by with_unfolding_all rfl) (by decide) (by rfl) (by decide) (by rfl) (by rfl) (by rfl) ?_)) | ((with_reducible show wpAny _ _ (call (Value.ref _) _) _ _ _); refine opqQ ?_; intro Q5 hQ5; refine callS (c11_spec _ _ _) ?_ (by trivial); intro v9 new9 h9 tk9 hR9 st9 F9 N9 N10; (obtain ⟨e9, e8⟩ := hR9; subst e9 e8); (try simp only [List.nil_append, List.cons_append] at N10); (try k_sweep); refine finQ hQ5 ?_; clear hQ5; clear Q5; (try dsimp only)) | ((with_reducible show wpAny _ _ (eval (PySem.Expr.ListComp _ _ _ _) _) _ _ _); k_dflt (refine LCt.ListComp_T (F₀ := by k_asm) (by with_unfolding_all rfl) (by decide) (by rfl) (by decide) (by rfl) ?_)) | (with_reducible refine Mine.toksE ?_; intro _) | (k_unfold; (try dsimp only)) | (k_end; wrow_close) | walk1 | (dsimp only; walk1) | (leave1; (try dsimp only))))
      have w1 := sl_to ha
      have w2 := sl_from ha
      have w3 := sl_to (x := ⟨(u2 ++ 32 :: u3).toArray⟩) (u := u2) (v := 32 :: u3) rfl
      have w4 := sl_from (x := ⟨(u2 ++ 32 :: u3).toArray⟩) (u := u2) (v := u3) rfl
      rename News (hideAll g [L]) L' _ (_ :: _ :: (L, _) :: _) => N12
      rename Fr (hideAll g [L]) L' _ _ => F12
      rw [w1, w2, w3, w4] at N12
      (try dsimp only)
      dsimp +zetaDelta only
      refine ⟨L', _, oL, sl, [(_, W.listOf #[.str ⟨u1.toArray⟩ _, .str ⟨u2.toArray⟩ _, .str ⟨u3.toArray⟩ _] 0)], hoL, F12, List.forall_mem_cons.mpr ⟨N12 _ (by k_mem), List.forall_mem_cons.mpr ⟨N12 _ (.head _), List.forall_mem_nil _⟩⟩, List.forall_mem_cons.mpr ⟨(fun _ _ h => by cases h), List.forall_mem_nil _⟩, fun Ff Nf up => ?_⟩
      exact hret _ _ _ _ ⟨_, _, _, _, rfl, rfl⟩ up Ff Nf
end Mine
end
section
open PySem PySem.W PySem.Calls PyProof.Rows
set_option Elab.async false
set_option maxRecDepth 100000
set_option maxHeartbeats 0
namespace Mine
open PySem.Spec PyProof.V
local macro_rules | `(tactic| walk_at "pyIter ref") => `(tactic| (k_here; refine' stopHere ?_))
local macro_rules | `(tactic| walk_at "CompSrc") => `(tactic| refine' stopHere ?_)
structure LdS where
  us : List Value
  es : List Int
  nn : Nat
  told : Int
  tt : Tok
  oc : Obj
noncomputable def endsF (l : List Int) : List Int := (l.foldl (fun (a : Int × List Int) n => (a.1 + n, a.2 ++ [a.1 + n])) (0, [])).2
noncomputable def toldF (l : List Int) : Int := (l.foldl (fun (a : Int × List Int) n => (a.1 + n, a.2 ++ [a.1 + n])) (0, [])).1
theorem endsF_snoc (l : List Int) (n : Int) : endsF (l ++ [n]) = endsF l ++ [toldF l + n] := by unfold endsF toldF; rw [List.foldl_append]; rfl
theorem toldF_snoc (l : List Int) (n : Int) : toldF (l ++ [n]) = toldF l + n := by unfold toldF; rw [List.foldl_append]; rfl
theorem laid_bnd : ∀ (k : Nat) (l : List Int), l.length = k → (∀ n ∈ l, 0 ≤ n ∧ n ≤ 100) → 0 ≤ toldF l ∧ toldF l ≤ 100 * k ∧ (endsF l).length = k ∧ ∀ e ∈ endsF l, 0 ≤ e ∧ e ≤ 100 * k
  | 0, l, h, _ => by
    rw [List.length_eq_zero_iff.mp h]
    exact ⟨by decide, by decide, rfl, fun _ h => nomatch h⟩
  | k + 1, l, h, hb => by
    rcases List.eq_nil_or_concat l with rfl | ⟨l, n, rfl⟩
    · simp at h
    · rw [List.concat_eq_append] at h hb ⊢
      obtain ⟨a, b, c, d⟩ := laid_bnd k l (by simpa using h) (fun z hz => hb z (by simp [hz]))
      have hn := hb n (by simp)
      rw [endsF_snoc, toldF_snoc]
      refine ⟨by omega, by omega, by rw [List.length_append, c]; rfl, fun e he => ?_⟩
      rcases List.mem_append.mp he with he | he
      · have := d e he; omega
      · rw [List.mem_singleton.mp he]; omega
theorem ints_snocV {k : Int} {t : Tok} : ∀ {vs : List Value} {ns : List Int}, IntsAre vs ns → IntsAre (vs ++ [.int k t]) (ns ++ [k])
  | _, _, .nil => .cons _ _ .nil
  | _, _, .cons _ _ r => .cons _ _ (ints_snocV r)
theorem laid_spec (w : World) (l : Addr) (vs : List Value) (ns : List Int) (hn : ns.length ≤ 8) (hb : ∀ n ∈ ns, 0 ≤ n ∧ n ≤ 100) : Spec w 210 6 [.ref l] (fun g => g.IsList l vs.toArray ∧ IntsAre vs ns) (fun v new => ∃ D ys, v = .ref D ∧ new = [(D, LCg.lst ys)] ∧ StrsAre ys ((endsF ns).map fun e => Txt.mul (Str.ofString " ") (toldF ns + e) ++ Str.ofString "\t")) := by
  unfold Spec
  k_fill
  intro p loose mean mg mb dp un gd cn cs ad ccd cl outer A₀ base h₀ L m g gens drawn toks os Q E B F X T hk hpre hd hu hret
  refine wpAny_call ?_
  (refine' Mine.code_defCS ?k1 ?k2 ?k3 ?k5 ?kA ?kF ?kK ?k6 ?k7 ?k8 ?k9 ?kB ?kD ?_ ?c2 ?c3 ?c4; (case kA => exact rfl); (case kF => exact rfl); (case kK => assumption); (case k1 => k_asm); (case k2 => k_asm); (case k3 => k_asm); (case k5 => k_asm); (case k6 => k_is); (case k7 => k_is); (case k8 => ktr_room); (case k9 => exact BindsTo.of_eq rfl); (case kB => exact rfl); (case kD => decide +kernel); (case c2 => exact rfl); (case c3 => exact rfl); (case c4 => exact rfl); k_whole; intro g' L' h' tk' cells' st' F' N' Y' B' X' T'; k_cells Y'; (try simp only [List.cons_append, List.nil_append] at N'); (try dsimp only); (try k_fold))
  obtain ⟨p1, p2⟩ := hpre
  refine opqE (env := _) (by passes_own) ?_
  intro Q1 E1 hQ1 hP1
  (repeat' (first | ((with_reducible show wpAny _ _ (eval (PySem.Expr.ListComp _ _ _ _) _) _ _ _); k_dflt (refine LCg.ListComp_U (F₀ := by k_asm) (by with_unfolding_all rfl) (by decide) (by rfl) (by decide) (by rfl) ?_)) | ((with_reducible show wpAny _ _ (exec (Stmt.For (PySem.Expr.Name _ _) (PySem.Expr.Name _ _) (_ :: _) [] _) _) _ _ _); (rename Fr _ _ _ _ => lFz9); (with_unfolding_all refine For_invVF lFz9 (by exact rfl) (by exact rfl) ?_)) | ((with_reducible show wpAny _ _ (call (Value.ref _) _) _ _ _); refine opqQ ?_; intro Q5 hQ5; refine callS (add_spec _ _ _ _ _) ?_ (by trivial); intro v9 new9 h9 tk9 hR9 st9 F9 N9 N10; (obtain ⟨t9, e9, e8⟩ := hR9; subst e9 e8); (try simp only [List.nil_append, List.cons_append] at N10); (try k_sweep); refine finQ hQ5 ?_; clear hQ5; clear Q5; (try dsimp only)) | (with_reducible refine Mine.toksE ?_; intro _) | (k_unfold; (try dsimp only)) | (k_end; wrow_close) | walk1 | (dsimp only; walk1) | (leave1; (try dsimp only))))
  unfold Stop
  rename News g' L' _ [_, _, _] => N5
  refine listS (σ := LdS) (items := vs.toArray) (fun c => [(_, W.listOf c.us.toArray c.nn), (L' + 1, c.oc)]) (fun _ => []) [Str.ofString "part"] (fun i c => IntsAre c.us c.es ∧ c.es = endsF (ns.take i) ∧ c.told = toldF (ns.take i) ∧ c.oc.data = Data.cell (some (Value.int c.told c.tt))) ⟨[], [], 0, 0, _, _⟩ (by exact rfl) (p1.at fun o e => st' _ o e) (by k_asm) (List.forall_mem_cons.mpr ⟨N5 _ (.tail _ (.head _)), List.forall_mem_cons.mpr ⟨N5 _ (.tail _ (.tail _ (.head _))), List.forall_mem_nil _⟩⟩) (fun _ h => nomatch h) ⟨.nil, rfl, rfl, by assumption⟩ ?_ ?_
  · rintro i ⟨us, es, nn, told, tt, oc⟩ v u h9 tk9 own9 hv o9 ⟨s1, s2, s3, s4⟩ F9 N9
    dsimp only [kstB, envOfC] at F9 N9 s1 s2 s3 s4
    simp only [List.cons_append, List.nil_append] at N9
    have hi : i < ns.length := by
      have := (Array.getElem?_eq_some_iff.mp hv).1
      simp at this
      have := ints_size p2
      simp at this
      omega
    obtain ⟨n9, t9, hv9, hn9⟩ := IntsAre.at p2 i v (by simpa using hv)
    subst hv9
    have bd := laid_bnd _ (ns.take i) rfl (fun n hn => hb n (List.mem_of_mem_take hn))
    have nb := hb n9 (List.mem_of_getElem? hn9)
    rw [← s2, ← s3, List.length_take] at bd
    obtain ⟨b1, b2, b3, b4⟩ := bd
    (try k_fold)
    refine opqQ fun Q2 hQ2 => ?_
    (repeat' (first | ((with_reducible show wpAny _ _ (eval (PySem.Expr.ListComp _ _ _ _) _) _ _ _); k_dflt (refine LCg.ListComp_U (F₀ := by k_asm) (by with_unfolding_all rfl) (by decide) (by rfl) (by decide) (by rfl) ?_)) | ((with_reducible show wpAny _ _ (exec (Stmt.For (PySem.Expr.Name _ _) (PySem.Expr.Name _ _) (_ :: _) [] _) _) _ _ _); (rename Fr _ _ _ _ => lFz9); (with_unfolding_all refine For_invVF lFz9 (by exact rfl) (by exact rfl) ?_)) | ((with_reducible show wpAny _ _ (call (Value.ref _) _) _ _ _); refine opqQ ?_; intro Q5 hQ5; refine callS (add_spec _ _ _ _ _) ?_ (by trivial); intro v9 new9 h9 tk9 hR9 st9 F9 N9 N10; (obtain ⟨t9, e9, e8⟩ := hR9; subst e9 e8); (try simp only [List.nil_append, List.cons_append] at N10); (try k_sweep); refine finQ hQ5 ?_; clear hQ5; clear Q5; (try dsimp only)) | (with_reducible refine Mine.toksE ?_; intro _) | (k_unfold; (try dsimp only)) | (k_end; wrow_close) | walk1 | (dsimp only; walk1) | (leave1; (try dsimp only))))
    rename News g' L' _ (_ :: (L' + 1, _) :: _) => N10
    rw [List.push_toArray] at N10
    refine nextS ⟨_, es ++ [told + n9], _, _, _, _⟩ (by k_asm) N10 (List.forall_mem_cons.mpr ⟨.head _, List.forall_mem_cons.mpr ⟨.tail _ (.head _), List.forall_mem_nil _⟩⟩) (fun p hp => .tail _ (.tail _ hp)) rfl (fun _ h => nomatch h) ?_ ⟨ints_snocV s1, ?_, ?_, by assumption⟩
    · (intro z h1 h2; (simp only [List.mem_cons, List.not_mem_nil, or_false, forall_eq, forall_eq_or_imp, false_imp_iff, implies_true, and_true] at h1); (simp only [List.contains_cons, List.contains_nil, Bool.or_false, Bool.or_eq_false_iff, beq_eq_false_iff_ne] at h2); (simp [put, lookR, h1, h2]); (try rfl))
    · rw [List.take_add_one, hn9]; dsimp only [Option.toList_some]; rw [endsF_snoc, ← s2, ← s3]
    · rw [List.take_add_one, hn9]; dsimp only [Option.toList_some]; rw [toldF_snoc, ← s3]
  · rintro ⟨us, es, nn, told, tt, oc⟩ u h9 tk9 ⟨s1, s2, s3, s4⟩ F9 N9
    dsimp only [kstB, envOfC] at F9 N9 s1 s2 s3 s4
    rw [show (vs.toArray.size) = ns.length by have := ints_size p2; simp at this ⊢; omega, List.take_length] at s2 s3
    have bd := laid_bnd _ ns rfl hb
    rw [← s2, ← s3] at bd
    obtain ⟨b1, b2, b3, b4⟩ := bd
    (repeat' (first | ((with_reducible show wpAny _ _ (eval (PySem.Expr.ListComp _ _ _ _) _) _ _ _); k_dflt (refine LCg.ListComp_U (F₀ := by k_asm) (by with_unfolding_all rfl) (by decide) (by rfl) (by decide) (by rfl) ?_)) | ((with_reducible show wpAny _ _ (exec (Stmt.For (PySem.Expr.Name _ _) (PySem.Expr.Name _ _) (_ :: _) [] _) _) _ _ _); (rename Fr _ _ _ _ => lFz9); (with_unfolding_all refine For_invVF lFz9 (by exact rfl) (by exact rfl) ?_)) | ((with_reducible show wpAny _ _ (call (Value.ref _) _) _ _ _); refine opqQ ?_; intro Q5 hQ5; refine callS (add_spec _ _ _ _ _) ?_ (by trivial); intro v9 new9 h9 tk9 hR9 st9 F9 N9 N10; (obtain ⟨t9, e9, e8⟩ := hR9; subst e9 e8); (try simp only [List.nil_append, List.cons_append] at N10); (try k_sweep); refine finQ hQ5 ?_; clear hQ5; clear Q5; (try dsimp only)) | (with_reducible refine Mine.toksE ?_; intro _) | (k_unfold; (try dsimp only)) | (k_end; wrow_close) | walk1 | (dsimp only; walk1) | (leave1; (try dsimp only))))
    unfold Stop
    refine LCg.CompSrc.ledger (by exact rfl) F9 N9 (.head _) ?sz ?_
    case sz => (have := ints_size s1; simp at this ⊢; show _ ≤ 16777216; omega)
    intro g9
    refine kct_list (fun e => Txt.mul (Str.ofString " ") (told + e) ++ Str.ofString "\t") s1 ?turn ?fin
    case turn =>
      intro k9 t9 I9 oI9 C9 oC9 D9 m9 ys9 h8 tk8 E9 hk9 hC9 hx9 F8 N8 off8 ne8 mk8
      have kb := b4 k9 hk9
      (repeat' (first | ((with_reducible show wpAny _ _ (eval (PySem.Expr.ListComp _ _ _ _) _) _ _ _); k_dflt (refine LCg.ListComp_U (F₀ := by k_asm) (by with_unfolding_all rfl) (by decide) (by rfl) (by decide) (by rfl) ?_)) | ((with_reducible show wpAny _ _ (exec (Stmt.For (PySem.Expr.Name _ _) (PySem.Expr.Name _ _) (_ :: _) [] _) _) _ _ _); (rename Fr _ _ _ _ => lFz9); (with_unfolding_all refine For_invVF lFz9 (by exact rfl) (by exact rfl) ?_)) | ((with_reducible show wpAny _ _ (call (Value.ref _) _) _ _ _); refine opqQ ?_; intro Q5 hQ5; refine callS (add_spec _ _ _ _ _) ?_ (by trivial); intro v9 new9 h9 tk9 hR9 st9 F9 N9 N10; (obtain ⟨t9, e9, e8⟩ := hR9; subst e9 e8); (try simp only [List.nil_append, List.cons_append] at N10); (try k_sweep); refine finQ hQ5 ?_; clear hQ5; clear Q5; (try dsimp only)) | (with_reducible refine Mine.toksE ?_; intro _) | (k_unfold; (try dsimp only)) | (k_end; wrow_close) | walk1 | (dsimp only; walk1) | (leave1; (try dsimp only))))
      exact LCg.CompEnd.intro F8 N8 _ (fun _ h => h) off8 (.inr ⟨_, .head _, rfl, _, rfl⟩) (kct_el rfl rfl rfl)
    case fin =>
      intro ys9 hc9 hl9 D9 h8 tk8 F8 N8 off8
      (repeat' (first | ((with_reducible show wpAny _ _ (eval (PySem.Expr.ListComp _ _ _ _) _) _ _ _); k_dflt (refine LCg.ListComp_U (F₀ := by k_asm) (by with_unfolding_all rfl) (by decide) (by rfl) (by decide) (by rfl) ?_)) | ((with_reducible show wpAny _ _ (exec (Stmt.For (PySem.Expr.Name _ _) (PySem.Expr.Name _ _) (_ :: _) [] _) _) _ _ _); (rename Fr _ _ _ _ => lFz9); (with_unfolding_all refine For_invVF lFz9 (by exact rfl) (by exact rfl) ?_)) | ((with_reducible show wpAny _ _ (call (Value.ref _) _) _ _ _); refine opqQ ?_; intro Q5 hQ5; refine callS (add_spec _ _ _ _ _) ?_ (by trivial); intro v9 new9 h9 tk9 hR9 st9 F9 N9 N10; (obtain ⟨t9, e9, e8⟩ := hR9; subst e9 e8); (try simp only [List.nil_append, List.cons_append] at N10); (try k_sweep); refine finQ hQ5 ?_; clear hQ5; clear Q5; (try dsimp only)) | (with_reducible refine Mine.toksE ?_; intro _) | (k_unfold; (try dsimp only)) | (k_end; wrow_close) | walk1 | (dsimp only; walk1) | (leave1; (try dsimp only))))
      rename News h₀ L _ _ => N12
      exact hret _ [(D9, LCg.lst ys9)] _ _ ⟨_, _, rfl, rfl, by have := CarriedAll.strsOf hc9; rw [s2, s3] at this; exact this⟩ (by k_asm) (by k_asm) (List.forall_mem_cons.mpr ⟨N12 _ (.head _), List.forall_mem_nil _⟩)
end Mine
end
section
open PySem PySem.W PySem.Calls PyProof.Rows
set_option Elab.async false
set_option maxRecDepth 100000
set_option maxHeartbeats 0
namespace Mine
open PySem.Spec PyProof.V
local macro_rules | `(tactic| walk_at "pyIter ref") => `(tactic| (k_here; refine' stopHere ?_))
/-- a dict of ints as pairs -/
inductive KV : List (Int × Value) → List (Int × Int) → Prop
  | nil : KV [] []
  | cons (k n : Int) (t : Tok) {r q} : KV r q → KV ((k, .int n t) :: r) ((k, n) :: q)
noncomputable def getI (ps : List (Int × Int)) (k : Int) : Int := match ps.find? (fun p => p.1 = k) with | some p => p.2 | none => 0
noncomputable def storeI (ps : List (Int × Int)) (k n : Int) : List (Int × Int) := if ps.any (fun p => p.1 = k) then ps.map (fun p => if p.1 = k then (p.1, n) else p) else ps ++ [(k, n)]
theorem KV.any {k : Int} : ∀ {kvs ps}, KV kvs ps → kvs.any (fun kv => decide (kv.1 = k)) = ps.any (fun p => decide (p.1 = k))
  | _, _, .nil => rfl
  | _, _, .cons _ _ _ r => by simp only [List.any_cons, KV.any r]
theorem KV.app {kvs ps kvs' ps'} (h : KV kvs ps) (h' : KV kvs' ps') : KV (kvs ++ kvs') (ps ++ ps') := by
  induction h with
  | nil => exact h'
  | cons k n t _ ih => exact .cons k n t ih
theorem KV.upd {k n : Int} {t : Tok} : ∀ {kvs ps}, KV kvs ps → KV (kvs.map (fun kv => if kv.1 = k then (kv.1, .int n t) else kv)) (ps.map (fun p => if p.1 = k then (p.1, n) else p))
  | _, _, .nil => .nil
  | _, _, .cons k' n' t' r => by
    simp only [List.map_cons]
    by_cases h : k' = k
    · rw [if_pos h, if_pos h]; exact .cons _ _ _ (KV.upd r)
    · rw [if_neg h, if_neg h]; exact .cons _ _ _ (KV.upd r)
theorem KV.stored {k n : Int} {t : Tok} {kvs ps} (h : KV kvs ps) : KV (stored kvs k (.int n t)) (storeI ps k n) := by
  unfold PySem.stored storeI
  rw [h.any]
  split
  · exact h.upd
  · exact h.app (.cons _ _ _ .nil)
theorem KV.len : ∀ {kvs ps}, KV kvs ps → kvs.length = ps.length
  | _, _, .nil => rfl
  | _, _, .cons _ _ _ r => by simp only [List.length_cons, KV.len r]
theorem KV.value {k : Int} : ∀ {kvs ps}, KV kvs ps → (valueAt kvs k = none ∧ ps.find? (fun p => p.1 = k) = none) ∨ ∃ k' n t, valueAt kvs k = some (.int n t) ∧ ps.find? (fun p => p.1 = k) = some (k', n)
  | _, _, .nil => .inl ⟨rfl, rfl⟩
  | _, _, .cons k' n' t' r => by
    unfold valueAt
    simp only [List.find?_cons]
    by_cases h : k' = k
    · refine .inr ⟨k', n', t', ?_, ?_⟩ <;> simp [h]
    · rcases KV.value (k := k) r with ⟨a, b⟩ | ⟨k2, n2, t2, a, b⟩
      · refine .inl ⟨?_, ?_⟩
        · simp only [h, decide_false]; exact a
        · simp only [h, decide_false]; exact b
      · refine .inr ⟨k2, n2, t2, ?_, ?_⟩
        · simp only [h, decide_false]; exact a
        · simp only [h, decide_false]; exact b
theorem KV.at {i : Nat} {k : Int} {v : Value} : ∀ {kvs ps}, KV kvs ps → kvs[i]? = some (k, v) → ∃ n t, v = .int n t ∧ ps[i]? = some (k, n) := by
  intro kvs ps h
  induction h generalizing i with
  | nil => intro e; simp at e
  | cons k' n' t' _ ih =>
    intro e
    cases i with
    | zero => simp at e; exact ⟨n', t', e.2.symm, by simp [e.1]⟩
    | succ i => obtain ⟨n, t, e1, e2⟩ := ih (by simpa using e); exact ⟨n, t, e1, by simpa using e2⟩
theorem storeI_len (ps : List (Int × Int)) (k n : Int) : (storeI ps k n).length ≤ ps.length + 1 := by
  unfold storeI
  split
  · rw [List.length_map]; omega
  · rw [List.length_append]; simp
noncomputable def fitsK (key taken : Int) : Bool := decide (key.fdiv 100 ≥ taken.fdiv 100) && (decide ((key.fdiv 10).fmod 10 ≥ (taken.fdiv 10).fmod 10) && decide (key.fmod 10 ≥ taken.fmod 10))
noncomputable def stepKey (taken : Int) (held : List (Int × Int)) (later : List (Int × Int)) (p : Int × Int) : List (Int × Int) := if fitsK p.1 taken = true then storeI later (p.1 - taken) (getI later (p.1 - taken) + getI held p.1) else later
noncomputable def stepTaken (amount : Int) (held : List (Int × Int)) (later : List (Int × Int)) (taken : Int) : List (Int × Int) := if taken.fdiv 100 + (taken.fdiv 10).fmod 10 + taken.fmod 10 = amount then held.foldl (stepKey taken held) later else later
noncomputable def takens : List Int := [0, 1, 10, 11, 100, 101, 110, 111]
noncomputable def stepAmount (held : List (Int × Int)) (amount : Int) : List (Int × Int) := takens.foldl (stepTaken amount held) []
noncomputable def dealsF (as : List Int) (held : List (Int × Int)) : List (Int × Int) := as.foldl stepAmount held
theorem stepKeys_len (taken : Int) (held : List (Int × Int)) : ∀ (l later : List (Int × Int)), (l.foldl (stepKey taken held) later).length ≤ later.length + l.length
  | [], _ => Nat.le_refl _
  | p :: r, later => by
    rw [List.foldl_cons, List.length_cons]
    have h1 := stepKeys_len taken held r (stepKey taken held later p)
    have h2 : (stepKey taken held later p).length ≤ later.length + 1 := by
      unfold stepKey
      split
      · exact storeI_len _ _ _
      · omega
    omega
theorem stepTakens_len (amount : Int) (held : List (Int × Int)) : ∀ (l : List Int) (later : List (Int × Int)), (l.foldl (stepTaken amount held) later).length ≤ later.length + l.length * held.length
  | [], _ => by simp
  | p :: r, later => by
    rw [List.foldl_cons, List.length_cons, Nat.succ_mul]
    have h1 := stepTakens_len amount held r (stepTaken amount held later p)
    have h2 : (stepTaken amount held later p).length ≤ later.length + held.length := by
      unfold stepTaken
      split
      · exact stepKeys_len _ _ _ _
      · omega
    omega
theorem stepAmount_len (held : List (Int × Int)) (a : Int) : (stepAmount held a).length ≤ 8 * held.length := by
  have := stepTakens_len a held takens []
  simpa [takens, stepAmount] using this
theorem dealsF_len : ∀ (as : List Int) (held : List (Int × Int)), (dealsF as held).length ≤ 8 ^ as.length * held.length
  | [], held => by simp [dealsF]
  | a :: r, held => by
    have h1 := dealsF_len r (stepAmount held a)
    have h2 := stepAmount_len held a
    show (dealsF r (stepAmount held a)).length ≤ _
    rw [List.length_cons, Nat.pow_succ]
    calc _ ≤ 8 ^ r.length * (stepAmount held a).length := h1
      _ ≤ 8 ^ r.length * (8 * held.length) := Nat.mul_le_mul_left _ h2
      _ = 8 ^ r.length * 8 * held.length := by rw [Nat.mul_assoc]
section
variable {prog : Program} {w : World} {A : Around} {E : Value → Shared → Prop} {s : Shared} {h₀ : Heap} {L d : Addr} {m : Str → Option Value} {news : List (Addr × Obj)} {g : Obj → List (Addr × Obj)} {o : Obj} {kvs : List (Int × Value)} {ps : List (Int × Int)} {k : Int} {tk t0 : Tok}
theorem dk_method {pl : Sem Bool} {Q : Value × List Value → Shared → Prop} (N : News h₀ L s.heap news) (hp : (d, o) ∈ news) (hd : o.IsDictOf (PySem.intKind prog w) kvs) (h : Q (.builtin "dict.get", [.ref d]) s) : wpAny (model prog w) A (getMethod (.ref d) (Str.ofString "get") pl) Q E s :=
  have hD := (kda_dict N hp hd).mapOf
  getMethod_builtin hD.typeIs PySem.F.plainAttrs_dict PySem.F.slot_dict_get PySem.F.type_dict_get hD.noDict h
theorem dk_get {Q : Value → Shared → Prop} (N : News h₀ L s.heap news) (hp : (d, o) ∈ news) (hd : o.IsDictOf (PySem.intKind prog w) kvs) (hv : KV kvs ps) (lo : (d == sysModules) = false) (h : ∀ t, Q (.int (getI ps k) t) { s with toks := s.toks + 1 }) :
    wpAny (model prog w) A (call (.builtin "dict.get") [.ref d, .int k tk, .int 0 t0]) Q E s := by
  have hD := (kda_dict N hp hd).mapOf
  refine call_meetsIn PySem.F.slot_dict_get hD.typeIs PySem.F.entry_dict_get (PySem.F.args_dict_get_3 _ _ _) (meets_dict_get_default _ d (by show Value.isInt k (.int k tk) = true; simp [Value.isInt]) lo (.int 0 t0)) ⟨_, hD, ?_⟩
  rcases hv.value (k := k) with ⟨a, b⟩ | ⟨k', n, t, a, b⟩
  · have := h t0
    rw [a]
    unfold getI at this
    rw [b] at this
    exact this
  · have := h t
    rw [a]
    unfold getI at this
    rw [b] at this
    exact this
theorem dk_item {value slice : PySem.Expr} {Q : Value → Shared → Prop} (N : News h₀ L s.heap news) (hp : (d, o) ∈ news) (hd : o.IsDictOf (PySem.intKind prog w) kvs) (hv : KV kvs ps) (hi : ∃ v, valueAt kvs k = some v) (h : ∀ t, Q (.int (getI ps k) t) { s with toks := s.toks + 1 })
    (hs : subscripted slice false (.ref d) (.int k tk) = operate [.ref d, .int k tk] (getItem (.ref d) (.int k tk)) := by with_unfolding_all rfl) (hg : ∀ r, letTemporaryGo value (.ref d) r = pure () := by intro _; with_unfolding_all rfl) :
    wpAny (model prog w) A (subscriptTail value slice (.ref d) (.int k tk)) Q E s := by
  obtain ⟨v, hi⟩ := hi
  rcases hv.value (k := k) with ⟨a, _⟩ | ⟨k', n, t, a, b⟩
  · rw [a] at hi; cases hi
  · refine kda_item N hp hd (by show Value.isInt k (.int k tk) = true; simp [Value.isInt]) a ?_ hs hg
    have := h t
    unfold getI at this
    rw [b] at this
    exact this
theorem dk_set {n : Int} {tn : Tok} {Q : Unit → Shared → Prop} (F : Fr h₀ L s.heap m) (N : News h₀ L s.heap news) (U : UpdF d o news g) (hd : o.IsDictOf (PySem.intKind prog w) kvs) (hv : KV kvs ps) (hsz : kvs.length ≤ 16777216)
    (h : ∀ h' o', Fr h₀ L h' m → News h₀ L h' (g o') → o'.IsDictOf (PySem.intKind prog w) (stored kvs k (.int n tn)) → KV (stored kvs k (.int n tn)) (storeI ps k n) → Q () { s with heap := h', toks := s.toks + 1 }) : wpAny (model prog w) A (setItem (.ref d) (.int k tk) (.int n tn)) Q E s :=
  kda_set F N U hd (by show Value.isInt k (.int k tk) = true; simp [Value.isInt]) hsz fun h' o' F' N' hd' => h h' o' F' N' hd' hv.stored
end
theorem ne_fst {a I : Addr} {o : Obj} (h : (a, o).1 ≠ I) : @Ne Nat a I := h
structure LtS where
  o : Obj
  kvs : List (Int × Value)
  ps : List (Int × Int)
structure DlS where
  d : Addr
  o : Obj
  kvs : List (Int × Value)
  ps : List (Int × Int)
theorem deals_spec (w : World) (la lr : Addr) (va : List Value) (as : List Int) (r0 r1 r2 : Int) (t0 t1 t2 : Tok) (ha : as.length ≤ 5) (hb : ∀ n ∈ as, 0 ≤ n ∧ n ≤ 100) (h0 : 0 ≤ r0 ∧ r0 ≤ 9) (h1 : 0 ≤ r1 ∧ r1 ≤ 9) (h2 : 0 ≤ r2 ∧ r2 ≤ 9) : Spec w 224 6 [.ref la, .ref lr] (fun g => g.IsList la va.toArray ∧ IntsAre va as ∧ g.IsList lr #[.int r0 t0, .int r1 t1, .int r2 t2]) (fun v new => ∃ t, v = .int (getI (dealsF as [(100 * r0 + 10 * r1 + r2, 1)]) 0) t ∧ new = []) := by
  unfold Spec
  k_fill
  intro p loose mean mg mb dp un gd cn cs ad ccd cl outer A₀ base h₀ L m g gens drawn toks os Q E B F X T hk hpre hd hu hret
  refine wpAny_call ?_
  (refine' Mine.code_defE ?k1 ?k2 ?k3 ?k5 ?kA ?kF ?kK ?k6 ?k7 ?k8 ?k9 ?kB ?_ ?c2 ?c3 ?c4 ?c5; (case kA => exact rfl); (case kF => exact rfl); (case kK => assumption); (case k1 => k_asm); (case k2 => k_asm); (case k3 => k_asm); (case k5 => k_asm); (case k6 => k_is); (case k7 => k_is); (case k8 => ktr_room); (case k9 => first | exact BindsTo.of_eq (binds := [(_, _)]) rfl | exact BindsTo.of_eq (binds := [(_, _), (_, _)]) rfl | exact BindsTo.of_eq (binds := [(_, _), (_, _), (_, _)]) rfl | exact BindsTo.of_eq rfl); (case c5 => decide); (case kB => exact locs rfl); (case c2 => exact rfl); (case c3 => exact rfl); (case c4 => exact rfl); k_whole; intro L' h' tk' F' N' B' X' T'; (try dsimp only); (try k_fold))
  obtain ⟨p1, p2, p3⟩ := hpre
  refine opqE (env := envOf _ _ L' _ _) (by passes_own) ?_
  intro Q1 E1 hQ1 hP1
  (repeat' (first | ((with_reducible show wpAny _ _ (setItem (Value.ref _) (Value.int _ _) _) _ _ _); k_dflt (refine dk_set (by k_asm) (by k_asm) (by k_updF) (by assumption) (by assumption) (by omega) ?_); intro hz9 oz9 Fz9 Nz9 hdz9 hvz9; (try dsimp only at Nz9)) | ((with_reducible show wpAny _ _ (subscriptTail _ _ (Value.ref _) (Value.int _ _)) _ _ _); k_dflt (refine dk_item (by k_asm) (by k_mem) (by assumption) (by assumption) (by assumption) ?_); intro _) | ((with_reducible show wpAny _ _ (call (Value.builtin _) [Value.ref _, Value.int _ _, Value.int 0 _]) _ _ _); k_dflt (refine dk_get (by k_asm) (by k_mem) (by assumption) (by assumption) (by assumption) ?_); intro _) | ((with_reducible show wpAny _ _ (getMethod (Value.ref _) (Str.ofString "get") _) _ _ _); k_dflt (refine dk_method (by k_asm) (by k_mem) (by assumption) ?_)) | ((with_reducible show wpAny _ _ (eval (Expr.Dict (_ :: _) _ _) _) _ _ _); k_dflt (refine kdn_eval (knd := PySem.intKind _ _) (by k_asm) (by first | k_asm | exact News.nil) (by exact Top.nolimit (by k_asm)) (by rfl) (by rfl) (by exact List.cons_ne_nil _ _) (by exact Nat.le_of_ble_eq_true rfl) ?_); intro dz9 hz9 oz9 Fz9 Nz9 l1 loz9 hdz9; (try k_lt l1)) | ((with_reducible show wpAny _ _ (exec (Stmt.For (PySem.Expr.Name _ _) (PySem.Expr.List _ _) (_ :: _) [] _) _) _ _ _); (with_unfolding_all refine For_M ?_ (by exact fun _ => rfl))) | ((with_reducible show wpAny _ _ (exec (Stmt.For (PySem.Expr.Name _ _) (PySem.Expr.Name _ _) (_ :: _) [] _) _) _ _ _); (with_unfolding_all refine For_M ?_ (by exact fun _ => rfl))) | (with_reducible refine Mine.toksE ?_; intro _) | (k_unfold; (try dsimp only)) | (k_end; wrow_close) | walk1 | (dsimp only; walk1) | (leave1; (try dsimp only))))
  unfold Stop
  rename News _ L' _ [_] => N5
  rename Obj.IsDictOf _ _ (intKeyPairs _) => D5
  refine listG (σ := DlS) (items := va.toArray) [] (fun c => [(c.d, c.o)]) (fun c => [(Str.ofString "held", .ref c.d)]) [Str.ofString "amount", Str.ofString "later", Str.ofString "taken", Str.ofString "key"] (fun i c => c.o.IsDictOf (PySem.intKind PySem.Challenge.rw_tl0044_01.row.prog w) c.kvs ∧ KV c.kvs c.ps ∧ c.ps = dealsF (as.take i) [(100 * r0 + 10 * r1 + r2, 1)] ∧ (c.d == sysModules) = false) ⟨_, _, _, _⟩ (by exact rfl) (Fr.lst (by k_asm) p1) (.inl (by obtain ⟨o, e, _⟩ := p1; exact ⟨o, e⟩)) (by exact rfl) (by exact rfl) (by passes_own) (by k_asm) (List.forall_mem_cons.mpr ⟨N5 _ (.head _), List.forall_mem_nil _⟩) (List.forall_mem_cons.mpr ⟨rfl, List.forall_mem_nil _⟩) ⟨D5, .cons _ _ _ .nil, rfl, by assumption⟩ ?_ ?_
  · rintro i ⟨d1, o1, kvs1, ps1⟩ v u1 h9 tk9 I1 oI1 hv ⟨s1, s2, s3, s4⟩ nI1 _ F9 N9
    dsimp only [kstB, envOf] at F9 N9 s1 s2 s3 s4
    simp only [List.cons_append, List.nil_append] at N9
    have nI1' : @Ne Nat d1 I1 := neN (nI1 _ (.head _))
    clear nI1
    obtain ⟨a9, ta9, hv9, ha9⟩ := IntsAre.at p2 i v (by simpa using hv)
    subst hv9
    have hi : i < as.length := (List.getElem?_eq_some_iff.mp ha9).1
    have len1 : kvs1.length ≤ 8 ^ 5 := by
      rw [s2.len, s3]
      refine Nat.le_trans (dealsF_len _ _) ?_
      rw [List.length_take, List.length_singleton, Nat.mul_one]
      exact Nat.pow_le_pow_right (by decide) (by omega)
    (try k_fold)
    refine opqQ fun Q2 hQ2 => ?_
    (repeat' (first | ((with_reducible show wpAny _ _ (setItem (Value.ref _) (Value.int _ _) _) _ _ _); k_dflt (refine dk_set (by k_asm) (by k_asm) (by k_updF) (by assumption) (by assumption) (by omega) ?_); intro hz9 oz9 Fz9 Nz9 hdz9 hvz9; (try dsimp only at Nz9)) | ((with_reducible show wpAny _ _ (subscriptTail _ _ (Value.ref _) (Value.int _ _)) _ _ _); k_dflt (refine dk_item (by k_asm) (by k_mem) (by assumption) (by assumption) (by assumption) ?_); intro _) | ((with_reducible show wpAny _ _ (call (Value.builtin _) [Value.ref _, Value.int _ _, Value.int 0 _]) _ _ _); k_dflt (refine dk_get (by k_asm) (by k_mem) (by assumption) (by assumption) (by assumption) ?_); intro _) | ((with_reducible show wpAny _ _ (getMethod (Value.ref _) (Str.ofString "get") _) _ _ _); k_dflt (refine dk_method (by k_asm) (by k_mem) (by assumption) ?_)) | ((with_reducible show wpAny _ _ (eval (Expr.Dict (_ :: _) _ _) _) _ _ _); k_dflt (refine kdn_eval (knd := PySem.intKind _ _) (by k_asm) (by first | k_asm | exact News.nil) (by exact Top.nolimit (by k_asm)) (by rfl) (by rfl) (by exact List.cons_ne_nil _ _) (by exact Nat.le_of_ble_eq_true rfl) ?_); intro dz9 hz9 oz9 Fz9 Nz9 l1 loz9 hdz9; (try k_lt l1)) | ((with_reducible show wpAny _ _ (exec (Stmt.For (PySem.Expr.Name _ _) (PySem.Expr.List _ _) (_ :: _) [] _) _) _ _ _); (with_unfolding_all refine For_M ?_ (by exact fun _ => rfl))) | ((with_reducible show wpAny _ _ (exec (Stmt.For (PySem.Expr.Name _ _) (PySem.Expr.Name _ _) (_ :: _) [] _) _) _ _ _); (with_unfolding_all refine For_M ?_ (by exact fun _ => rfl))) | (with_reducible refine Mine.toksE ?_; intro _) | (k_unfold; (try dsimp only)) | (k_end; wrow_close) | walk1 | (dsimp only; walk1) | (leave1; (try dsimp only))))
    unfold Stop
    rename News _ L' _ [_, _, _, _] => N6
    refine listG (σ := LtS) [_, (d1, o1), (I1, oI1)] (fun c => [(_, c.o)]) (fun c => []) [Str.ofString "taken", Str.ofString "key"] (fun i c => c.o.IsDictOf (PySem.intKind PySem.Challenge.rw_tl0044_01.row.prog w) c.kvs ∧ KV c.kvs c.ps ∧ c.ps = (takens.take i).foldl (stepTaken a9 ps1) []) ⟨_, [], []⟩ (by exact rfl) (News.isList N6 (.head _)) (.inr ⟨_, .head _⟩) (by exact rfl) (by exact rfl) (by passes_own) (by k_asm) (List.forall_mem_cons.mpr ⟨N6 _ (.tail _ (.head _)), List.forall_mem_cons.mpr ⟨N6 _ (.head _), List.forall_mem_cons.mpr ⟨N6 _ (.tail _ (.tail _ (.head _))), List.forall_mem_cons.mpr ⟨N6 _ (.tail _ (.tail _ (.tail _ (.head _)))), List.forall_mem_nil _⟩⟩⟩⟩) (fun _ h => nomatch h) ⟨by assumption, .nil, rfl⟩ ?_ ?_
    · rintro j ⟨o2, kvs2, ps2⟩ v u2 h8 tk8 I2 oI2 hv2 ⟨q1, q2, q3⟩ nI2 nI2' F8 N8
      dsimp only [kstB, envOf] at F8 N8 q1 q2 q3
      simp only [List.cons_append, List.nil_append] at N8
      have e1 := ne_fst (nI2 _ (.head _))
      clear nI2 nI2'
      obtain ⟨b9, tb9, hv9, hb9⟩ : ∃ k t, v = .int k t ∧ takens[j]? = some k := by
        simp only [List.getElem?_toArray] at hv2
        refine IntsAre.at (ns := takens) ?_ j v hv2
        unfold takens
        repeat (first | exact IntsAre.nil | refine IntsAre.cons _ _ ?_)
      subst hv9
      clear hv2
      have nd1 : (kvs1.map (·.1)).Nodup := by obtain ⟨_, _, _, _, _, _, nd⟩ := s1; exact nd
      have len2 : ps2.length ≤ 8 * ps1.length := by
        have := stepTakens_len a9 ps1 (takens.take j) []
        rw [← q3, List.length_take] at this
        have h2 : min j takens.length * ps1.length ≤ 8 * ps1.length := Nat.mul_le_mul_right _ (by show min j 8 ≤ 8; omega)
        simp only [List.length_nil] at this
        omega
      have len3 : ps1.length ≤ 32768 := by rw [← s2.len]; exact len1
      have tk1 : (takens.take (j + 1)) = takens.take j ++ [b9] := by rw [List.take_add_one, hb9]; rfl
      have st1 : (takens.take (j + 1)).foldl (stepTaken a9 ps1) [] = stepTaken a9 ps1 ps2 b9 := by rw [tk1, List.foldl_append, ← q3]; rfl
      have kl1 := s2.len
      clear hb9
      (try k_fold)
      refine opqQ fun Q3 hQ3 => ?_
      (repeat' (first | ((with_reducible show wpAny _ _ (setItem (Value.ref _) (Value.int _ _) _) _ _ _); k_dflt (refine dk_set (by k_asm) (by k_asm) (by k_updF) (by assumption) (by assumption) (by omega) ?_); intro hz9 oz9 Fz9 Nz9 hdz9 hvz9; (try dsimp only at Nz9)) | ((with_reducible show wpAny _ _ (subscriptTail _ _ (Value.ref _) (Value.int _ _)) _ _ _); k_dflt (refine dk_item (by k_asm) (by k_mem) (by assumption) (by assumption) (by assumption) ?_); intro _) | ((with_reducible show wpAny _ _ (call (Value.builtin _) [Value.ref _, Value.int _ _, Value.int 0 _]) _ _ _); k_dflt (refine dk_get (by k_asm) (by k_mem) (by assumption) (by assumption) (by assumption) ?_); intro _) | ((with_reducible show wpAny _ _ (getMethod (Value.ref _) (Str.ofString "get") _) _ _ _); k_dflt (refine dk_method (by k_asm) (by k_mem) (by assumption) ?_)) | ((with_reducible show wpAny _ _ (eval (Expr.Dict (_ :: _) _ _) _) _ _ _); k_dflt (refine kdn_eval (knd := PySem.intKind _ _) (by k_asm) (by first | k_asm | exact News.nil) (by exact Top.nolimit (by k_asm)) (by rfl) (by rfl) (by exact List.cons_ne_nil _ _) (by exact Nat.le_of_ble_eq_true rfl) ?_); intro dz9 hz9 oz9 Fz9 Nz9 l1 loz9 hdz9; (try k_lt l1)) | ((with_reducible show wpAny _ _ (exec (Stmt.For (PySem.Expr.Name _ _) (PySem.Expr.List _ _) (_ :: _) [] _) _) _ _ _); (with_unfolding_all refine For_M ?_ (by exact fun _ => rfl))) | ((with_reducible show wpAny _ _ (exec (Stmt.For (PySem.Expr.Name _ _) (PySem.Expr.Name _ _) (_ :: _) [] _) _) _ _ _); (with_unfolding_all refine For_M ?_ (by exact fun _ => rfl))) | (with_reducible refine Mine.toksE ?_; intro _) | (k_unfold; (try dsimp only)) | (k_end; wrow_close) | walk1 | (dsimp only; walk1) | (leave1; (try dsimp only))))
      · unfold Stop
        refine dictG (σ := LtS) (d := d1) (od := o1) (kvs := kvs1) [(I2, oI2), _, (d1, o1), (I1, oI1)] (fun c => [(_, c.o)]) (fun c => []) [Str.ofString "key"] (fun k c => c.o.IsDictOf (PySem.intKind PySem.Challenge.rw_tl0044_01.row.prog w) c.kvs ∧ KV c.kvs c.ps ∧ c.ps = (ps1.take k).foldl (stepKey b9 ps1) ps2) ⟨o2, kvs2, ps2⟩ (by exact rfl) s1 (.tail _ (.tail _ (.head _))) s4 (by exact rfl) (by exact rfl) (by passes_own) (by k_asm) (by first | exact N8 | assumption) (fun _ h => nomatch h) ⟨q1, q2, rfl⟩ ?_ ?_
        · rintro k ⟨o3, kvs3, ps3⟩ key9 v9 t9 u3 h7 tk7 I3 oI3 hk3 ⟨w1, w2, w3⟩ nI3 nI3' F7 N7
          dsimp only [kstB, envOf] at F7 N7 w1 w2 w3
          simp only [List.cons_append, List.nil_append] at N7
          have e3 := ne_fst (nI3 _ (.head _))
          clear nI3 nI3'
          have hval : ∃ v, valueAt kvs1 key9 = some v := ⟨v9, valueAt_of_get nd1 hk3⟩
          obtain ⟨n9, tn9, _, hp9⟩ := s2.at hk3
          have len4 : kvs3.length ≤ 400000 := by
            have := stepKeys_len b9 ps1 (ps1.take k) ps2
            rw [← w3, List.length_take] at this
            have h4 := w2.len
            omega
          have st2 : (ps1.take (k + 1)).foldl (stepKey b9 ps1) ps2 = stepKey b9 ps1 ps3 (key9, n9) := by rw [List.take_add_one, hp9, List.foldl_append, ← w3]; rfl
          clear hk3 hp9 len1 len2 len3
          (try k_fold)
          refine opqQ fun Q4 hQ4 => ?_
          (repeat' (first | ((with_reducible show wpAny _ _ (setItem (Value.ref _) (Value.int _ _) _) _ _ _); k_dflt (refine dk_set (by k_asm) (by k_asm) (by k_updF) (by assumption) (by assumption) (by omega) ?_); intro hz9 oz9 Fz9 Nz9 hdz9 hvz9; (try dsimp only at Nz9)) | ((with_reducible show wpAny _ _ (subscriptTail _ _ (Value.ref _) (Value.int _ _)) _ _ _); k_dflt (refine dk_item (by k_asm) (by k_mem) (by assumption) (by assumption) (by assumption) ?_); intro _) | ((with_reducible show wpAny _ _ (call (Value.builtin _) [Value.ref _, Value.int _ _, Value.int 0 _]) _ _ _); k_dflt (refine dk_get (by k_asm) (by k_mem) (by assumption) (by assumption) (by assumption) ?_); intro _) | ((with_reducible show wpAny _ _ (getMethod (Value.ref _) (Str.ofString "get") _) _ _ _); k_dflt (refine dk_method (by k_asm) (by k_mem) (by assumption) ?_)) | ((with_reducible show wpAny _ _ (eval (Expr.Dict (_ :: _) _ _) _) _ _ _); k_dflt (refine kdn_eval (knd := PySem.intKind _ _) (by k_asm) (by first | k_asm | exact News.nil) (by exact Top.nolimit (by k_asm)) (by rfl) (by rfl) (by exact List.cons_ne_nil _ _) (by exact Nat.le_of_ble_eq_true rfl) ?_); intro dz9 hz9 oz9 Fz9 Nz9 l1 loz9 hdz9; (try k_lt l1)) | ((with_reducible show wpAny _ _ (exec (Stmt.For (PySem.Expr.Name _ _) (PySem.Expr.List _ _) (_ :: _) [] _) _) _ _ _); (with_unfolding_all refine For_M ?_ (by exact fun _ => rfl))) | ((with_reducible show wpAny _ _ (exec (Stmt.For (PySem.Expr.Name _ _) (PySem.Expr.Name _ _) (_ :: _) [] _) _) _ _ _); (with_unfolding_all refine For_M ?_ (by exact fun _ => rfl))) | (with_reducible refine Mine.toksE ?_; intro _) | (k_unfold; (try dsimp only)) | (k_end; wrow_close) | walk1 | (dsimp only; walk1) | (leave1; (try dsimp only))))
          · have hf : fitsK key9 b9 = true := by unfold fitsK; simp only [Bool.and_eq_true, decide_eq_true_eq]; exact ⟨by assumption, by assumption, by assumption⟩
            rename News g L' _ [_, _, _, _, _, _] => N10
            refine nextG ⟨_, _, storeI ps3 (key9 - b9) (getI ps3 (key9 - b9) + getI ps1 key9)⟩ (by k_asm) N10 (List.forall_mem_cons.mpr ⟨.head _, List.forall_mem_nil _⟩) (fun p hp => .tail _ hp) (List.forall_mem_cons.mpr ⟨e3, List.forall_mem_nil _⟩) (fun _ h => nomatch h) ?_ ⟨by assumption, by assumption, ?_⟩
            · (intro z h1 h2; (simp only [List.mem_cons, List.not_mem_nil, or_false, forall_eq, forall_eq_or_imp, false_imp_iff, implies_true, and_true] at h1); (simp only [List.contains_cons, List.contains_nil, Bool.or_false, Bool.or_eq_false_iff, beq_eq_false_iff_ne] at h2); (simp [put, lookR, h1, h2]); (try rfl))
            · rw [st2]; unfold stepKey; dsimp only; rw [if_pos hf]
          all_goals (
            have hf : ¬ fitsK key9 b9 = true := by
              unfold fitsK
              simp only [Bool.and_eq_true, decide_eq_true_eq]
              rintro ⟨x1, x2, x3⟩
              first | exact absurd x1 (by assumption) | exact absurd x2 (by assumption) | exact absurd x3 (by assumption)
            refine nextG ⟨o3, kvs3, ps3⟩ (by k_asm) N7 (List.forall_mem_cons.mpr ⟨.head _, List.forall_mem_nil _⟩) (fun p hp => .tail _ hp) (List.forall_mem_cons.mpr ⟨e3, List.forall_mem_nil _⟩) (fun _ h => nomatch h) ?_ ⟨w1, w2, ?_⟩
            · (intro z h1 h2; (simp only [List.mem_cons, List.not_mem_nil, or_false, forall_eq, forall_eq_or_imp, false_imp_iff, implies_true, and_true] at h1); (simp only [List.contains_cons, List.contains_nil, Bool.or_false, Bool.or_eq_false_iff, beq_eq_false_iff_ne] at h2); (simp [put, lookR, h1, h2]); (try rfl))
            · rw [st2]; unfold stepKey; dsimp only; rw [if_neg hf])
        · rintro ⟨o3, kvs3, ps3⟩ u3 h7 tk7 ⟨w1, w2, w3⟩ F7 N7
          dsimp only [kstB, envOf] at F7 N7 w1 w2 w3
          simp only [List.cons_append, List.nil_append] at N7
          rw [kl1, List.take_length] at w3
          clear len1 len2 len3
          (repeat' (first | ((with_reducible show wpAny _ _ (setItem (Value.ref _) (Value.int _ _) _) _ _ _); k_dflt (refine dk_set (by k_asm) (by k_asm) (by k_updF) (by assumption) (by assumption) (by omega) ?_); intro hz9 oz9 Fz9 Nz9 hdz9 hvz9; (try dsimp only at Nz9)) | ((with_reducible show wpAny _ _ (subscriptTail _ _ (Value.ref _) (Value.int _ _)) _ _ _); k_dflt (refine dk_item (by k_asm) (by k_mem) (by assumption) (by assumption) (by assumption) ?_); intro _) | ((with_reducible show wpAny _ _ (call (Value.builtin _) [Value.ref _, Value.int _ _, Value.int 0 _]) _ _ _); k_dflt (refine dk_get (by k_asm) (by k_mem) (by assumption) (by assumption) (by assumption) ?_); intro _) | ((with_reducible show wpAny _ _ (getMethod (Value.ref _) (Str.ofString "get") _) _ _ _); k_dflt (refine dk_method (by k_asm) (by k_mem) (by assumption) ?_)) | ((with_reducible show wpAny _ _ (eval (Expr.Dict (_ :: _) _ _) _) _ _ _); k_dflt (refine kdn_eval (knd := PySem.intKind _ _) (by k_asm) (by first | k_asm | exact News.nil) (by exact Top.nolimit (by k_asm)) (by rfl) (by rfl) (by exact List.cons_ne_nil _ _) (by exact Nat.le_of_ble_eq_true rfl) ?_); intro dz9 hz9 oz9 Fz9 Nz9 l1 loz9 hdz9; (try k_lt l1)) | ((with_reducible show wpAny _ _ (exec (Stmt.For (PySem.Expr.Name _ _) (PySem.Expr.List _ _) (_ :: _) [] _) _) _ _ _); (with_unfolding_all refine For_M ?_ (by exact fun _ => rfl))) | ((with_reducible show wpAny _ _ (exec (Stmt.For (PySem.Expr.Name _ _) (PySem.Expr.Name _ _) (_ :: _) [] _) _) _ _ _); (with_unfolding_all refine For_M ?_ (by exact fun _ => rfl))) | (with_reducible refine Mine.toksE ?_; intro _) | (k_unfold; (try dsimp only)) | (k_end; wrow_close) | walk1 | (dsimp only; walk1) | (leave1; (try dsimp only))))
          refine nextG ⟨o3, kvs3, ps3⟩ (by k_asm) N7 (List.forall_mem_cons.mpr ⟨.head _, List.forall_mem_nil _⟩) (fun p hp => .tail _ hp) (List.forall_mem_cons.mpr ⟨e1, List.forall_mem_nil _⟩) (fun _ h => nomatch h) ?_ ⟨w1, w2, ?_⟩
          · (intro z h1 h2; (simp only [List.mem_cons, List.not_mem_nil, or_false, forall_eq, forall_eq_or_imp, false_imp_iff, implies_true, and_true] at h1); (simp only [List.contains_cons, List.contains_nil, Bool.or_false, Bool.or_eq_false_iff, beq_eq_false_iff_ne] at h2); (simp [put, lookR, h1, h2]); (try rfl))
          · rw [st1]; unfold stepTaken; rw [if_pos (by assumption)]; exact w3
      · refine nextG ⟨o2, kvs2, ps2⟩ (by k_asm) N8 (List.forall_mem_cons.mpr ⟨.head _, List.forall_mem_nil _⟩) (fun p hp => .tail _ hp) (List.forall_mem_cons.mpr ⟨e1, List.forall_mem_nil _⟩) (fun _ h => nomatch h) ?_ ⟨q1, q2, ?_⟩
        · (intro z h1 h2; (simp only [List.mem_cons, List.not_mem_nil, or_false, forall_eq, forall_eq_or_imp, false_imp_iff, implies_true, and_true] at h1); (simp only [List.contains_cons, List.contains_nil, Bool.or_false, Bool.or_eq_false_iff, beq_eq_false_iff_ne] at h2); (simp [put, lookR, h1, h2]); (try rfl))
        · rw [st1]; unfold stepTaken; rw [if_neg (by assumption)]
    · rintro ⟨o2, kvs2, ps2⟩ u2 h8 tk8 ⟨q1, q2, q3⟩ F8 N8
      dsimp only [kstB, envOf] at F8 N8 q1 q2 q3
      simp only [List.cons_append, List.nil_append] at N8
      have q3' : ps2 = stepAmount ps1 a9 := q3
      clear q3 len1
      (repeat' (first | ((with_reducible show wpAny _ _ (setItem (Value.ref _) (Value.int _ _) _) _ _ _); k_dflt (refine dk_set (by k_asm) (by k_asm) (by k_updF) (by assumption) (by assumption) (by omega) ?_); intro hz9 oz9 Fz9 Nz9 hdz9 hvz9; (try dsimp only at Nz9)) | ((with_reducible show wpAny _ _ (subscriptTail _ _ (Value.ref _) (Value.int _ _)) _ _ _); k_dflt (refine dk_item (by k_asm) (by k_mem) (by assumption) (by assumption) (by assumption) ?_); intro _) | ((with_reducible show wpAny _ _ (call (Value.builtin _) [Value.ref _, Value.int _ _, Value.int 0 _]) _ _ _); k_dflt (refine dk_get (by k_asm) (by k_mem) (by assumption) (by assumption) (by assumption) ?_); intro _) | ((with_reducible show wpAny _ _ (getMethod (Value.ref _) (Str.ofString "get") _) _ _ _); k_dflt (refine dk_method (by k_asm) (by k_mem) (by assumption) ?_)) | ((with_reducible show wpAny _ _ (eval (Expr.Dict (_ :: _) _ _) _) _ _ _); k_dflt (refine kdn_eval (knd := PySem.intKind _ _) (by k_asm) (by first | k_asm | exact News.nil) (by exact Top.nolimit (by k_asm)) (by rfl) (by rfl) (by exact List.cons_ne_nil _ _) (by exact Nat.le_of_ble_eq_true rfl) ?_); intro dz9 hz9 oz9 Fz9 Nz9 l1 loz9 hdz9; (try k_lt l1)) | ((with_reducible show wpAny _ _ (exec (Stmt.For (PySem.Expr.Name _ _) (PySem.Expr.List _ _) (_ :: _) [] _) _) _ _ _); (with_unfolding_all refine For_M ?_ (by exact fun _ => rfl))) | ((with_reducible show wpAny _ _ (exec (Stmt.For (PySem.Expr.Name _ _) (PySem.Expr.Name _ _) (_ :: _) [] _) _) _ _ _); (with_unfolding_all refine For_M ?_ (by exact fun _ => rfl))) | (with_reducible refine Mine.toksE ?_; intro _) | (k_unfold; (try dsimp only)) | (k_end; wrow_close) | walk1 | (dsimp only; walk1) | (leave1; (try dsimp only))))
      rename News g L' _ [_, _, _, _] => N11
      refine nextG ⟨_, o2, kvs2, ps2⟩ (by k_asm) N11 (List.forall_mem_cons.mpr ⟨.head _, List.forall_mem_nil _⟩) (List.forall_mem_cons.mpr ⟨.tail _ (.tail _ (.tail _ (.head _))), List.forall_mem_nil _⟩) (by k_all) (List.forall_mem_cons.mpr ⟨rfl, List.forall_mem_nil _⟩) ?_ ⟨q1, q2, ?_, by assumption⟩
      · (intro z h1 h2; (simp only [List.mem_cons, List.not_mem_nil, or_false, forall_eq, forall_eq_or_imp, false_imp_iff, implies_true, and_true] at h1); (simp only [List.contains_cons, List.contains_nil, Bool.or_false, Bool.or_eq_false_iff, beq_eq_false_iff_ne] at h2); (simp [put, lookR, h1, h2]); (try rfl))
      · rw [List.take_add_one, ha9]; dsimp only [Option.toList_some]; unfold dealsF; rw [List.foldl_append]; show ps2 = stepAmount (dealsF (as.take i) _) a9; rw [← s3]; exact q3'
  · rintro ⟨d1, o1, kvs1, ps1⟩ u1 h9 tk9 ⟨s1, s2, s3, s4⟩ F9 N9
    dsimp only [kstB, envOf] at F9 N9 s1 s2 s3 s4
    simp only [List.cons_append, List.nil_append] at N9
    rw [show va.toArray.size = as.length by have := ints_size p2; simp at this ⊢; omega, List.take_length] at s3
    (repeat' (first | ((with_reducible show wpAny _ _ (setItem (Value.ref _) (Value.int _ _) _) _ _ _); k_dflt (refine dk_set (by k_asm) (by k_asm) (by k_updF) (by assumption) (by assumption) (by omega) ?_); intro hz9 oz9 Fz9 Nz9 hdz9 hvz9; (try dsimp only at Nz9)) | ((with_reducible show wpAny _ _ (subscriptTail _ _ (Value.ref _) (Value.int _ _)) _ _ _); k_dflt (refine dk_item (by k_asm) (by k_mem) (by assumption) (by assumption) (by assumption) ?_); intro _) | ((with_reducible show wpAny _ _ (call (Value.builtin _) [Value.ref _, Value.int _ _, Value.int 0 _]) _ _ _); k_dflt (refine dk_get (by k_asm) (by k_mem) (by assumption) (by assumption) (by assumption) ?_); intro _) | ((with_reducible show wpAny _ _ (getMethod (Value.ref _) (Str.ofString "get") _) _ _ _); k_dflt (refine dk_method (by k_asm) (by k_mem) (by assumption) ?_)) | ((with_reducible show wpAny _ _ (eval (Expr.Dict (_ :: _) _ _) _) _ _ _); k_dflt (refine kdn_eval (knd := PySem.intKind _ _) (by k_asm) (by first | k_asm | exact News.nil) (by exact Top.nolimit (by k_asm)) (by rfl) (by rfl) (by exact List.cons_ne_nil _ _) (by exact Nat.le_of_ble_eq_true rfl) ?_); intro dz9 hz9 oz9 Fz9 Nz9 l1 loz9 hdz9; (try k_lt l1)) | ((with_reducible show wpAny _ _ (exec (Stmt.For (PySem.Expr.Name _ _) (PySem.Expr.List _ _) (_ :: _) [] _) _) _ _ _); (with_unfolding_all refine For_M ?_ (by exact fun _ => rfl))) | ((with_reducible show wpAny _ _ (exec (Stmt.For (PySem.Expr.Name _ _) (PySem.Expr.Name _ _) (_ :: _) [] _) _) _ _ _); (with_unfolding_all refine For_M ?_ (by exact fun _ => rfl))) | (with_reducible refine Mine.toksE ?_; intro _) | (k_unfold; (try dsimp only)) | (k_end; wrow_close) | walk1 | (dsimp only; walk1) | (leave1; (try dsimp only))))
    exact hret _ _ _ _ ⟨_, by rw [s3], rfl⟩ (by k_asm) (by k_asm) News.nil
end Mine
end
section
open PySem PySem.W PySem.Calls PyProof.Rows
set_option Elab.async false
set_option maxRecDepth 100000
set_option maxHeartbeats 0
namespace Mine
/-- the signs of runs of blanks, a tab behind each -/
noncomputable def runsT : List Nat → List Nat
  | [] => []
  | r :: l => List.replicate r 32 ++ 9 :: runsT l
noncomputable def wsT (x : Ws) : List Nat := runsT x.runs ++ List.replicate x.b 32
noncomputable def tallyI (c : List Int) : List Nat → List Int
  | [] => c
  | r :: l => tallyI (wsInc c r) l
theorem wsB (s : WsS) : ∀ k : Nat, (List.replicate k 32).foldl wsStep s = { s with n := s.n + k, b := s.b + k }
  | 0 => by show s = _; cases s; simp
  | k + 1 => by
    rw [List.replicate_succ, List.foldl_cons, show wsStep s 32 = { s with n := s.n + 1, b := s.b + 1 } from rfl, wsB _ k]
    simp only [WsS.mk.injEq, true_and]
    constructor <;> (try constructor) <;> (try omega) <;> (try trivial)
    all_goals (try omega)
theorem wsR : ∀ (l : List Nat) (s : WsS), s.b = 0 → (runsT l).foldl wsStep s = { cnt := tallyI s.cnt l, b := 0, n := s.n + (sumL l + l.length : Nat), nt := s.nt + (l.length : Nat) }
  | [], s, h => by
    show s = _
    cases s; simp only at h; subst h; simp [tallyI, sumL]
  | r :: l, s, h => by
    show (List.replicate r 32 ++ 9 :: runsT l).foldl wsStep s = _
    rw [List.foldl_append, wsB, List.foldl_cons, h, Int.zero_add]
    rw [show wsStep { s with n := s.n + (r : Int), b := (r : Int) } 9 = { cnt := wsInc s.cnt r, b := 0, n := s.n + r + 1, nt := s.nt + 1 } from rfl]
    rw [wsR l _ rfl]
    simp only [WsS.mk.injEq, true_and]
    refine ⟨rfl, ?_, ?_⟩
    · show s.n + r + 1 + ((sumL l + l.length : Nat) : Int) = s.n + ((r + sumL l + (l.length + 1) : Nat) : Int)
      omega
    · show s.nt + 1 + ((l.length : Nat) : Int) = s.nt + ((l.length + 1 : Nat) : Int)
      omega
theorem wsF_of (x : Ws) : wsF (wsT x) = ⟨tallyI [] x.runs, x.b, x.n, x.nt⟩ := by
  unfold wsF wsT
  rw [List.foldl_append, wsR x.runs _ rfl, wsB]
  simp only [WsS.mk.injEq, true_and]
  refine ⟨by omega, ?_, ?_⟩
  · unfold Ws.n; omega
  · unfold Ws.nt; omega
/-- a tally by one more -/
theorem pad_getD (c : List Int) (b : Int) (j : Nat) : (wsPad c b).getD j 0 = c.getD j 0 := by
  unfold wsPad
  split
  · rw [List.getD_eq_getElem?_getD, List.getD_eq_getElem?_getD, List.getElem?_append]
    split
    · rfl
    · rw [List.getElem?_eq_none (by omega : c.length ≤ j), List.getElem?_replicate]
      split <;> rfl
  · rfl
theorem inc_getD (c : List Int) (r j : Nat) : (wsInc c r).getD j 0 = c.getD j 0 + if j = r then 1 else 0 := by
  unfold wsInc
  have hl := wsPad_len c r (by omega)
  rw [show ((r : Int)).toNat = r by omega]
  rw [List.getD_eq_getElem?_getD, List.getElem?_set]
  by_cases e : r = j
  · subst e
    rw [if_pos rfl, if_pos (by rw [hl]; split <;> omega), if_pos rfl, pad_getD]
    rfl
  · rw [if_neg e, if_neg (fun q => e q.symm), ← List.getD_eq_getElem?_getD, pad_getD]; omega
theorem inc_len (c : List Int) (r : Nat) : (wsInc c r).length = if c.length ≤ r then r + 1 else c.length := by
  unfold wsInc
  rw [List.length_set, wsPad_len c r (by omega)]
  split <;> split <;> omega
theorem tally_len : ∀ (l : List Nat) (c : List Int), (tallyI c l).length = if l = [] then c.length else if c.length ≤ maxL l + 1 then maxL l + 1 else c.length
  | [], c => rfl
  | r :: l, c => by
    rw [if_neg (List.cons_ne_nil _ _)]
    show (tallyI (wsInc c r) l).length = _
    rw [tally_len l, inc_len]
    show _ = if c.length ≤ (if Nat.ble r (maxL l) = true then maxL l else r) + 1 then _ else _
    show _ = if c.length ≤ (if Nat.ble r (maxL l) = true then maxL l else r) + 1 then (if Nat.ble r (maxL l) = true then maxL l else r) + 1 else _
    have e : (Nat.ble r (maxL l) = true) ↔ r ≤ maxL l := by rw [Nat.ble_eq]
    by_cases h0 : l = []
    · subst h0
      rw [if_pos rfl]
      have : (Nat.ble r (maxL []) = true) ↔ r = 0 := by rw [e]; show r ≤ 0 ↔ _; omega
      by_cases h1 : r = 0
      · rw [if_pos (this.mpr h1)]; subst h1; show (if c.length ≤ 0 then 1 else _) = if c.length ≤ 0 + 1 then 0 + 1 else _
        split <;> split <;> omega
      · rw [if_neg (fun q => h1 (this.mp q))]
        split <;> split <;> omega
    · rw [if_neg h0]
      by_cases h1 : r ≤ maxL l
      · rw [if_pos (e.mpr h1)]
        (repeat' split) <;> omega
      · rw [if_neg (fun q => h1 (e.mp q))]
        (repeat' split) <;> omega
theorem tally_getD : ∀ (l : List Nat) (c : List Int) (j : Nat), (tallyI c l).getD j 0 = c.getD j 0 + (l.count j : Nat)
  | [], c, j => by show _ = _ + ((0 : Nat) : Int); simp [tallyI]
  | r :: l, c, j => by
    show (tallyI (wsInc c r) l).getD j 0 = _
    rw [tally_getD l, inc_getD, List.count_cons]
    by_cases e : j = r
    · subst e; rw [if_pos rfl, if_pos (by simp)]; omega
    · rw [if_neg e, if_neg (by simpa using fun q : r = j => e q.symm)]; omega
theorem indL_ext {ts : Int} {c c' : List Int} (h : ∀ j, c.getD j 0 = c'.getD j 0) : ∀ n, indL ts c n = indL ts c' n
  | 0 => rfl
  | n + 1 => by unfold indL; rw [indL_ext h n, h]
theorem indL_inc (ts : Nat) (r : Nat) (c c' : List Int) (h : ∀ j, c'.getD j 0 = c.getD j 0 + if j = r then 1 else 0) : ∀ n : Nat, indL ts c' n = indL ts c n + if ts ≤ r ∧ r < ts + n then ((r / ts : Nat) : Int) else 0
  | 0 => by rw [if_neg (by omega)]; rfl
  | n + 1 => by
    show indL ts c' n + _ * _ = indL ts c n + _ * _ + _
    rw [indL_inc ts r c c' h n, h, fd' , Int.mul_add]
    rw [show ((ts : Int) + (n : Int)).toNat = ts + n by omega]
    by_cases e : ts + n = r
    · rw [if_pos e, if_neg (by omega), if_pos (by omega), ← e]
      rw [show ((ts : Int) + (n : Int)) / (ts : Int) = (((ts + n) / ts : Nat) : Int) by simp]
      omega
    · rw [if_neg e]
      by_cases e2 : ts ≤ r ∧ r < ts + n
      · rw [if_pos e2, if_pos (by omega)]; omega
      · rw [if_neg e2, if_neg (by omega)]; omega
  where fd' {a : Int} {n : Nat} : a.fdiv (n : Int) = a / n := Int.fdiv_eq_ediv_of_nonneg _ (by omega)
theorem indL_far {ts : Nat} {c : List Int} (n : Nat) (hn : c.length ≤ ts + n) : ∀ k : Nat, indL ts c (n + k) = indL ts c n
  | 0 => rfl
  | k + 1 => by
    have hlen : c.length ≤ ((ts : Int) + ((n + k : Nat) : Int)).toNat := by omega
    show indL ts c (n + k) + _ * c.getD ((ts : Int) + ((n + k : Nat) : Int)).toNat 0 = _
    rw [indL_far n hn k, List.getD_eq_getElem?_getD, List.getElem?_eq_none hlen]
    show _ + _ * (0 : Int) = _
    omega
theorem indL_divs (ts : Nat) (hts : 1 ≤ ts) (N : Nat) : ∀ (l : List Nat) (c : List Int), (∀ r ∈ l, r < ts + N) → indL ts (tallyI c l) N = indL ts c N + (divs ts l : Nat)
  | [], c, _ => by show indL ts c N = _ + ((0 : Nat) : Int); omega
  | r :: l, c, h => by
    show indL ts (tallyI (wsInc c r) l) N = _ + ((r / ts + divs ts l : Nat) : Int)
    rw [indL_divs ts hts N l _ (fun q hq => h q (.tail _ hq)), indL_inc ts r c (wsInc c r) (inc_getD c r)]
    have := h r (.head _)
    by_cases e : ts ≤ r
    · rw [if_pos ⟨e, this⟩]; omega
    · rw [if_neg (fun q => e q.1), Nat.div_eq_of_lt (by omega)]; omega
theorem max_ge : ∀ {l : List Nat}, ∀ r ∈ l, r ≤ maxL l
  | [], _, h => nomatch h
  | x :: l, r, h => by
    show r ≤ if Nat.ble x (maxL l) = true then maxL l else x
    have e : (Nat.ble x (maxL l) = true) ↔ x ≤ maxL l := by rw [Nat.ble_eq]
    rcases List.mem_cons.mp h with rfl | h
    · split
      · exact e.mp (by assumption)
      · exact Nat.le_refl _
    · have := max_ge r h
      split
      · exact this
      · have : ¬ x ≤ maxL l := fun q => absurd (e.mpr q) (by assumption)
        omega
theorem ind_of (x : Ws) (ts : Nat) (hts : 1 ≤ ts) : indF (x.n : Nat) (x.nt : Nat) (tallyI [] x.runs) (x.b : Nat) ts = (x.ind ts : Nat) := by
  unfold indF Ws.ind
  have h0 : ∀ N : Nat, indL ts [] N = 0 := fun N => by
    induction N with
    | zero => rfl
    | succ n ih => show indL ts [] n + _ * ([] : List Int).getD _ 0 = 0; rw [ih, List.getD_nil]; omega
  have key : indL ts (tallyI [] x.runs) (((tallyI [] x.runs).length : Int) - (ts : Int)).toNat = (divs ts x.runs : Nat) := by
    have hl := tally_len x.runs []
    rw [← indL_far (ts := ts) (c := tallyI [] x.runs) _ (by omega) (maxL x.runs + 1), indL_divs ts hts _ x.runs [] (fun r hr => by have := max_ge r hr; omega), h0]
    omega
  rw [key]
  push_cast
  rfl
theorem long_of (x : Ws) : longF (tallyI [] x.runs) (x.b : Nat) = (x.lng : Nat) := by
  unfold longF Ws.lng
  have hl := tally_len x.runs []
  have e : (Nat.ble (maxL x.runs) x.b = true) ↔ maxL x.runs ≤ x.b := by rw [Nat.ble_eq]
  by_cases h0 : x.runs = []
  · rw [if_pos h0] at hl
    rw [h0] at e ⊢
    rw [if_pos (e.mpr (Nat.zero_le _)), if_pos]
    rw [h0] at hl
    rw [hl]; show ((x.b : Nat) : Int) > ((0 : Nat) : Int) - 1; omega
  · rw [if_neg h0, if_pos (by exact Nat.zero_le _)] at hl
    rw [hl]
    by_cases h1 : maxL x.runs ≤ x.b
    · rw [if_pos (e.mpr h1)]
      split <;> omega
    · rw [if_neg (fun q => h1 (e.mp q)), if_neg (by omega)]; omega
theorem simp_of (x : Ws) : ((tallyI [] x.runs).length ≤ 1) ↔ x.simp = true := by
  have hl := tally_len x.runs []
  unfold Ws.simp
  rw [Nat.beq_eq]
  by_cases h0 : x.runs = []
  · rw [if_pos h0] at hl; rw [h0] at hl ⊢; rw [hl]; exact ⟨fun _ => rfl, fun _ => Nat.zero_le _⟩
  · rw [if_neg h0, if_pos (by exact Nat.zero_le _)] at hl
    rw [hl]; omega
theorem allTs_of {f g : Int → Int} {f' g' : Nat → Nat} (h1 : ∀ k : Nat, f (2 + (k : Int)) = (f' (k + 2) : Nat)) (h2 : ∀ k : Nat, g (2 + (k : Int)) = (g' (k + 2) : Nat)) : ∀ n, allTs f g n = (List.range n).all fun k => !Nat.ble (g' (k + 2)) (f' (k + 2))
  | 0 => rfl
  | n + 1 => by
    rw [List.range_succ, List.all_append, ← allTs_of h1 h2 n]
    show (_ && _) = (_ && (_ && true))
    rw [Bool.and_true, h1, h2]
    congr 1
    have e : (Nat.ble (g' (n + 2)) (f' (n + 2)) = true) ↔ g' (n + 2) ≤ f' (n + 2) := by rw [Nat.ble_eq]
    rw [Bool.eq_iff_iff, Bool.not_eq_true', ← Bool.not_eq_true, e, decide_eq_true_eq]
    omega
theorem less_of (x y : Ws) : lessF (x.n : Nat) (x.nt : Nat) (tallyI [] x.runs) (x.b : Nat) (y.n : Nat) (y.nt : Nat) (tallyI [] y.runs) (y.b : Nat) = x.less y := by
  unfold lessF Ws.less
  have e1 : (Nat.ble y.n x.n = true) ↔ y.n ≤ x.n := by rw [Nat.ble_eq]
  by_cases h1 : y.n ≤ x.n
  · rw [if_pos (by omega), if_pos (e1.mpr h1)]
  · rw [if_neg (by omega), if_neg (fun q => h1 (e1.mp q))]
    by_cases h2 : x.simp = true ∧ y.simp = true
    · rw [if_pos ⟨(simp_of x).mpr h2.1, (simp_of y).mpr h2.2⟩, if_pos (by rw [h2.1, h2.2]; rfl)]
      have e : (Nat.ble x.nt y.nt = true) ↔ x.nt ≤ y.nt := by rw [Nat.ble_eq]
      rw [Bool.eq_iff_iff, e, decide_eq_true_eq]; omega
    · rw [if_neg (fun q => h2 ⟨(simp_of x).mp q.1, (simp_of y).mp q.2⟩), if_neg (fun q => h2 (Bool.and_eq_true_iff.mp q)), long_of, long_of]
      have e : (Nat.ble x.lng y.lng = true) ↔ x.lng ≤ y.lng := by rw [Nat.ble_eq]
      have hn : ((if ((y.lng : Nat) : Int) > ((x.lng : Nat) : Int) then ((y.lng : Nat) : Int) else ((x.lng : Nat) : Int)) + 1 + 1 - 2).toNat = (if Nat.ble x.lng y.lng = true then y.lng else x.lng) + 1 - 1 := by
        by_cases h3 : x.lng ≤ y.lng
        · rw [if_pos (e.mpr h3)]; split <;> omega
        · rw [if_neg (fun q => h3 (e.mp q)), if_neg (by omega)]; omega
      rw [hn]
      refine allTs_of (f' := x.ind) (g' := y.ind) (fun k => ?_) (fun k => ?_) _
      · rw [show (2 + (k : Int)) = ((k + 2 : Nat) : Int) by omega]; exact ind_of x (k + 2) (by omega)
      · rw [show (2 + (k : Int)) = ((k + 2 : Nat) : Int) by omega]; exact ind_of y (k + 2) (by omega)
theorem max_le : ∀ (l : List Nat) (c : Nat), (∀ r ∈ l, r ≤ c) → maxL l ≤ c
  | [], _, _ => Nat.zero_le _
  | x :: l, c, hc => by
    show (if Nat.ble x (maxL l) = true then maxL l else x) ≤ c
    have := hc x (.head _)
    have := max_le l c (fun r hr => hc r (.tail _ hr))
    split <;> omega
theorem max_perm {l k : List Nat} (h : l.Perm k) : maxL l ≤ maxL k := max_le l _ fun r hr => max_ge r (h.mem_iff.mp hr)
/-- tallies tell lists up to their order -/
theorem tally_eq (l k : List Nat) : tallyI [] l = tallyI [] k ↔ l.Perm k := by
  constructor
  · intro h
    rw [List.perm_iff_count]
    intro a
    have h1 := tally_getD l [] a
    have h2 := tally_getD k [] a
    rw [h, h2] at h1
    omega
  · intro h
    have hl : (tallyI [] l).length = (tallyI [] k).length := by
      rw [tally_len, tally_len]
      have hm : maxL l = maxL k := Nat.le_antisymm (max_perm h) (max_perm h.symm)
      have hn : l = [] ↔ k = [] := ⟨fun e => by rw [e] at h; exact h.symm.eq_nil, fun e => by rw [e] at h; exact h.eq_nil⟩
      rw [hm]; simp only [hn]
    refine List.ext_getElem hl fun i h1 h2 => ?_
    have e1 := tally_getD l [] i
    have e2 := tally_getD k [] i
    rw [h.count_eq] at e1
    rw [← e2, List.getD_eq_getElem?_getD, List.getD_eq_getElem?_getD, List.getElem?_eq_getElem h1, List.getElem?_eq_getElem h2] at e1
    exact e1
theorem sorted_eq {l k : List Nat} (h : l.Perm k) (hl : l.Pairwise (· ≤ ·)) (hk : k.Pairwise (· ≤ ·)) : l = k := h.eq_of_pairwise (fun a b _ _ => Nat.le_antisymm) hl hk
end Mine
end
section
open PySem PySem.W PySem.Calls PyProof.Rows
set_option Elab.async false
set_option maxRecDepth 100000
set_option maxHeartbeats 0
namespace Mine
/-- sum over a dict's pairs -/
noncomputable def sumP (f : Int → Int) : List (Int × Int) → Int
  | [] => 0
  | p :: r => p.2 * f p.1 + sumP f r
theorem sumP_app (f : Int → Int) : ∀ l k, sumP f (l ++ k) = sumP f l + sumP f k
  | [], k => by show sumP f k = 0 + _; omega
  | p :: r, k => by show p.2 * f p.1 + sumP f (r ++ k) = p.2 * f p.1 + sumP f r + _; rw [sumP_app f r k]; omega
noncomputable def keysOf (l : List (Int × Int)) : List Int := l.map (·.1)
theorem getI_cons (p : Int × Int) (r : List (Int × Int)) (k : Int) : getI (p :: r) k = if p.1 = k then p.2 else getI r k := by
  unfold getI
  rw [List.find?_cons]
  by_cases h : p.1 = k
  · simp [h]
  · simp [h]
theorem getI_none : ∀ {l : List (Int × Int)} {k : Int}, k ∉ keysOf l → getI l k = 0
  | [], _, _ => rfl
  | p :: r, k, h => by
    have h' : k ≠ p.1 ∧ k ∉ keysOf r := by simpa [keysOf] using h
    rw [getI_cons, if_neg (fun q => h'.1 q.symm), getI_none h'.2]
theorem upd_none {k n : Int} : ∀ {l : List (Int × Int)}, k ∉ keysOf l → l.map (fun p => if p.1 = k then (p.1, n) else p) = l
  | [], _ => rfl
  | p :: r, h => by
    have h' : k ≠ p.1 ∧ k ∉ keysOf r := by simpa [keysOf] using h
    rw [List.map_cons, if_neg (fun q => h'.1 q.symm), upd_none h'.2]
theorem upd_keys (k n : Int) (l : List (Int × Int)) : keysOf (l.map (fun p => if p.1 = k then (p.1, n) else p)) = keysOf l := by
  unfold keysOf
  rw [List.map_map]
  apply List.map_congr_left
  intro p _
  show (if p.1 = k then (p.1, n) else p).1 = p.1
  split <;> rfl
theorem sumP_upd (f : Int → Int) (k n : Int) : ∀ {l : List (Int × Int)}, (keysOf l).Nodup → k ∈ keysOf l → sumP f (l.map (fun p => if p.1 = k then (p.1, n) else p)) = sumP f l + (n - getI l k) * f k
  | [], _, h => by cases h
  | p :: r, hn, h => by
    have hn' : p.1 ∉ keysOf r ∧ (keysOf r).Nodup := List.nodup_cons.mp hn
    rw [List.map_cons, getI_cons]
    by_cases e : p.1 = k
    · rw [if_pos e, if_pos e, upd_none (by rw [← e]; exact hn'.1)]
      show n * f p.1 + sumP f r = p.2 * f p.1 + sumP f r + _
      rw [← e, Int.sub_mul]; omega
    · rw [if_neg e, if_neg e]
      have h' : k ∈ keysOf r := by
        rcases List.mem_cons.mp (show k ∈ p.1 :: keysOf r from h) with q | q
        · exact absurd q.symm e
        · exact q
      show p.2 * f p.1 + sumP f (r.map _) = p.2 * f p.1 + sumP f r + _
      rw [sumP_upd f k n hn'.2 h']; omega
theorem any_keys (l : List (Int × Int)) (k : Int) : l.any (fun p => decide (p.1 = k)) = true ↔ k ∈ keysOf l := by
  unfold keysOf
  rw [List.any_eq_true, List.mem_map]
  constructor
  · rintro ⟨p, h1, h2⟩; exact ⟨p, h1, of_decide_eq_true h2⟩
  · rintro ⟨p, h1, h2⟩; exact ⟨p, h1, decide_eq_true h2⟩
theorem sumP_store (f : Int → Int) (k n : Int) {l : List (Int × Int)} (hn : (keysOf l).Nodup) : sumP f (storeI l k n) = sumP f l + (n - getI l k) * f k := by
  unfold storeI
  split
  · exact sumP_upd f k n hn ((any_keys l k).mp (by assumption))
  · have hk : k ∉ keysOf l := fun q => absurd ((any_keys l k).mpr q) (by assumption)
    rw [sumP_app, getI_none hk]
    show _ + (n * f k + 0) = _
    rw [Int.sub_zero]; omega
theorem store_keys (k n : Int) (l : List (Int × Int)) : keysOf (storeI l k n) = if k ∈ keysOf l then keysOf l else keysOf l ++ [k] := by
  unfold storeI
  split
  · rw [upd_keys, if_pos ((any_keys l k).mp (by assumption))]
  · rw [if_neg (fun q => absurd ((any_keys l k).mpr q) (by assumption))]
    unfold keysOf; rw [List.map_append]; rfl
theorem store_nodup (k n : Int) {l : List (Int × Int)} (hn : (keysOf l).Nodup) : (keysOf (storeI l k n)).Nodup := by
  rw [store_keys]
  split
  · exact hn
  · rename_i h
    rw [List.nodup_append]
    exact ⟨hn, by simp, fun a ha b hb => by rw [List.mem_singleton.mp hb]; rintro rfl; exact h ha⟩
/-- a key in order -/
noncomputable def KeyOk (k : Int) : Prop := ∃ x y z : Nat, x ≤ 9 ∧ y ≤ 9 ∧ z ≤ 9 ∧ k = 100 * x + 10 * y + z
noncomputable def DictOk (l : List (Int × Int)) : Prop := (keysOf l).Nodup ∧ ∀ k ∈ keysOf l, KeyOk k
theorem store_ok {k n : Int} {l : List (Int × Int)} (h : DictOk l) (hk : KeyOk k) : DictOk (storeI l k n) := by
  refine ⟨store_nodup k n h.1, fun y hy => ?_⟩
  rw [store_keys] at hy
  split at hy
  · exact h.2 y hy
  · rcases List.mem_append.mp hy with q | q
    · exact h.2 y q
    · rw [List.mem_singleton.mp q]; exact hk
noncomputable def enc3 (t : R3) : Int := 100 * t.1 + 10 * t.2.1 + t.2.2
noncomputable def Bits (t : R3) : Prop := t.1 ≤ 1 ∧ t.2.1 ≤ 1 ∧ t.2.2 ≤ 1
noncomputable def dec3 (k : Int) : R3 := (k.toNat / 100, k.toNat / 10 % 10, k.toNat % 10)
theorem dec_key {x y z : Nat} (hx : x ≤ 9) (hy : y ≤ 9) (hz : z ≤ 9) : dec3 (100 * x + 10 * y + z) = (x, y, z) := by
  unfold dec3
  simp only [Prod.mk.injEq]
  omega
theorem fd {a : Int} (n : Int) (h : 0 ≤ n) : a.fdiv n = a / n := Int.fdiv_eq_ediv_of_nonneg _ h
theorem fm {a : Int} (n : Int) (h : 0 ≤ n) : a.fmod n = a % n := Int.fmod_eq_emod_of_nonneg _ h
theorem digits {x y z : Int} (hx : 0 ≤ x) (hy : 0 ≤ y ∧ y ≤ 9) (hz : 0 ≤ z ∧ z ≤ 9) : (100 * x + 10 * y + z).fdiv 100 = x ∧ ((100 * x + 10 * y + z).fdiv 10).fmod 10 = y ∧ (100 * x + 10 * y + z).fmod 10 = z := by
  rw [fd 100 (by decide), fd 10 (by decide), fm 10 (by decide), fm 10 (by decide)]
  refine ⟨by omega, by omega, by omega⟩
theorem fitsK_iff {x y z : Nat} (_hx : x ≤ 9) (hy : y ≤ 9) (hz : z ≤ 9) {t : R3} (ht : Bits t) : fitsK (100 * x + 10 * y + z) (enc3 t) = true ↔ t.1 ≤ x ∧ t.2.1 ≤ y ∧ t.2.2 ≤ z := by
  obtain ⟨h1, h2, h3⟩ := ht
  obtain ⟨a1, a2, a3⟩ := digits (x := (x : Int)) (y := (y : Int)) (z := (z : Int)) (by omega) ⟨by omega, by omega⟩ ⟨by omega, by omega⟩
  obtain ⟨b1, b2, b3⟩ := digits (x := (t.1 : Int)) (y := (t.2.1 : Int)) (z := (t.2.2 : Int)) (by omega) ⟨by omega, by omega⟩ ⟨by omega, by omega⟩
  unfold fitsK enc3
  rw [a1, a2, a3, b1, b2, b3, Bool.and_eq_true, Bool.and_eq_true, decide_eq_true_eq, decide_eq_true_eq, decide_eq_true_eq]
  exact ⟨fun ⟨p, q, r⟩ => ⟨Int.ofNat_le.mp p, Int.ofNat_le.mp q, Int.ofNat_le.mp r⟩, fun ⟨p, q, r⟩ => ⟨Int.ofNat_le.mpr p, Int.ofNat_le.mpr q, Int.ofNat_le.mpr r⟩⟩
theorem key_sub {x y z : Nat} (hx : x ≤ 9) (hy : y ≤ 9) (hz : z ≤ 9) {t : R3} (h : t.1 ≤ x ∧ t.2.1 ≤ y ∧ t.2.2 ≤ z) : (100 * (x : Int) + 10 * y + z) - enc3 t = 100 * ((x - t.1 : Nat) : Int) + 10 * ((y - t.2.1 : Nat) : Int) + ((z - t.2.2 : Nat) : Int) := by
  unfold enc3; omega
theorem dig3 {t : R3} (ht : Bits t) : (enc3 t).fdiv 100 + ((enc3 t).fdiv 10).fmod 10 + (enc3 t).fmod 10 = ((t.1 + t.2.1 + t.2.2 : Nat) : Int) := by
  obtain ⟨a, b, c⟩ := t
  obtain ⟨h1, h2, h3⟩ := ht
  unfold enc3
  dsimp only at h1 h2 h3 ⊢
  simp only [fd 100 (by decide), fd 10 (by decide), fm 10 (by decide)]
  omega
noncomputable def gives (f : Int → Int) (taken : Int) (p : Int × Int) : Int := if fitsK p.1 taken = true then p.2 * f (p.1 - taken) else 0
noncomputable def givesL (f : Int → Int) (taken : Int) : List (Int × Int) → Int
  | [] => 0
  | p :: r => gives f taken p + givesL f taken r
theorem keyOk_sub {k : Int} {t : R3} (ht : Bits t) (h : KeyOk k) (hf : fitsK k (enc3 t) = true) : KeyOk (k - enc3 t) := by
  obtain ⟨x, y, z, hx, hy, hz, rfl⟩ := h
  have := (fitsK_iff hx hy hz ht).mp hf
  rw [key_sub hx hy hz this]
  exact ⟨_, _, _, by omega, by omega, by omega, rfl⟩
theorem keys_sum (f : Int → Int) {t : R3} (ht : Bits t) (held : List (Int × Int)) : ∀ (l later : List (Int × Int)), (∀ p ∈ l, getI held p.1 = p.2 ∧ KeyOk p.1) → DictOk later → sumP f (l.foldl (stepKey (enc3 t) held) later) = sumP f later + givesL f (enc3 t) l ∧ DictOk (l.foldl (stepKey (enc3 t) held) later)
  | [], later, _, h2 => ⟨by show _ = _ + 0; rw [List.foldl_nil]; omega, h2⟩
  | p :: r, later, h1, h2 => by
    obtain ⟨g1, g2⟩ := h1 p (.head _)
    rw [List.foldl_cons]
    have hok : DictOk (stepKey (enc3 t) held later p) := by
      unfold stepKey
      split
      · exact store_ok h2 (keyOk_sub ht g2 (by assumption))
      · exact h2
    obtain ⟨e1, e2⟩ := keys_sum f ht held r _ (fun q hq => h1 q (.tail _ hq)) hok
    refine ⟨?_, e2⟩
    rw [e1]
    show _ = _ + (gives f (enc3 t) p + _)
    have : sumP f (stepKey (enc3 t) held later p) = sumP f later + gives f (enc3 t) p := by
      unfold stepKey gives
      split
      · rw [sumP_store f _ _ h2.1, g1]
        congr 1
        congr 1
        omega
      · omega
    rw [this]; omega
noncomputable def givesT (f : Int → Int) (a : Int) (l : List (Int × Int)) : List R3 → Int
  | [] => 0
  | t :: T => (if ((t.1 + t.2.1 + t.2.2 : Nat) : Int) = a then givesL f (enc3 t) l else 0) + givesT f a l T
theorem takens_sum (f : Int → Int) (a : Int) (held : List (Int × Int)) (hh : ∀ p ∈ held, getI held p.1 = p.2 ∧ KeyOk p.1) : ∀ (T : List R3) (later : List (Int × Int)), (∀ t ∈ T, Bits t) → DictOk later →
    sumP f ((T.map enc3).foldl (stepTaken a held) later) = sumP f later + givesT f a held T ∧ DictOk ((T.map enc3).foldl (stepTaken a held) later)
  | [], later, _, h2 => ⟨by show _ = _ + 0; rw [List.map_nil, List.foldl_nil]; omega, h2⟩
  | t :: T, later, h1, h2 => by
    have ht := h1 t (.head _)
    rw [List.map_cons, List.foldl_cons]
    have k := keys_sum f ht held held later hh h2
    have hs : stepTaken a held later (enc3 t) = if ((t.1 + t.2.1 + t.2.2 : Nat) : Int) = a then held.foldl (stepKey (enc3 t) held) later else later := by
      unfold stepTaken; rw [dig3 ht]
    rw [hs]
    have hok : DictOk (if ((t.1 + t.2.1 + t.2.2 : Nat) : Int) = a then held.foldl (stepKey (enc3 t) held) later else later) := by
      split
      · exact k.2
      · exact h2
    obtain ⟨e1, e2⟩ := takens_sum f a held hh T _ (fun q hq => h1 q (.tail _ hq)) hok
    refine ⟨?_, e2⟩
    rw [e1]
    show _ = _ + ((if _ then _ else _) + _)
    split
    · rw [k.1]; omega
    · omega
theorem givesT_succ (f : Int → Int) (a : Int) (l : List (Int × Int)) (t : R3) (T : List R3) : givesT f a l (t :: T) = (if ((t.1 + t.2.1 + t.2.2 : Nat) : Int) = a then givesL f (enc3 t) l else 0) + givesT f a l T := rfl
theorem givesL_cons (f : Int → Int) (k : Int) (p : Int × Int) (l : List (Int × Int)) : givesL f k (p :: l) = gives f k p + givesL f k l := rfl
theorem givesT_cons (f : Int → Int) (a : Int) (p : Int × Int) (l : List (Int × Int)) : ∀ T, givesT f a (p :: l) T = givesT f a [p] T + givesT f a l T
  | [] => rfl
  | t :: T => by
    have e : givesL f (enc3 t) [p] = gives f (enc3 t) p := by rw [givesL_cons]; exact Int.add_zero _
    rw [givesT_succ, givesT_succ, givesT_succ, givesT_cons f a p l T, givesL_cons, e]
    by_cases c : ((t.1 + t.2.1 + t.2.2 : Nat) : Int) = a
    · simp only [if_pos c]; omega
    · simp only [if_neg c]; omega
theorem givesT_nil (f : Int → Int) (a : Int) : ∀ T, givesT f a [] T = 0
  | [] => rfl
  | t :: T => by
    show (if _ then (0 : Int) else 0) + givesT f a [] T = 0
    rw [givesT_nil f a T]; split <;> rfl
theorem givesT_one (as : List Nat) (a : Nat) (k v : Int) (hk : KeyOk k) : ∀ T : List R3, (∀ t ∈ T, Bits t) → givesT (fun k => (ways as (dec3 k) : Nat)) a [(k, v)] T = v * (((T.map fun t => if fits t a (dec3 k) = true then ways as (sub3 (dec3 k) t) else 0).sum : Nat) : Int)
  | [], _ => by show (0 : Int) = v * ((0 : Nat) : Int); simp
  | t :: T, h => by
    have ht := h t (.head _)
    have ih := givesT_one as a k v hk T (fun q hq => h q (.tail _ hq))
    show (if _ then gives _ (enc3 t) (k, v) + 0 else 0) + givesT _ a [(k, v)] T = v * (((if _ then _ else 0) + (T.map _).sum : Nat) : Int)
    rw [ih]
    refine Eq.trans ?_ (congrArg (v * ·) (Int.natCast_add _ _).symm)
    show _ = v * (_ + _)
    rw [Int.mul_add]
    congr 1
    obtain ⟨x, y, z, hx, hy, hz, rfl⟩ := hk
    rw [dec_key hx hy hz]
    have hf : fits t a (x, y, z) = true ↔ (t.1 + t.2.1 + t.2.2 = a ∧ t.1 ≤ x ∧ t.2.1 ≤ y ∧ t.2.2 ≤ z) := by
      unfold fits
      simp only [Bool.and_eq_true, Nat.beq_eq, Nat.ble_eq]
    unfold gives
    dsimp only
    have hg := fitsK_iff hx hy hz ht
    by_cases c1 : t.1 + t.2.1 + t.2.2 = a
    · rw [if_pos (by rw [c1])]
      by_cases c2 : t.1 ≤ x ∧ t.2.1 ≤ y ∧ t.2.2 ≤ z
      · rw [if_pos (hg.mpr c2), if_pos (hf.mpr ⟨c1, c2⟩), key_sub hx hy hz c2, dec_key (by omega) (by omega) (by omega)]
        exact Int.add_zero _
      · rw [if_neg (fun q => c2 (hg.mp q)), if_neg (fun q => c2 (hf.mp q).2)]; simp
    · rw [if_neg (by omega), if_neg (fun q => c1 (hf.mp q).1)]; simp
theorem T8_bits : ∀ t ∈ T8, Bits t := by
  intro t ht
  simp only [T8, List.mem_cons, List.not_mem_nil, or_false] at ht
  rcases ht with h | h | h | h | h | h | h | h <;> (rw [h]; exact ⟨by decide, by decide, by decide⟩)
theorem givesT_all (as : List Nat) (a : Nat) : ∀ l : List (Int × Int), (∀ p ∈ l, KeyOk p.1) → givesT (fun k => (ways as (dec3 k) : Nat)) a l T8 = sumP (fun k => (ways (a :: as) (dec3 k) : Nat)) l
  | [], _ => givesT_nil _ _ _
  | p :: r, h => by
    rw [givesT_cons, givesT_all as a r (fun q hq => h q (.tail _ hq))]
    show _ = p.2 * _ + _
    rw [show [p] = [(p.1, p.2)] from rfl, givesT_one as a p.1 p.2 (h p (.head _)) T8 T8_bits]
    rfl
theorem getI_mem : ∀ {l : List (Int × Int)}, (keysOf l).Nodup → ∀ p ∈ l, getI l p.1 = p.2
  | [], _, p, h => by cases h
  | q :: r, hn, p, h => by
    have hn' : q.1 ∉ keysOf r ∧ (keysOf r).Nodup := List.nodup_cons.mp hn
    rw [getI_cons]
    rcases List.mem_cons.mp h with rfl | h
    · rw [if_pos rfl]
    · rw [if_neg (fun e => hn'.1 (by rw [e]; exact List.mem_map.mpr ⟨p, h, rfl⟩)), getI_mem hn'.2 p h]
theorem step_sum (as : List Nat) (a : Nat) (held : List (Int × Int)) (h : DictOk held) : sumP (fun k => (ways as (dec3 k) : Nat)) (stepAmount held a) = sumP (fun k => (ways (a :: as) (dec3 k) : Nat)) held ∧ DictOk (stepAmount held a) := by
  have hk : ∀ p ∈ held, KeyOk p.1 := fun p hp => h.2 _ (List.mem_map.mpr ⟨p, hp, rfl⟩)
  have := takens_sum (fun k => (ways as (dec3 k) : Nat)) a held (fun p hp => ⟨getI_mem h.1 p hp, hk p hp⟩) T8 [] T8_bits ⟨List.nodup_nil, fun _ q => nomatch q⟩
  rw [givesT_all as a held hk] at this
  unfold stepAmount
  rw [show takens = T8.map enc3 by decide]
  refine ⟨?_, this.2⟩
  rw [this.1]
  show (0 : Int) + _ = _
  omega
theorem zero_dec {k : Int} (h : KeyOk k) : zero3 (dec3 k) = decide (k = 0) := by
  obtain ⟨x, y, z, hx, hy, hz, rfl⟩ := h
  rw [dec_key hx hy hz]
  unfold zero3
  rw [Bool.eq_iff_iff]
  simp only [Nat.beq_eq, decide_eq_true_eq]
  omega
theorem sumP_zero : ∀ {l : List (Int × Int)}, (keysOf l).Nodup → (∀ k ∈ keysOf l, KeyOk k) → sumP (fun k => (ways [] (dec3 k) : Nat)) l = getI l 0
  | [], _, _ => rfl
  | p :: r, hn, hk => by
    have hn' : p.1 ∉ keysOf r ∧ (keysOf r).Nodup := List.nodup_cons.mp hn
    rw [getI_cons]
    show p.2 * ((if zero3 (dec3 p.1) = true then 1 else 0 : Nat) : Int) + _ = _
    rw [sumP_zero hn'.2 (fun k h => hk k (.tail _ h)), zero_dec (hk p.1 (.head _))]
    by_cases e : p.1 = 0
    · rw [decide_eq_true e, if_pos rfl, if_pos e, getI_none (by rw [← e]; exact hn'.1)]; simp
    · rw [decide_eq_false e, if_neg Bool.false_ne_true, if_neg e]; simp
theorem deals_sum : ∀ (as : List Int) (held : List (Int × Int)), (∀ n ∈ as, 0 ≤ n) → DictOk held → getI (dealsF as held) 0 = sumP (fun k => (ways (as.map Int.toNat) (dec3 k) : Nat)) held
  | [], held, _, h => (sumP_zero h.1 h.2).symm
  | a :: as, held, hn, h => by
    have ha := hn a (.head _)
    have s := step_sum (as.map Int.toNat) a.toNat held h
    rw [show ((a.toNat : Nat) : Int) = a by omega] at s
    show getI (dealsF as (stepAmount held a)) 0 = _
    rw [deals_sum as _ (fun n q => hn n (.tail _ q)) s.2, s.1]
    rfl
theorem deals_ways (as : List Int) (hn : ∀ n ∈ as, 0 ≤ n) {x y z : Nat} (hx : x ≤ 9) (hy : y ≤ 9) (hz : z ≤ 9) : getI (dealsF as [(100 * (x : Int) + 10 * y + z, 1)]) 0 = (ways (as.map Int.toNat) (x, y, z) : Nat) := by
  rw [deals_sum as _ hn ⟨by simp [keysOf], fun k hk => by rw [show k = _ from by simpa [keysOf] using hk]; exact ⟨x, y, z, hx, hy, hz, rfl⟩⟩]
  show (1 : Int) * ((ways _ (dec3 _) : Nat) : Int) + 0 = _
  rw [dec_key hx hy hz]; omega
end Mine
end
section
open PySem PySem.W PySem.Calls PyProof.Rows
set_option Elab.async false
set_option maxRecDepth 100000
set_option maxHeartbeats 0
namespace Mine
end Mine
namespace Mine
open PyProof.Rows
theorem adjust_over (a n : Nat) (ha : n < a) : Builtin.Slice.sliceAdjust (some (a : Int)) none 1 (n : Int) = ((n : Int), (n : Int)) := by
  unfold Builtin.Slice.sliceAdjust
  simp only [show ¬ ((1 : Int) < 0) by omega, show ¬ ((a : Int) < 0) by omega, if_false]
  congr 1
  omega
section
variable {prog : Program} {w : World} {A : Around} {E : Value → Shared → Prop} {s : Shared} {h₀ : Heap} {L : Addr} {m : Str → Option Value} {news : List (Addr × Obj)}
theorem sliceApplied_over {sl : Addr} {a n : Nat} {u : Tok} {Q : Int × Int × Nat → Shared → Prop} (hs : s.heap.IsSliceOf sl (.int a u) .none .none) (ha : n < a) (h : Q ((n : Int), 1, 0) s) :
    wpAny (model prog w) A (Builtin.Slice.sliceApplied (.ref sl) (pure (n : Int))) Q E s := by
  obtain ⟨os, hos, hcs, hds⟩ := id hs
  have e3 : Builtin.Slice.slicePlaces (n : Int) (n : Int) 1 = 0 := (places_from n n (Nat.le_refl _)).trans (Nat.sub_self n)
  unfold Builtin.Slice.sliceApplied Builtin.Slice.sliceFields
  refine wpAny_bind (wpAny_bind (wpAny_field hos hds (x := .int a u) rfl (wpAny_bind (wpAny_field hos hds (x := .none) rfl (wpAny_bind (wpAny_field hos hds (x := .none) rfl (wpAny_pure ?_)))))))
  refine wpAny_bind (slicePart_none ?_)
  show wpAny _ _ (if ((1 : Int) == 0) = true then _ else _) _ _ s
  rw [if_neg (by decide)]
  refine wpAny_bind (slicePart_int (wpAny_bind (slicePart_none (wpAny_bind (wpAny_pure ?_)))))
  show wpAny _ _ (match Builtin.Slice.sliceAdjust (some (a : Int)) none 1 (n : Int) with | (lo, hi) => pure (lo, (1 : Int), Builtin.Slice.slicePlaces lo hi 1)) _ _ s
  rw [adjust_over a n ha]
  show wpAny _ _ (pure ((n : Int), (1 : Int), Builtin.Slice.slicePlaces (n : Int) (n : Int) 1)) _ _ s
  rw [e3]
  exact wpAny_pure h
/-- a slice that begins behind a tuple's end -/
theorem getItem_tuple_over {t sl : Addr} {items : Array Value} {a : Nat} {u : Tok} {Q : Value → Shared → Prop} (ht : IsTup s.heap t items) (hs : s.heap.IsSliceOf sl (.int a u) .none .none) (h1 : 1 ≤ items.size) (ha : items.size < a)
    (h : Q (.ref s.heap.objs.size) { s with heap := s.heap.push { cls := .type "tuple", data := .seq ([] : List Value).toArray } }) : wpAny (model prog w) A (getItem (.ref t) (.ref sl)) Q E s := by
  have hok : sizeOk (.seq ([] : List Value).toArray) := Nat.zero_le _
  obtain ⟨os, hos, hcs, hds⟩ := id hs
  have hTs : s.TypeIs (.ref sl) "slice" := ⟨os, hos, hcs⟩
  unfold getItem
  try with_reducible refine wpAny_holding ?_
  first | refine wpAny_bind (wpAny_pure ?_) | skip
  refine wpAny_bind (wpAny_sequenceKey ht.typeIs (by decide) ?_)
  refine wpAny_bind (wpAny_callSpecial?_slot (name := Str.ofString "__getitem__") ht.typeIs slot_tuple_getitem
    (wpAny_call_entry slot_tuple_getitem ht.typeIs entry_tuple_getitem ?_ (args_tuple_getitem _ _)))
  show wpAny _ _ (Builtin.Tuple.tupleItemsOf (.ref t) >>= _) _ _ s
  refine wpAny_bind (tupleItemsOf_ ht ?_)
  refine wpAny_bind (wpAny_typeOf hTs ?_)
  rw [if_pos (by decide)]
  refine wpAny_bind (sliceApplied_over hs ha ?_)
  have hno : ¬ (((items.size : Int) == 0 && (1 : Int) == 1 && (0 == items.size)) = true) := by
    have : ((items.size : Int) == 0) = false := by rw [beq_eq_false_iff_ne]; omega
    rw [this]; simp
  show wpAny _ _ (if ((items.size : Int) == 0 && (1 : Int) == 1 && (0 == items.size)) = true then _ else _) _ _ s
  rw [if_neg hno]
  show wpAny _ _ (Builtin.Tuple.tupleExact ([] : List Value).toArray >>= _) _ _ s
  first
    | exact wpAny_bind (m := Builtin.Tuple.tupleExact _) (wpAny_newObj_type (wpAny_pure ⟨_, rfl, wpAny_pure h⟩) hok)
    | exact wpAny_bind (wpAny_bind (m := Builtin.Tuple.tupleExact _) (wpAny_newObj_type (wpAny_pure ⟨_, rfl, wpAny_pure h⟩) hok))
/-- a tuple's tail, from a on -/
theorem slice_tuple_tail {value slice : Expr} {t : Addr} {items : Array Value} {a : Nat} {u : Tok} {Q : Value → Shared → Prop}
    (F : Fr h₀ L s.heap m) (N : News h₀ L s.heap news) (ht : IsTup s.heap t items) (h0 : 1 ≤ items.size) (h1 : 1 ≤ a)
    (h : ∀ h', Fr h₀ L h' m → News h₀ L h' ((s.heap.objs.size + 1, { cls := .type "tuple", data := .seq (items.toList.drop a).toArray }) :: news) → Q (.ref (s.heap.objs.size + 1)) { s with heap := h' })
    (hs : subscripted slice false (.ref t) (.ref s.heap.objs.size) = operate [.ref s.heap.objs.size, .ref t] (getItem (.ref t) (.ref s.heap.objs.size)) := by with_unfolding_all rfl)
    (hg : ∀ r, letTemporaryGo value (.ref t) r = pure () := by intro _; with_unfolding_all rfl)
    (hsz : items.size ≤ sizeLine := by size_fits) :
    wpAny (model prog w) A (subscriptTail value slice (.ref t) (.ref s.heap.objs.size)) Q E { s with heap := s.heap.push { cls := .type "slice", data := .fields #[.int a u, .none, .none] } } := by
  by_cases ha : a ≤ items.size
  · exact slice_tuple_from F N ht h1 ha h hs hg hsz
  · rw [show items.toList.drop a = [] from List.drop_eq_nil_of_le (by rw [Array.length_toList]; omega)] at h
    have ht' : IsTup (s.heap.push { cls := .type "slice", data := .fields #[.int a u, .none, .none] }) t items := ht.keeps fun _ _ e => Heap.get?_push_of_some _ e
    refine subscriptTail_ops (s := { s with heap := s.heap.push { cls := .type "slice", data := .fields #[.int a u, .none, .none] } }) ht'.typeIs slot_tuple_getitem.lookup
      (getItem_tuple_over ht' (Heap.IsSliceOf.new ..) h0 (by omega) ?_) hs hg
    have N1 := News.push (F.push { cls := .type "slice", data := .fields #[.int a u, .none, .none] }) (N.grown fun _ _ e => Heap.get?_push_of_some _ e) { cls := .type "tuple", data := .seq ([] : List Value).toArray }
    rw [Heap.size_push] at N1
    show Q (.ref (s.heap.push _).objs.size) _
    rw [Heap.size_push]
    exact h _ ((F.push _).push _) N1
end
end Mine
end
section
open PySem PySem.W PySem.Calls PyProof.Rows
set_option Elab.async false
set_option maxRecDepth 100000
set_option maxHeartbeats 0
namespace Mine
open PySem.Spec PyProof.V PyProof.Rows.LCg
theorem pow106 {prog : Program} {w : World} {A : Around} {E : Value → Shared → Prop} {s : Shared} {t u : Tok} {Q : Value → Shared → Prop} (h : Q (.int 1000000 s.toks) { s with toks := s.toks + 1 }) : wpAny (model prog w) A (binaryOp .Pow (.int 10 t) (.int 6 u)) Q E s :=
  pow_int_small (a := 10) (n := 6) (by decide) (by decide) (by decide) (by rw [show (10 : Int) ^ Int.toNat 6 = 1000000 by decide]; exact h)
theorem ownOff_of {own : List (Addr × Obj)} {led : List (Addr × Obj)} (h : ∀ p ∈ own, ∀ q ∈ led, p.1 ≠ q.1) : OwnOff own (led.map (·.1)) := fun p hp b hb => by
  obtain ⟨q, hq, rfl⟩ := List.mem_map.mp hb
  exact h p hp q hq
structure ClS where
  us : List Value
  cs : List Int
  nn : Nat
theorem news_erase {h₀ h : Heap} {L : Addr} {l : List (Addr × Obj)} (k : Nat) (N : News h₀ L h l) : News h₀ L h (l.eraseIdx k) := fun p hp => N p (List.mem_of_mem_eraseIdx hp)
theorem fr_pick {h₀ h : Heap} {L : Addr} {m : Str → Option Value} {x : Str} {v : Value} (F : Fr h₀ L h m) (e : m x = some v) : Fr h₀ L h (fun y => if y = x then some v else m y) := by
  have : (fun y => if y = x then some v else m y) = m := funext fun y => by
    by_cases q : y = x
    · rw [if_pos q, q, e]
    · rw [if_neg q]
  rw [this]; exact F
section
variable {h₀ h : Heap} {L : Addr} {m : Str → Option Value} {x1 x2 x3 x4 : Str} {v1 v2 v3 v4 : Value}
theorem fr_only0 (F : Fr h₀ L h m) : ∃ m', Fr h₀ L h m' := ⟨m, F⟩
theorem fr_only1 (F : Fr h₀ L h m) (e1 : m x1 = some v1) : ∃ m' : Str → Option Value, Fr h₀ L h (fun y => if y = x1 then some v1 else m' y) := ⟨m, fr_pick F e1⟩
theorem fr_only2 (F : Fr h₀ L h m) (e1 : m x1 = some v1) (e2 : m x2 = some v2) (n12 : (x1 == x2) = false) : ∃ m' : Str → Option Value, Fr h₀ L h (fun y => if y = x1 then some v1 else if y = x2 then some v2 else m' y) :=
  ⟨m, fr_pick (fr_pick F e2) (by rw [if_neg (by simpa using n12)]; exact e1)⟩
theorem fr_only3 (F : Fr h₀ L h m) (e1 : m x1 = some v1) (e2 : m x2 = some v2) (e3 : m x3 = some v3) (n12 : (x1 == x2) = false) (n13 : (x1 == x3) = false) (n23 : (x2 == x3) = false) : ∃ m' : Str → Option Value, Fr h₀ L h (fun y => if y = x1 then some v1 else if y = x2 then some v2 else if y = x3 then some v3 else m' y) :=
  ⟨m, fr_pick (fr_pick (fr_pick F e3) (by rw [if_neg (by simpa using n23)]; exact e2)) (by rw [if_neg (by simpa using n12), if_neg (by simpa using n13)]; exact e1)⟩
theorem fr_only4 (F : Fr h₀ L h m) (e1 : m x1 = some v1) (e2 : m x2 = some v2) (e3 : m x3 = some v3) (e4 : m x4 = some v4) (n12 : (x1 == x2) = false) (n13 : (x1 == x3) = false) (n14 : (x1 == x4) = false) (n23 : (x2 == x3) = false) (n24 : (x2 == x4) = false) (n34 : (x3 == x4) = false) :
    ∃ m' : Str → Option Value, Fr h₀ L h (fun y => if y = x1 then some v1 else if y = x2 then some v2 else if y = x3 then some v3 else if y = x4 then some v4 else m' y) :=
  ⟨m, fr_pick (fr_pick (fr_pick (fr_pick F e4) (by rw [if_neg (by simpa using n34)]; exact e3)) (by rw [if_neg (by simpa using n23), if_neg (by simpa using n24)]; exact e2)) (by rw [if_neg (by simpa using n12), if_neg (by simpa using n13), if_neg (by simpa using n14)]; exact e1)⟩
end
/-- the kinds, as they are drawn from the cells -/
noncomputable def kindStep (cs es : List Int) (k : Nat) : List Int :=
  (if 0 < k then es ++ [8 + ((cs.getD 3 0).fdiv k).fmod 2] else es) ++ [(cs.getD k 0).fmod 8] ++ (if ((cs.getD k 0).fdiv 8).fmod 9 < 8 then [((cs.getD k 0).fdiv 8).fmod 9] else [])
noncomputable def kindsF (cs : List Int) : Nat → List Int
  | 0 => []
  | k + 1 => kindStep cs (kindsF cs k) k
theorem kindStep_len (cs es : List Int) (k : Nat) : (kindStep cs es k).length ≤ es.length + 3 := by
  unfold kindStep
  rw [List.length_append, List.length_append]
  have h1 : (if 0 < k then es ++ [8 + ((cs.getD 3 0).fdiv k).fmod 2] else es).length ≤ es.length + 1 := by split <;> simp
  have h2 : (if ((cs.getD k 0).fdiv 8).fmod 9 < 8 then [((cs.getD k 0).fdiv 8).fmod 9] else []).length ≤ 1 := by split <;> simp
  rw [List.length_singleton]
  omega
theorem kindsF_len (cs : List Int) : ∀ k, (kindsF cs k).length ≤ 3 * k
  | 0 => Nat.le_refl _
  | k + 1 => by have := kindsF_len cs k; have := kindStep_len cs (kindsF cs k) k; show (kindStep _ _ _).length ≤ _; omega
/-- the kinds of one word -/
noncomputable def Wd (l : List Int) : Prop := (∃ a, l = [a] ∧ 0 ≤ a ∧ a < 8) ∨ ∃ a b, l = [a, b] ∧ (0 ≤ a ∧ a < 8) ∧ 0 ≤ b ∧ b < 8
noncomputable def KindsOk (ks : List Int) : Prop := ∃ a0 s1 a1 s2 a2, Wd a0 ∧ (s1 = 8 ∨ s1 = 9) ∧ Wd a1 ∧ (s2 = 8 ∨ s2 = 9) ∧ Wd a2 ∧ ks = a0 ++ s1 :: (a1 ++ s2 :: a2)
theorem kind_wd (cs : List Int) (k : Nat) : Wd ([(cs.getD k 0).fmod 8] ++ (if ((cs.getD k 0).fdiv 8).fmod 9 < 8 then [((cs.getD k 0).fdiv 8).fmod 9] else [])) := by
  have a0 := Int.fmod_nonneg_of_pos (cs.getD k 0) (by decide : (0 : Int) < 8)
  have a1 := Int.fmod_lt_of_pos (cs.getD k 0) (by decide : (0 : Int) < 8)
  have b0 := Int.fmod_nonneg_of_pos ((cs.getD k 0).fdiv 8) (by decide : (0 : Int) < 9)
  by_cases h : ((cs.getD k 0).fdiv 8).fmod 9 < 8
  · rw [if_pos h]; exact .inr ⟨_, _, rfl, ⟨a0, a1⟩, b0, h⟩
  · rw [if_neg h]; exact .inl ⟨_, rfl, a0, a1⟩
theorem kind_sep (c k : Int) : 8 + (c.fdiv k).fmod 2 = 8 ∨ 8 + (c.fdiv k).fmod 2 = 9 := by
  have b0 := Int.fmod_nonneg_of_pos (c.fdiv k) (by decide : (0 : Int) < 2)
  have b1 := Int.fmod_lt_of_pos (c.fdiv k) (by decide : (0 : Int) < 2)
  omega
theorem kinds_ok (cs : List Int) : KindsOk (kindsF cs 3) := by
  refine ⟨_, _, _, _, _, kind_wd cs 0, kind_sep (cs.getD 3 0) (1 : Nat), kind_wd cs 1, kind_sep (cs.getD 3 0) (2 : Nat), kind_wd cs 2, ?_⟩
  simp only [kindsF, kindStep, Nat.lt_irrefl, if_false, show (0 : Nat) < 0 + 1 from Nat.zero_lt_one, show (0 : Nat) < 1 + 1 by decide, if_true, List.nil_append, List.append_assoc, List.cons_append, Nat.zero_add, Nat.reduceAdd]
  try rfl
theorem Wd.facts {l : List Int} (h : Wd l) : 1 ≤ l.length ∧ l.length ≤ 2 ∧ ∀ k ∈ l, 0 ≤ k ∧ k < 8 := by
  rcases h with ⟨a, rfl, h1, h2⟩ | ⟨a, b, rfl, ⟨h1, h2⟩, h3, h4⟩
  · exact ⟨by simp, by simp, by simp; omega⟩
  · exact ⟨by simp, by simp, by simp; omega⟩
theorem KindsOk.facts {ks : List Int} (h : KindsOk ks) : ks.length ≤ 8 ∧ ∀ k ∈ ks, 0 ≤ k ∧ k ≤ 9 := by
  obtain ⟨a0, s1, a1, s2, a2, h0, h1, h2, h3, h4, rfl⟩ := h
  obtain ⟨_, p2, p3⟩ := h0.facts
  obtain ⟨_, q2, q3⟩ := h2.facts
  obtain ⟨_, r2, r3⟩ := h4.facts
  refine ⟨by simp only [List.length_append, List.length_cons]; omega, fun k hk => ?_⟩
  simp only [List.mem_append, List.mem_cons] at hk
  rcases hk with hk | hk | hk | hk | hk
  · have := p3 k hk; omega
  · omega
  · have := q3 k hk; omega
  · omega
  · have := r3 k hk; omega
section
variable {prog : Program} {w : World} {A : Around} {E : Value → Shared → Prop} {s : Shared} {x : Str} {t : Tok} {Q : Value → Shared → Prop}
theorem joinE {D : Addr} {items : Array Value} {ys : List Str} {z : Str} (hl : s.heap.IsList D items) (hi : StrsAre items.toList ys) (hsep : x.length ≤ 16) (hw : (ys.map (·.length)).sum + ys.length ≤ 1048576) (he : Txt.join x ys = z)
    (h : ∀ t' k, Q (.str z t') { s with toks := k }) : wpAny (model prog w) A (call (.builtin "str.join") [.str x t, .ref D]) Q E s := join_listW hl hi hsep hw (by rw [he]; exact h)
end
theorem wt_le (c : Nat) : ∀ l : List Str, (∀ y ∈ l, y.length ≤ c) → (l.map (·.length)).sum ≤ c * l.length
  | [], _ => Nat.zero_le _
  | y :: l, h => by
    have h1 := h y (.head _)
    have h2 := wt_le c l fun z hz => h z (.tail _ hz)
    rw [List.map_cons, List.sum_cons, List.length_cons, Nat.mul_succ]
    omega
theorem letF_len (k : Int) : (letF k).length ≤ 2 := by
  unfold letF
  generalize k.toNat = n
  match n with
  | 0 => decide
  | 1 => decide
  | 2 => decide
  | 3 => decide
  | 4 => decide
  | 5 => decide
  | 6 => decide
  | 7 => decide
  | 8 => decide
  | 9 => decide +kernel
  | n + 10 => exact Nat.zero_le _
theorem let_wt {ks : List Int} (h : ks.length ≤ 8) : ((ks.map letF).map (·.length)).sum + (ks.map letF).length ≤ 1048576 := by
  have := wt_le 2 (ks.map letF) (fun y hy => by obtain ⟨k, _, rfl⟩ := List.mem_map.mp hy; exact letF_len k)
  rw [List.length_map] at this ⊢
  omega
theorem join_cps : ∀ l : List Str, (Str.join Str.empty l).cps.toList = (l.map (·.cps.toList)).flatten
  | [] => rfl
  | [x] => by simp [Str.join]
  | x :: y :: l => by
    show (x ++ Str.empty ++ Str.join Str.empty (y :: l)).cps.toList = _
    rw [cps_app, cps_app, join_cps (y :: l)]
    show x.cps.toList ++ [] ++ _ = _
    rw [List.append_nil]; rfl
theorem str_ext {a b : Str} (h : a.cps.toList = b.cps.toList) : a = b := by
  cases a; cases b; exact congrArg Str.mk (Array.toList_inj.mp h)
theorem str_app_assoc (a b c : Str) : a ++ b ++ c = a ++ (b ++ c) := str_ext (by rw [cps_app, cps_app, cps_app, cps_app, List.append_assoc])
theorem meant_cps (ks : List Int) : (meantF ks).cps.toList = ((ks.map letF).map (·.cps.toList)).flatten := by
  have : ∀ (ks : List Int) (a : Str), (ks.foldl (fun a k => a ++ letF k) a).cps.toList = a.cps.toList ++ ((ks.map letF).map (·.cps.toList)).flatten := by
    intro ks
    induction ks with
    | nil => intro a; simp
    | cons k ks ih => intro a; rw [List.foldl_cons, ih, cps_app]; simp
  exact this ks _
theorem join_let (ks : List Int) : Txt.join (Str.ofString "") (ks.map letF) = meantF ks := str_ext (by rw [meant_cps, ← join_cps, eq_of_beq (join_plain_closes _ _)]; rfl)
theorem besideB (n : Nat) (h : n < 16) : (0 ≤ beside0.getD n 0 ∧ beside0.getD n 0 ≤ 65280) ∧ beside0.getD n 0 ∈ beside0 := by
  have hm : beside0.getD n 0 ∈ beside0 := by
    rw [List.getD_eq_getElem?_getD, List.getElem?_eq_getElem (show n < beside0.length from h)]
    exact List.getElem_mem _
  have : ∀ b ∈ beside0, 0 ≤ b ∧ b ≤ 65280 := by decide
  exact ⟨this _ hm, hm⟩
theorem meant_len {ks : List Int} (h : ks.length ≤ 8) : (meantF ks).length ≤ 16 := by
  have : ∀ (ks : List Int) (a : Str), (ks.foldl (fun a k => a ++ letF k) a).length ≤ a.length + 2 * ks.length := by
    intro ks
    induction ks with
    | nil => intro a; exact Nat.le_refl _
    | cons k ks ih =>
      intro a
      rw [List.foldl_cons]
      have h1 := ih (a ++ letF k)
      have h2 := letF_len k
      rw [Str.length_append] at h1
      rw [List.length_cons]
      omega
  have := this ks Str.empty
  have e : Str.empty.length = 0 := rfl
  show (ks.foldl (fun a k => a ++ letF k) Str.empty).length ≤ 16
  omega
structure KdS where
  us : List Value
  es : List Int
  nn : Nat
end Mine
end
section
open PySem PySem.W PySem.Calls PyProof.Rows
set_option Elab.async false
set_option maxRecDepth 100000
set_option maxHeartbeats 0
namespace Mine
open PySem.Spec PyProof.V PyProof.Rows.LCg
/-- the letters' signs -/
noncomputable def L5 : List Nat := [107, 115, 116, 118, 953]
noncomputable def cpsL (l : List Int) : List Nat := ((l.map letF).map (·.cps.toList)).flatten
theorem let_word {k : Int} (h0 : 0 ≤ k) (h1 : k < 8) : (∀ z ∈ (letF k).cps.toList, z ∈ L5) ∧ 1 ≤ (letF k).cps.toList.length ∧ (letF k).cps.toList.length ≤ 2 := by
  obtain ⟨n, rfl⟩ : ∃ n : Nat, k = n := ⟨k.toNat, by omega⟩
  have : n < 8 := by omega
  match n, this with
  | 0, _ => decide
  | 1, _ => decide
  | 2, _ => decide
  | 3, _ => decide
  | 4, _ => decide
  | 5, _ => decide
  | 6, _ => decide
  | 7, _ => decide
theorem wd_word {l : List Int} (h : Wd l) : (∀ z ∈ cpsL l, z ∈ L5) ∧ 1 ≤ (cpsL l).length ∧ (cpsL l).length ≤ 4 := by
  rcases h with ⟨a, rfl, h1, h2⟩ | ⟨a, b, rfl, ⟨h1, h2⟩, h3, h4⟩
  · obtain ⟨x, y, z⟩ := let_word h1 h2
    simp only [cpsL, List.map_cons, List.map_nil, List.flatten_cons, List.flatten_nil, List.append_nil]
    exact ⟨x, y, by omega⟩
  · obtain ⟨x, y, z⟩ := let_word h1 h2
    obtain ⟨x', y', z'⟩ := let_word h3 h4
    simp only [cpsL, List.map_cons, List.map_nil, List.flatten_cons, List.flatten_nil, List.append_nil, List.length_append, List.mem_append]
    exact ⟨fun q hq => hq.elim (x q) (x' q), by omega, by omega⟩
theorem sep_word {s : Int} (h : s = 8 ∨ s = 9) : ∃ e : List Nat, (letF s).cps.toList = 32 :: e ∧ (∀ z ∈ e, z ∈ L5) ∧ e.length ≤ 1 := by
  rcases h with rfl | rfl
  · exact ⟨[], by decide, fun _ h => (nomatch h), by decide⟩
  · exact ⟨[953], by decide +kernel, by decide, by decide⟩
theorem words_ok {ks : List Int} (h : KindsOk ks) : ∃ W0 W1 W2 : List Nat, (meantF ks).cps.toList = W0 ++ 32 :: (W1 ++ 32 :: W2) ∧ (∀ z ∈ W0, z ∈ L5) ∧ (∀ z ∈ W1, z ∈ L5) ∧ (∀ z ∈ W2, z ∈ L5) ∧
    (1 ≤ W0.length ∧ W0.length ≤ 4) ∧ (1 ≤ W1.length ∧ W1.length ≤ 5) ∧ (1 ≤ W2.length ∧ W2.length ≤ 5) := by
  obtain ⟨a0, s1, a1, s2, a2, h0, h1, h2, h3, h4, rfl⟩ := h
  obtain ⟨p1, p2, p3⟩ := wd_word h0
  obtain ⟨q1, q2, q3⟩ := wd_word h2
  obtain ⟨r1, r2, r3⟩ := wd_word h4
  obtain ⟨e1, x1, x2, x3⟩ := sep_word h1
  obtain ⟨e2, y1, y2, y3⟩ := sep_word h3
  refine ⟨cpsL a0, e1 ++ cpsL a1, e2 ++ cpsL a2, ?_, p1, fun z hz => (List.mem_append.mp hz).elim (x2 z) (q1 z), fun z hz => (List.mem_append.mp hz).elim (y2 z) (r1 z), ⟨p2, p3⟩, by rw [List.length_append]; omega, by rw [List.length_append]; omega⟩
  rw [meant_cps]
  simp only [List.map_append, List.map_cons, List.flatten_append, List.flatten_cons, x1, y1, cpsL, List.append_assoc, List.cons_append]
theorem L5_ne {W : List Nat} (h : ∀ z ∈ W, z ∈ L5) : ∀ z ∈ W, z ≠ 32 := fun z hz q => by
  have := h z hz
  rw [q] at this
  revert this; decide
theorem beside_ne {b : Int} (h : b ∈ beside0) : b.toNat ≠ 32 := by
  have : ∀ b ∈ beside0, b.toNat ≠ 32 := by decide
  exact this b h
theorem news_growL {h₀ h h' : Heap} {L : Addr} {new news : List (Addr × Obj)} (N : News h₀ L h news) (st : ∀ b o, h.get? b = some o → b ≠ L → h'.get? b = some o) (N' : News h₀ L h' new) : News h₀ L h' (new ++ news) := fun p hp => by
  rcases List.mem_append.mp hp with hp | hp
  · exact N' p hp
  · exact ⟨st _ _ (N p hp).1 (N p hp).2.1, (N p hp).2⟩
/-- parts with one sign between them -/
noncomputable def sepJ (c : Nat) : List (List Nat) → List Nat
  | [] => []
  | [x] => x
  | x :: y :: r => x ++ c :: sepJ c (y :: r)
theorem sepJ_cps (c : Nat) : ∀ l : List Str, (Str.join ⟨#[c]⟩ l).cps.toList = sepJ c (l.map (·.cps.toList))
  | [] => rfl
  | [x] => rfl
  | x :: y :: l => by
    show (x ++ ⟨#[c]⟩ ++ Str.join ⟨#[c]⟩ (y :: l)).cps.toList = _
    rw [cps_app, cps_app, sepJ_cps c (y :: l)]
    show x.cps.toList ++ [c] ++ _ = x.cps.toList ++ c :: sepJ c (y.cps.toList :: l.map _)
    rw [List.append_assoc]; rfl
theorem app_cut {c : Nat} : ∀ {x y A B : List Nat}, c ∉ x → c ∉ y → x ++ c :: A = y ++ c :: B → x = y ∧ A = B
  | [], [], _, _, _, _, h => ⟨rfl, by simpa using h⟩
  | [], b :: y, _, _, _, hy, h => by
    have : c = b := by simpa using (List.cons.inj h).1
    exact absurd (by rw [this]; exact .head _) hy
  | a :: x, [], _, _, hx, _, h => by
    have : a = c := by simpa using (List.cons.inj h).1
    exact absurd (by rw [← this]; exact .head _) hx
  | a :: x, b :: y, _, _, hx, hy, h => by
    obtain ⟨h1, h2⟩ := List.cons.inj h
    obtain ⟨q1, q2⟩ := app_cut (fun q => hx (.tail _ q)) (fun q => hy (.tail _ q)) h2
    exact ⟨by rw [show a = b from h1, q1], q2⟩
theorem sepJ_inj {c : Nat} : ∀ {l k : List (List Nat)}, l ≠ [] → k ≠ [] → (∀ x ∈ l, c ∉ x) → (∀ x ∈ k, c ∉ x) → sepJ c l = sepJ c k → l = k
  | [], _, h, _, _, _, _ => absurd rfl h
  | _ :: _, [], _, h, _, _, _ => absurd rfl h
  | [x], [y], _, _, _, _, h => by rw [show x = y from h]
  | [x], y :: z :: r, _, _, h1, _, h => by
    have h : x = y ++ c :: sepJ c (z :: r) := h
    exact absurd (by rw [h]; simp) (h1 x (.head _))
  | x :: z :: r, [y], _, _, _, h2, h => by
    have h : x ++ c :: sepJ c (z :: r) = y := h
    exact absurd (by rw [← h]; simp) (h2 y (.head _))
  | x :: z :: r, y :: v :: q, _, _, h1, h2, h => by
    obtain ⟨e1, e2⟩ := app_cut (h1 x (.head _)) (h2 y (.head _)) (show x ++ c :: sepJ c (z :: r) = y ++ c :: sepJ c (v :: q) from h)
    rw [e1, sepJ_inj (List.cons_ne_nil _ _) (List.cons_ne_nil _ _) (fun p hp => h1 p (.tail _ hp)) (fun p hp => h2 p (.tail _ hp)) e2]
theorem split_three {x : Str} {a b d : List Nat} (hx : x.cps.toList = a ++ 32 :: (b ++ 32 :: d)) (ha : ∀ z ∈ a, z ≠ 32) (hb : ∀ z ∈ b, z ≠ 32) (hd : ∀ z ∈ d, z ≠ 32) : Txt.split x (Str.ofString " ") = [⟨a.toArray⟩, ⟨b.toArray⟩, ⟨d.toArray⟩] := by
  have e := StrLaws.join_split x (Str.ofString " ")
  have f := StrLaws.split_free x 32
  have p := split_pos x (Str.ofString " ")
  rw [show (⟨#[32]⟩ : Str) = Str.ofString " " from rfl] at f
  have e2 := congrArg (fun s : Str => s.cps.toList) e
  rw [show Str.ofString " " = ⟨#[32]⟩ from rfl, sepJ_cps, hx] at e2
  rw [show Str.ofString " " = ⟨#[32]⟩ from rfl] at f p ⊢
  have e3 : (Txt.split x ⟨#[32]⟩).map (·.cps.toList) = [a, b, d] := by
    refine sepJ_inj ?_ (List.cons_ne_nil _ _) ?_ ?_ e2
    · intro q
      rw [List.map_eq_nil_iff] at q
      rw [q] at p
      exact absurd p (by decide)
    · intro y hy
      obtain ⟨z, hz, rfl⟩ := List.mem_map.mp hy
      exact f z hz
    · intro y hy q
      simp only [List.mem_cons, List.not_mem_nil, or_false] at hy
      rcases hy with rfl | rfl | rfl
      · exact ha _ q rfl
      · exact hb _ q rfl
      · exact hd _ q rfl
  have inj : ∀ l k : List Str, l.map (·.cps.toList) = k.map (·.cps.toList) → l = k := by
    intro l
    induction l with
    | nil => intro k h; cases k with
      | nil => rfl
      | cons _ _ => cases h
    | cons y l ih => intro k h; cases k with
      | nil => cases h
      | cons z k =>
        obtain ⟨h1, h2⟩ := List.cons.inj h
        rw [show y = z from str_ext h1, ih k h2]
  exact inj _ _ (by rw [e3]; simp)
theorem carried_strs : ∀ {vs : List Value} {ys : List Str}, StrsAre vs ys → CarriedAll vs (ys.map PyData.str)
  | _, _, .nil => .nil
  | _, _, .cons y t r => .cons (.str y t) (carried_strs r)
section
variable {prog : Program} {w : World} {A : Around} {E : Value → Shared → Prop} {s : Shared} {Q : Value → Shared → Prop}
theorem ne_three {a b : Addr} {x y z : Str} {va vb : List Value} (la : s.heap.IsList a va.toArray) (lb : s.heap.IsList b vb.toArray) (ca : StrsAre va [x, y, z]) (cb : StrsAre vb [x, y, z]) (ok : PySem.PyData.strOk x = true ∧ PySem.PyData.strOk y = true ∧ PySem.PyData.strOk z = true) (hu : A.units + 64 < cLine) (h : Q (.bool false) s) :
    wpAny (model prog w) A (compareOp .NotEq (.ref a) (.ref b)) Q E s := by
  obtain ⟨o1, o2, o3⟩ := ok
  have c : (PyData.list ([x, y, z].map PyData.str)).canLay0 = true := by simp [PyData.canLay0, PyData.canLayAll0, o1, o2, o3]
  have sh : SeqAt.shaped (.list ([x, y, z].map PyData.str)) = true := by simp [SeqAt.shaped, PyData.canLay0, PyData.canLayAll0, PyData.depth, PyData.depthAll, o1, o2, o3]
  exact ne_dataH (reads_newData la (carried_strs ca)) (reads_newData lb (carried_strs cb)) sh sh hu (by rw [SeqAt.eqv_refl _ c]; exact h)
end
theorem strOk_of {l : List Nat} (h : ∀ z ∈ l, z ∈ L5 ∨ ∃ b ∈ beside0, z = b.toNat) : PySem.PyData.strOk ⟨l.toArray⟩ = true := by
  have h1 : ∀ z ∈ L5, z < 55296 := by decide
  have h2 : ∀ b ∈ beside0, b.toNat < 55296 ∨ (57343 < b.toNat ∧ b.toNat < 1114112) := by decide
  unfold PySem.PyData.strOk
  show Array.all l.toArray _ = true
  rw [List.all_toArray, List.all_eq_true]
  intro z hz
  have : z < 1114112 := by
    rcases h z hz with q | ⟨b, hb, rfl⟩
    · have := h1 z q; omega
    · have := h2 b hb; omega
  exact decide_eq_true this
theorem sl_neg (W : List Nat) (b : Nat) : Txt.slice ⟨(W ++ [b]).toArray⟩ none (some (-1)) = ⟨W.toArray⟩ := by
  have hl : (⟨(W ++ [b]).toArray⟩ : Str).length = W.length + 1 := by show (W ++ [b]).toArray.size = _; simp
  have e := eq_of_beq (slice_closes_to_neg (x := ⟨(W ++ [b]).toArray⟩) (j := -1) (k := W.length) (by decide) (by omega) (by omega))
  rw [e]
  simp
inductive Rel {α : Type} (R : α → Value → Prop) : List α → List Value → Prop
  | nil : Rel R [] []
  | cons {k : α} {y : Value} {ks : List α} {ys : List Value} : R k y → Rel R ks ys → Rel R (k :: ks) (y :: ys)
theorem Rel.snoc {α : Type} {R : α → Value → Prop} {k : α} {y : Value} (h : R k y) : ∀ {ks : List α} {ys : List Value}, Rel R ks ys → Rel R (ks ++ [k]) (ys ++ [y])
  | _, _, .nil => .cons h .nil
  | _, _, .cons q r => .cons q (Rel.snoc h r)
theorem Rel.strs {α : Type} {g : α → Str} : ∀ {ks : List α} {ys : List Value}, Rel (fun k y => ∃ t, y = .str (g k) t) ks ys → StrsAre ys (ks.map g)
  | _, _, .nil => .nil
  | _, _, .cons ⟨t, e⟩ r => by subst e; exact .cons _ t r.strs
theorem Rel.ints {α : Type} {g : α → Int} : ∀ {ks : List α} {ys : List Value}, Rel (fun k y => ∃ t, y = .int (g k) t) ks ys → IntsAre ys (ks.map g)
  | _, _, .nil => .nil
  | _, _, .cons ⟨t, e⟩ r => by subst e; exact .cons _ t r.ints
theorem strs_at {vs : List Value} {ys : List Str} (h : StrsAre vs ys) : ∀ (i : Nat) (v : Value), vs[i]? = some v → ∃ k, ys[i]? = some k ∧ ∃ t, v = .str k t := by
  induction h with
  | nil => intro i v e; simp at e
  | cons y t r ih =>
    intro i v e
    cases i with
    | zero => exact ⟨y, rfl, t, by simpa using e.symm⟩
    | succ i => obtain ⟨k, a, b⟩ := ih i v (by simpa using e); exact ⟨k, by simpa using a, b⟩
section
variable {prog : Program} {w : World} {A : Around} {h₀ : Heap} {L : Addr} {m : Str → Option Value} {env : Env} {elt : Expr} {x : Str} {scope : Scope} {cl : List (Str × Addr)} {s : Shared} {S : List (Addr × Obj) → Prop} {P : Nat → Value → Prop} {Fin : List Value → List (Addr × Obj) → Prop} {news : List (Addr × Obj)}
/-- a comprehension's turns, one after the other -/
theorem compS {α : Type} {n : Nat} {ks : List α} (V R : α → Value → Prop) (hks : ks.length = n) (hP : ∀ i v, i < n → P i v → ∃ k, ks[i]? = some k ∧ V k v)
    (turn : ∀ k v I oI C oC D m₂ ys h tk (E' : Value → Shared → Prop), k ∈ ks → V k v → LCg.NsObj oC m₂ → m₂ x = some v → Fr h₀ L h m → News h₀ L h ((I, oI) :: (C, oC) :: (D, LCg.lst ys) :: news) → LCg.Off3 I C D news → ((@Ne Nat I C) ∧ (@Ne Nat I D) ∧ (@Ne Nat C D)) →
      wpAny (model prog w) A (eval elt (compEnvC scope cl C env)) (LCg.CompEnd h₀ L m { s with heap := h, toks := tk } I oI C oC D (LCg.lst ys) S (fun y news' => news' = news ∧ R k y)) E' { s with heap := h, toks := tk })
    (fin : ∀ ys, Rel R ks ys → Fin ys news) : LCg.CompRest prog w A h₀ L m env elt x scope cl s S P Fin n 0 [] news := by
  have key : ∀ (j i : Nat) (ys : List Value), i + j = n → Rel R (ks.take i) ys → LCg.CompRest prog w A h₀ L m env elt x scope cl s S P Fin j i ys news := by
    intro j
    induction j with
    | zero =>
      intro i ys hi hy
      have e : i = ks.length := by omega
      subst e
      rw [List.take_length] at hy
      exact LCg.CompRest.zero (fin ys hy)
    | succ j ih =>
      intro i ys hi hy
      refine LCg.CompRest.succ ?_
      intro v I oI C oC D m₂ h tk E' hv hC hx F N off ne
      obtain ⟨k, hk, hv'⟩ := hP i v (by omega) hv
      refine wpAny_mono (turn k v I oI C oC D m₂ ys h tk E' (List.mem_of_getElem? hk) hv' hC hx F N off ne) (fun y s₂ hq => ?_) fun _ _ e => e
      obtain ⟨h', tk', nw, e, F', N', off', hS, hn, hy'⟩ := hq
      rw [hn] at N' off' hS
      refine ⟨h', tk', news, e, F', N', off', hS, ?_⟩
      refine ih (i + 1) _ (by omega) ?_
      rw [List.take_add_one, hk]
      exact hy.snoc hy'
  exact key n 0 [] (by omega) (by simp only [List.take_zero]; exact .nil)
theorem compStrs {vs : List Value} {ks : List Str} (R : Str → Value → Prop) (hv : StrsAre vs ks)
    (turn : ∀ k t I oI C oC D m₂ ys h tk (E' : Value → Shared → Prop), k ∈ ks → LCg.NsObj oC m₂ → m₂ x = some (.str k t) → Fr h₀ L h m → News h₀ L h ((I, oI) :: (C, oC) :: (D, LCg.lst ys) :: news) → LCg.Off3 I C D news → ((@Ne Nat I C) ∧ (@Ne Nat I D) ∧ (@Ne Nat C D)) →
      wpAny (model prog w) A (eval elt (compEnvC scope cl C env)) (LCg.CompEnd h₀ L m { s with heap := h, toks := tk } I oI C oC D (LCg.lst ys) S (fun y news' => news' = news ∧ R k y)) E' { s with heap := h, toks := tk })
    (fin : ∀ ys, Rel R ks ys → Fin ys news) : LCg.CompRest prog w A h₀ L m env elt x scope cl s S (fun i v => vs.toArray[i]? = some v) Fin vs.toArray.size 0 [] news :=
  compS (fun k v => ∃ t, v = .str k t) R (by rw [List.size_toArray]; exact hv.length.symm) (fun i v _ h => strs_at hv i v (by simpa using h)) (fun k v I oI C oC D m₂ ys h tk E' hk hv hC hx F N off ne => by
    obtain ⟨t, rfl⟩ := hv
    exact turn k t I oI C oC D m₂ ys h tk E' hk hC hx F N off ne) fin
end
end Mine
end
section
open PySem PySem.W PySem.Calls PyProof.Rows
set_option Elab.async false
set_option maxRecDepth 100000
set_option maxHeartbeats 0
namespace Mine
open PySem.Spec PyProof.V PyProof.Rows.LCg
/-- a run of blanks and a tab -/
noncomputable def blT (n : Int) : Str := Txt.mul (Str.ofString " ") n ++ Str.ofString "\t"
theorem blT_cps (n : Nat) : (blT n).cps.toList = List.replicate n 32 ++ [9] := by
  unfold blT
  rw [cps_app, show Str.ofString " " = ⟨#[32]⟩ from rfl, mul_one_list, show ((n : Int)).toNat = n by omega]
  rfl
theorem blT_len (n : Nat) : (blT n).length = n + 1 := by
  have := congrArg List.length (blT_cps n)
  rw [List.length_append, List.length_replicate, Array.length_toList] at this
  exact this
theorem join_runs (l : List Nat) : Txt.join (Str.ofString "") (l.map fun n : Nat => blT n) = ⟨(runsT l).toArray⟩ := by
  apply str_ext
  rw [eq_of_beq (join_plain_closes _ _), show Str.ofString "" = Str.empty from rfl, join_cps]
  show _ = runsT l
  induction l with
  | nil => rfl
  | cons r l ih => rw [List.map_cons, List.map_cons, List.flatten_cons, ih, blT_cps]; simp [runsT]
theorem runsT_len : ∀ l : List Nat, (runsT l).length = sumL l + l.length
  | [] => rfl
  | r :: l => by
    show (List.replicate r 32 ++ 9 :: runsT l).length = r + sumL l + (l.length + 1)
    rw [List.length_append, List.length_replicate, List.length_cons, runsT_len l]; omega
theorem runsT_mem : ∀ {l : List Nat}, ∀ z ∈ runsT l, z = 32 ∨ z = 9
  | [], z, h => nomatch h
  | r :: l, z, h => by
    rcases List.mem_append.mp h with h | h
    · exact .inl (List.mem_replicate.mp h).2
    · rcases List.mem_cons.mp h with h | h
      · exact .inr h
      · exact runsT_mem z h
theorem wsT_mem {x : Ws} : ∀ z ∈ wsT x, z = 32 ∨ z = 9 := fun z h => by
  rcases List.mem_append.mp h with h | h
  · exact runsT_mem z h
  · exact .inl (List.mem_replicate.mp h).2
theorem runs_wt {l : List Nat} (h : ∀ r ∈ l, r ≤ 1000) (hl : l.length ≤ 8) : ((l.map fun n : Nat => blT n).map (·.length)).sum + (l.map fun n : Nat => blT n).length ≤ 1048576 := by
  have := wt_le 1001 (l.map fun n : Nat => blT n) (fun y hy => by obtain ⟨k, hk, rfl⟩ := List.mem_map.mp hy; rw [blT_len]; have := h k hk; omega)
  rw [List.length_map] at this ⊢
  omega
theorem news_neD {h₀ h : Heap} {L : Addr} {news : List (Addr × Obj)} {a b : Addr} {o o' : Obj} (N : News h₀ L h news) (ha : (a, o) ∈ news) (hb : (b, o') ∈ news) (ne : o.data ≠ o'.data) : @Ne Nat a b := fun q => by
  have h1 := (N _ ha).1
  have h2 := (N _ hb).1
  dsimp only at h1 h2
  rw [show a = b from q, h2] at h1
  exact ne (by rw [Option.some.inj h1])
noncomputable abbrev wsDict (raw : Str) (tr tn tnt tN : Nat) (n nt : Int) (tu : Addr) (simp : Bool) (e : Nat → Int) (k : Nat → Tok) (nn : Nat) : Obj := dictOf [⟨e 0, .str (Str.ofString "raw") (k 0), .str raw tr⟩, ⟨e 1, .str (Str.ofString "n") (k 1), .int n tn⟩, ⟨e 2, .str (Str.ofString "nt") (k 2), .int nt tnt⟩, ⟨e 3, .str (Str.ofString "norm") (k 3), .ref tu⟩, ⟨e 4, .str (Str.ofString "is_simple") (k 4), .bool simp⟩] nn
theorem ws_ledger {h₀ h : Heap} {L : Addr} {new rest : List (Addr × Obj)} {x : Addr} {n nt : Int} {cnt : List Int} {b : Int} (N : News h₀ L h (new ++ rest)) (hw : WsOn (fun a o => (a, o) ∈ new) x n nt cnt b) :
    ∃ (dx tN tC : Addr) (od : Obj) (tb : Tok) (n1 n2 : Nat) (cv : List Value), News h₀ L h ((x, instObj 83 dx) :: (dx, od) :: (tN, { cls := .type "tuple", data := .seq #[.ref tC, .int b tb] n1 }) :: (tC, { cls := .type "tuple", data := .seq cv.toArray n2 }) :: rest) ∧ IntsAre cv cnt ∧ cnt.length ≤ 2000 ∧
      (∃ (raw : Str) (tr tn tnt : Tok) (e : Nat → Int) (k : Nat → Tok) (nn : Nat), od = dictOf [⟨e 0, .str (Str.ofString "raw") (k 0), .str raw tr⟩, ⟨e 1, .str (Str.ofString "n") (k 1), .int n tn⟩, ⟨e 2, .str (Str.ofString "nt") (k 2), .int nt tnt⟩, ⟨e 3, .str (Str.ofString "norm") (k 3), .ref tN⟩, ⟨e 4, .str (Str.ofString "is_simple") (k 4), .bool (decide (cnt.length ≤ 1))⟩] nn) ∧
      (∀ p ∈ rest, (∃ v, p.2.data = Data.cell v) → (@Ne Nat x p.1) ∧ (@Ne Nat dx p.1) ∧ (@Ne Nat tN p.1) ∧ (@Ne Nat tC p.1)) := by
  obtain ⟨dx, tN, tC, raw, tr, tn, tnt, tb, e, k, nn, n1, n2, cv, q1, q2, q3, q4, q5, q6⟩ := hw
  refine ⟨dx, tN, tC, _, tb, n1, n2, cv, ?_, q5, q6, ⟨raw, tr, tn, tnt, e, k, nn, rfl⟩, ?_⟩
  · exact List.forall_mem_cons.mpr ⟨N _ (List.mem_append_left _ q1), List.forall_mem_cons.mpr ⟨N _ (List.mem_append_left _ q2), List.forall_mem_cons.mpr ⟨N _ (List.mem_append_left _ q3), List.forall_mem_cons.mpr ⟨N _ (List.mem_append_left _ q4), fun p hp => N p (List.mem_append_right _ hp)⟩⟩⟩⟩
  · rintro ⟨c, oc⟩ hp ⟨v, hv⟩
    dsimp only at hv
    have hc := List.mem_append_right new hp
    refine ⟨news_neD N (List.mem_append_left _ q1) hc ?_, news_neD N (List.mem_append_left _ q2) hc ?_, news_neD N (List.mem_append_left _ q3) hc ?_, news_neD N (List.mem_append_left _ q4) hc ?_⟩ <;> (rw [hv]; intro h; cases h)
/-- a Whitespace's text -/
theorem raw_of (x : Ws) (z : Str) (h : z.cps.toList = wsT x) : (z ++ Str.ofString "x \t").cps.toList = wsT x ++ 120 :: [32, 9] := by rw [cps_app, h]; rfl
theorem join_words (a b c : List Nat) : Txt.join (Str.ofString "") [(⟨a.toArray⟩ : Str), ⟨b.toArray⟩, ⟨c.toArray⟩] = ⟨(a ++ (b ++ c)).toArray⟩ := by
  apply str_ext
  rw [eq_of_beq (join_plain_closes _ _), show Str.ofString "" = Str.empty from rfl, join_cps]
  simp
theorem words_wt {a b c : List Nat} (h1 : a.length ≤ 5) (h2 : b.length ≤ 5) (h3 : c.length ≤ 5) : (([(⟨a.toArray⟩ : Str), ⟨b.toArray⟩, ⟨c.toArray⟩]).map (·.length)).sum + ([(⟨a.toArray⟩ : Str), ⟨b.toArray⟩, ⟨c.toArray⟩]).length ≤ 1048576 := by
  have := wt_le 5 [(⟨a.toArray⟩ : Str), ⟨b.toArray⟩, ⟨c.toArray⟩] (fun y hy => by
    simp only [List.mem_cons, List.not_mem_nil, or_false] at hy
    rcases hy with rfl | rfl | rfl
    · show a.toArray.size ≤ 5; simp; omega
    · show b.toArray.size ≤ 5; simp; omega
    · show c.toArray.size ≤ 5; simp; omega)
  rw [show ([(⟨a.toArray⟩ : Str), ⟨b.toArray⟩, ⟨c.toArray⟩]).length = 3 from rfl] at this ⊢
  omega
end Mine
end
section
open PySem PySem.W PySem.Calls PyProof.Rows
set_option Elab.async false
set_option maxRecDepth 100000
set_option maxHeartbeats 0
namespace Mine
open PySem.Spec PyProof.V PyProof.Rows.LCg
theorem ints_drop : ∀ {vs : List Value} {ns : List Int}, IntsAre vs ns → ∀ k : Nat, IntsAre (vs.drop k) (ns.drop k)
  | _, _, h, 0 => by rw [List.drop_zero, List.drop_zero]; exact h
  | _, _, .nil, k + 1 => by rw [List.drop_nil, List.drop_nil]; exact .nil
  | _, _, .cons _ _ r, k + 1 => by rw [List.drop_succ_cons, List.drop_succ_cons]; exact ints_drop r k
theorem tally_pos (r : Nat) (l : List Nat) : r + 1 ≤ (tallyI [] (r :: l)).length := by
  rw [tally_len, if_neg (List.cons_ne_nil _ _), if_pos (by exact Nat.zero_le _)]
  have := max_ge (l := r :: l) r (.head _)
  omega
theorem cnt_count (c : Nat) : ∀ l : List Nat, cnt c l = (l.count c : Nat)
  | [] => rfl
  | n :: r => by
    rw [cnt_cons, cnt_count c r, List.count_cons]
    by_cases e : n = c
    · rw [if_pos e, if_pos (by simpa using e)]; omega
    · rw [if_neg e, if_neg (by simpa using e)]; omega
theorem countF_count (c : Nat) : ∀ (k : Nat) (l : List Nat), l.length = k → countF l ⟨#[c]⟩ = (l.count c : Nat)
  | 0, l, h => by rw [List.length_eq_zero_iff.mp h]; rfl
  | k + 1, l, h => by
    rcases List.eq_nil_or_concat l with rfl | ⟨l, ch, rfl⟩
    · simp at h
    · rw [List.concat_eq_append] at h ⊢
      rw [countF_snoc, countF_count c k l (by simpa using h), List.count_append, List.count_singleton]
      by_cases e : ch = c
      · subst e; rw [if_pos (by simp), if_pos (by simp)]; omega
      · rw [if_neg (by simpa using e), if_neg (by simpa using e)]; omega
theorem meant_count {x : Str} {a b d : List Nat} (h : x.cps.toList = a ++ 32 :: (b ++ 32 :: d)) {n : Nat} (hn : n ≠ 32) : Txt.count x ⟨#[n]⟩ = ((a ++ (b ++ d)).count n : Nat) := by
  rw [count_cnt, cnt_count, h]
  congr 1
  simp only [List.count_append, List.count_cons]
  rw [if_neg (by simpa using fun q : 32 = n => hn q.symm)]
  omega
/-- how often each letter comes -/
noncomputable def amts (l : List Nat) : List Nat := L5.map fun n => l.count n
theorem ours_amts (l : List Nat) : L5.map (fun n => countF l ⟨#[n]⟩) = (amts l).map fun k : Nat => (k : Int) := by
  unfold amts
  rw [List.map_map]
  exact List.map_congr_left fun n _ => countF_count n _ l rfl
theorem meant_amts {x : Str} {a b d : List Nat} (h : x.cps.toList = a ++ 32 :: (b ++ 32 :: d)) : L5.map (fun n => Txt.count x ⟨#[n]⟩) = (amts (a ++ (b ++ d))).map fun k : Nat => (k : Int) := by
  unfold amts
  rw [List.map_map]
  refine List.map_congr_left fun n hn => meant_count h fun q => ?_
  rw [q] at hn
  revert hn; decide
theorem rel_three {R : Str → Value → Prop} {x y z : Str} {ys : List Value} (h : Rel R [x, y, z] ys) : ∃ a b c, ys = [a, b, c] ∧ R x a ∧ R y b ∧ R z c := by
  cases h with
  | cons r1 h => cases h with
    | cons r2 h => cases h with
      | cons r3 h => cases h with
        | nil => exact ⟨_, _, _, rfl, r1, r2, r3⟩
theorem amts_le (l : List Nat) : ∀ k ∈ amts l, k ≤ l.length := by
  intro k hk
  obtain ⟨n, _, rfl⟩ := List.mem_map.mp hk
  exact List.count_le_length
theorem map_cast_nat (l : List Nat) : (l.map fun k : Nat => (k : Int)).map Int.toNat = l := by
  rw [List.map_map]
  exact (List.map_congr_left fun k _ => rfl).trans (List.map_id l)
theorem ways_of (l : List Nat) {x y z : Nat} (hx : x ≤ 9) (hy : y ≤ 9) (hz : z ≤ 9) : getI (dealsF (l.map fun k : Nat => (k : Int)) [(100 * (x : Int) + 10 * y + z, 1)]) 0 = (ways l (x, y, z) : Nat) := by
  rw [deals_ways _ (fun n hn => by obtain ⟨k, _, rfl⟩ := List.mem_map.mp hn; omega) hx hy hz, map_cast_nat]
theorem nat_perm {o : List Int} {l : List Nat} (h : o.Perm (l.map fun k : Nat => (k : Int))) : ∃ oN : List Nat, o = (oN.map fun k : Nat => (k : Int)) ∧ oN.Perm l := by
  refine ⟨o.map Int.toNat, ?_, ?_⟩
  · rw [List.map_map]
    symm
    refine (List.map_congr_left fun k hk => ?_).trans (List.map_id o)
    obtain ⟨n, _, rfl⟩ := List.mem_map.mp (h.mem_iff.mp hk)
    rfl
  · have := h.map Int.toNat
    rw [map_cast_nat] at this
    exact this
theorem nat_falls {oN : List Nat} (h : (oN.map fun k : Nat => (k : Int)).Pairwise (fun x y => y ≤ x)) : oN.Pairwise (· ≥ ·) := by
  rw [List.pairwise_map] at h
  exact h.imp fun q => by omega
/-- the sums as they grow -/
noncomputable def endsN (t : Nat) : List Nat → List Nat
  | [] => []
  | x :: l => (t + x) :: endsN (t + x) l
theorem pre_ends (m : Nat) : ∀ (l : List Nat) (t : Nat), Mine.pre m t l = (endsN t l).map fun e => m + e
  | [], _ => rfl
  | x :: l, t => by show (m + (t + x)) :: Mine.pre m (t + x) l = (m + (t + x)) :: _; rw [pre_ends m l]
theorem fold_ends : ∀ (l : List Nat) (t : Nat) (acc : List Int), (l.map fun k : Nat => (k : Int)).foldl (fun (a : Int × List Int) n => (a.1 + n, a.2 ++ [a.1 + n])) ((t : Int), acc) = (((t + sumL l : Nat) : Int), acc ++ (endsN t l).map fun k : Nat => (k : Int))
  | [], t, acc => by show (_, _) = ((((t + 0 : Nat)) : Int), acc ++ []); rw [List.append_nil]; rfl
  | x :: l, t, acc => by
    rw [List.map_cons, List.foldl_cons]
    show List.foldl _ ((t : Int) + (x : Int), acc ++ [(t : Int) + (x : Int)]) _ = _
    rw [show (t : Int) + (x : Int) = ((t + x : Nat) : Int) by omega, fold_ends l (t + x)]
    show (_, _) = (_, _)
    rw [List.append_assoc]
    simp only [Prod.mk.injEq]
    exact ⟨by show ((t + x + sumL l : Nat) : Int) = ((t + (x + sumL l) : Nat) : Int); omega, rfl⟩
theorem laid_runs (l : List Nat) : ((endsF (l.map fun k : Nat => (k : Int))).map fun e => Txt.mul (Str.ofString " ") (toldF (l.map fun k : Nat => (k : Int)) + e) ++ Str.ofString "\t") = (Mine.pre (sumL l) 0 l).map fun n : Nat => blT n := by
  have h := fold_ends l 0 []
  unfold endsF toldF
  rw [show ((0 : Nat) : Int) = 0 from rfl] at h
  rw [h, pre_ends, List.nil_append, List.map_map, List.map_map]
  refine List.map_congr_left fun e _ => ?_
  show Txt.mul _ (((0 + sumL l : Nat) : Int) + (e : Int)) ++ _ = blT ((sumL l + e : Nat) : Int)
  unfold blT
  congr 2
  omega
theorem theirs_all : ((List.range 4).all fun a => (List.range 5).all fun b => (List.range 5).all fun c => decide (([1, 2, 3, 4, 5] : List Int).map (fun k => ((tallyI [] [a + 1, b + 1, c + 1]).drop k.toNat).sum) = (theirs (a + 1, b + 1, c + 1)).map fun k : Nat => (k : Int)) && decide (sumL (theirs (a + 1, b + 1, c + 1)) = a + 1 + (b + 1) + (c + 1))) = true := by decide +kernel
theorem theirs_of {a b c : Nat} (h1 : 1 ≤ a ∧ a ≤ 4) (h2 : 1 ≤ b ∧ b ≤ 5) (h3 : 1 ≤ c ∧ c ≤ 5) : (([1, 2, 3, 4, 5] : List Int).map fun k => ((tallyI [] [a, b, c]).drop k.toNat).sum) = ((theirs (a, b, c)).map fun k : Nat => (k : Int)) ∧ sumL (theirs (a, b, c)) = a + b + c := by
  have x := List.all_eq_true.mp theirs_all (a - 1) (by rw [List.mem_range]; omega)
  have y := List.all_eq_true.mp x (b - 1) (by rw [List.mem_range]; omega)
  have z := List.all_eq_true.mp y (c - 1) (by rw [List.mem_range]; omega)
  rw [show a - 1 + 1 = a by omega, show b - 1 + 1 = b by omega, show c - 1 + 1 = c by omega, Bool.and_eq_true] at z
  exact ⟨of_decide_eq_true z.1, of_decide_eq_true z.2⟩
theorem sumL_perm {l k : List Nat} (h : l.Perm k) : sumL l = sumL k := by
  induction h with
  | nil => rfl
  | cons a _ ih => show a + _ = a + _; rw [ih]
  | swap a b l => show b + (a + _) = a + (b + _); omega
  | trans _ _ h1 h2 => rw [h1, h2]
theorem amts_sum : ∀ {l : List Nat}, (∀ z ∈ l, z ∈ L5) → sumL (amts l) = l.length
  | [], _ => rfl
  | z :: l, h => by
    have ih := amts_sum (l := l) fun y hy => h y (.tail _ hy)
    have hz := h z (.head _)
    simp only [amts, L5, List.map_cons, List.map_nil, sumL, List.count_cons, List.length_cons] at ih ⊢
    simp only [L5, List.mem_cons, List.not_mem_nil, or_false] at hz
    rcases hz with rfl | rfl | rfl | rfl | rfl <;> simp <;> omega
theorem pre_len (m : Nat) : ∀ (l : List Nat) (t : Nat), (Mine.pre m t l).length = l.length
  | [], _ => rfl
  | x :: l, t => by show (Mine.pre m (t + x) l).length + 1 = l.length + 1; rw [pre_len m l]
theorem pre_le (m : Nat) : ∀ (l : List Nat) (t : Nat), ∀ r ∈ Mine.pre m t l, r ≤ m + t + sumL l
  | [], _, _, h => nomatch h
  | x :: l, t, r, h => by
    rcases List.mem_cons.mp h with h | h
    · rw [h]; show m + (t + x) ≤ m + t + (x + sumL l); omega
    · have := pre_le m l (t + x) r h
      show r ≤ m + t + (x + sumL l); omega
theorem runs_len {l : List Nat} {c k : Nat} (h : ∀ r ∈ l, r ≤ c) (hl : l.length ≤ k) : (⟨(runsT l).toArray⟩ : Str).length ≤ c * k + k := by
  show (runsT l).toArray.size ≤ _
  rw [List.size_toArray, runsT_len]
  have h1 := sumL_le l c h
  have h2 := Nat.mul_le_mul_left c hl
  omega
theorem strs_five {ys : List Value} {l : List Str} (h : StrsAre ys l) (hl : l.length = 5) : ∃ a b c d e, ys = [a, b, c, d, e] := by
  have h0 := h.length
  rw [hl] at h0
  obtain ⟨a, t1, rfl⟩ := List.exists_cons_of_length_eq_add_one h0
  obtain ⟨b, t2, rfl⟩ := List.exists_cons_of_length_eq_add_one (Nat.succ.inj h0)
  obtain ⟨c, t3, rfl⟩ := List.exists_cons_of_length_eq_add_one (Nat.succ.inj (Nat.succ.inj h0))
  obtain ⟨d, t4, rfl⟩ := List.exists_cons_of_length_eq_add_one (Nat.succ.inj (Nat.succ.inj (Nat.succ.inj h0)))
  obtain ⟨e, t5, rfl⟩ := List.exists_cons_of_length_eq_add_one (Nat.succ.inj (Nat.succ.inj (Nat.succ.inj (Nat.succ.inj h0))))
  have h5 : t5 = [] := List.length_eq_zero_iff.mp (Nat.succ.inj (Nat.succ.inj (Nat.succ.inj (Nat.succ.inj (Nat.succ.inj h0)))))
  subst h5
  exact ⟨a, b, c, d, e, rfl⟩
theorem strs_rev : ∀ {ys : List Value} {l : List Str}, StrsAre ys l → StrsAre ys.reverse l.reverse
  | _, _, .nil => .nil
  | _, _, .cons y t r => by
    rw [List.reverse_cons, List.reverse_cons]
    exact kct_snoc (strs_rev r)
theorem theirs_le (r : R3) : ∀ k ∈ theirs r, k ≤ 3 := by
  have h : ∀ k, least k r ≤ 3 := fun k => by
    unfold least
    have a : ∀ b : Bool, (if b = true then 1 else 0) ≤ 1 := by decide
    have := a (Nat.ble k r.1)
    have := a (Nat.ble k r.2.1)
    have := a (Nat.ble k r.2.2)
    omega
  intro k hk
  simp only [theirs, List.mem_cons, List.not_mem_nil, or_false] at hk
  rcases hk with rfl | rfl | rfl | rfl | rfl <;> exact h _
theorem slice_rev5 (a b c d e : Value) : slicePick [a, b, c, d, e].toArray none none (some (-1)) = [e, d, c, b, a].toArray := by
  first | with_unfolding_all rfl | (simp [slicePick, sliceBounds]; done) | (unfold slicePick sliceBounds; simp; rfl)
end Mine
end
section
open PySem PySem.W PySem.Calls PyProof.Rows
set_option Elab.async false
set_option maxRecDepth 100000
set_option maxHeartbeats 0
namespace Mine
open PySem.Spec PyProof.V PyProof.Rows.LCg
theorem news_one {h₀ h : Heap} {L : Addr} {l : List (Addr × Obj)} (N : News h₀ L h l) {p : Addr × Obj} (hp : p ∈ l) : News h₀ L h [p] := fun q hq => by rw [List.mem_singleton.mp hq]; exact N p hp
theorem ws_in {h₀ h : Heap} {L : Addr} {l news : List (Addr × Obj)} {x : Addr} {n nt : Int} {cnt : List Int} {b : Int} (N : News h₀ L h news) (hl : ∀ p ∈ l, p ∈ news) (hw : WsOn (fun a o => (a, o) ∈ l) x n nt cnt b) : WsIn h x n nt cnt b :=
  hw.mono fun a o hm => (N _ (hl _ hm)).1
theorem wsT_len (x : Ws) : (wsT x).length = x.n := by
  unfold wsT Ws.n
  rw [List.length_append, List.length_replicate, runsT_len]
theorem ws_ok (x : Ws) (hx : x.n ≤ 1000) : WsOk (x.n : Nat) (x.nt : Nat) (tallyI [] x.runs) (x.b : Nat) := by
  have b := ws_bnd _ (wsT x) rfl
  rw [wsF_of, wsT_len] at b
  obtain ⟨_, ⟨b1, b2⟩, ⟨b3, b4⟩, ⟨b5, b6⟩, b7⟩ := b
  dsimp only at b1 b2 b3 b4 b5 b6 b7
  exact ⟨⟨b3, by omega⟩, fun c hc => by have := b7 c hc; omega, ⟨b5, by omega⟩, ⟨b1, by omega⟩⟩
theorem raw_of1 (R : List Nat) (z : Str) (h : z.cps.toList = runsT R) : (z ++ Str.ofString " x \t").cps.toList = wsT ⟨R, 1⟩ ++ 120 :: [32, 9] := by
  rw [cps_app, h, show (Str.ofString " x \t").cps.toList = [32, 120, 32, 9] by decide]
  simp [wsT]
theorem raw_of0 (R : List Nat) (z : Str) (h : z.cps.toList = runsT R) : (z ++ Str.ofString "x \t").cps.toList = wsT ⟨R, 0⟩ ++ 120 :: [32, 9] := raw_of ⟨R, 0⟩ z (by rw [h]; simp [wsT])
theorem case_use {r : R3} {l k : List Nat} (p : l.Perm k) (h : oneCase r l = true) : Ws.less ⟨Mine.pre (r.1 + r.2.1 + r.2.2) 0 l, 0⟩ ⟨(Mine.pre (r.1 + r.2.1 + r.2.2) 0 (theirs r)).reverse, 1⟩ = decide (((ways k r : Nat) : Int) > 0) ∧
    decide (Mine.pre (r.1 + r.2.1 + r.2.2) 0 l = Mine.pre (r.1 + r.2.1 + r.2.2) 0 (theirs r)) = decide (((ways k r : Nat) : Int) = 1) := by
  unfold oneCase at h
  dsimp only at h
  rw [Bool.and_eq_true, beq_iff_eq, beq_iff_eq, ways_perm p] at h
  refine ⟨h.1.trans ?_, h.2.trans ?_⟩
  · rw [Bool.eq_iff_iff, decide_eq_true_eq]
    show Nat.ble 1 _ = true ↔ _
    rw [Nat.ble_eq]; omega
  · rw [Bool.eq_iff_iff, decide_eq_true_eq, Nat.beq_eq]; omega
theorem n_le {l : List Nat} {c k b : Nat} (h : ∀ r ∈ l, r ≤ c) (hl : l.length ≤ k) : (⟨l, b⟩ : Ws).n ≤ c * k + k + b := by
  have h1 := sumL_le l c h
  have h2 := Nat.mul_le_mul_left c hl
  show sumL l + l.length + b ≤ _
  omega
/-- growing lists -/
theorem pre_grows (m : Nat) : ∀ (l : List Nat) (t : Nat), (∀ r ∈ Mine.pre m t l, m + t ≤ r) ∧ (Mine.pre m t l).Pairwise (· ≤ ·)
  | [], _ => ⟨fun _ h => (nomatch h), List.Pairwise.nil⟩
  | x :: l, t => by
    obtain ⟨h1, h2⟩ := pre_grows m l (t + x)
    refine ⟨fun r h => ?_, ?_⟩
    · rcases List.mem_cons.mp h with h | h
      · rw [h]; omega
      · have := h1 r h; omega
    · exact List.pairwise_cons.mpr ⟨fun r h => by have := h1 r h; omega, h2⟩
theorem tally_runs (m : Nat) (l k : List Nat) : decide (tallyI [] (Mine.pre m 0 l) = tallyI [] (Mine.pre m 0 k).reverse ∧ ((0 : Nat) : Int) = ((0 : Nat) : Int)) = decide (Mine.pre m 0 l = Mine.pre m 0 k) := by
  rw [decide_eq_decide]
  constructor
  · rintro ⟨h, _⟩
    exact sorted_eq (((tally_eq _ _).mp h).trans (List.reverse_perm _)) (pre_grows m l 0).2 (pre_grows m k 0).2
  · intro h
    exact ⟨(tally_eq _ _).mpr (by rw [h]; exact (List.reverse_perm _).symm), rfl⟩
theorem equal_specW (w : World) (x y : Addr) (X Y : Ws) : Spec w 59 12 [.ref x, .ref y] (fun g => WsIn g x (X.n : Nat) (X.nt : Nat) (tallyI [] X.runs) (X.b : Nat) ∧ WsIn g y (Y.n : Nat) (Y.nt : Nat) (tallyI [] Y.runs) (Y.b : Nat)) (fun v new => v = .bool (decide (tallyI [] X.runs = tallyI [] Y.runs ∧ ((X.b : Nat) : Int) = ((Y.b : Nat) : Int))) ∧ new = []) :=
  equal_spec w x y _ _ _ _ _ _ _ _
theorem less_specW (w : World) (x y : Addr) (X Y : Ws) (hX : X.n ≤ 1000) (hY : Y.n ≤ 1000) : Spec w 73 4 [.ref x, .ref y] (fun g => WsIn g x (X.n : Nat) (X.nt : Nat) (tallyI [] X.runs) (X.b : Nat) ∧ WsIn g y (Y.n : Nat) (Y.nt : Nat) (tallyI [] Y.runs) (Y.b : Nat)) (fun v new => v = .bool (X.less Y) ∧ new = []) := by
  have := less_spec w x y _ _ _ _ _ _ _ _ (ws_ok X hX) (ws_ok Y hY)
  rw [less_of X Y] at this
  exact this
/-- the ledger as a variable -/
theorem led_any {h₀ h : Heap} {L : Addr} {l : List (Addr × Obj)} (N : News h₀ L h l) : ∃ T, News h₀ L h T ∧ ∀ p ∈ l, p ∈ T := ⟨l, N, fun _ h => h⟩
theorem news_in {h₀ h : Heap} {L : Addr} {T : List (Addr × Obj)} (N : News h₀ L h T) (l : List (Addr × Obj)) (hl : ∀ p ∈ l, p ∈ T) : News h₀ L h (l ++ T) := fun p hp => (List.mem_append.mp hp).elim (fun q => N p (hl p q)) (N p)
theorem ws_top {T : List (Addr × Obj)} {x : Addr} {n nt : Int} {cnt : List Int} {b : Int} (hw : WsOn (fun a o => (a, o) ∈ T) x n nt cnt b) :
    ∃ (dx tN : Addr) (raw : Str) (tr tn tnt : Tok) (e : Nat → Int) (k : Nat → Tok) (nn : Nat), ∀ p ∈ [(x, instObj 83 dx), (dx, dictOf [⟨e 0, .str (Str.ofString "raw") (k 0), .str raw tr⟩, ⟨e 1, .str (Str.ofString "n") (k 1), .int n tn⟩, ⟨e 2, .str (Str.ofString "nt") (k 2), .int nt tnt⟩, ⟨e 3, .str (Str.ofString "norm") (k 3), .ref tN⟩, ⟨e 4, .str (Str.ofString "is_simple") (k 4), .bool (decide (cnt.length ≤ 1))⟩] nn)], p ∈ T := by
  obtain ⟨dx, tN, tC, raw, tr, tn, tnt, tb, e, k, nn, n1, n2, cv, q1, q2, _⟩ := hw
  exact ⟨dx, tN, raw, tr, tn, tnt, e, k, nn, List.forall_mem_cons.mpr ⟨q1, List.forall_mem_cons.mpr ⟨q2, List.forall_mem_nil _⟩⟩⟩
theorem mem_two {α : Type} {l k T : List α} (h1 : ∀ p ∈ l, p ∈ T) (h2 : ∀ p ∈ k, p ∈ T) : ∀ p ∈ l ++ k, p ∈ T := fun p hp => (List.mem_append.mp hp).elim (h1 p) (h2 p)
theorem isnotB {M : Model} {A : Around} {E : Value → Shared → Prop} {s : Shared} {Q : Value → Shared → Prop} {c d : Bool} (e : c = d) (h : Q (.bool false) s) : wpAny M A (compareOp .IsNot (.bool c) (.bool d)) Q E s := by
  subst e
  refine isnot_bool ?_
  rwa [bne_self_eq_false]
theorem isB {M : Model} {A : Around} {E : Value → Shared → Prop} {s : Shared} {Q : Value → Shared → Prop} {c d : Bool} (e : c = d) (h : Q (.bool true) s) : wpAny M A (compareOp .Is (.bool c) (.bool d)) Q E s := by
  subst e
  refine is_bool ?_
  rwa [beq_self_eq_true]
end Mine
end
section
open PySem PySem.W PySem.Calls PyProof.Rows
set_option Elab.async false
set_option maxRecDepth 100000
set_option maxHeartbeats 0
namespace Mine
open PySem.Spec PyProof.V PyProof.Rows.LCg
/-- a pair of texts, and whether less says True of them -/
noncomputable def PairOk (near far : Str) (d : Bool) : Prop := ∃ A B : Ws, near.cps.toList = wsT A ∧ far.cps.toList = wsT B ∧ A.less B = d ∧ A.n ≤ 900 ∧ B.n ≤ 900
theorem blk_cps (m : Nat) : (blk (m : Int)).cps.toList = List.replicate m 32 := by
  unfold blk
  rw [show Str.ofString " " = ⟨#[32]⟩ from rfl, mul_one_list, show ((m : Int)).toNat = m by omega]
theorem mul_two (x : Str) (h : x.length ≠ 0) : (Txt.mul x 2).cps.toList = x.cps.toList ++ x.cps.toList := by
  unfold Txt.mul
  rw [if_neg (by decide), if_neg (by simp; exact h)]
  show ((#[] ++ x.cps) ++ x.cps).toList = _
  simp
theorem tab_cps : (Str.ofString "\t").cps.toList = [9] := by decide
theorem pairs_all (l : List Nat) (hl : ∀ r ∈ l, r ≤ 28) (h5 : l.length = 5) (m : Nat) (h1 : 2 ≤ m) (h2 : m ≤ 9) :
    PairOk (⟨(runsT l).toArray⟩ ++ Str.ofString " ") (Str.ofString "\t" ++ ⟨(runsT l).toArray⟩) false ∧
    PairOk (Str.ofString "\t") (Txt.mul (Str.ofString " ") (m : Nat) ++ Str.ofString "\t") false ∧
    PairOk (Str.ofString "\t \t") (Str.ofString "\t " ++ Txt.mul (Str.ofString " ") (m : Nat)) false ∧
    PairOk (Str.ofString "\t\t\t") (farS (m : Nat)) false ∧ PairOk (farS (m : Nat)) (twiceS (m : Nat)) false ∧ PairOk (nearS (m : Nat)) (twiceS (m : Nat)) true ∧ PairOk (nearS (m : Nat)) (farS (m : Nat)) true := by
  obtain ⟨k, rfl⟩ : ∃ k, m = k + 1 := ⟨m - 1, by omega⟩
  have p := List.all_eq_true.mp pairs_ok k (by rw [List.mem_range]; omega)
  simp only [Bool.and_eq_true, Bool.not_eq_true'] at p
  obtain ⟨⟨⟨⟨⟨p1, p2⟩, p3⟩, p4⟩, p5⟩, p6⟩ := p
  have e1 : ((((k + 1 : Nat) : Int)) - 1) = ((k : Nat) : Int) := by omega
  have bk : (Txt.mul (Str.ofString " ") ((k + 1 : Nat) : Int)).cps.toList = List.replicate (k + 1) 32 := blk_cps (k + 1)
  have bk' : (Txt.mul (Str.ofString " ") ((k : Nat) : Int)).cps.toList = List.replicate k 32 := blk_cps k
  have far : (farS ((k + 1 : Nat) : Int)).cps.toList = wsT ⟨[0, 0], k + 1⟩ := by
    unfold farS
    rw [cps_app, bk]; rfl
  have near : (nearS ((k + 1 : Nat) : Int)).cps.toList = wsT ⟨[0, 0], k⟩ := by
    unfold nearS
    rw [cps_app, e1, bk']; rfl
  have twice : (twiceS ((k + 1 : Nat) : Int)).cps.toList = wsT ⟨[0, k, k], 0⟩ := by
    unfold twiceS
    rw [cps_app, mul_two _ (by rw [Str.length_append]; show _ + 1 ≠ 0; omega), cps_app, e1, bk', tab_cps]
    simp [wsT, runsT]
  have ns : ∀ (R : List Nat) (b : Nat), (∀ r ∈ R, r ≤ 28) → R.length ≤ 6 → b ≤ 20 → (⟨R, b⟩ : Ws).n ≤ 900 := fun R b h hr hb => by
    have := n_le (b := b) h hr
    omega
  refine ⟨⟨⟨l, 1⟩, ⟨0 :: l, 0⟩, ?_, ?_, less_same l, ns _ _ hl (by omega) (by decide), ns _ _ (fun r hr => by rcases List.mem_cons.mp hr with h | h; omega; exact hl r h) (by rw [List.length_cons]; omega) (by decide)⟩,
    ⟨⟨[0], 0⟩, ⟨[k + 1], 0⟩, ?_, ?_, p1, ?_, ?_⟩, ⟨⟨[0, 1], 0⟩, ⟨[0], k + 2⟩, ?_, ?_, p2, ?_, ?_⟩, ⟨⟨[0, 0, 0], 0⟩, ⟨[0, 0], k + 1⟩, ?_, far, p3, ?_, ?_⟩,
    ⟨⟨[0, 0], k + 1⟩, ⟨[0, k, k], 0⟩, far, twice, p4, ?_, ?_⟩, ⟨⟨[0, 0], k⟩, ⟨[0, k, k], 0⟩, near, twice, p5, ?_, ?_⟩, ⟨⟨[0, 0], k⟩, ⟨[0, 0], k + 1⟩, near, far, p6, ?_, ?_⟩⟩
  · rw [cps_app]; rfl
  · rw [cps_app, tab_cps]; simp [wsT, runsT]
  · rfl
  · rw [cps_app, bk, tab_cps]; simp [wsT, runsT]
  · decide
  · simp only [Ws.n, sumL, List.length_cons, List.length_nil]; omega
  · decide
  · rw [cps_app, bk, show (Str.ofString "\t ").cps.toList = [9, 32] by decide]; rfl
  · decide
  · simp only [Ws.n, sumL, List.length_cons, List.length_nil]; omega
  · decide
  all_goals (simp only [Ws.n, sumL, List.length_cons, List.length_nil]; omega)
theorem len_of {z : Str} {x : Ws} (h : z.cps.toList = wsT x) : z.length = x.n := by
  have := congrArg List.length h
  rw [Array.length_toList, wsT_len] at this
  exact this
theorem news_cons {h₀ h : Heap} {L : Addr} {p : Addr × Obj} {l : List (Addr × Obj)} (N1 : News h₀ L h [p]) (N : News h₀ L h l) : News h₀ L h (p :: l) := fun q hq => by
  rcases List.mem_cons.mp hq with e | hq
  · rw [e]; exact N1 p (.head _)
  · exact N q hq
theorem fr_stored {h₀ h : Heap} {L : Addr} {m m₀ : Str → Option Value} {stored : List Str} (F : Fr h₀ L h m) (hm : ∀ z, stored.contains z = false → m z = m₀ z) : Fr h₀ L h (fun z => if stored.contains z = true then m z else m₀ z) := by
  have : (fun z => if stored.contains z = true then m z else m₀ z) = m := funext fun z => by
    cases e : stored.contains z with
    | true => rw [if_pos rfl]
    | false => rw [if_neg Bool.false_ne_true, hm z e]
  rw [this]; exact F
end Mine
end
open PySem PySem.W PySem.Calls PyProof.Rows
set_option Elab.async false
set_option maxRecDepth 100000
set_option maxHeartbeats 0
namespace Mine
end Mine
open Mine
open PySem.Spec PyProof.V PyProof.Rows.LCg
local macro_rules | `(tactic| walk_at "binaryOp Add ref ref") => `(tactic| (k_here; refine' stopHere ?_))
local macro_rules | `(tactic| walk_at "pyIter ref") => `(tactic| (k_here; refine' stopHere ?_))
local macro_rules | `(tactic| walk_at "CompSrc") => `(tactic| refine' stopHere ?_)
local macro_rules | `(tactic| walk_at "call ref") => `(tactic| (k_here; refine' stopHere ?_))
local macro_rules | `(tactic| walk_at "call builtin:str.split") => `(tactic| (k_here; refine' stopHere ?_))
local macro_rules | `(tactic| walk_at "subscriptTail Name Slice str ref") => `(tactic| (k_here; refine' stopHere ?_))
local macro_rules | `(tactic| k_inst) => `(tactic| (refine' InstAt.ofHeap ?h1 ?h2; (case h1 => exact News.get (by k_asm) (by k_mem)); (case h2 => exact News.get (by k_asm) (by k_mem))))
local macro_rules | `(tactic| walk_at "SrcE") => `(tactic| refine' stopHere ?_)
local macro_rules | `(tactic| walk_at "call builtin:sorted") => `(tactic| (k_here; refine' stopHere ?_))
local macro_rules | `(tactic| walk_at "subscriptTail Name Slice ref ref") => `(tactic| (k_here; refine' stopHere ?_))
local macro_rules | `(tactic| walk_at "call builtin:sum") => `(tactic| (k_here; refine' stopHere ?_))
local macro_rules | `(tactic| walk_at "subscriptTail") => `(tactic| (k_here; (first | (with_reducible show wpAny _ _ (subscriptTail (PySem.Expr.Call _ _ _ _) (PySem.Expr.Slice _ _ _ _) _ _) _ _ _) | (with_reducible show wpAny _ _ (subscriptTail (PySem.Expr.Subscript _ _ _) (PySem.Expr.Slice _ _ _ _) _ _) _ _ _)); k_dflt (refine kba_turn (value' := PySem.Expr.Name (PySem.Str.ofString "_") ⟨0, 0, 0, 0⟩) (fun _ => rfl) ?_)))
local macro_rules | `(tactic| walk_at "subscriptTail Call Slice ref ref") => `(tactic| walk_at "subscriptTail")
local macro_rules | `(tactic| walk_at "subscriptTail Subscript Slice str ref") => `(tactic| walk_at "subscriptTail")
theorem PySem.Challenge.cw_tl0044_01_holds : PySem.Challenge.rw_tl0044_01.Holds := by
  w_on
  refine holds_law Mine.said0 fun said => ?_
  refine holds_open (q := q0) (loose := loose0) (Xt := fun s => xlAt q0 [] s && recOk [] s) (XP := XL q0 []) (Yf := Hook.obs H0) (Ya := Hook.val H0) (YP := Hook.says H0) (N := 50000) left0 (Hook.of H0) (Hook.keeps H0) (fun s e => xl_of s (Bool.and_eq_true_iff.mp e).1) XL.keeps (by rfl) (by rfl) (by rfl) (fun s e => recFacts_of (Bool.and_eq_true_iff.mp e).2) (by rfl) (by assumption) (by decide +kernel) ⟨rfl, rfl, rfl, rfl, rfl, by decide +kernel⟩ ?hw ?hc
  case hw => w_witness2
  k_fill
  intro w s₀ s₁ mg mb G Y fa o pm cd doc dV kV ho hd hcd hD hmg hg args vals as hpre hlay hrd hwl hlo
  refine hide ?_
  intro G5 hG5
  obtain ⟨hS, gS, dS, tS, oS⟩ := s₁
  refine hG5 ?_
  clear hG5
  clear G5
  dsimp only at *
  have KX := kIn_of Y
  have X := (Ground.X G).1
  have V := (Ground.X G).2
  have GL := glob_more (Ground.glob G (by decide +kernel) (by decide +kernel)) V
  refine Ground.open G ?_
  intro T B D TE TW
  try (refine guard_noD D (by decide +kernel) ?_; clear D)
  obtain ⟨_, _, M⟩ := bmod_of_top T
  have TA := at_of_top T
  try (obtain ⟨_, _, he, B0⟩ := based_of_top T rfl hmg ho hd; have he' : cd = _ := he; subst he'; clear he)
  clear hmg
  wrow_args hpre hlay hrd hwl hlo
  all_goals (
    first | refine callC_kw (enter_call ?_) | refine enter_call ?_ | refine callC_kw (enter_callW ?_) | refine enter_callW ?_ | w_how
    w_top on
    try refine codeAny_mono ?_ (fun _ _ g => GoodW.toG g)
    have K0 := below_caller (Top.heap T)
    w_call any ho hd hcd hD T F
    clear hd TA
    k_drop
    skip)
  (all_goals try k_fold)
  refine opqL (env := envOfC _ _ _ _ _) (by passes_own) ?_
  intro Q1 E1 hQ1 hP1
  generalize hS.objs.size = L0 at *
  have hEnd : ∀ (h9 : Heap) (m9 : Str → Option Value) (tk9 : Nat), Fr hS L0 h9 m9 → Q1 (.ret (.bool true)) ⟨h9, gS, dS, tk9, oS⟩ := by
    intro h9 m9 tk9 F9
    refine hQ1 _ _ ?_
    clear hQ1 hP1
    (repeat' (first | ((with_reducible show Mine.Fnm _); exact hEnd _ _ _ (by first | with_reducible assumption | assumption)) | ((with_reducible show wpAny _ _ (call (Value.type _) [Value.ref _]) _ _ _); refine stopHere ?_) | ((with_reducible show wpAny _ _ (binaryOp Operator.Pow (Value.int _ _) (Value.int _ _)) _ _ _); (with_reducible refine pow106 ?_)) | (with_reducible refine Mine.toksE ?_; intro _) | (k_unfold; (try dsimp only)) | (k_end; wrow_close) | walk1 | (dsimp only; walk1) | (leave1; (try dsimp only))))
  clear hQ1
  rename IntsAre _ _ => hI
  rename List Int => ns9
  rename Heap.IsList _ _ _ => hL
  rename ¬ _ < (_ : Int) => hlen
  (repeat' (first | ((with_reducible show Mine.Fnm _); exact hEnd _ _ _ (by first | with_reducible assumption | assumption)) | ((with_reducible show wpAny _ _ (call (Value.type _) [Value.ref _]) _ _ _); refine stopHere ?_) | ((with_reducible show wpAny _ _ (binaryOp Operator.Pow (Value.int _ _) (Value.int _ _)) _ _ _); (with_reducible refine pow106 ?_)) | (with_reducible refine Mine.toksE ?_; intro _) | (k_unfold; (try dsimp only)) | (k_end; wrow_close) | walk1 | (dsimp only; walk1) | (leave1; (try dsimp only))))
  unfold Stop
  rename News _ _ _ [_, _, _, _] => N1
  rename Fr _ _ _ _ => F1
  refine call_enum_list (K := ItemKind.int) (by exact rfl) hL (IntsAre.areOf hI) F1 N1 ?_
  intro h2 e2 F2 N2 src2
  refine enumS (K := ItemKind.int) (σ := ClS) (fun c => [(_, W.listOf c.us.toArray c.nn), _, _, _]) (fun c => []) [Str.ofString "k", Str.ofString "x"] (fun pre c => IntsAre c.us c.cs ∧ c.cs.length = 5 ∧ ∀ y ∈ c.cs, 0 ≤ y ∧ y ≤ 200 + 1000000 * pre.length) ⟨_, [44, 66, 66, 44, 200], 0⟩ src2 (fun _ h => nomatch h) ⟨.cons _ _ (.cons _ _ (.cons _ _ (.cons _ _ (.cons _ _ .nil)))), rfl, by (intro y hy; simp only [List.mem_cons, List.not_mem_nil, or_false] at hy; rcases hy with h | h | h | h | h <;> (rw [h]; exact ⟨by decide, by simp⟩))⟩ ?_ ?_
  · rintro pre a post ⟨us, cs, nn⟩ t9 v u h9 tk9 own9 e9 K9 o9 ⟨s1, s2, s3⟩ F9 N9
    obtain ⟨ta9, rfl⟩ := ItemKind.int_is K9
    dsimp only [kstB, envOfC] at F9 N9 s1 s2 s3
    have i1 : 0 ≤ ((pre.length : Int).fmod 5) ∧ ((pre.length : Int).fmod 5) < 5 := ⟨Int.fmod_nonneg_of_pos _ (by decide), Int.fmod_lt_of_pos _ (by decide)⟩
    have i2 : 0 ≤ (a.fmod 1000000) ∧ (a.fmod 1000000) < 1000000 := ⟨Int.fmod_nonneg_of_pos _ (by decide), Int.fmod_lt_of_pos _ (by decide)⟩
    have i3 := ints_len s1
    have i4 := getD_bnd s3 (d := 0) (by omega) ((pre.length : Int).fmod 5).toNat
    obtain ⟨i5, i6⟩ := i1
    have o10 := ownOff_of o9
    clear o9
    (try simp only [List.cons_append, List.nil_append] at N9)
    obtain ⟨i7, i8⟩ := i2
    (try k_fold)
    (repeat' (first | ((with_reducible show Mine.Fnm _); exact hEnd _ _ _ (by first | with_reducible assumption | assumption)) | ((with_reducible show wpAny _ _ (call (Value.type _) [Value.ref _]) _ _ _); refine stopHere ?_) | ((with_reducible show wpAny _ _ (binaryOp Operator.Pow (Value.int _ _) (Value.int _ _)) _ _ _); (with_reducible refine pow106 ?_)) | (with_reducible refine Mine.toksE ?_; intro _) | (k_unfold; (try dsimp only)) | (k_end; wrow_close) | walk1 | (dsimp only; walk1) | (leave1; (try dsimp only))))
    rename News _ _ _ (_ :: _) => N10
    refine nextS ⟨_, cs.set ((pre.length : Int).fmod 5).toNat (cs.getD ((pre.length : Int).fmod 5).toNat 0 + a.fmod 1000000), _⟩ (by k_asm) N10 (List.forall_mem_cons.mpr ⟨.head _, List.forall_mem_cons.mpr ⟨.tail _ (.head _), List.forall_mem_cons.mpr ⟨.tail _ (.tail _ (.head _)), List.forall_mem_cons.mpr ⟨.tail _ (.tail _ (.tail _ (.head _))), List.forall_mem_nil _⟩⟩⟩⟩) (fun p hp => .tail _ (.tail _ (.tail _ (.tail _ hp)))) rfl (fun _ h => nomatch h) ?_ ⟨by assumption, by rw [List.length_set]; exact s2, ?_⟩
    · (intro z h1 h2; (simp only [List.mem_cons, List.not_mem_nil, or_false, forall_eq, forall_eq_or_imp, false_imp_iff, implies_true, and_true] at h1); (simp only [List.contains_cons, List.contains_nil, Bool.or_false, Bool.or_eq_false_iff, beq_eq_false_iff_ne] at h2); (simp [put, lookR, h1, h2]); (try rfl))
    · intro y hy
      rw [List.length_append, List.length_singleton]
      rcases List.mem_or_eq_of_mem_set hy with q | q
      · have := s3 y q; omega
      · omega
  rintro ⟨us, cs, nn⟩ u h9 tk9 ⟨s1, s2, s3⟩ F9 N9
  dsimp only [kstB, envOfC] at F9 N9 s1 s2 s3
  generalize bindL _ _ _ = mz at F9
  have cb : ∀ y ∈ cs, 0 ≤ y ∧ y ≤ 100000000 := fun y hy => by
    have := s3 y hy
    have : (ns9.length : Int) ≤ 63 := by omega
    omega
  clear s3
  have i3 := ints_len s1
  (repeat' (first | ((with_reducible show Mine.Fnm _); exact hEnd _ _ _ (by first | with_reducible assumption | assumption)) | ((with_reducible show wpAny _ _ (call (Value.builtin "list.append") _) _ _ _); k_dflt (refine append_K (by k_asm) (by k_asm) (by k_upd) ?_ (by (rw [PySem.sizeLine_eq]; simp only [Array.size_push, List.size_toArray]; omega))); intro hz9 Fz9 Nz9; (try k_sweep)) | (with_reducible refine Mine.toksE ?_; intro _) | (k_unfold; (try dsimp only)) | (k_end; wrow_close) | walk1 | (dsimp only; walk1) | (leave1; (try dsimp only))))
  unfold Stop
  rename News _ _ _ (_ :: _) => N3
  rename CarriedAll _ _ => C3
  rename Heap.IsList _ _ _ => L3
  have I3 := CarriedAll.intsOf (f := fun a => 65024 + a) C3
  refine kmk_add_ints (ns := [173, 847, 6150, 6155, 6156, 6157, 8203, 8204, 8205, 8288, 65279]) (by k_asm) N3 (News.isList N3 (.head _)) L3 ?i_s2 I3 ?_ ?z_s2
  case i_s2 => repeat (first | exact IntsAre.nil | refine IntsAre.cons _ _ ?_)
  case z_s2 => show _ ≤ 16777216; decide +kernel
  intro D4 us4 h4 F4 N4 l4 hI4
  rw [show ([173, 847, 6150, 6155, 6156, 6157, 8203, 8204, 8205, 8288, 65279] : List Int) ++ (List.map (fun a => 65024 + a) (List.filter (fun a => true) (rangeInts 0 1 (16 - 0 : Int).toNat))) = unseen0 by decide +kernel] at hI4
  clear C3 L3 I3 N3
  have l5 := allLt_of l4
  clear l4
  have N5 := news_erase 1 N4
  simp only [List.eraseIdx_cons_succ, List.eraseIdx_cons_zero] at N5
  clear N4
  refine hide ?_
  intro G5 hG5
  obtain ⟨l6, l7, l8, l9, l10, _⟩ := l5
  refine hG5 ?_
  clear hG5
  clear G5
  (try k_fold)
  (repeat' (first | ((with_reducible show Mine.Fnm _); exact hEnd _ _ _ (by first | with_reducible assumption | assumption)) | ((with_reducible show wpAny _ _ (call (Value.builtin "list.append") _) _ _ _); k_dflt (refine append_K (by k_asm) (by k_asm) (by k_upd) ?_ (by (rw [PySem.sizeLine_eq]; simp only [Array.size_push, List.size_toArray]; omega))); intro hz9 Fz9 Nz9; (try k_sweep)) | (with_reducible refine Mine.toksE ?_; intro _) | (k_unfold; (try dsimp only)) | (k_end; wrow_close) | walk1 | (dsimp only; walk1) | (leave1; (try dsimp only))))
  unfold Stop
  rename News _ _ _ [_, _, _, _, _, _, _] => N60
  have hvb : ∃ vb, IntsAre vb beside0 ∧ News _ _ _ [_, (_, W.listOf (List.toArray vb) 0), _, _, _, _, _] := ⟨_, by (repeat (first | exact IntsAre.nil | refine IntsAre.cons _ _ ?_)), N60⟩
  obtain ⟨vb, hIb, N6⟩ := hvb
  clear N60
  rename IsRange _ _ 0 3 _ _ _ _ => R6
  refine rangeS (n := 3) (σ := KdS) (fun c => [(_, W.listOf c.us.toArray c.nn), _, _, _, _, _, _]) (fun _ => []) [Str.ofString "k"] (fun i c => IntsAre c.us c.es ∧ c.es = kindsF cs i) ⟨[], [], 0⟩ (by exact rfl) R6 (by decide) (by decide) (by k_asm) N6 (fun _ h => nomatch h) ⟨.nil, rfl⟩ ?_ ?_
  · rintro i ⟨kus, kes, knn⟩ t9 u h9 tk9 own9 hi9 o9 ⟨k1, k2⟩ F9 N9
    dsimp only [kstB, envOfC] at F9 N9 k1 k2
    simp only [List.cons_append, List.nil_append] at N9
    clear N6
    (try dsimp only [List.map] at o9)
    have kl := ints_len k1
    have kf := kindsF_len cs i
    rw [← k2] at kf
    (try k_fold)
    (repeat' (first | ((with_reducible show Mine.Fnm _); exact hEnd _ _ _ (by first | with_reducible assumption | assumption)) | ((with_reducible show wpAny _ _ (call (Value.builtin "list.append") _) _ _ _); k_dflt (refine append_K (by k_asm) (by k_asm) (by k_upd) ?_ (by (rw [PySem.sizeLine_eq]; simp only [Array.size_push, List.size_toArray]; omega))); intro hz9 Fz9 Nz9; (try k_sweep)) | (with_reducible refine Mine.toksE ?_; intro _) | (k_unfold; (try dsimp only)) | (k_end; wrow_close) | walk1 | (dsimp only; walk1) | (leave1; (try dsimp only))))
    all_goals (
      rename News _ _ _ (_ :: _) => N10
      simp only [List.push_toArray] at N10
      refine nextS ⟨_, _, _⟩ (by k_asm) N10 (List.forall_mem_cons.mpr ⟨.head _, List.forall_mem_cons.mpr ⟨.tail _ (.head _), List.forall_mem_cons.mpr ⟨.tail _ (.tail _ (.head _)), List.forall_mem_cons.mpr ⟨.tail _ (.tail _ (.tail _ (.head _))), List.forall_mem_cons.mpr ⟨.tail _ (.tail _ (.tail _ (.tail _ (.head _)))), List.forall_mem_cons.mpr ⟨.tail _ (.tail _ (.tail _ (.tail _ (.tail _ (.head _))))), List.forall_mem_cons.mpr ⟨.tail _ (.tail _ (.tail _ (.tail _ (.tail _ (.tail _ (.head _)))))), List.forall_mem_nil _⟩⟩⟩⟩⟩⟩⟩) (fun p hp => .tail _ (.tail _ (.tail _ (.tail _ (.tail _ (.tail _ (.tail _ hp))))))) rfl (fun _ h => nomatch h) ?_ ⟨by first | exact ints_snocV (ints_snocV (ints_snocV k1)) | exact ints_snocV (ints_snocV k1) | exact ints_snocV k1, ?_⟩
      · (intro z h1 h2; (simp only [List.mem_cons, List.not_mem_nil, or_false, forall_eq, forall_eq_or_imp, false_imp_iff, implies_true, and_true] at h1); (simp only [List.contains_cons, List.contains_nil, Bool.or_false, Bool.or_eq_false_iff, beq_eq_false_iff_ne] at h2); (simp [put, lookR, h1, h2]); (try rfl))
      · show _ = kindStep cs (kindsF cs i) i
        unfold kindStep
        rw [← k2]
        simp only [Int.zero_add, Int.toNat_natCast, show Int.toNat 3 = 3 from rfl] at *
        first | rw [if_pos (by omega), if_pos (by assumption)] | rw [if_neg (by omega), if_pos (by assumption)] | rw [if_pos (by omega), if_neg (by assumption)] | rw [if_neg (by omega), if_neg (by assumption)]
        (try simp only [List.append_nil]))
  rintro ⟨kus, kes, knn⟩ u h9 tk9 ⟨k1, k2⟩ F9 N9
  dsimp only [kstB, envOfC] at F9 N9 k1 k2
  clear N6
  have i3 := ints_len k1
  have ko := kinds_ok cs
  rw [← k2] at ko
  obtain ⟨kl, kb⟩ := ko.facts
  clear k2
  revert KX
  k_fill
  intro KX
  clear GL
  change Below callerA hS [] hS at K0
  (repeat' (first | ((with_reducible show Mine.Fnm _); exact hEnd _ _ _ (by first | with_reducible assumption | assumption)) | ((with_reducible show wpAny _ _ (eval (PySem.Expr.ListComp (PySem.Expr.Call (PySem.Expr.Name (Str.ofString "len") _) _ _ _) _ _ _) _) _ _ _); k_dflt (refine LCg.ListComp_U (F₀ := by k_asm) (by with_unfolding_all rfl) (by decide) (by rfl) (by decide) (by rfl) ?_)) | ((with_reducible show wpAny _ _ (eval (PySem.Expr.ListComp (PySem.Expr.Call (PySem.Expr.Attribute _ (Str.ofString "count") _) _ _ _) _ _ _) _) _ _ _); refine stopHere ?_) | ((with_reducible show wpAny _ _ (eval (PySem.Expr.ListComp (PySem.Expr.Call (PySem.Expr.Name (Str.ofString "countOf") _) _ _ _) _ _ _) _) _ _ _); refine stopHere ?_) | ((with_reducible show wpAny _ _ (binaryOp _ (Value.str (meantF _) _) _) _ _ _); refine stopHere ?_) | ((with_reducible show wpAny _ _ (call (Value.ref _) _) _ _ _); refine opqQ ?_; intro Q5 hQ5; refine callS (prepared_spec _ _ _) ?_ (by ((try dsimp only); (try simp only [Str.length_append]); (try simp only [show ∀ c : Nat, (⟨#[c]⟩ : Str).length = 1 from fun _ => rfl]); omega)); intro v9 new9 h9 tk9 hR9 st9 F9 N9 N10; (obtain ⟨t9, e9, e8⟩ := hR9; subst e9 e8); (try simp only [List.nil_append, List.cons_append] at N10); (try k_sweep); refine finQ hQ5 ?_; clear hQ5; clear Q5; (try dsimp only)) | ((with_reducible show wpAny _ _ (call (Value.ref _) _) _ _ _); refine opqQ ?_; intro Q5 hQ5; refine callS (concat_spec _ _ _ _ _) ?_ (by ((try dsimp only); (try simp only [Str.length_append]); (try simp only [show ∀ c : Nat, (⟨#[c]⟩ : Str).length = 1 from fun _ => rfl]); omega)); intro v9 new9 h9 tk9 hR9 st9 F9 N9 N10; (obtain ⟨t9, e9, e8⟩ := hR9; subst e9 e8); (try simp only [List.nil_append, List.cons_append] at N10); (try k_sweep); refine finQ hQ5 ?_; clear hQ5; clear Q5; (try dsimp only)) | ((with_reducible show wpAny _ _ (call (Value.builtin "str.join") _) _ _ _); (k_dflt (refine joinE (by is_list) (by first | with_reducible assumption | assumption) (by decide +kernel) (by with_reducible assumption) (by with_reducible assumption) ?_)); intro _ _) | ((with_reducible show wpAny _ _ (eval (PySem.Expr.ListComp (PySem.Expr.Subscript _ _ _) _ _ _) _) _ _ _); k_dflt (refine LCg.ListComp_U (F₀ := by k_asm) (by with_unfolding_all rfl) (by decide) (by rfl) (by decide) (by rfl) ?_)) | (with_reducible refine Mine.toksE ?_; intro _) | (k_unfold; (try dsimp only)) | (k_end; wrow_close) | walk1 | (dsimp only; walk1) | (leave1; (try dsimp only))))
  unfold Stop
  refine LCg.CompSrc.ledger (by exact rfl) F9 N9 (.head _) ?sz_s3 ?_
  case sz_s3 => show _ ≤ 16777216; simp only [List.size_toArray]; omega
  intro g9
  refine kct_list letF k1 ?turn_s3 ?fin_s3
  case turn_s3 =>
    intro k9 t9 I9 oI9 C9 oC9 D9 m9 ys9 h8 tk8 E9 hk9 hC9 hx9 F8 N8 off8 ne8 mk8
    have kb := kb k9 hk9
    (repeat' (first | ((with_reducible show Mine.Fnm _); exact hEnd _ _ _ (by first | with_reducible assumption | assumption)) | ((with_reducible show wpAny _ _ (eval (PySem.Expr.ListComp (PySem.Expr.Call (PySem.Expr.Name (Str.ofString "len") _) _ _ _) _ _ _) _) _ _ _); k_dflt (refine LCg.ListComp_U (F₀ := by k_asm) (by with_unfolding_all rfl) (by decide) (by rfl) (by decide) (by rfl) ?_)) | ((with_reducible show wpAny _ _ (eval (PySem.Expr.ListComp (PySem.Expr.Call (PySem.Expr.Attribute _ (Str.ofString "count") _) _ _ _) _ _ _) _) _ _ _); refine stopHere ?_) | ((with_reducible show wpAny _ _ (eval (PySem.Expr.ListComp (PySem.Expr.Call (PySem.Expr.Name (Str.ofString "countOf") _) _ _ _) _ _ _) _) _ _ _); refine stopHere ?_) | ((with_reducible show wpAny _ _ (binaryOp _ (Value.str (meantF _) _) _) _ _ _); refine stopHere ?_) | ((with_reducible show wpAny _ _ (call (Value.ref _) _) _ _ _); refine opqQ ?_; intro Q5 hQ5; refine callS (prepared_spec _ _ _) ?_ (by ((try dsimp only); (try simp only [Str.length_append]); (try simp only [show ∀ c : Nat, (⟨#[c]⟩ : Str).length = 1 from fun _ => rfl]); omega)); intro v9 new9 h9 tk9 hR9 st9 F9 N9 N10; (obtain ⟨t9, e9, e8⟩ := hR9; subst e9 e8); (try simp only [List.nil_append, List.cons_append] at N10); (try k_sweep); refine finQ hQ5 ?_; clear hQ5; clear Q5; (try dsimp only)) | ((with_reducible show wpAny _ _ (call (Value.ref _) _) _ _ _); refine opqQ ?_; intro Q5 hQ5; refine callS (concat_spec _ _ _ _ _) ?_ (by ((try dsimp only); (try simp only [Str.length_append]); (try simp only [show ∀ c : Nat, (⟨#[c]⟩ : Str).length = 1 from fun _ => rfl]); omega)); intro v9 new9 h9 tk9 hR9 st9 F9 N9 N10; (obtain ⟨t9, e9, e8⟩ := hR9; subst e9 e8); (try simp only [List.nil_append, List.cons_append] at N10); (try k_sweep); refine finQ hQ5 ?_; clear hQ5; clear Q5; (try dsimp only)) | ((with_reducible show wpAny _ _ (call (Value.builtin "str.join") _) _ _ _); (k_dflt (refine joinE (by is_list) (by first | with_reducible assumption | assumption) (by decide +kernel) (by with_reducible assumption) (by with_reducible assumption) ?_)); intro _ _) | ((with_reducible show wpAny _ _ (eval (PySem.Expr.ListComp (PySem.Expr.Subscript _ _ _) _ _ _) _) _ _ _); k_dflt (refine LCg.ListComp_U (F₀ := by k_asm) (by with_unfolding_all rfl) (by decide) (by rfl) (by decide) (by rfl) ?_)) | (with_reducible refine Mine.toksE ?_; intro _) | (k_unfold; (try dsimp only)) | (k_end; wrow_close) | walk1 | (dsimp only; walk1) | (leave1; (try dsimp only))))
    rename News _ _ _ _ => N8b
    exact LCg.CompEnd.intro (by k_asm) N8b _ (fun _ h => .tail _ h) off8 (.inr ⟨_, .head _, rfl, _, rfl⟩) (kct_el rfl rfl rfl)
  intro ys9 hc9 hl9 D9 h8 tk8 F8 N8 off8
  have hS9 := CarriedAll.strsOf hc9
  have w9 := let_wt kl
  have e9 := join_let kes
  refine hide ?_
  intro G5 hG5
  obtain ⟨f1, f2, f3, f4, f5, f6, f7, _⟩ := off8
  refine hG5 ?_
  clear hG5
  clear G5
  dsimp only at f1 f2 f3 f4 f5 f6 f7 l6 l7 l8 l9 l10
  clear l6
  obtain ⟨bb, bm⟩ := besideB (((cs.getD (Int.toNat 3) 0).fdiv 4).fmod 16).toNat (by
    have := Int.fmod_nonneg_of_pos ((cs.getD (Int.toNat 3) 0).fdiv 4) (by decide : (0 : Int) < 16)
    have := Int.fmod_lt_of_pos ((cs.getD (Int.toNat 3) 0).fdiv 4) (by decide : (0 : Int) < 16)
    omega)
  obtain ⟨bb1, bb2⟩ := bb
  have c4 := getD_bnd cb (d := 0) (by decide) (Int.toNat 4)
  have tl := typedF_len (cs.getD (Int.toNat 4) 0) unseen0 _ kes rfl
  (repeat' (first | ((with_reducible show Mine.Fnm _); exact hEnd _ _ _ (by first | with_reducible assumption | assumption)) | ((with_reducible show wpAny _ _ (eval (PySem.Expr.ListComp (PySem.Expr.Call (PySem.Expr.Name (Str.ofString "len") _) _ _ _) _ _ _) _) _ _ _); k_dflt (refine LCg.ListComp_U (F₀ := by k_asm) (by with_unfolding_all rfl) (by decide) (by rfl) (by decide) (by rfl) ?_)) | ((with_reducible show wpAny _ _ (eval (PySem.Expr.ListComp (PySem.Expr.Call (PySem.Expr.Attribute _ (Str.ofString "count") _) _ _ _) _ _ _) _) _ _ _); refine stopHere ?_) | ((with_reducible show wpAny _ _ (eval (PySem.Expr.ListComp (PySem.Expr.Call (PySem.Expr.Name (Str.ofString "countOf") _) _ _ _) _ _ _) _) _ _ _); refine stopHere ?_) | ((with_reducible show wpAny _ _ (binaryOp _ (Value.str (meantF _) _) _) _ _ _); refine stopHere ?_) | ((with_reducible show wpAny _ _ (call (Value.ref _) _) _ _ _); refine opqQ ?_; intro Q5 hQ5; refine callS (prepared_spec _ _ _) ?_ (by ((try dsimp only); (try simp only [Str.length_append]); (try simp only [show ∀ c : Nat, (⟨#[c]⟩ : Str).length = 1 from fun _ => rfl]); omega)); intro v9 new9 h9 tk9 hR9 st9 F9 N9 N10; (obtain ⟨t9, e9, e8⟩ := hR9; subst e9 e8); (try simp only [List.nil_append, List.cons_append] at N10); (try k_sweep); refine finQ hQ5 ?_; clear hQ5; clear Q5; (try dsimp only)) | ((with_reducible show wpAny _ _ (call (Value.ref _) _) _ _ _); refine opqQ ?_; intro Q5 hQ5; refine callS (concat_spec _ _ _ _ _) ?_ (by ((try dsimp only); (try simp only [Str.length_append]); (try simp only [show ∀ c : Nat, (⟨#[c]⟩ : Str).length = 1 from fun _ => rfl]); omega)); intro v9 new9 h9 tk9 hR9 st9 F9 N9 N10; (obtain ⟨t9, e9, e8⟩ := hR9; subst e9 e8); (try simp only [List.nil_append, List.cons_append] at N10); (try k_sweep); refine finQ hQ5 ?_; clear hQ5; clear Q5; (try dsimp only)) | ((with_reducible show wpAny _ _ (call (Value.builtin "str.join") _) _ _ _); (k_dflt (refine joinE (by is_list) (by first | with_reducible assumption | assumption) (by decide +kernel) (by with_reducible assumption) (by with_reducible assumption) ?_)); intro _ _) | ((with_reducible show wpAny _ _ (eval (PySem.Expr.ListComp (PySem.Expr.Subscript _ _ _) _ _ _) _) _ _ _); k_dflt (refine LCg.ListComp_U (F₀ := by k_asm) (by with_unfolding_all rfl) (by decide) (by rfl) (by decide) (by rfl) ?_)) | (with_reducible refine Mine.toksE ?_; intro _) | (k_unfold; (try dsimp only)) | (k_end; wrow_close) | walk1 | (dsimp only; walk1) | (leave1; (try dsimp only))))
  unfold Stop
  refine opqQ ?_
  intro Q5 hQ5
  refine' (typed_spec _ _ _ kus us4 kes unseen0 _ _ kb kl rfl (by decide) c4) _ _ _ _ _ _ _ _ _ _ _ _ _ _ _ _ _ _ _ _ _ _ _ _ _ _ ?k1_s3 ?k2_s3 ?k3_s3 ?k4_s3 ?k5_s3 ?k6_s3 ?k7_s3 ?k8_s3 ?_
  case k5_s3 => first | exact rfl | assumption
  case k1_s3 => k_asm
  case k2_s3 => k_asm
  case k3_s3 => k_asm
  case k4_s3 => k_asm
  case k7_s3 => ktr_room
  case k8_s3 => ktr_units
  case k6_s3 => (exact ⟨by is_list, k1, by is_list, hI4⟩)
  intro v9 new9 h9 tk9 hR9 st9 F9 N9
  (obtain ⟨t9, e9, e8⟩ := hR9; subst e9 e8)
  have N10 := Mine.news_grow (by first | with_reducible assumption | assumption) st9 N9
  (try simp only [List.nil_append, List.cons_append] at N10)
  (try k_sweep)
  refine finQ hQ5 ?_
  clear hQ5
  clear Q5
  (try dsimp only)
  have ml := meant_len kl
  have tok := told_ok (cs.getD (Int.toNat 4) 0) c4.1 kes kb _ bm
  (repeat' (first | ((with_reducible show Mine.Fnm _); exact hEnd _ _ _ (by first | with_reducible assumption | assumption)) | ((with_reducible show wpAny _ _ (eval (PySem.Expr.ListComp (PySem.Expr.Call (PySem.Expr.Name (Str.ofString "len") _) _ _ _) _ _ _) _) _ _ _); k_dflt (refine LCg.ListComp_U (F₀ := by k_asm) (by with_unfolding_all rfl) (by decide) (by rfl) (by decide) (by rfl) ?_)) | ((with_reducible show wpAny _ _ (eval (PySem.Expr.ListComp (PySem.Expr.Call (PySem.Expr.Attribute _ (Str.ofString "count") _) _ _ _) _ _ _) _) _ _ _); refine stopHere ?_) | ((with_reducible show wpAny _ _ (eval (PySem.Expr.ListComp (PySem.Expr.Call (PySem.Expr.Name (Str.ofString "countOf") _) _ _ _) _ _ _) _) _ _ _); refine stopHere ?_) | ((with_reducible show wpAny _ _ (binaryOp _ (Value.str (meantF _) _) _) _ _ _); refine stopHere ?_) | ((with_reducible show wpAny _ _ (call (Value.ref _) _) _ _ _); refine opqQ ?_; intro Q5 hQ5; refine callS (prepared_spec _ _ _) ?_ (by ((try dsimp only); (try simp only [Str.length_append]); (try simp only [show ∀ c : Nat, (⟨#[c]⟩ : Str).length = 1 from fun _ => rfl]); omega)); intro v9 new9 h9 tk9 hR9 st9 F9 N9 N10; (obtain ⟨t9, e9, e8⟩ := hR9; subst e9 e8); (try simp only [List.nil_append, List.cons_append] at N10); (try k_sweep); refine finQ hQ5 ?_; clear hQ5; clear Q5; (try dsimp only)) | ((with_reducible show wpAny _ _ (call (Value.ref _) _) _ _ _); refine opqQ ?_; intro Q5 hQ5; refine callS (concat_spec _ _ _ _ _) ?_ (by ((try dsimp only); (try simp only [Str.length_append]); (try simp only [show ∀ c : Nat, (⟨#[c]⟩ : Str).length = 1 from fun _ => rfl]); omega)); intro v9 new9 h9 tk9 hR9 st9 F9 N9 N10; (obtain ⟨t9, e9, e8⟩ := hR9; subst e9 e8); (try simp only [List.nil_append, List.cons_append] at N10); (try k_sweep); refine finQ hQ5 ?_; clear hQ5; clear Q5; (try dsimp only)) | ((with_reducible show wpAny _ _ (call (Value.builtin "str.join") _) _ _ _); (k_dflt (refine joinE (by is_list) (by first | with_reducible assumption | assumption) (by decide +kernel) (by with_reducible assumption) (by with_reducible assumption) ?_)); intro _ _) | ((with_reducible show wpAny _ _ (eval (PySem.Expr.ListComp (PySem.Expr.Subscript _ _ _) _ _ _) _) _ _ _); k_dflt (refine LCg.ListComp_U (F₀ := by k_asm) (by with_unfolding_all rfl) (by decide) (by rfl) (by decide) (by rfl) ?_)) | (with_reducible refine Mine.toksE ?_; intro _) | (k_unfold; (try dsimp only)) | (k_end; wrow_close) | walk1 | (dsimp only; walk1) | (leave1; (try dsimp only))))
  unfold Stop
  rename Fr _ _ _ _ => FT
  rw [tok] at FT
  generalize beside0.getD (((cs.getD (Int.toNat 3) 0).fdiv 4).fmod 16).toNat 0 = bz at *
  rename News _ _ _ _ => NT
  have NT3 : News _ _ _ [_, _, _] := fun p hp => NT p (.tail _ (.tail _ (.tail _ (.tail _ (.tail _ hp)))))
  clear NT
  refine PyProof.Rows.add_str ?_ ?sz_s3
  case sz_s3 => rw [sizeLine_eq]; show (meantF kes).length + 1 ≤ _; omega
  intro t5 k5
  (repeat' (first | ((with_reducible show Mine.Fnm _); exact hEnd _ _ _ (by first | with_reducible assumption | assumption)) | ((with_reducible show wpAny _ _ (eval (PySem.Expr.ListComp (PySem.Expr.Call (PySem.Expr.Name (Str.ofString "len") _) _ _ _) _ _ _) _) _ _ _); k_dflt (refine LCg.ListComp_U (F₀ := by k_asm) (by with_unfolding_all rfl) (by decide) (by rfl) (by decide) (by rfl) ?_)) | ((with_reducible show wpAny _ _ (eval (PySem.Expr.ListComp (PySem.Expr.Call (PySem.Expr.Attribute _ (Str.ofString "count") _) _ _ _) _ _ _) _) _ _ _); refine stopHere ?_) | ((with_reducible show wpAny _ _ (eval (PySem.Expr.ListComp (PySem.Expr.Call (PySem.Expr.Name (Str.ofString "countOf") _) _ _ _) _ _ _) _) _ _ _); refine stopHere ?_) | ((with_reducible show wpAny _ _ (binaryOp _ (Value.str (meantF _) _) _) _ _ _); refine stopHere ?_) | ((with_reducible show wpAny _ _ (call (Value.ref _) _) _ _ _); refine opqQ ?_; intro Q5 hQ5; refine callS (prepared_spec _ _ _) ?_ (by ((try dsimp only); (try simp only [Str.length_append]); (try simp only [show ∀ c : Nat, (⟨#[c]⟩ : Str).length = 1 from fun _ => rfl]); omega)); intro v9 new9 h9 tk9 hR9 st9 F9 N9 N10; (obtain ⟨t9, e9, e8⟩ := hR9; subst e9 e8); (try simp only [List.nil_append, List.cons_append] at N10); (try k_sweep); refine finQ hQ5 ?_; clear hQ5; clear Q5; (try dsimp only)) | ((with_reducible show wpAny _ _ (call (Value.ref _) _) _ _ _); refine opqQ ?_; intro Q5 hQ5; refine callS (concat_spec _ _ _ _ _) ?_ (by ((try dsimp only); (try simp only [Str.length_append]); (try simp only [show ∀ c : Nat, (⟨#[c]⟩ : Str).length = 1 from fun _ => rfl]); omega)); intro v9 new9 h9 tk9 hR9 st9 F9 N9 N10; (obtain ⟨t9, e9, e8⟩ := hR9; subst e9 e8); (try simp only [List.nil_append, List.cons_append] at N10); (try k_sweep); refine finQ hQ5 ?_; clear hQ5; clear Q5; (try dsimp only)) | ((with_reducible show wpAny _ _ (call (Value.builtin "str.join") _) _ _ _); (k_dflt (refine joinE (by is_list) (by first | with_reducible assumption | assumption) (by decide +kernel) (by with_reducible assumption) (by with_reducible assumption) ?_)); intro _ _) | ((with_reducible show wpAny _ _ (eval (PySem.Expr.ListComp (PySem.Expr.Subscript _ _ _) _ _ _) _) _ _ _); k_dflt (refine LCg.ListComp_U (F₀ := by k_asm) (by with_unfolding_all rfl) (by decide) (by rfl) (by decide) (by rfl) ?_)) | (with_reducible refine Mine.toksE ?_; intro _) | (k_unfold; (try dsimp only)) | (k_end; wrow_close) | walk1 | (dsimp only; walk1) | (leave1; (try dsimp only))))
  · rename (_ != _) = true => a9
    rw [tok] at a9
    exact absurd a9 (by simp)
  refine hide ?_
  intro G5 hG5
  obtain ⟨W0, W1, W2, hW, v0, v1, v2, ⟨x1, x2⟩, ⟨x3, x4⟩, x5, x6⟩ := words_ok ko
  refine hG5 ?_
  clear hG5
  clear G5
  have hT : (meantF kes ++ ⟨#[bz.toNat]⟩).cps.toList = W0 ++ 32 :: (W1 ++ 32 :: (W2 ++ [bz.toNat])) := by rw [cps_app, hW]; simp
  have n3 : ∀ z ∈ W2 ++ [bz.toNat], z ≠ 32 := fun z hz => (List.mem_append.mp hz).elim (L5_ne v2 z) (fun q => by rw [List.mem_singleton.mp q]; exact beside_ne bm)
  unfold Stop
  refine opqQ ?_
  intro Q5 hQ5
  refine' (cut_spec _ _ _ W0 W1 _ hT (L5_ne v0) (L5_ne v1) n3) _ _ _ _ _ _ _ _ _ _ _ _ _ _ _ _ _ _ _ _ _ _ _ _ _ ?k1_s4 ?k2_s4 ?k3_s4 ?k4_s4 ?k5_s4 ?k6_s4 ?k7_s4 ?k8_s4 ?_
  case k5_s4 => first | exact rfl | assumption
  case k1_s4 => k_asm
  case k2_s4 => k_asm
  case k3_s4 => k_asm
  case k4_s4 => k_asm
  case k7_s4 => ktr_room
  case k8_s4 => ktr_units
  case k6_s4 => (dsimp only; rw [Str.length_append]; show (meantF kes).length + 1 ≤ 100; omega)
  intro v9 new9 h9 tk9 hR9 st9 F9 N9
  (obtain ⟨D9, t1, t2, t3, e9, e8⟩ := hR9; subst e9 e8)
  have N10 := Mine.news_growL (by first | with_reducible assumption | assumption) st9 N9
  (try simp only [List.nil_append, List.cons_append] at N10)
  (try k_sweep)
  refine finQ hQ5 ?_
  clear hQ5
  clear Q5
  (try dsimp only)
  obtain ⟨m_F9k, F9k⟩ := fr_only1 (x1 := Str.ofString "stays") F9 rfl
  clear F9
  (repeat' (first | ((with_reducible show Mine.Fnm _); exact hEnd _ _ _ (by first | with_reducible assumption | assumption)) | ((with_reducible show wpAny _ _ (subscriptTail (PySem.Expr.Name (Str.ofString "words") _) _ (Value.ref _) (Value.int _ _)) _ _ _); k_dflt (refine PyProof.Rows.item_listL (by exact News.isList (by k_asm) (by k_mem)) (by decide) (by decide) (by rfl) ?_)) | ((with_reducible show wpAny _ _ (subscriptTail _ _ (Value.ref _) (Value.int _ _)) _ _ _); k_dflt (refine item_tupleT (by exact News.isTup (by k_asm) (by k_mem)) (by decide) (by decide) (by rfl) (by rfl) ?_)) | ((with_reducible show wpAny _ _ (compareOp CmpOp.NotEq (Value.ref _) (Value.ref _)) _ _ _); refine stopHere ?_) | ((with_reducible show wpAny _ _ (binaryOp _ (Value.str (meantF _) _) _) _ _ _); refine stopHere ?_) | (with_reducible refine Mine.toksE ?_; intro _) | (k_unfold; (try dsimp only)) | (k_end; wrow_close) | walk1 | (dsimp only; walk1) | (leave1; (try dsimp only))))
  unfold Stop
  refine PyProof.Rows.add_str ?_ ?sz_s4
  case sz_s4 => rw [sizeLine_eq]; show (meantF kes).length + 1 ≤ _; omega
  intro t6 k6
  (repeat' (first | ((with_reducible show Mine.Fnm _); exact hEnd _ _ _ (by first | with_reducible assumption | assumption)) | ((with_reducible show wpAny _ _ (subscriptTail (PySem.Expr.Name (Str.ofString "words") _) _ (Value.ref _) (Value.int _ _)) _ _ _); k_dflt (refine PyProof.Rows.item_listL (by exact News.isList (by k_asm) (by k_mem)) (by decide) (by decide) (by rfl) ?_)) | ((with_reducible show wpAny _ _ (subscriptTail _ _ (Value.ref _) (Value.int _ _)) _ _ _); k_dflt (refine item_tupleT (by exact News.isTup (by k_asm) (by k_mem)) (by decide) (by decide) (by rfl) (by rfl) ?_)) | ((with_reducible show wpAny _ _ (compareOp CmpOp.NotEq (Value.ref _) (Value.ref _)) _ _ _); refine stopHere ?_) | ((with_reducible show wpAny _ _ (binaryOp _ (Value.str (meantF _) _) _) _ _ _); refine stopHere ?_) | (with_reducible refine Mine.toksE ?_; intro _) | (k_unfold; (try dsimp only)) | (k_end; wrow_close) | walk1 | (dsimp only; walk1) | (leave1; (try dsimp only))))
  unfold Stop
  refine KSpl.split1 (by k_asm) (by k_asm) (by decide) ?_ ?sz_s4
  case sz_s4 => rw [sizeLine_eq, Str.length_append]; show (meantF kes).length + 1 + 2 ≤ _; omega
  intro D8 l8 h8 k8 e8 a8 F8 N8 l9
  rw [split_three hT (L5_ne v0) (L5_ne v1) n3] at e8
  refine hide ?_
  intro G5 hG5
  obtain ⟨t7, q1, qe1, e10⟩ := KSpl.cons_of e8
  refine hG5 ?_
  clear hG5
  clear G5
  refine hide ?_
  intro G5 hG5
  obtain ⟨t8, q2, qe2, e11⟩ := KSpl.cons_of e10
  refine hG5 ?_
  clear hG5
  clear G5
  refine hide ?_
  intro G5 hG5
  obtain ⟨t9, q3, qe3, e12⟩ := KSpl.cons_of e11
  refine hG5 ?_
  clear hG5
  clear G5
  have qe4 := KSpl.nil_of e12
  subst qe4 qe3 qe2 qe1
  clear e8 e10 e11 e12
  simp only [strValues, List.map_cons, List.map_nil] at N8 a8
  (repeat' (first | ((with_reducible show Mine.Fnm _); exact hEnd _ _ _ (by first | with_reducible assumption | assumption)) | ((with_reducible show wpAny _ _ (subscriptTail (PySem.Expr.Name (Str.ofString "words") _) _ (Value.ref _) (Value.int _ _)) _ _ _); k_dflt (refine PyProof.Rows.item_listL (by exact News.isList (by k_asm) (by k_mem)) (by decide) (by decide) (by rfl) ?_)) | ((with_reducible show wpAny _ _ (subscriptTail _ _ (Value.ref _) (Value.int _ _)) _ _ _); k_dflt (refine item_tupleT (by exact News.isTup (by k_asm) (by k_mem)) (by decide) (by decide) (by rfl) (by rfl) ?_)) | ((with_reducible show wpAny _ _ (compareOp CmpOp.NotEq (Value.ref _) (Value.ref _)) _ _ _); refine stopHere ?_) | ((with_reducible show wpAny _ _ (binaryOp _ (Value.str (meantF _) _) _) _ _ _); refine stopHere ?_) | (with_reducible refine Mine.toksE ?_; intro _) | (k_unfold; (try dsimp only)) | (k_end; wrow_close) | walk1 | (dsimp only; walk1) | (leave1; (try dsimp only))))
  unfold Stop
  refine ne_three (va := [_, _, _]) (vb := [_, _, _]) (by is_list) (by is_list) (.cons _ _ (.cons _ _ (.cons _ _ .nil))) (.cons _ _ (.cons _ _ (.cons _ _ .nil))) ⟨strOk_of fun z hz => .inl (v0 z hz), strOk_of fun z hz => .inl (v1 z hz), strOk_of fun z hz => (List.mem_append.mp hz).elim (fun q => .inl (v2 z q)) (fun q => .inr ⟨bz, bm, List.mem_singleton.mp q⟩)⟩ (by ke_room) ?_
  have NT4 : News _ _ _ [_, _, _, _] := fun p hp => N8 p (.tail _ hp)
  clear N8
  (repeat' (first | ((with_reducible show Mine.Fnm _); exact hEnd _ _ _ (by first | with_reducible assumption | assumption)) | ((with_reducible show wpAny _ _ (subscriptTail (PySem.Expr.Name (Str.ofString "words") _) _ (Value.ref _) (Value.int _ _)) _ _ _); k_dflt (refine PyProof.Rows.item_listL (by exact News.isList (by k_asm) (by k_mem)) (by decide) (by decide) (by rfl) ?_)) | ((with_reducible show wpAny _ _ (subscriptTail _ _ (Value.ref _) (Value.int _ _)) _ _ _); k_dflt (refine item_tupleT (by exact News.isTup (by k_asm) (by k_mem)) (by decide) (by decide) (by rfl) (by rfl) ?_)) | ((with_reducible show wpAny _ _ (compareOp CmpOp.NotEq (Value.ref _) (Value.ref _)) _ _ _); refine stopHere ?_) | ((with_reducible show wpAny _ _ (binaryOp _ (Value.str (meantF _) _) _) _ _ _); refine stopHere ?_) | (with_reducible refine Mine.toksE ?_; intro _) | (k_unfold; (try dsimp only)) | (k_end; wrow_close) | walk1 | (dsimp only; walk1) | (leave1; (try dsimp only))))
  unfold Stop
  refine slice_strN_ns (s := ⟨_, _, _, _, _⟩) (by k_asm) (by k_asm) (hsz := ?sz_s4) ?_
  case sz_s4 => rw [sizeLine_eq]; show (W2 ++ [bz.toNat]).toArray.size ≤ _; simp; omega
  intro h11 t11 k11 F11 N11
  obtain ⟨m_F11k, F11k⟩ := fr_only0 F11
  clear F11
  rw [sl_neg]
  (repeat' (first | ((with_reducible show Mine.Fnm _); exact hEnd _ _ _ (by first | with_reducible assumption | assumption)) | ((with_reducible show wpAny _ _ (subscriptTail (PySem.Expr.Name (Str.ofString "words") _) _ (Value.ref _) (Value.int _ _)) _ _ _); k_dflt (refine PyProof.Rows.item_listL (by exact News.isList (by k_asm) (by k_mem)) (by decide) (by decide) (by rfl) ?_)) | ((with_reducible show wpAny _ _ (subscriptTail _ _ (Value.ref _) (Value.int _ _)) _ _ _); k_dflt (refine item_tupleT (by exact News.isTup (by k_asm) (by k_mem)) (by decide) (by decide) (by rfl) (by rfl) ?_)) | ((with_reducible show wpAny _ _ (compareOp CmpOp.NotEq (Value.ref _) (Value.ref _)) _ _ _); refine stopHere ?_) | ((with_reducible show wpAny _ _ (binaryOp _ (Value.str (meantF _) _) _) _ _ _); refine stopHere ?_) | (with_reducible refine Mine.toksE ?_; intro _) | (k_unfold; (try dsimp only)) | (k_end; wrow_close) | walk1 | (dsimp only; walk1) | (leave1; (try dsimp only))))
  unfold Stop
  rename News _ _ _ _ => NU
  have NT5 := news_erase 1 NU
  simp only [List.eraseIdx_cons_succ, List.eraseIdx_cons_zero] at NT5
  clear NU
  refine LCg.CompSrc.ledger (by exact rfl) (by k_asm) NT5 (.head _) ?sz_s5 ?_
  case sz_s5 => exact Nat.le_of_ble_eq_true rfl
  intro g9
  refine compStrs (vs := [_, _, _]) (ks := [⟨W0.toArray⟩, ⟨W1.toArray⟩, ⟨W2.toArray⟩]) (fun x y => ∃ t, y = .str (blT (x.length : Nat)) t) (.cons _ _ (.cons _ _ (.cons _ _ .nil))) ?turn_s5 ?_
  case turn_s5 =>
    intro k9 t9 I9 oI9 C9 oC9 D9 m9 ys9 h8 tk8 E9 hk9 hC9 hx9 F8 N8 off8 ne8
    have kl9 : k9.length ≤ 5 := by
      simp only [List.mem_cons, List.not_mem_nil, or_false] at hk9
      rcases hk9 with rfl | rfl | rfl
      · show W0.toArray.size ≤ 5; simp; omega
      · show W1.toArray.size ≤ 5; simp; omega
      · show W2.toArray.size ≤ 5; simp; omega
    clear hk9
    (repeat' (first | ((with_reducible show Mine.Fnm _); exact hEnd _ _ _ (by first | with_reducible assumption | assumption)) | ((with_reducible show wpAny _ _ (subscriptTail (PySem.Expr.Name (Str.ofString "words") _) _ (Value.ref _) (Value.int _ _)) _ _ _); k_dflt (refine PyProof.Rows.item_listL (by exact News.isList (by k_asm) (by k_mem)) (by decide) (by decide) (by rfl) ?_)) | ((with_reducible show wpAny _ _ (eval (PySem.Expr.ListComp (PySem.Expr.Call (PySem.Expr.Name (Str.ofString "len") _) _ _ _) _ _ _) _) _ _ _); k_dflt (refine LCg.ListComp_U (F₀ := by k_asm) (by with_unfolding_all rfl) (by decide) (by rfl) (by decide) (by rfl) ?_)) | ((with_reducible show wpAny _ _ (eval (PySem.Expr.ListComp (PySem.Expr.Call (PySem.Expr.Attribute _ (Str.ofString "count") _) _ _ _) _ _ _) _) _ _ _); refine stopHere ?_) | ((with_reducible show wpAny _ _ (eval (PySem.Expr.ListComp (PySem.Expr.Call (PySem.Expr.Name (Str.ofString "countOf") _) _ _ _) _ _ _) _) _ _ _); refine stopHere ?_) | ((with_reducible show wpAny _ _ (subscriptTail _ _ (Value.ref _) (Value.int _ _)) _ _ _); k_dflt (refine item_tupleT (by exact News.isTup (by k_asm) (by k_mem)) (by decide) (by decide) (by rfl) (by rfl) ?_)) | ((first | (with_reducible show wpAny _ _ (eval (PySem.Expr.Name (Str.ofString "word") _) (compEnvC _ _ _ _)) _ _ _) | (with_reducible show wpAny _ _ (eval (PySem.Expr.Name (Str.ofString "sign") _) (compEnvC _ _ _ _)) _ _ _)); k_dflt (refine LCgL.ld_own (by k_asm) (by k_mem) (by assumption) (by assumption) ?_)) | ((with_reducible show wpAny _ _ (eval (PySem.Expr.Name (Str.ofString "countOf") _) (compEnvC _ _ _ _)) _ _ _); k_dflt (refine LCgL.ld_global (by k_asm) (by k_asm) (by k_asm) (by k_is) ?_)) | ((first | (with_reducible show wpAny _ _ (eval (PySem.Expr.Name (Str.ofString "len") _) (compEnvC _ _ _ _)) _ _ _) | (with_reducible show wpAny _ _ (eval (PySem.Expr.Name (Str.ofString "sum") _) (compEnvC _ _ _ _)) _ _ _)); k_dflt (refine LCgL.ld_built (by k_asm) (by k_asm) (by k_asm) (by k_is) (by boot_by_name) (by decide) ?_)) | ((with_reducible show wpAny _ _ (call (Value.ref _) _) _ _ _); refine opqQ ?_; intro Q5 hQ5; refine callS (prepared_spec _ _ _) ?_ (by ((try dsimp only); (try simp only [Str.length_append]); (try simp only [show ∀ c : Nat, (⟨#[c]⟩ : Str).length = 1 from fun _ => rfl]); omega)); intro v9 new9 h9 tk9 hR9 st9 F9 N9 N10; (obtain ⟨t9, e9, e8⟩ := hR9; subst e9 e8); (try simp only [List.nil_append, List.cons_append] at N10); (try k_sweep); refine finQ hQ5 ?_; clear hQ5; clear Q5; (try dsimp only)) | ((with_reducible show wpAny _ _ (call (Value.ref _) _) _ _ _); refine opqQ ?_; intro Q5 hQ5; refine callS (concat_spec _ _ _ _ _) ?_ (by ((try dsimp only); (try simp only [Str.length_append]); (try simp only [show ∀ c : Nat, (⟨#[c]⟩ : Str).length = 1 from fun _ => rfl]); omega)); intro v9 new9 h9 tk9 hR9 st9 F9 N9 N10; (obtain ⟨t9, e9, e8⟩ := hR9; subst e9 e8); (try simp only [List.nil_append, List.cons_append] at N10); (try k_sweep); refine finQ hQ5 ?_; clear hQ5; clear Q5; (try dsimp only)) | ((with_reducible show wpAny _ _ (call (Value.builtin "str.join") _) _ _ _); (k_dflt (refine joinE (by is_list) (by first | with_reducible assumption | assumption) (by decide +kernel) (by with_reducible assumption) (by with_reducible assumption) ?_)); intro _ _) | ((with_reducible show wpAny _ _ (eval (PySem.Expr.ListComp (PySem.Expr.Subscript _ _ _) _ _ _) _) _ _ _); k_dflt (refine LCg.ListComp_U (F₀ := by k_asm) (by with_unfolding_all rfl) (by decide) (by rfl) (by decide) (by rfl) ?_)) | (with_reducible refine Mine.toksE ?_; intro _) | (k_unfold; (try dsimp only)) | (k_end; wrow_close) | walk1 | (dsimp only; walk1) | (leave1; (try dsimp only))))
    exact LCg.CompEnd.intro F8 N8 _ (fun _ h => h) off8 (.inr ⟨_, .head _, rfl, _, rfl⟩) ⟨rfl, _, rfl⟩
  intro ys9 hr9 D9 h8 tk8 F8 N8 off8
  have hS9 : StrsAre ys9 ([W0.length, W1.length, W2.length].map fun n : Nat => blT n) := hr9.strs
  have w9 := runs_wt (l := [W0.length, W1.length, W2.length]) (by simp; omega) (by simp)
  have e9 := join_runs [W0.length, W1.length, W2.length]
  have zl : (⟨(runsT [W0.length, W1.length, W2.length]).toArray⟩ : Str).length ≤ 17 := by
    show (runsT [W0.length, W1.length, W2.length]).toArray.size ≤ 17
    rw [List.size_toArray, runsT_len]; simp [sumL]; omega
  refine hide ?_
  intro G5 hG5
  obtain ⟨f1, f2, f3, f4, _⟩ := off8
  refine hG5 ?_
  clear hG5
  clear G5
  dsimp only at f1 f2 f3 f4
  (repeat' (first | ((with_reducible show Mine.Fnm _); exact hEnd _ _ _ (by first | with_reducible assumption | assumption)) | ((with_reducible show wpAny _ _ (subscriptTail (PySem.Expr.Name (Str.ofString "words") _) _ (Value.ref _) (Value.int _ _)) _ _ _); k_dflt (refine PyProof.Rows.item_listL (by exact News.isList (by k_asm) (by k_mem)) (by decide) (by decide) (by rfl) ?_)) | ((with_reducible show wpAny _ _ (eval (PySem.Expr.ListComp (PySem.Expr.Call (PySem.Expr.Name (Str.ofString "len") _) _ _ _) _ _ _) _) _ _ _); k_dflt (refine LCg.ListComp_U (F₀ := by k_asm) (by with_unfolding_all rfl) (by decide) (by rfl) (by decide) (by rfl) ?_)) | ((with_reducible show wpAny _ _ (eval (PySem.Expr.ListComp (PySem.Expr.Call (PySem.Expr.Attribute _ (Str.ofString "count") _) _ _ _) _ _ _) _) _ _ _); refine stopHere ?_) | ((with_reducible show wpAny _ _ (eval (PySem.Expr.ListComp (PySem.Expr.Call (PySem.Expr.Name (Str.ofString "countOf") _) _ _ _) _ _ _) _) _ _ _); refine stopHere ?_) | ((with_reducible show wpAny _ _ (subscriptTail _ _ (Value.ref _) (Value.int _ _)) _ _ _); k_dflt (refine item_tupleT (by exact News.isTup (by k_asm) (by k_mem)) (by decide) (by decide) (by rfl) (by rfl) ?_)) | ((first | (with_reducible show wpAny _ _ (eval (PySem.Expr.Name (Str.ofString "word") _) (compEnvC _ _ _ _)) _ _ _) | (with_reducible show wpAny _ _ (eval (PySem.Expr.Name (Str.ofString "sign") _) (compEnvC _ _ _ _)) _ _ _)); k_dflt (refine LCgL.ld_own (by k_asm) (by k_mem) (by assumption) (by assumption) ?_)) | ((with_reducible show wpAny _ _ (eval (PySem.Expr.Name (Str.ofString "countOf") _) (compEnvC _ _ _ _)) _ _ _); k_dflt (refine LCgL.ld_global (by k_asm) (by k_asm) (by k_asm) (by k_is) ?_)) | ((first | (with_reducible show wpAny _ _ (eval (PySem.Expr.Name (Str.ofString "len") _) (compEnvC _ _ _ _)) _ _ _) | (with_reducible show wpAny _ _ (eval (PySem.Expr.Name (Str.ofString "sum") _) (compEnvC _ _ _ _)) _ _ _)); k_dflt (refine LCgL.ld_built (by k_asm) (by k_asm) (by k_asm) (by k_is) (by boot_by_name) (by decide) ?_)) | ((with_reducible show wpAny _ _ (call (Value.ref _) _) _ _ _); refine opqQ ?_; intro Q5 hQ5; refine callS (prepared_spec _ _ _) ?_ (by ((try dsimp only); (try simp only [Str.length_append]); (try simp only [show ∀ c : Nat, (⟨#[c]⟩ : Str).length = 1 from fun _ => rfl]); omega)); intro v9 new9 h9 tk9 hR9 st9 F9 N9 N10; (obtain ⟨t9, e9, e8⟩ := hR9; subst e9 e8); (try simp only [List.nil_append, List.cons_append] at N10); (try k_sweep); refine finQ hQ5 ?_; clear hQ5; clear Q5; (try dsimp only)) | ((with_reducible show wpAny _ _ (call (Value.ref _) _) _ _ _); refine opqQ ?_; intro Q5 hQ5; refine callS (concat_spec _ _ _ _ _) ?_ (by ((try dsimp only); (try simp only [Str.length_append]); (try simp only [show ∀ c : Nat, (⟨#[c]⟩ : Str).length = 1 from fun _ => rfl]); omega)); intro v9 new9 h9 tk9 hR9 st9 F9 N9 N10; (obtain ⟨t9, e9, e8⟩ := hR9; subst e9 e8); (try simp only [List.nil_append, List.cons_append] at N10); (try k_sweep); refine finQ hQ5 ?_; clear hQ5; clear Q5; (try dsimp only)) | ((with_reducible show wpAny _ _ (call (Value.builtin "str.join") _) _ _ _); (k_dflt (refine joinE (by is_list) (by first | with_reducible assumption | assumption) (by decide +kernel) (by with_reducible assumption) (by with_reducible assumption) ?_)); intro _ _) | ((with_reducible show wpAny _ _ (eval (PySem.Expr.ListComp (PySem.Expr.Subscript _ _ _) _ _ _) _) _ _ _); k_dflt (refine LCg.ListComp_U (F₀ := by k_asm) (by with_unfolding_all rfl) (by decide) (by rfl) (by decide) (by rfl) ?_)) | (with_reducible refine Mine.toksE ?_; intro _) | (k_unfold; (try dsimp only)) | (k_end; wrow_close) | walk1 | (dsimp only; walk1) | (leave1; (try dsimp only))))
  rename News _ _ _ [_, _, _, _, _] => NT6
  have NT7 := news_erase 0 NT6
  simp only [List.eraseIdx_cons_zero] at NT7
  clear NT6 f1 f2 f3 f4
  have hz := raw_of ⟨[W0.length, W1.length, W2.length], 0⟩ (⟨(runsT [W0.length, W1.length, W2.length]).toArray⟩ : Str) (by simp [wsT])
  unfold Stop
  refine opqQ ?_
  intro Q5 hQ5
  refine' (cls_spec _ _ _ (wsT ⟨[W0.length, W1.length, W2.length], 0⟩) [32, 9]) _ _ _ _ _ _ _ _ _ _ _ _ _ _ _ _ _ _ _ _ _ _ _ _ _ _ ?k1_s5 ?k2_s5 ?k3_s5 ?k4_s5 ?k5_s5 ?k6_s5 ?k7_s5 ?k8_s5 ?_
  case k5_s5 => first | exact rfl | assumption
  case k1_s5 => k_asm
  case k2_s5 => k_asm
  case k3_s5 => k_asm
  case k4_s5 => k_asm
  case k7_s5 => ktr_room
  case k8_s5 => ktr_units
  case k6_s5 => exact ⟨hz, wsT_mem, by rw [Str.length_append]; exact Nat.le_trans (Nat.add_le_add_right zl _) (by decide)⟩
  intro v9 new9 h9 tk9 hR9 st9 F9 N9
  obtain ⟨x9, e9', hws⟩ := hR9; subst e9'; rw [wsF_of] at hws
  have N10 := Mine.news_grow (by first | with_reducible assumption | assumption) st9 N9
  (try simp only [List.nil_append, List.cons_append] at N10)
  (try k_sweep)
  refine finQ hQ5 ?_
  clear hQ5
  clear Q5
  (try dsimp only)
  refine hide ?_
  intro G5 hG5
  obtain ⟨dx, tN, tC, od, tb, n1, n2, cv, N11, hcv, hcl, ⟨raw, tr, tn, tnt, e, k, nn9, rfl⟩, hne⟩ := ws_ledger N10 hws
  refine hG5 ?_
  clear hG5
  clear G5
  clear N10 hws
  have g1 := hne _ (.tail _ (.head _)) ⟨_, by assumption⟩
  have g2 := hne _ (.tail _ (.tail _ (.head _))) ⟨_, by assumption⟩
  have g3 := hne _ (.tail _ (.tail _ (.tail _ (.head _)))) ⟨_, by assumption⟩
  dsimp only at g1 g2 g3
  clear hne
  refine hide ?_
  intro G5 hG5
  obtain ⟨g11, g12, g13, g14⟩ := g1
  refine hG5 ?_
  clear hG5
  clear G5
  refine hide ?_
  intro G5 hG5
  obtain ⟨g21, g22, g23, g24⟩ := g2
  refine hG5 ?_
  clear hG5
  clear G5
  refine hide ?_
  intro G5 hG5
  obtain ⟨g31, g32, g33, g34⟩ := g3
  refine hG5 ?_
  clear hG5
  clear G5
  obtain ⟨m_F9k, F9k⟩ := fr_only1 (x1 := Str.ofString "words") F9 rfl
  clear F9
  have hS10 : StrsAre [Value.str ⟨W0.toArray⟩ t1, Value.str ⟨W1.toArray⟩ t2, Value.str ⟨W2.toArray⟩ t11] [⟨W0.toArray⟩, ⟨W1.toArray⟩, ⟨W2.toArray⟩] := .cons _ _ (.cons _ _ (.cons _ _ .nil))
  have w10 := words_wt (a := W0) (b := W1) (c := W2) (by omega) x4 x6
  have e10 := join_words W0 W1 W2
  clear hS9 w9 e9
  (repeat' (first | ((with_reducible show Mine.Fnm _); exact hEnd _ _ _ (by first | with_reducible assumption | assumption)) | ((with_reducible show wpAny _ _ (subscriptTail (PySem.Expr.Name (Str.ofString "words") _) _ (Value.ref _) (Value.int _ _)) _ _ _); k_dflt (refine PyProof.Rows.item_listL (by exact News.isList (by k_asm) (by k_mem)) (by decide) (by decide) (by rfl) ?_)) | ((with_reducible show wpAny _ _ (eval (PySem.Expr.ListComp (PySem.Expr.Call (PySem.Expr.Name (Str.ofString "len") _) _ _ _) _ _ _) _) _ _ _); k_dflt (refine LCg.ListComp_U (F₀ := by k_asm) (by with_unfolding_all rfl) (by decide) (by rfl) (by decide) (by rfl) ?_)) | ((with_reducible show wpAny _ _ (eval (PySem.Expr.ListComp (PySem.Expr.Call (PySem.Expr.Attribute _ (Str.ofString "count") _) _ _ _) _ _ _) _) _ _ _); refine stopHere ?_) | ((with_reducible show wpAny _ _ (eval (PySem.Expr.ListComp (PySem.Expr.Call (PySem.Expr.Name (Str.ofString "countOf") _) _ _ _) _ _ _) _) _ _ _); refine stopHere ?_) | ((with_reducible show wpAny _ _ (subscriptTail _ _ (Value.ref _) (Value.int _ _)) _ _ _); k_dflt (refine item_tupleT (by exact News.isTup (by k_asm) (by k_mem)) (by decide) (by decide) (by rfl) (by rfl) ?_)) | ((first | (with_reducible show wpAny _ _ (eval (PySem.Expr.Name (Str.ofString "word") _) (compEnvC _ _ _ _)) _ _ _) | (with_reducible show wpAny _ _ (eval (PySem.Expr.Name (Str.ofString "sign") _) (compEnvC _ _ _ _)) _ _ _)); k_dflt (refine LCgL.ld_own (by k_asm) (by k_mem) (by assumption) (by assumption) ?_)) | ((with_reducible show wpAny _ _ (eval (PySem.Expr.Name (Str.ofString "countOf") _) (compEnvC _ _ _ _)) _ _ _); k_dflt (refine LCgL.ld_global (by k_asm) (by k_asm) (by k_asm) (by k_is) ?_)) | ((first | (with_reducible show wpAny _ _ (eval (PySem.Expr.Name (Str.ofString "len") _) (compEnvC _ _ _ _)) _ _ _) | (with_reducible show wpAny _ _ (eval (PySem.Expr.Name (Str.ofString "sum") _) (compEnvC _ _ _ _)) _ _ _)); k_dflt (refine LCgL.ld_built (by k_asm) (by k_asm) (by k_asm) (by k_is) (by boot_by_name) (by decide) ?_)) | ((with_reducible show wpAny _ _ (call (Value.ref _) _) _ _ _); refine opqQ ?_; intro Q5 hQ5; refine callS (prepared_spec _ _ _) ?_ (by ((try dsimp only); (try simp only [Str.length_append]); (try simp only [show ∀ c : Nat, (⟨#[c]⟩ : Str).length = 1 from fun _ => rfl]); omega)); intro v9 new9 h9 tk9 hR9 st9 F9 N9 N10; (obtain ⟨t9, e9, e8⟩ := hR9; subst e9 e8); (try simp only [List.nil_append, List.cons_append] at N10); (try k_sweep); refine finQ hQ5 ?_; clear hQ5; clear Q5; (try dsimp only)) | ((with_reducible show wpAny _ _ (call (Value.ref _) _) _ _ _); refine opqQ ?_; intro Q5 hQ5; refine callS (concat_spec _ _ _ _ _) ?_ (by ((try dsimp only); (try simp only [Str.length_append]); (try simp only [show ∀ c : Nat, (⟨#[c]⟩ : Str).length = 1 from fun _ => rfl]); omega)); intro v9 new9 h9 tk9 hR9 st9 F9 N9 N10; (obtain ⟨t9, e9, e8⟩ := hR9; subst e9 e8); (try simp only [List.nil_append, List.cons_append] at N10); (try k_sweep); refine finQ hQ5 ?_; clear hQ5; clear Q5; (try dsimp only)) | ((with_reducible show wpAny _ _ (call (Value.builtin "str.join") _) _ _ _); (k_dflt (refine joinE (by is_list) (by first | with_reducible assumption | assumption) (by decide +kernel) (by with_reducible assumption) (by with_reducible assumption) ?_)); intro _ _) | ((with_reducible show wpAny _ _ (eval (PySem.Expr.ListComp (PySem.Expr.Subscript _ _ _) _ _ _) _) _ _ _); k_dflt (refine LCg.ListComp_U (F₀ := by k_asm) (by with_unfolding_all rfl) (by decide) (by rfl) (by decide) (by rfl) ?_)) | (with_reducible refine Mine.toksE ?_; intro _) | (k_unfold; (try dsimp only)) | (k_end; wrow_close) | walk1 | (dsimp only; walk1) | (leave1; (try dsimp only))))
  unfold Stop
  rename News _ _ _ _ => NX
  have NX1 := news_erase 0 (news_erase 0 (news_erase 0 NX))
  simp only [List.eraseIdx_cons_zero] at NX1
  clear NX hz hS10 w10 e10
  have ltl : (⟨(W0 ++ (W1 ++ W2)).toArray⟩ : Str).length ≤ 14 := by show (W0 ++ (W1 ++ W2)).toArray.size ≤ 14; simp; omega
  refine ListComp_S (by k_asm) (by with_unfolding_all rfl) (by decide) (by rfl) (by decide) (by rfl) ?_
  (repeat' (first | ((with_reducible show Mine.Fnm _); exact hEnd _ _ _ (by first | with_reducible assumption | assumption)) | ((first | (with_reducible show wpAny _ _ (eval (PySem.Expr.Name (Str.ofString "word") _) (compEnvC _ _ _ _)) _ _ _) | (with_reducible show wpAny _ _ (eval (PySem.Expr.Name (Str.ofString "sign") _) (compEnvC _ _ _ _)) _ _ _)); k_dflt (refine LCgL.ld_own (by k_asm) (by k_mem) (by assumption) (by assumption) ?_)) | ((with_reducible show wpAny _ _ (eval (PySem.Expr.Name (Str.ofString "countOf") _) (compEnvC _ _ _ _)) _ _ _); k_dflt (refine LCgL.ld_global (by k_asm) (by k_asm) (by k_asm) (by k_is) ?_)) | ((first | (with_reducible show wpAny _ _ (eval (PySem.Expr.Name (Str.ofString "len") _) (compEnvC _ _ _ _)) _ _ _) | (with_reducible show wpAny _ _ (eval (PySem.Expr.Name (Str.ofString "sum") _) (compEnvC _ _ _ _)) _ _ _)); k_dflt (refine LCgL.ld_built (by k_asm) (by k_asm) (by k_asm) (by k_is) (by boot_by_name) (by decide) ?_)) | ((with_reducible show wpAny _ _ (call (Value.ref _) _) _ _ _); refine opqQ ?_; intro Q5 hQ5; refine callS (prepared_spec _ _ _) ?_ (by ((try dsimp only); (try simp only [Str.length_append]); (try simp only [show ∀ c : Nat, (⟨#[c]⟩ : Str).length = 1 from fun _ => rfl]); omega)); intro v9 new9 h9 tk9 hR9 st9 F9 N9 N10; (obtain ⟨t9, e9, e8⟩ := hR9; subst e9 e8); (try simp only [List.nil_append, List.cons_append] at N10); (try k_sweep); refine finQ hQ5 ?_; clear hQ5; clear Q5; (try dsimp only)) | ((with_reducible show wpAny _ _ (call (Value.ref _) _) _ _ _); refine opqQ ?_; intro Q5 hQ5; refine callS (concat_spec _ _ _ _ _) ?_ (by ((try dsimp only); (try simp only [Str.length_append]); (try simp only [show ∀ c : Nat, (⟨#[c]⟩ : Str).length = 1 from fun _ => rfl]); omega)); intro v9 new9 h9 tk9 hR9 st9 F9 N9 N10; (obtain ⟨t9, e9, e8⟩ := hR9; subst e9 e8); (try simp only [List.nil_append, List.cons_append] at N10); (try k_sweep); refine finQ hQ5 ?_; clear hQ5; clear Q5; (try dsimp only)) | (with_reducible refine Mine.toksE ?_; intro _) | (k_unfold; (try dsimp only)) | (k_end; wrow_close) | walk1 | (dsimp only; walk1) | (leave1; (try dsimp only))))
  unfold Stop
  refine ⟨_, _, 1, _, fun pre ys => IntsAre ys (pre.map fun n => countF (W0 ++ (W1 ++ W2)) ⟨#[n]⟩), rfl, by exact rfl, by exact Nat.le_of_ble_eq_true rfl, by (try dsimp only); omega, by k_asm, NX1, .nil, ?turns_s6, ?fin_s6⟩
  case turns_s6 =>
    intro pre n post t9 I9 oI9 C9 oC9 D9 m9 ys9 h9 tk9 E9 e9 G9 l9 ht1 ht2 hC9 hx9 F9 N9 off9 ne9
    (repeat' (first | ((with_reducible show Mine.Fnm _); exact hEnd _ _ _ (by first | with_reducible assumption | assumption)) | ((first | (with_reducible show wpAny _ _ (eval (PySem.Expr.Name (Str.ofString "word") _) (compEnvC _ _ _ _)) _ _ _) | (with_reducible show wpAny _ _ (eval (PySem.Expr.Name (Str.ofString "sign") _) (compEnvC _ _ _ _)) _ _ _)); k_dflt (refine LCgL.ld_own (by k_asm) (by k_mem) (by assumption) (by assumption) ?_)) | ((with_reducible show wpAny _ _ (eval (PySem.Expr.Name (Str.ofString "countOf") _) (compEnvC _ _ _ _)) _ _ _); k_dflt (refine LCgL.ld_global (by k_asm) (by k_asm) (by k_asm) (by k_is) ?_)) | ((first | (with_reducible show wpAny _ _ (eval (PySem.Expr.Name (Str.ofString "len") _) (compEnvC _ _ _ _)) _ _ _) | (with_reducible show wpAny _ _ (eval (PySem.Expr.Name (Str.ofString "sum") _) (compEnvC _ _ _ _)) _ _ _)); k_dflt (refine LCgL.ld_built (by k_asm) (by k_asm) (by k_asm) (by k_is) (by boot_by_name) (by decide) ?_)) | ((with_reducible show wpAny _ _ (call (Value.ref _) _) _ _ _); refine opqQ ?_; intro Q5 hQ5; refine callS (prepared_spec _ _ _) ?_ (by ((try dsimp only); (try simp only [Str.length_append]); (try simp only [show ∀ c : Nat, (⟨#[c]⟩ : Str).length = 1 from fun _ => rfl]); omega)); intro v9 new9 h9 tk9 hR9 st9 F9 N9 N10; (obtain ⟨t9, e9, e8⟩ := hR9; subst e9 e8); (try simp only [List.nil_append, List.cons_append] at N10); (try k_sweep); refine finQ hQ5 ?_; clear hQ5; clear Q5; (try dsimp only)) | ((with_reducible show wpAny _ _ (call (Value.ref _) _) _ _ _); refine opqQ ?_; intro Q5 hQ5; refine callS (concat_spec _ _ _ _ _) ?_ (by ((try dsimp only); (try simp only [Str.length_append]); (try simp only [show ∀ c : Nat, (⟨#[c]⟩ : Str).length = 1 from fun _ => rfl]); omega)); intro v9 new9 h9 tk9 hR9 st9 F9 N9 N10; (obtain ⟨t9, e9, e8⟩ := hR9; subst e9 e8); (try simp only [List.nil_append, List.cons_append] at N10); (try k_sweep); refine finQ hQ5 ?_; clear hQ5; clear Q5; (try dsimp only)) | (with_reducible refine Mine.toksE ?_; intro _) | (k_unfold; (try dsimp only)) | (k_end; wrow_close) | walk1 | (dsimp only; walk1) | (leave1; (try dsimp only))))
    unfold Stop
    refine opqQ ?_
    intro Q5 hQ5
    refine' (countOf_spec _ _ _ _ _) _ _ _ _ _ _ _ _ _ _ _ _ _ _ _ _ _ _ _ _ _ _ _ _ _ _ ?k1_s6 ?k2_s6 ?k3_s6 ?k4_s6 ?k5_s6 ?k6_s6 ?k7_s6 ?k8_s6 ?_
    case k5_s6 => first | exact rfl | assumption
    case k1_s6 => k_asm
    case k2_s6 => k_asm
    case k3_s6 => k_asm
    case k4_s6 => k_asm
    case k7_s6 => ktr_room
    case k8_s6 => ktr_units
    case k6_s6 => exact ⟨by have := leN ht1; show @Ne Nat t9 0; omega, ltN ht2, by (try dsimp only); omega⟩
    intro v9 new9 h9 tk9 hR9 st9 F9 N9 ht9
    obtain ⟨t10, e10, e11⟩ := hR9; subst e10 e11
    have N10 := Mine.news_grow (by first | with_reducible assumption | assumption) st9 N9
    (try simp only [List.nil_append, List.cons_append] at N10)
    (try k_sweep)
    refine finQ hQ5 ?_
    clear hQ5
    clear Q5
    (try dsimp only)
    exact EndC.mk (by have := leN ht1; have := ltN ht2; have := leN ht9; (try dsimp only); omega) (by k_asm) N10 (fun _ h => h) (by (try dsimp only); rw [List.map_append]; exact ints_snocV G9)
  intro ys9 D9 h9 tk9 G9 htk F9 N9 off9
  refine hide ?_
  intro G5 hG5
  obtain ⟨f0, f1, f2, f3, f4, _⟩ := off9
  refine hG5 ?_
  clear hG5
  clear G5
  dsimp only at f0 f1 f2 f3 f4
  (repeat' (first | ((with_reducible show Mine.Fnm _); exact hEnd _ _ _ (by first | with_reducible assumption | assumption)) | ((first | (with_reducible show wpAny _ _ (eval (PySem.Expr.Name (Str.ofString "word") _) (compEnvC _ _ _ _)) _ _ _) | (with_reducible show wpAny _ _ (eval (PySem.Expr.Name (Str.ofString "sign") _) (compEnvC _ _ _ _)) _ _ _)); k_dflt (refine LCgL.ld_own (by k_asm) (by k_mem) (by assumption) (by assumption) ?_)) | ((with_reducible show wpAny _ _ (eval (PySem.Expr.Name (Str.ofString "countOf") _) (compEnvC _ _ _ _)) _ _ _); k_dflt (refine LCgL.ld_global (by k_asm) (by k_asm) (by k_asm) (by k_is) ?_)) | ((first | (with_reducible show wpAny _ _ (eval (PySem.Expr.Name (Str.ofString "len") _) (compEnvC _ _ _ _)) _ _ _) | (with_reducible show wpAny _ _ (eval (PySem.Expr.Name (Str.ofString "sum") _) (compEnvC _ _ _ _)) _ _ _)); k_dflt (refine LCgL.ld_built (by k_asm) (by k_asm) (by k_asm) (by k_is) (by boot_by_name) (by decide) ?_)) | ((with_reducible show wpAny _ _ (call (Value.ref _) _) _ _ _); refine opqQ ?_; intro Q5 hQ5; refine callS (prepared_spec _ _ _) ?_ (by ((try dsimp only); (try simp only [Str.length_append]); (try simp only [show ∀ c : Nat, (⟨#[c]⟩ : Str).length = 1 from fun _ => rfl]); omega)); intro v9 new9 h9 tk9 hR9 st9 F9 N9 N10; (obtain ⟨t9, e9, e8⟩ := hR9; subst e9 e8); (try simp only [List.nil_append, List.cons_append] at N10); (try k_sweep); refine finQ hQ5 ?_; clear hQ5; clear Q5; (try dsimp only)) | ((with_reducible show wpAny _ _ (call (Value.ref _) _) _ _ _); refine opqQ ?_; intro Q5 hQ5; refine callS (concat_spec _ _ _ _ _) ?_ (by ((try dsimp only); (try simp only [Str.length_append]); (try simp only [show ∀ c : Nat, (⟨#[c]⟩ : Str).length = 1 from fun _ => rfl]); omega)); intro v9 new9 h9 tk9 hR9 st9 F9 N9 N10; (obtain ⟨t9, e9, e8⟩ := hR9; subst e9 e8); (try simp only [List.nil_append, List.cons_append] at N10); (try k_sweep); refine finQ hQ5 ?_; clear hQ5; clear Q5; (try dsimp only)) | (with_reducible refine Mine.toksE ?_; intro _) | (k_unfold; (try dsimp only)) | (k_end; wrow_close) | walk1 | (dsimp only; walk1) | (leave1; (try dsimp only))))
  unfold Stop
  refine ksk_rev (b := true) (by k_asm) N9 (by is_list) G9 (by rw [List.length_map]; decide +kernel) ?_
  intro D10 vo ours cn10 h10 F10 N10 l10 io eo po oo _
  rw [show (Str.ofString "kstvι").cps.toList = L5 by decide +kernel] at po eo
  rw [List.length_map] at eo
  replace eo : ours.length = 5 := eo
  replace oo : ours.Pairwise (fun x y => y ≤ x) := by simpa using oo
  have l11 := allLt_of l10
  clear l10
  refine hide ?_
  intro G5 hG5
  obtain ⟨l12, l13, l14, l15, l16, l17, _⟩ := l11
  refine hG5 ?_
  clear hG5
  clear G5
  dsimp only at l12 l13 l14 l15 l16 l17
  have N11 := news_erase 1 N10
  simp only [List.eraseIdx_cons_zero, List.eraseIdx_cons_succ] at N11
  obtain ⟨m_F10k, F10k⟩ := fr_only1 (x1 := Str.ofString "words") F10 rfl
  clear F10
  clear N10 N9 F9 f0 f1 f2 f3 f4 l12
  (repeat' (first | ((with_reducible show Mine.Fnm _); exact hEnd _ _ _ (by first | with_reducible assumption | assumption)) | ((first | (with_reducible show wpAny _ _ (eval (PySem.Expr.Name (Str.ofString "word") _) (compEnvC _ _ _ _)) _ _ _) | (with_reducible show wpAny _ _ (eval (PySem.Expr.Name (Str.ofString "sign") _) (compEnvC _ _ _ _)) _ _ _)); k_dflt (refine LCgL.ld_own (by k_asm) (by k_mem) (by assumption) (by assumption) ?_)) | ((with_reducible show wpAny _ _ (eval (PySem.Expr.Name (Str.ofString "countOf") _) (compEnvC _ _ _ _)) _ _ _); k_dflt (refine LCgL.ld_global (by k_asm) (by k_asm) (by k_asm) (by k_is) ?_)) | ((first | (with_reducible show wpAny _ _ (eval (PySem.Expr.Name (Str.ofString "len") _) (compEnvC _ _ _ _)) _ _ _) | (with_reducible show wpAny _ _ (eval (PySem.Expr.Name (Str.ofString "sum") _) (compEnvC _ _ _ _)) _ _ _)); k_dflt (refine LCgL.ld_built (by k_asm) (by k_asm) (by k_asm) (by k_is) (by boot_by_name) (by decide) ?_)) | ((with_reducible show wpAny _ _ (call (Value.ref _) _) _ _ _); refine opqQ ?_; intro Q5 hQ5; refine callS (prepared_spec _ _ _) ?_ (by ((try dsimp only); (try simp only [Str.length_append]); (try simp only [show ∀ c : Nat, (⟨#[c]⟩ : Str).length = 1 from fun _ => rfl]); omega)); intro v9 new9 h9 tk9 hR9 st9 F9 N9 N10; (obtain ⟨t9, e9, e8⟩ := hR9; subst e9 e8); (try simp only [List.nil_append, List.cons_append] at N10); (try k_sweep); refine finQ hQ5 ?_; clear hQ5; clear Q5; (try dsimp only)) | ((with_reducible show wpAny _ _ (call (Value.ref _) _) _ _ _); refine opqQ ?_; intro Q5 hQ5; refine callS (concat_spec _ _ _ _ _) ?_ (by ((try dsimp only); (try simp only [Str.length_append]); (try simp only [show ∀ c : Nat, (⟨#[c]⟩ : Str).length = 1 from fun _ => rfl]); omega)); intro v9 new9 h9 tk9 hR9 st9 F9 N9 N10; (obtain ⟨t9, e9, e8⟩ := hR9; subst e9 e8); (try simp only [List.nil_append, List.cons_append] at N10); (try k_sweep); refine finQ hQ5 ?_; clear hQ5; clear Q5; (try dsimp only)) | (with_reducible refine Mine.toksE ?_; intro _) | (k_unfold; (try dsimp only)) | (k_end; wrow_close) | walk1 | (dsimp only; walk1) | (leave1; (try dsimp only))))
  unfold Stop
  rename News _ _ _ _ => NR
  rename IsRange _ _ 1 6 _ _ _ _ => RG
  refine LCg.CompSrc.range (n := 5) (by exact rfl) (by k_asm) NR RG (by decide) (by decide) (by exact Nat.le_of_ble_eq_true rfl) ?_
  intro g9
  refine compS (ks := ([1, 2, 3, 4, 5] : List Int)) (fun k v => ∃ t, v = .int k t) (fun k y => ∃ t, y = .int ((tallyI [] [W0.length, W1.length, W2.length]).drop k.toNat).sum t) rfl (fun i v hi ⟨t, ht⟩ => ?idx_s7) ?turn_s7 ?_
  case idx_s7 =>
    subst ht
    have : i = 0 ∨ i = 1 ∨ i = 2 ∨ i = 3 ∨ i = 4 := (by decide : ∀ j < 5, j = 0 ∨ j = 1 ∨ j = 2 ∨ j = 3 ∨ j = 4) i hi
    rcases this with rfl | rfl | rfl | rfl | rfl <;> exact ⟨_, rfl, _, rfl⟩
  case turn_s7 =>
    rintro k9 v9 I9 oI9 C9 oC9 D9 m9 ys9 h8 tk8 E9 hk9 ⟨t9, rfl⟩ hC9 hx9 F8 N8 off8 ne8
    have kb9 : 1 ≤ k9 ∧ k9 ≤ 5 := (by decide : ∀ k ∈ ([1, 2, 3, 4, 5] : List Int), 1 ≤ k ∧ k ≤ 5) k9 hk9
    clear hk9
    obtain ⟨kb1, kb2⟩ := kb9
    obtain ⟨a9, rfl⟩ : ∃ a : Nat, k9 = a := ⟨k9.toNat, by omega⟩
    have cl2 : 2 ≤ cv.length := by
      have := tally_pos W0.length [W1.length, W2.length]
      rw [ints_len hcv]
      dsimp only
      omega
    have cl3 : cv.length ≤ 2000 := by rw [ints_len hcv]; exact hcl
    (repeat' (first | ((with_reducible show Mine.Fnm _); exact hEnd _ _ _ (by first | with_reducible assumption | assumption)) | ((with_reducible show wpAny _ _ (eval (PySem.Expr.ListComp (PySem.Expr.Call (PySem.Expr.Name (Str.ofString "len") _) _ _ _) _ _ _) _) _ _ _); k_dflt (refine LCg.ListComp_U (F₀ := by k_asm) (by with_unfolding_all rfl) (by decide) (by rfl) (by decide) (by rfl) ?_)) | ((with_reducible show wpAny _ _ (eval (PySem.Expr.ListComp (PySem.Expr.Call (PySem.Expr.Attribute _ (Str.ofString "count") _) _ _ _) _ _ _) _) _ _ _); refine stopHere ?_) | ((with_reducible show wpAny _ _ (eval (PySem.Expr.ListComp (PySem.Expr.Call (PySem.Expr.Name (Str.ofString "countOf") _) _ _ _) _ _ _) _) _ _ _); refine stopHere ?_) | ((first | (with_reducible show wpAny _ _ (eval (PySem.Expr.Name (Str.ofString "word") _) (compEnvC _ _ _ _)) _ _ _) | (with_reducible show wpAny _ _ (eval (PySem.Expr.Name (Str.ofString "sign") _) (compEnvC _ _ _ _)) _ _ _)); k_dflt (refine LCgL.ld_own (by k_asm) (by k_mem) (by assumption) (by assumption) ?_)) | ((with_reducible show wpAny _ _ (eval (PySem.Expr.Name (Str.ofString "countOf") _) (compEnvC _ _ _ _)) _ _ _); k_dflt (refine LCgL.ld_global (by k_asm) (by k_asm) (by k_asm) (by k_is) ?_)) | ((first | (with_reducible show wpAny _ _ (eval (PySem.Expr.Name (Str.ofString "len") _) (compEnvC _ _ _ _)) _ _ _) | (with_reducible show wpAny _ _ (eval (PySem.Expr.Name (Str.ofString "sum") _) (compEnvC _ _ _ _)) _ _ _)); k_dflt (refine LCgL.ld_built (by k_asm) (by k_asm) (by k_asm) (by k_is) (by boot_by_name) (by decide) ?_)) | ((with_reducible show wpAny _ _ (eval (PySem.Expr.ListComp (PySem.Expr.Subscript _ _ _) _ _ _) _) _ _ _); k_dflt (refine LCg.ListComp_U (F₀ := by k_asm) (by with_unfolding_all rfl) (by decide) (by rfl) (by decide) (by rfl) ?_)) | (with_reducible refine Mine.toksE ?_; intro _) | (k_unfold; (try dsimp only)) | (k_end; wrow_close) | walk1 | (dsimp only; walk1) | (leave1; (try dsimp only))))
    unfold Stop
    refine slice_tuple_tail (s := ⟨_, _, _, _, _⟩) (by k_asm) (by k_asm) (News.isTup (by k_asm) (by k_mem)) (by rw [List.size_toArray]; omega) (by omega) ?_ (hsz := ?sz_s7)
    case sz_s7 => rw [sizeLine_eq, List.size_toArray]; omega
    intro h7 F7 N7
    (repeat' (first | ((with_reducible show Mine.Fnm _); exact hEnd _ _ _ (by first | with_reducible assumption | assumption)) | ((with_reducible show wpAny _ _ (eval (PySem.Expr.ListComp (PySem.Expr.Call (PySem.Expr.Name (Str.ofString "len") _) _ _ _) _ _ _) _) _ _ _); k_dflt (refine LCg.ListComp_U (F₀ := by k_asm) (by with_unfolding_all rfl) (by decide) (by rfl) (by decide) (by rfl) ?_)) | ((with_reducible show wpAny _ _ (eval (PySem.Expr.ListComp (PySem.Expr.Call (PySem.Expr.Attribute _ (Str.ofString "count") _) _ _ _) _ _ _) _) _ _ _); refine stopHere ?_) | ((with_reducible show wpAny _ _ (eval (PySem.Expr.ListComp (PySem.Expr.Call (PySem.Expr.Name (Str.ofString "countOf") _) _ _ _) _ _ _) _) _ _ _); refine stopHere ?_) | ((first | (with_reducible show wpAny _ _ (eval (PySem.Expr.Name (Str.ofString "word") _) (compEnvC _ _ _ _)) _ _ _) | (with_reducible show wpAny _ _ (eval (PySem.Expr.Name (Str.ofString "sign") _) (compEnvC _ _ _ _)) _ _ _)); k_dflt (refine LCgL.ld_own (by k_asm) (by k_mem) (by assumption) (by assumption) ?_)) | ((with_reducible show wpAny _ _ (eval (PySem.Expr.Name (Str.ofString "countOf") _) (compEnvC _ _ _ _)) _ _ _); k_dflt (refine LCgL.ld_global (by k_asm) (by k_asm) (by k_asm) (by k_is) ?_)) | ((first | (with_reducible show wpAny _ _ (eval (PySem.Expr.Name (Str.ofString "len") _) (compEnvC _ _ _ _)) _ _ _) | (with_reducible show wpAny _ _ (eval (PySem.Expr.Name (Str.ofString "sum") _) (compEnvC _ _ _ _)) _ _ _)); k_dflt (refine LCgL.ld_built (by k_asm) (by k_asm) (by k_asm) (by k_is) (by boot_by_name) (by decide) ?_)) | ((with_reducible show wpAny _ _ (eval (PySem.Expr.ListComp (PySem.Expr.Subscript _ _ _) _ _ _) _) _ _ _); k_dflt (refine LCg.ListComp_U (F₀ := by k_asm) (by with_unfolding_all rfl) (by decide) (by rfl) (by decide) (by rfl) ?_)) | (with_reducible refine Mine.toksE ?_; intro _) | (k_unfold; (try dsimp only)) | (k_end; wrow_close) | walk1 | (dsimp only; walk1) | (leave1; (try dsimp only))))
    unfold Stop
    refine ktm_sumK (vs := cv.drop a9) (by exact rfl) (by k_asm) N7 (.head _) (ints_drop hcv a9) ?_
    intro h6 tk6 t6 F6 N6
    exact LCg.CompEnd.intro (by k_asm) N6 _ (fun _ h => .tail _ h) off8 trivial ⟨rfl, _, rfl⟩
  intro yth hr9 Dth h8 tk8 F8 N8 off8
  have hth := hr9.ints
  clear hr9
  obtain ⟨m_F8k, F8k⟩ := fr_only3 (x1 := Str.ofString "theirs") (x2 := Str.ofString "ours") (x3 := Str.ofString "words") F8 rfl rfl rfl (by decide) (by decide) (by decide)
  clear F8
  refine hide ?_
  intro G5 hG5
  obtain ⟨f0, f1, f2, f3, f4, f5, _⟩ := off8
  refine hG5 ?_
  clear hG5
  clear G5
  dsimp only at f0 f1 f2 f3 f4 f5
  (repeat' (first | ((with_reducible show Mine.Fnm _); exact hEnd _ _ _ (by first | with_reducible assumption | assumption)) | ((with_reducible show wpAny _ _ (eval (PySem.Expr.ListComp (PySem.Expr.Call (PySem.Expr.Name (Str.ofString "len") _) _ _ _) _ _ _) _) _ _ _); k_dflt (refine LCg.ListComp_U (F₀ := by k_asm) (by with_unfolding_all rfl) (by decide) (by rfl) (by decide) (by rfl) ?_)) | ((with_reducible show wpAny _ _ (eval (PySem.Expr.ListComp (PySem.Expr.Call (PySem.Expr.Attribute _ (Str.ofString "count") _) _ _ _) _ _ _) _) _ _ _); refine stopHere ?_) | ((with_reducible show wpAny _ _ (eval (PySem.Expr.ListComp (PySem.Expr.Call (PySem.Expr.Name (Str.ofString "countOf") _) _ _ _) _ _ _) _) _ _ _); refine stopHere ?_) | ((first | (with_reducible show wpAny _ _ (eval (PySem.Expr.Name (Str.ofString "word") _) (compEnvC _ _ _ _)) _ _ _) | (with_reducible show wpAny _ _ (eval (PySem.Expr.Name (Str.ofString "sign") _) (compEnvC _ _ _ _)) _ _ _)); k_dflt (refine LCgL.ld_own (by k_asm) (by k_mem) (by assumption) (by assumption) ?_)) | ((with_reducible show wpAny _ _ (eval (PySem.Expr.Name (Str.ofString "countOf") _) (compEnvC _ _ _ _)) _ _ _); k_dflt (refine LCgL.ld_global (by k_asm) (by k_asm) (by k_asm) (by k_is) ?_)) | ((first | (with_reducible show wpAny _ _ (eval (PySem.Expr.Name (Str.ofString "len") _) (compEnvC _ _ _ _)) _ _ _) | (with_reducible show wpAny _ _ (eval (PySem.Expr.Name (Str.ofString "sum") _) (compEnvC _ _ _ _)) _ _ _)); k_dflt (refine LCgL.ld_built (by k_asm) (by k_asm) (by k_asm) (by k_is) (by boot_by_name) (by decide) ?_)) | ((with_reducible show wpAny _ _ (eval (PySem.Expr.ListComp (PySem.Expr.Subscript _ _ _) _ _ _) _) _ _ _); k_dflt (refine LCg.ListComp_U (F₀ := by k_asm) (by with_unfolding_all rfl) (by decide) (by rfl) (by decide) (by rfl) ?_)) | (with_reducible refine Mine.toksE ?_; intro _) | (k_unfold; (try dsimp only)) | (k_end; wrow_close) | walk1 | (dsimp only; walk1) | (leave1; (try dsimp only))))
  unfold Stop
  rename News _ _ _ _ => NV
  refine ListComp_S (by k_asm) (by with_unfolding_all rfl) (by decide) (by rfl) (by decide) (by rfl) ?_
  (repeat' (first | ((with_reducible show Mine.Fnm _); exact hEnd _ _ _ (by first | with_reducible assumption | assumption)) | ((with_reducible show wpAny _ _ (eval (PySem.Expr.ListComp (PySem.Expr.Call (PySem.Expr.Name (Str.ofString "len") _) _ _ _) _ _ _) _) _ _ _); k_dflt (refine LCg.ListComp_U (F₀ := by k_asm) (by with_unfolding_all rfl) (by decide) (by rfl) (by decide) (by rfl) ?_)) | ((with_reducible show wpAny _ _ (eval (PySem.Expr.ListComp (PySem.Expr.Call (PySem.Expr.Attribute _ (Str.ofString "count") _) _ _ _) _ _ _) _) _ _ _); refine stopHere ?_) | ((with_reducible show wpAny _ _ (eval (PySem.Expr.ListComp (PySem.Expr.Call (PySem.Expr.Name (Str.ofString "countOf") _) _ _ _) _ _ _) _) _ _ _); refine stopHere ?_) | ((first | (with_reducible show wpAny _ _ (eval (PySem.Expr.Name (Str.ofString "word") _) (compEnvC _ _ _ _)) _ _ _) | (with_reducible show wpAny _ _ (eval (PySem.Expr.Name (Str.ofString "sign") _) (compEnvC _ _ _ _)) _ _ _)); k_dflt (refine LCgL.ld_own (by k_asm) (by k_mem) (by assumption) (by assumption) ?_)) | ((with_reducible show wpAny _ _ (eval (PySem.Expr.Name (Str.ofString "countOf") _) (compEnvC _ _ _ _)) _ _ _); k_dflt (refine LCgL.ld_global (by k_asm) (by k_asm) (by k_asm) (by k_is) ?_)) | ((first | (with_reducible show wpAny _ _ (eval (PySem.Expr.Name (Str.ofString "len") _) (compEnvC _ _ _ _)) _ _ _) | (with_reducible show wpAny _ _ (eval (PySem.Expr.Name (Str.ofString "sum") _) (compEnvC _ _ _ _)) _ _ _)); k_dflt (refine LCgL.ld_built (by k_asm) (by k_asm) (by k_asm) (by k_is) (by boot_by_name) (by decide) ?_)) | ((with_reducible show wpAny _ _ (call (Value.ref _) _) _ _ _); refine opqQ ?_; intro Q5 hQ5; refine callS (prepared_spec _ _ _) ?_ (by ((try dsimp only); (try simp only [Str.length_append]); (try simp only [show ∀ c : Nat, (⟨#[c]⟩ : Str).length = 1 from fun _ => rfl]); omega)); intro v9 new9 h9 tk9 hR9 st9 F9 N9 N10; (obtain ⟨t9, e9, e8⟩ := hR9; subst e9 e8); (try simp only [List.nil_append, List.cons_append] at N10); (try k_sweep); refine finQ hQ5 ?_; clear hQ5; clear Q5; (try dsimp only)) | ((with_reducible show wpAny _ _ (call (Value.ref _) _) _ _ _); refine opqQ ?_; intro Q5 hQ5; refine callS (concat_spec _ _ _ _ _) ?_ (by ((try dsimp only); (try simp only [Str.length_append]); (try simp only [show ∀ c : Nat, (⟨#[c]⟩ : Str).length = 1 from fun _ => rfl]); omega)); intro v9 new9 h9 tk9 hR9 st9 F9 N9 N10; (obtain ⟨t9, e9, e8⟩ := hR9; subst e9 e8); (try simp only [List.nil_append, List.cons_append] at N10); (try k_sweep); refine finQ hQ5 ?_; clear hQ5; clear Q5; (try dsimp only)) | ((with_reducible show wpAny _ _ (eval (PySem.Expr.ListComp (PySem.Expr.Subscript _ _ _) _ _ _) _) _ _ _); k_dflt (refine LCg.ListComp_U (F₀ := by k_asm) (by with_unfolding_all rfl) (by decide) (by rfl) (by decide) (by rfl) ?_)) | (with_reducible refine Mine.toksE ?_; intro _) | (k_unfold; (try dsimp only)) | (k_end; wrow_close) | walk1 | (dsimp only; walk1) | (leave1; (try dsimp only))))
  unfold Stop
  refine ⟨_, _, 0, _, fun pre ys => IntsAre ys (pre.map fun n => Txt.count (meantF kes) ⟨#[n]⟩), rfl, by exact rfl, by exact Nat.le_of_ble_eq_true rfl, Nat.zero_le _, by k_asm, NV, .nil, ?turns_s8, ?fin_s8⟩
  case turns_s8 =>
    intro pre n post t9 I9 oI9 C9 oC9 D9 m9 ys9 h9 tk9 E9 e9 G9 l9 ht1 ht2 hC9 hx9 F9 N9 off9 ne9
    (repeat' (first | ((with_reducible show Mine.Fnm _); exact hEnd _ _ _ (by first | with_reducible assumption | assumption)) | ((with_reducible show wpAny _ _ (eval (PySem.Expr.ListComp (PySem.Expr.Call (PySem.Expr.Name (Str.ofString "len") _) _ _ _) _ _ _) _) _ _ _); k_dflt (refine LCg.ListComp_U (F₀ := by k_asm) (by with_unfolding_all rfl) (by decide) (by rfl) (by decide) (by rfl) ?_)) | ((with_reducible show wpAny _ _ (eval (PySem.Expr.ListComp (PySem.Expr.Call (PySem.Expr.Attribute _ (Str.ofString "count") _) _ _ _) _ _ _) _) _ _ _); refine stopHere ?_) | ((with_reducible show wpAny _ _ (eval (PySem.Expr.ListComp (PySem.Expr.Call (PySem.Expr.Name (Str.ofString "countOf") _) _ _ _) _ _ _) _) _ _ _); refine stopHere ?_) | ((first | (with_reducible show wpAny _ _ (eval (PySem.Expr.Name (Str.ofString "word") _) (compEnvC _ _ _ _)) _ _ _) | (with_reducible show wpAny _ _ (eval (PySem.Expr.Name (Str.ofString "sign") _) (compEnvC _ _ _ _)) _ _ _)); k_dflt (refine LCgL.ld_own (by k_asm) (by k_mem) (by assumption) (by assumption) ?_)) | ((with_reducible show wpAny _ _ (eval (PySem.Expr.Name (Str.ofString "countOf") _) (compEnvC _ _ _ _)) _ _ _); k_dflt (refine LCgL.ld_global (by k_asm) (by k_asm) (by k_asm) (by k_is) ?_)) | ((first | (with_reducible show wpAny _ _ (eval (PySem.Expr.Name (Str.ofString "len") _) (compEnvC _ _ _ _)) _ _ _) | (with_reducible show wpAny _ _ (eval (PySem.Expr.Name (Str.ofString "sum") _) (compEnvC _ _ _ _)) _ _ _)); k_dflt (refine LCgL.ld_built (by k_asm) (by k_asm) (by k_asm) (by k_is) (by boot_by_name) (by decide) ?_)) | ((with_reducible show wpAny _ _ (call (Value.ref _) _) _ _ _); refine opqQ ?_; intro Q5 hQ5; refine callS (prepared_spec _ _ _) ?_ (by ((try dsimp only); (try simp only [Str.length_append]); (try simp only [show ∀ c : Nat, (⟨#[c]⟩ : Str).length = 1 from fun _ => rfl]); omega)); intro v9 new9 h9 tk9 hR9 st9 F9 N9 N10; (obtain ⟨t9, e9, e8⟩ := hR9; subst e9 e8); (try simp only [List.nil_append, List.cons_append] at N10); (try k_sweep); refine finQ hQ5 ?_; clear hQ5; clear Q5; (try dsimp only)) | ((with_reducible show wpAny _ _ (call (Value.ref _) _) _ _ _); refine opqQ ?_; intro Q5 hQ5; refine callS (concat_spec _ _ _ _ _) ?_ (by ((try dsimp only); (try simp only [Str.length_append]); (try simp only [show ∀ c : Nat, (⟨#[c]⟩ : Str).length = 1 from fun _ => rfl]); omega)); intro v9 new9 h9 tk9 hR9 st9 F9 N9 N10; (obtain ⟨t9, e9, e8⟩ := hR9; subst e9 e8); (try simp only [List.nil_append, List.cons_append] at N10); (try k_sweep); refine finQ hQ5 ?_; clear hQ5; clear Q5; (try dsimp only)) | ((with_reducible show wpAny _ _ (eval (PySem.Expr.ListComp (PySem.Expr.Subscript _ _ _) _ _ _) _) _ _ _); k_dflt (refine LCg.ListComp_U (F₀ := by k_asm) (by with_unfolding_all rfl) (by decide) (by rfl) (by decide) (by rfl) ?_)) | (with_reducible refine Mine.toksE ?_; intro _) | (k_unfold; (try dsimp only)) | (k_end; wrow_close) | walk1 | (dsimp only; walk1) | (leave1; (try dsimp only))))
    exact EndC.mk (Nat.zero_le _) F9 N9 (fun _ h => h) (by (try dsimp only); rw [List.map_append]; exact ints_snocV G9)
  intro ys7 D7 h7 tk7 G7 htk7 F7 N7 off7
  rw [show (Str.ofString "kstvι").cps.toList = L5 by decide +kernel, meant_amts hW] at G7
  refine hide ?_
  intro G5 hG5
  obtain ⟨g10, g11, g12, g13, g14, g15, g16, _⟩ := off7
  refine hG5 ?_
  clear hG5
  clear G5
  dsimp only at g10 g11 g12 g13 g14 g15 g16
  (repeat' (first | ((with_reducible show Mine.Fnm _); exact hEnd _ _ _ (by first | with_reducible assumption | assumption)) | ((with_reducible show wpAny _ _ (eval (PySem.Expr.ListComp (PySem.Expr.Call (PySem.Expr.Name (Str.ofString "len") _) _ _ _) _ _ _) _) _ _ _); k_dflt (refine LCg.ListComp_U (F₀ := by k_asm) (by with_unfolding_all rfl) (by decide) (by rfl) (by decide) (by rfl) ?_)) | ((with_reducible show wpAny _ _ (eval (PySem.Expr.ListComp (PySem.Expr.Call (PySem.Expr.Attribute _ (Str.ofString "count") _) _ _ _) _ _ _) _) _ _ _); refine stopHere ?_) | ((with_reducible show wpAny _ _ (eval (PySem.Expr.ListComp (PySem.Expr.Call (PySem.Expr.Name (Str.ofString "countOf") _) _ _ _) _ _ _) _) _ _ _); refine stopHere ?_) | ((first | (with_reducible show wpAny _ _ (eval (PySem.Expr.Name (Str.ofString "word") _) (compEnvC _ _ _ _)) _ _ _) | (with_reducible show wpAny _ _ (eval (PySem.Expr.Name (Str.ofString "sign") _) (compEnvC _ _ _ _)) _ _ _)); k_dflt (refine LCgL.ld_own (by k_asm) (by k_mem) (by assumption) (by assumption) ?_)) | ((with_reducible show wpAny _ _ (eval (PySem.Expr.Name (Str.ofString "countOf") _) (compEnvC _ _ _ _)) _ _ _); k_dflt (refine LCgL.ld_global (by k_asm) (by k_asm) (by k_asm) (by k_is) ?_)) | ((first | (with_reducible show wpAny _ _ (eval (PySem.Expr.Name (Str.ofString "len") _) (compEnvC _ _ _ _)) _ _ _) | (with_reducible show wpAny _ _ (eval (PySem.Expr.Name (Str.ofString "sum") _) (compEnvC _ _ _ _)) _ _ _)); k_dflt (refine LCgL.ld_built (by k_asm) (by k_asm) (by k_asm) (by k_is) (by boot_by_name) (by decide) ?_)) | ((with_reducible show wpAny _ _ (call (Value.ref _) _) _ _ _); refine opqQ ?_; intro Q5 hQ5; refine callS (prepared_spec _ _ _) ?_ (by ((try dsimp only); (try simp only [Str.length_append]); (try simp only [show ∀ c : Nat, (⟨#[c]⟩ : Str).length = 1 from fun _ => rfl]); omega)); intro v9 new9 h9 tk9 hR9 st9 F9 N9 N10; (obtain ⟨t9, e9, e8⟩ := hR9; subst e9 e8); (try simp only [List.nil_append, List.cons_append] at N10); (try k_sweep); refine finQ hQ5 ?_; clear hQ5; clear Q5; (try dsimp only)) | ((with_reducible show wpAny _ _ (call (Value.ref _) _) _ _ _); refine opqQ ?_; intro Q5 hQ5; refine callS (concat_spec _ _ _ _ _) ?_ (by ((try dsimp only); (try simp only [Str.length_append]); (try simp only [show ∀ c : Nat, (⟨#[c]⟩ : Str).length = 1 from fun _ => rfl]); omega)); intro v9 new9 h9 tk9 hR9 st9 F9 N9 N10; (obtain ⟨t9, e9, e8⟩ := hR9; subst e9 e8); (try simp only [List.nil_append, List.cons_append] at N10); (try k_sweep); refine finQ hQ5 ?_; clear hQ5; clear Q5; (try dsimp only)) | ((with_reducible show wpAny _ _ (eval (PySem.Expr.ListComp (PySem.Expr.Subscript _ _ _) _ _ _) _) _ _ _); k_dflt (refine LCg.ListComp_U (F₀ := by k_asm) (by with_unfolding_all rfl) (by decide) (by rfl) (by decide) (by rfl) ?_)) | (with_reducible refine Mine.toksE ?_; intro _) | (k_unfold; (try dsimp only)) | (k_end; wrow_close) | walk1 | (dsimp only; walk1) | (leave1; (try dsimp only))))
  unfold Stop
  refine KSpl.split1 (by k_asm) (by k_asm) (by decide) ?_ ?sz_s8
  case sz_s8 => rw [sizeLine_eq]; show (meantF kes).length + 2 ≤ _; omega
  intro D8 l8 h12 k8 e8 a8 F12 N12 l9
  rw [split_three hW (L5_ne v0) (L5_ne v1) (L5_ne v2)] at e8
  refine hide ?_
  intro G5 hG5
  obtain ⟨t7, q1, qe1, e10⟩ := KSpl.cons_of e8
  refine hG5 ?_
  clear hG5
  clear G5
  refine hide ?_
  intro G5 hG5
  obtain ⟨t8, q2, qe2, e11⟩ := KSpl.cons_of e10
  refine hG5 ?_
  clear hG5
  clear G5
  refine hide ?_
  intro G5 hG5
  obtain ⟨t9, q3, qe3, e12⟩ := KSpl.cons_of e11
  refine hG5 ?_
  clear hG5
  clear G5
  have qe4 := KSpl.nil_of e12
  subst qe4 qe3 qe2 qe1
  clear e8 e10 e11 e12
  simp only [strValues, List.map_cons, List.map_nil] at N12 a8
  (repeat' (first | ((with_reducible show Mine.Fnm _); exact hEnd _ _ _ (by first | with_reducible assumption | assumption)) | ((with_reducible show wpAny _ _ (eval (PySem.Expr.ListComp (PySem.Expr.Call (PySem.Expr.Name (Str.ofString "len") _) _ _ _) _ _ _) _) _ _ _); k_dflt (refine LCg.ListComp_U (F₀ := by k_asm) (by with_unfolding_all rfl) (by decide) (by rfl) (by decide) (by rfl) ?_)) | ((with_reducible show wpAny _ _ (eval (PySem.Expr.ListComp (PySem.Expr.Call (PySem.Expr.Attribute _ (Str.ofString "count") _) _ _ _) _ _ _) _) _ _ _); refine stopHere ?_) | ((with_reducible show wpAny _ _ (eval (PySem.Expr.ListComp (PySem.Expr.Call (PySem.Expr.Name (Str.ofString "countOf") _) _ _ _) _ _ _) _) _ _ _); refine stopHere ?_) | ((first | (with_reducible show wpAny _ _ (eval (PySem.Expr.Name (Str.ofString "word") _) (compEnvC _ _ _ _)) _ _ _) | (with_reducible show wpAny _ _ (eval (PySem.Expr.Name (Str.ofString "sign") _) (compEnvC _ _ _ _)) _ _ _)); k_dflt (refine LCgL.ld_own (by k_asm) (by k_mem) (by assumption) (by assumption) ?_)) | ((with_reducible show wpAny _ _ (eval (PySem.Expr.Name (Str.ofString "countOf") _) (compEnvC _ _ _ _)) _ _ _); k_dflt (refine LCgL.ld_global (by k_asm) (by k_asm) (by k_asm) (by k_is) ?_)) | ((first | (with_reducible show wpAny _ _ (eval (PySem.Expr.Name (Str.ofString "len") _) (compEnvC _ _ _ _)) _ _ _) | (with_reducible show wpAny _ _ (eval (PySem.Expr.Name (Str.ofString "sum") _) (compEnvC _ _ _ _)) _ _ _)); k_dflt (refine LCgL.ld_built (by k_asm) (by k_asm) (by k_asm) (by k_is) (by boot_by_name) (by decide) ?_)) | ((with_reducible show wpAny _ _ (call (Value.ref _) _) _ _ _); refine opqQ ?_; intro Q5 hQ5; refine callS (prepared_spec _ _ _) ?_ (by ((try dsimp only); (try simp only [Str.length_append]); (try simp only [show ∀ c : Nat, (⟨#[c]⟩ : Str).length = 1 from fun _ => rfl]); omega)); intro v9 new9 h9 tk9 hR9 st9 F9 N9 N10; (obtain ⟨t9, e9, e8⟩ := hR9; subst e9 e8); (try simp only [List.nil_append, List.cons_append] at N10); (try k_sweep); refine finQ hQ5 ?_; clear hQ5; clear Q5; (try dsimp only)) | ((with_reducible show wpAny _ _ (call (Value.ref _) _) _ _ _); refine opqQ ?_; intro Q5 hQ5; refine callS (concat_spec _ _ _ _ _) ?_ (by ((try dsimp only); (try simp only [Str.length_append]); (try simp only [show ∀ c : Nat, (⟨#[c]⟩ : Str).length = 1 from fun _ => rfl]); omega)); intro v9 new9 h9 tk9 hR9 st9 F9 N9 N10; (obtain ⟨t9, e9, e8⟩ := hR9; subst e9 e8); (try simp only [List.nil_append, List.cons_append] at N10); (try k_sweep); refine finQ hQ5 ?_; clear hQ5; clear Q5; (try dsimp only)) | ((with_reducible show wpAny _ _ (eval (PySem.Expr.ListComp (PySem.Expr.Subscript _ _ _) _ _ _) _) _ _ _); k_dflt (refine LCg.ListComp_U (F₀ := by k_asm) (by with_unfolding_all rfl) (by decide) (by rfl) (by decide) (by rfl) ?_)) | (with_reducible refine Mine.toksE ?_; intro _) | (k_unfold; (try dsimp only)) | (k_end; wrow_close) | walk1 | (dsimp only; walk1) | (leave1; (try dsimp only))))
  unfold Stop
  refine LCg.CompSrc.ledger (by exact rfl) (by k_asm) N12 (.head _) (by exact Nat.le_of_ble_eq_true rfl) ?_
  intro g9
  refine compStrs (vs := [_, _, _]) (ks := [⟨W0.toArray⟩, ⟨W1.toArray⟩, ⟨W2.toArray⟩]) (fun x y => ∃ t, y = .int (x.length : Nat) t) (.cons _ _ (.cons _ _ (.cons _ _ .nil))) ?turn_s8 ?_
  case turn_s8 =>
    intro k9 t9 I9 oI9 C9 oC9 D9 m9 ys9 h8 tk8 E9 hk9 hC9 hx9 F8 N8 off8 ne8
    have kl9 : k9.length ≤ 5 := by
      simp only [List.mem_cons, List.not_mem_nil, or_false] at hk9
      rcases hk9 with rfl | rfl | rfl
      · show W0.toArray.size ≤ 5; simp; omega
      · show W1.toArray.size ≤ 5; simp; omega
      · show W2.toArray.size ≤ 5; simp; omega
    clear hk9
    (repeat' (first | ((with_reducible show Mine.Fnm _); exact hEnd _ _ _ (by first | with_reducible assumption | assumption)) | ((with_reducible show wpAny _ _ (eval (PySem.Expr.ListComp (PySem.Expr.Call (PySem.Expr.Name (Str.ofString "len") _) _ _ _) _ _ _) _) _ _ _); k_dflt (refine LCg.ListComp_U (F₀ := by k_asm) (by with_unfolding_all rfl) (by decide) (by rfl) (by decide) (by rfl) ?_)) | ((with_reducible show wpAny _ _ (eval (PySem.Expr.ListComp (PySem.Expr.Call (PySem.Expr.Attribute _ (Str.ofString "count") _) _ _ _) _ _ _) _) _ _ _); refine stopHere ?_) | ((with_reducible show wpAny _ _ (eval (PySem.Expr.ListComp (PySem.Expr.Call (PySem.Expr.Name (Str.ofString "countOf") _) _ _ _) _ _ _) _) _ _ _); refine stopHere ?_) | ((first | (with_reducible show wpAny _ _ (eval (PySem.Expr.Name (Str.ofString "word") _) (compEnvC _ _ _ _)) _ _ _) | (with_reducible show wpAny _ _ (eval (PySem.Expr.Name (Str.ofString "sign") _) (compEnvC _ _ _ _)) _ _ _)); k_dflt (refine LCgL.ld_own (by k_asm) (by k_mem) (by assumption) (by assumption) ?_)) | ((with_reducible show wpAny _ _ (eval (PySem.Expr.Name (Str.ofString "countOf") _) (compEnvC _ _ _ _)) _ _ _); k_dflt (refine LCgL.ld_global (by k_asm) (by k_asm) (by k_asm) (by k_is) ?_)) | ((first | (with_reducible show wpAny _ _ (eval (PySem.Expr.Name (Str.ofString "len") _) (compEnvC _ _ _ _)) _ _ _) | (with_reducible show wpAny _ _ (eval (PySem.Expr.Name (Str.ofString "sum") _) (compEnvC _ _ _ _)) _ _ _)); k_dflt (refine LCgL.ld_built (by k_asm) (by k_asm) (by k_asm) (by k_is) (by boot_by_name) (by decide) ?_)) | ((with_reducible show wpAny _ _ (call (Value.ref _) _) _ _ _); refine opqQ ?_; intro Q5 hQ5; refine callS (prepared_spec _ _ _) ?_ (by ((try dsimp only); (try simp only [Str.length_append]); (try simp only [show ∀ c : Nat, (⟨#[c]⟩ : Str).length = 1 from fun _ => rfl]); omega)); intro v9 new9 h9 tk9 hR9 st9 F9 N9 N10; (obtain ⟨t9, e9, e8⟩ := hR9; subst e9 e8); (try simp only [List.nil_append, List.cons_append] at N10); (try k_sweep); refine finQ hQ5 ?_; clear hQ5; clear Q5; (try dsimp only)) | ((with_reducible show wpAny _ _ (call (Value.ref _) _) _ _ _); refine opqQ ?_; intro Q5 hQ5; refine callS (concat_spec _ _ _ _ _) ?_ (by ((try dsimp only); (try simp only [Str.length_append]); (try simp only [show ∀ c : Nat, (⟨#[c]⟩ : Str).length = 1 from fun _ => rfl]); omega)); intro v9 new9 h9 tk9 hR9 st9 F9 N9 N10; (obtain ⟨t9, e9, e8⟩ := hR9; subst e9 e8); (try simp only [List.nil_append, List.cons_append] at N10); (try k_sweep); refine finQ hQ5 ?_; clear hQ5; clear Q5; (try dsimp only)) | ((with_reducible show wpAny _ _ (eval (PySem.Expr.ListComp (PySem.Expr.Subscript _ _ _) _ _ _) _) _ _ _); k_dflt (refine LCg.ListComp_U (F₀ := by k_asm) (by with_unfolding_all rfl) (by decide) (by rfl) (by decide) (by rfl) ?_)) | (with_reducible refine Mine.toksE ?_; intro _) | (k_unfold; (try dsimp only)) | (k_end; wrow_close) | walk1 | (dsimp only; walk1) | (leave1; (try dsimp only))))
    exact LCg.CompEnd.intro F8 N8 _ (fun _ h => h) off8 (.inr ⟨_, .head _, rfl, _, rfl⟩) ⟨rfl, _, rfl⟩
  intro ys6 hr6 D6 h6 tk6 F6 N6 off6
  refine hide ?_
  intro G5 hG5
  obtain ⟨y1, y2, y3, ye, ⟨t4, ye1⟩, ⟨t5', ye2⟩, ⟨t6', ye3⟩⟩ := rel_three hr6
  refine hG5 ?_
  clear hG5
  clear G5
  subst ye3 ye2 ye1 ye
  clear hr6
  have hal := amts_le (W0 ++ (W1 ++ W2))
  rw [List.length_append, List.length_append] at hal
  (repeat' (first | ((with_reducible show Mine.Fnm _); exact hEnd _ _ _ (by first | with_reducible assumption | assumption)) | ((with_reducible show wpAny _ _ (eval (PySem.Expr.ListComp (PySem.Expr.Call (PySem.Expr.Name (Str.ofString "len") _) _ _ _) _ _ _) _) _ _ _); k_dflt (refine LCg.ListComp_U (F₀ := by k_asm) (by with_unfolding_all rfl) (by decide) (by rfl) (by decide) (by rfl) ?_)) | ((with_reducible show wpAny _ _ (eval (PySem.Expr.ListComp (PySem.Expr.Call (PySem.Expr.Attribute _ (Str.ofString "count") _) _ _ _) _ _ _) _) _ _ _); refine stopHere ?_) | ((with_reducible show wpAny _ _ (eval (PySem.Expr.ListComp (PySem.Expr.Call (PySem.Expr.Name (Str.ofString "countOf") _) _ _ _) _ _ _) _) _ _ _); refine stopHere ?_) | ((first | (with_reducible show wpAny _ _ (eval (PySem.Expr.Name (Str.ofString "word") _) (compEnvC _ _ _ _)) _ _ _) | (with_reducible show wpAny _ _ (eval (PySem.Expr.Name (Str.ofString "sign") _) (compEnvC _ _ _ _)) _ _ _)); k_dflt (refine LCgL.ld_own (by k_asm) (by k_mem) (by assumption) (by assumption) ?_)) | ((with_reducible show wpAny _ _ (eval (PySem.Expr.Name (Str.ofString "countOf") _) (compEnvC _ _ _ _)) _ _ _); k_dflt (refine LCgL.ld_global (by k_asm) (by k_asm) (by k_asm) (by k_is) ?_)) | ((first | (with_reducible show wpAny _ _ (eval (PySem.Expr.Name (Str.ofString "len") _) (compEnvC _ _ _ _)) _ _ _) | (with_reducible show wpAny _ _ (eval (PySem.Expr.Name (Str.ofString "sum") _) (compEnvC _ _ _ _)) _ _ _)); k_dflt (refine LCgL.ld_built (by k_asm) (by k_asm) (by k_asm) (by k_is) (by boot_by_name) (by decide) ?_)) | ((with_reducible show wpAny _ _ (call (Value.ref _) _) _ _ _); refine opqQ ?_; intro Q5 hQ5; refine callS (prepared_spec _ _ _) ?_ (by ((try dsimp only); (try simp only [Str.length_append]); (try simp only [show ∀ c : Nat, (⟨#[c]⟩ : Str).length = 1 from fun _ => rfl]); omega)); intro v9 new9 h9 tk9 hR9 st9 F9 N9 N10; (obtain ⟨t9, e9, e8⟩ := hR9; subst e9 e8); (try simp only [List.nil_append, List.cons_append] at N10); (try k_sweep); refine finQ hQ5 ?_; clear hQ5; clear Q5; (try dsimp only)) | ((with_reducible show wpAny _ _ (call (Value.ref _) _) _ _ _); refine opqQ ?_; intro Q5 hQ5; refine callS (concat_spec _ _ _ _ _) ?_ (by ((try dsimp only); (try simp only [Str.length_append]); (try simp only [show ∀ c : Nat, (⟨#[c]⟩ : Str).length = 1 from fun _ => rfl]); omega)); intro v9 new9 h9 tk9 hR9 st9 F9 N9 N10; (obtain ⟨t9, e9, e8⟩ := hR9; subst e9 e8); (try simp only [List.nil_append, List.cons_append] at N10); (try k_sweep); refine finQ hQ5 ?_; clear hQ5; clear Q5; (try dsimp only)) | ((with_reducible show wpAny _ _ (eval (PySem.Expr.ListComp (PySem.Expr.Subscript _ _ _) _ _ _) _) _ _ _); k_dflt (refine LCg.ListComp_U (F₀ := by k_asm) (by with_unfolding_all rfl) (by decide) (by rfl) (by decide) (by rfl) ?_)) | (with_reducible refine Mine.toksE ?_; intro _) | (k_unfold; (try dsimp only)) | (k_end; wrow_close) | walk1 | (dsimp only; walk1) | (leave1; (try dsimp only))))
  unfold Stop
  refine opqQ ?_
  intro Q5 hQ5
  refine' (deals_spec _ _ _ ys7 ((amts (W0 ++ (W1 ++ W2))).map fun k : Nat => (k : Int)) (W0.length : Nat) (W1.length : Nat) (W2.length : Nat) t4 t5' t6' (by rw [List.length_map]; exact Nat.le_refl _) (fun n hn => by obtain ⟨k, hk, rfl⟩ := List.mem_map.mp hn; have := hal k hk; omega) (by omega) (by omega) (by omega)) _ _ _ _ _ _ _ _ _ _ _ _ _ _ _ _ _ _ _ _ _ _ _ _ _ _ ?k1_s8 ?k2_s8 ?k3_s8 ?k4_s8 ?k5_s8 ?k6_s8 ?k7_s8 ?k8_s8 ?_
  case k5_s8 => first | exact rfl | assumption
  case k1_s8 => k_asm
  case k2_s8 => k_asm
  case k3_s8 => k_asm
  case k4_s8 => k_asm
  case k7_s8 => ktr_room
  case k8_s8 => ktr_units
  case k6_s8 => exact ⟨by is_list, G7, by is_list⟩
  intro v9 new9 h9 tk9 hR9 st9 F9 N9
  obtain ⟨tw, ew, ew2⟩ := hR9; subst ew ew2
  have N10 := Mine.news_grow (by first | with_reducible assumption | assumption) st9 N9
  (try simp only [List.nil_append, List.cons_append] at N10)
  (try k_sweep)
  refine finQ hQ5 ?_
  clear hQ5
  clear Q5
  (try dsimp only)
  have hwy := ways_of (amts (W0 ++ (W1 ++ W2))) (x := W0.length) (y := W1.length) (z := W2.length) (by omega) (by omega) (by omega)
  rw [hwy]
  obtain ⟨m_F9k, F9k⟩ := fr_only3 (x1 := Str.ofString "theirs") (x2 := Str.ofString "ours") (x3 := Str.ofString "words") F9 rfl rfl rfl (by decide) (by decide) (by decide)
  clear F9
  rename News _ _ _ _ => NW
  have NW2 := news_erase 2 (news_erase 0 (news_erase 0 (news_erase 0 NW)))
  simp only [List.eraseIdx_cons_zero, List.eraseIdx_cons_succ] at NW2
  clear NW hcv hcl G7
  rw [ours_amts] at po
  obtain ⟨oN, hoN, pN⟩ := nat_perm po
  subst hoN
  have sN := nat_falls oo
  have lN : oN.length = 5 := by rw [List.length_map] at eo; exact eo
  have mN : sumL oN = W0.length + W1.length + W2.length := by
    rw [sumL_perm pN, amts_sum (fun z hz => by rcases List.mem_append.mp hz with hz | hz; exact v0 z hz; rcases List.mem_append.mp hz with hz | hz; exact v1 z hz; exact v2 z hz), List.length_append, List.length_append]; omega
  have bN : ∀ n ∈ (oN.map fun k : Nat => (k : Int)), 0 ≤ n ∧ n ≤ 100 := fun n hn => by
    obtain ⟨k, hk, rfl⟩ := List.mem_map.mp hn
    have h1 := amts_le _ k (pN.mem_iff.mp hk)
    rw [List.length_append, List.length_append] at h1
    omega
  obtain ⟨th1, th2⟩ := theirs_of (a := W0.length) (b := W1.length) (c := W2.length) ⟨x1, x2⟩ ⟨x3, x4⟩ ⟨x5, x6⟩
  replace hth : IntsAre yth ((theirs (W0.length, W1.length, W2.length)).map fun k : Nat => (k : Int)) := by rw [← th1]; exact hth
  (repeat' (first | ((with_reducible show Mine.Fnm _); exact hEnd _ _ _ (by first | with_reducible assumption | assumption)) | ((with_reducible show wpAny _ _ (call (Value.ref _) _) _ _ _); refine opqQ ?_; intro Q5 hQ5; refine callS (prepared_spec _ _ _) ?_ (by ((try dsimp only); (try simp only [Str.length_append]); (try simp only [show ∀ c : Nat, (⟨#[c]⟩ : Str).length = 1 from fun _ => rfl]); omega)); intro v9 new9 h9 tk9 hR9 st9 F9 N9 N10; (obtain ⟨t9, e9, e8⟩ := hR9; subst e9 e8); (try simp only [List.nil_append, List.cons_append] at N10); (try k_sweep); refine finQ hQ5 ?_; clear hQ5; clear Q5; (try dsimp only)) | ((with_reducible show wpAny _ _ (call (Value.ref _) _) _ _ _); refine opqQ ?_; intro Q5 hQ5; refine callS (concat_spec _ _ _ _ _) ?_ (by ((try dsimp only); (try simp only [Str.length_append]); (try simp only [show ∀ c : Nat, (⟨#[c]⟩ : Str).length = 1 from fun _ => rfl]); omega)); intro v9 new9 h9 tk9 hR9 st9 F9 N9 N10; (obtain ⟨t9, e9, e8⟩ := hR9; subst e9 e8); (try simp only [List.nil_append, List.cons_append] at N10); (try k_sweep); refine finQ hQ5 ?_; clear hQ5; clear Q5; (try dsimp only)) | ((with_reducible show wpAny _ _ (call (Value.builtin "str.join") _) _ _ _); (k_dflt (refine joinE (by is_list) (by first | with_reducible assumption | assumption) (by decide +kernel) (by with_reducible assumption) (by with_reducible assumption) ?_)); intro _ _) | (with_reducible refine Mine.toksE ?_; intro _) | (k_unfold; (try dsimp only)) | (k_end; wrow_close) | walk1 | (dsimp only; walk1) | (leave1; (try dsimp only))))
  unfold Stop
  refine opqQ ?_
  intro Q5 hQ5
  refine' (laid_spec _ _ vo (oN.map fun k : Nat => (k : Int)) (by rw [List.length_map]; omega) bN) _ _ _ _ _ _ _ _ _ _ _ _ _ _ _ _ _ _ _ _ _ _ _ _ _ _ ?k1_s9 ?k2_s9 ?k3_s9 ?k4_s9 ?k5_s9 ?k6_s9 ?k7_s9 ?k8_s9 ?_
  case k5_s9 => first | exact rfl | assumption
  case k1_s9 => k_asm
  case k2_s9 => k_asm
  case k3_s9 => k_asm
  case k4_s9 => k_asm
  case k7_s9 => ktr_room
  case k8_s9 => ktr_units
  case k6_s9 => exact ⟨by is_list, io⟩
  intro v9 new9 h9 tk9 hR9 st9 F9 N9
  obtain ⟨D5, ys5, e5, e5', hS5⟩ := hR9; subst e5 e5'; rw [laid_runs, mN] at hS5
  have N10 := Mine.news_grow (by first | with_reducible assumption | assumption) st9 N9
  (try simp only [List.nil_append, List.cons_append] at N10)
  (try k_sweep)
  refine finQ hQ5 ?_
  clear hQ5
  clear Q5
  (try dsimp only)
  obtain ⟨m_F9k, F9k⟩ := fr_only3 (x1 := Str.ofString "ways") (x2 := Str.ofString "theirs") (x3 := Str.ofString "words") F9 rfl rfl rfl (by decide) (by decide) (by decide)
  clear F9
  have pl5 : ∀ r ∈ Mine.pre (W0.length + W1.length + W2.length) 0 oN, r ≤ 28 := fun r hr => by have := pre_le _ _ _ r hr; rw [mN] at this; omega
  have w5 := runs_wt (l := Mine.pre (W0.length + W1.length + W2.length) 0 oN) (fun r hr => Nat.le_trans (pl5 r hr) (by decide)) (by rw [pre_len]; omega)
  have e5 := join_runs (Mine.pre (W0.length + W1.length + W2.length) 0 oN)
  have z5 := runs_len pl5 (by rw [pre_len]; exact Nat.le_of_eq lN)
  (repeat' (first | ((with_reducible show Mine.Fnm _); exact hEnd _ _ _ (by first | with_reducible assumption | assumption)) | ((with_reducible show wpAny _ _ (call (Value.ref _) _) _ _ _); refine opqQ ?_; intro Q5 hQ5; refine callS (prepared_spec _ _ _) ?_ (by ((try dsimp only); (try simp only [Str.length_append]); (try simp only [show ∀ c : Nat, (⟨#[c]⟩ : Str).length = 1 from fun _ => rfl]); omega)); intro v9 new9 h9 tk9 hR9 st9 F9 N9 N10; (obtain ⟨t9, e9, e8⟩ := hR9; subst e9 e8); (try simp only [List.nil_append, List.cons_append] at N10); (try k_sweep); refine finQ hQ5 ?_; clear hQ5; clear Q5; (try dsimp only)) | ((with_reducible show wpAny _ _ (call (Value.ref _) _) _ _ _); refine opqQ ?_; intro Q5 hQ5; refine callS (concat_spec _ _ _ _ _) ?_ (by ((try dsimp only); (try simp only [Str.length_append]); (try simp only [show ∀ c : Nat, (⟨#[c]⟩ : Str).length = 1 from fun _ => rfl]); omega)); intro v9 new9 h9 tk9 hR9 st9 F9 N9 N10; (obtain ⟨t9, e9, e8⟩ := hR9; subst e9 e8); (try simp only [List.nil_append, List.cons_append] at N10); (try k_sweep); refine finQ hQ5 ?_; clear hQ5; clear Q5; (try dsimp only)) | ((with_reducible show wpAny _ _ (call (Value.builtin "str.join") _) _ _ _); (k_dflt (refine joinE (by is_list) (by first | with_reducible assumption | assumption) (by decide +kernel) (by with_reducible assumption) (by with_reducible assumption) ?_)); intro _ _) | (with_reducible refine Mine.toksE ?_; intro _) | (k_unfold; (try dsimp only)) | (k_end; wrow_close) | walk1 | (dsimp only; walk1) | (leave1; (try dsimp only))))
  unfold Stop
  refine opqQ ?_
  intro Q5 hQ5
  refine' (laid_spec _ _ yth ((theirs (W0.length, W1.length, W2.length)).map fun k : Nat => (k : Int)) (by rw [List.length_map]; exact Nat.le_of_ble_eq_true rfl) (fun n hn => by obtain ⟨k, hk, rfl⟩ := List.mem_map.mp hn; have := theirs_le _ k hk; omega)) _ _ _ _ _ _ _ _ _ _ _ _ _ _ _ _ _ _ _ _ _ _ _ _ _ _ ?k1_s9 ?k2_s9 ?k3_s9 ?k4_s9 ?k5_s9 ?k6_s9 ?k7_s9 ?k8_s9 ?_
  case k5_s9 => first | exact rfl | assumption
  case k1_s9 => k_asm
  case k2_s9 => k_asm
  case k3_s9 => k_asm
  case k4_s9 => k_asm
  case k7_s9 => ktr_room
  case k8_s9 => ktr_units
  case k6_s9 => exact ⟨by is_list, hth⟩
  intro v9 new9 h9 tk9 hR9 st9 F9 N9
  obtain ⟨D6, ys6, e6, e6', hS6⟩ := hR9; subst e6 e6'; rw [laid_runs, th2] at hS6
  have N10 := Mine.news_grow (by first | with_reducible assumption | assumption) st9 N9
  (try simp only [List.nil_append, List.cons_append] at N10)
  (try k_sweep)
  refine finQ hQ5 ?_
  clear hQ5
  clear Q5
  (try dsimp only)
  have pl6 : ∀ r ∈ Mine.pre (W0.length + W1.length + W2.length) 0 (theirs (W0.length, W1.length, W2.length)), r ≤ 28 := fun r hr => by have := pre_le _ _ _ r hr; rw [th2] at this; omega
  refine hide ?_
  intro G5 hG5
  obtain ⟨a6, b6, c6, d6, g6, hys6⟩ := strs_five hS6 (by rw [List.length_map, pre_len]; rfl)
  refine hG5 ?_
  clear hG5
  clear G5
  subst hys6
  have hS7 : StrsAre [g6, d6, c6, b6, a6] ((Mine.pre (W0.length + W1.length + W2.length) 0 (theirs (W0.length, W1.length, W2.length))).reverse.map fun n : Nat => blT n) := by rw [List.map_reverse]; exact strs_rev hS6
  have pl7 : ∀ r ∈ (Mine.pre (W0.length + W1.length + W2.length) 0 (theirs (W0.length, W1.length, W2.length))).reverse, r ≤ 28 := fun r hr => pl6 r (List.mem_reverse.mp hr)
  have w7 := runs_wt (l := (Mine.pre (W0.length + W1.length + W2.length) 0 (theirs (W0.length, W1.length, W2.length))).reverse) (fun r hr => Nat.le_trans (pl7 r hr) (by decide)) (by rw [List.length_reverse, pre_len]; exact Nat.le_of_ble_eq_true rfl)
  have e7 := join_runs (Mine.pre (W0.length + W1.length + W2.length) 0 (theirs (W0.length, W1.length, W2.length))).reverse
  have z7 := runs_len pl7 (k := 5) (by rw [List.length_reverse, pre_len]; exact Nat.le_refl _)
  (repeat' (first | ((with_reducible show Mine.Fnm _); exact hEnd _ _ _ (by first | with_reducible assumption | assumption)) | ((with_reducible show wpAny _ _ (call (Value.ref _) _) _ _ _); refine opqQ ?_; intro Q5 hQ5; refine callS (prepared_spec _ _ _) ?_ (by ((try dsimp only); (try simp only [Str.length_append]); (try simp only [show ∀ c : Nat, (⟨#[c]⟩ : Str).length = 1 from fun _ => rfl]); omega)); intro v9 new9 h9 tk9 hR9 st9 F9 N9 N10; (obtain ⟨t9, e9, e8⟩ := hR9; subst e9 e8); (try simp only [List.nil_append, List.cons_append] at N10); (try k_sweep); refine finQ hQ5 ?_; clear hQ5; clear Q5; (try dsimp only)) | ((with_reducible show wpAny _ _ (call (Value.ref _) _) _ _ _); refine opqQ ?_; intro Q5 hQ5; refine callS (concat_spec _ _ _ _ _) ?_ (by ((try dsimp only); (try simp only [Str.length_append]); (try simp only [show ∀ c : Nat, (⟨#[c]⟩ : Str).length = 1 from fun _ => rfl]); omega)); intro v9 new9 h9 tk9 hR9 st9 F9 N9 N10; (obtain ⟨t9, e9, e8⟩ := hR9; subst e9 e8); (try simp only [List.nil_append, List.cons_append] at N10); (try k_sweep); refine finQ hQ5 ?_; clear hQ5; clear Q5; (try dsimp only)) | ((with_reducible show wpAny _ _ (call (Value.builtin "str.join") _) _ _ _); (k_dflt (refine joinE (by is_list) (by first | with_reducible assumption | assumption) (by decide +kernel) (by with_reducible assumption) (by with_reducible assumption) ?_)); intro _ _) | (with_reducible refine Mine.toksE ?_; intro _) | (k_unfold; (try dsimp only)) | (k_end; wrow_close) | walk1 | (dsimp only; walk1) | (leave1; (try dsimp only))))
  unfold Stop
  refine slice_list3 (s := ⟨_, _, _, _, _⟩) (by k_asm) (by k_asm) (by is_list) .none .none (.int _ _) (by decide) ?_ (hsz := ?sz_s9)
  case sz_s9 => exact Nat.le_of_ble_eq_true rfl
  intro h4 F4 N4
  obtain ⟨m_F4k, F4k⟩ := fr_only2 (x1 := Str.ofString "ways") (x2 := Str.ofString "words") F4 rfl rfl (by decide)
  clear F4
  have e4 := slice_rev5 a6 b6 c6 d6 g6
  rw [e4] at N4
  (repeat' (first | ((with_reducible show Mine.Fnm _); exact hEnd _ _ _ (by first | with_reducible assumption | assumption)) | ((with_reducible show wpAny _ _ (call (Value.ref _) _) _ _ _); refine opqQ ?_; intro Q5 hQ5; refine callS (prepared_spec _ _ _) ?_ (by ((try dsimp only); (try simp only [Str.length_append]); (try simp only [show ∀ c : Nat, (⟨#[c]⟩ : Str).length = 1 from fun _ => rfl]); omega)); intro v9 new9 h9 tk9 hR9 st9 F9 N9 N10; (obtain ⟨t9, e9, e8⟩ := hR9; subst e9 e8); (try simp only [List.nil_append, List.cons_append] at N10); (try k_sweep); refine finQ hQ5 ?_; clear hQ5; clear Q5; (try dsimp only)) | ((with_reducible show wpAny _ _ (call (Value.ref _) _) _ _ _); refine opqQ ?_; intro Q5 hQ5; refine callS (concat_spec _ _ _ _ _) ?_ (by ((try dsimp only); (try simp only [Str.length_append]); (try simp only [show ∀ c : Nat, (⟨#[c]⟩ : Str).length = 1 from fun _ => rfl]); omega)); intro v9 new9 h9 tk9 hR9 st9 F9 N9 N10; (obtain ⟨t9, e9, e8⟩ := hR9; subst e9 e8); (try simp only [List.nil_append, List.cons_append] at N10); (try k_sweep); refine finQ hQ5 ?_; clear hQ5; clear Q5; (try dsimp only)) | ((with_reducible show wpAny _ _ (call (Value.builtin "str.join") _) _ _ _); (k_dflt (refine joinE (by is_list) (by first | with_reducible assumption | assumption) (by decide +kernel) (by with_reducible assumption) (by with_reducible assumption) ?_)); intro _ _) | (with_reducible refine Mine.toksE ?_; intro _) | (k_unfold; (try dsimp only)) | (k_end; wrow_close) | walk1 | (dsimp only; walk1) | (leave1; (try dsimp only))))
  rename News _ _ _ _ => NY
  have NZ := news_one NY (p := (_, W.listOf #[Value.str ⟨W0.toArray⟩ t1, Value.str ⟨W1.toArray⟩ t2, Value.str ⟨W2.toArray⟩ t11] 0)) (by k_mem)
  clear NY
  have lA : (Mine.pre (W0.length + W1.length + W2.length) 0 oN).length = 5 := by rw [pre_len]; exact lN
  have lR : (Mine.pre (W0.length + W1.length + W2.length) 0 (theirs (W0.length, W1.length, W2.length))).reverse.length = 5 := by rw [List.length_reverse, pre_len]; rfl
  generalize hA : Mine.pre (W0.length + W1.length + W2.length) 0 oN = A at *
  generalize hR : (Mine.pre (W0.length + W1.length + W2.length) 0 (theirs (W0.length, W1.length, W2.length))).reverse = R at *
  unfold Stop
  refine opqQ ?_
  intro Q5 hQ5
  refine' (cls_spec _ _ _ (wsT ⟨A, 0⟩) [32, 9]) _ _ _ _ _ _ _ _ _ _ _ _ _ _ _ _ _ _ _ _ _ _ _ _ _ _ ?k1_s10 ?k2_s10 ?k3_s10 ?k4_s10 ?k5_s10 ?k6_s10 ?k7_s10 ?k8_s10 ?_
  case k5_s10 => first | exact rfl | assumption
  case k1_s10 => k_asm
  case k2_s10 => k_asm
  case k3_s10 => k_asm
  case k4_s10 => k_asm
  case k7_s10 => ktr_room
  case k8_s10 => ktr_units
  case k6_s10 => exact ⟨raw_of0 A _ rfl, wsT_mem, by rw [Str.length_append]; exact Nat.le_trans (Nat.add_le_add_right z5 _) (by decide)⟩
  intro v9 new9 h9 tk9 hR9 st9 F9 N9
  obtain ⟨xa, ea, hwa⟩ := hR9; subst ea; rw [wsF_of] at hwa
  have N10 := Mine.news_grow (by first | with_reducible assumption | assumption) st9 N9
  (try simp only [List.nil_append, List.cons_append] at N10)
  (try k_sweep)
  refine finQ hQ5 ?_
  clear hQ5
  clear Q5
  (try dsimp only)
  obtain ⟨TA, NA, hTA⟩ := led_any N10
  clear N10
  obtain ⟨m_F9k, F9k⟩ := fr_only4 (x1 := Str.ofString "mine") (x2 := Str.ofString "yours") (x3 := Str.ofString "ways") (x4 := Str.ofString "words") F9 rfl rfl rfl rfl (by decide) (by decide) (by decide) (by decide) (by decide) (by decide)
  clear F9
  (repeat' (first | ((with_reducible show Mine.Fnm _); exact hEnd _ _ _ (by first | with_reducible assumption | assumption)) | ((with_reducible show wpAny _ _ (compareOp CmpOp.IsNot (Value.bool _) (Value.bool _)) _ _ _); refine isnotB (by first | rfl | assumption) ?_) | ((with_reducible show wpAny _ _ (exec (PySem.Stmt.For _ (PySem.Expr.Call (PySem.Expr.Name (Str.ofString "_law_pairs") _) _ _ _) _ _ _) _) _ _ _); refine stopHere ?_) | ((with_reducible show wpAny _ _ (call (Value.ref _) _) _ _ _); refine opqQ ?_; intro Q5 hQ5; refine callS (prepared_spec _ _ _) ?_ (by ((try dsimp only); (try simp only [Str.length_append]); (try simp only [show ∀ c : Nat, (⟨#[c]⟩ : Str).length = 1 from fun _ => rfl]); omega)); intro v9 new9 h9 tk9 hR9 st9 F9 N9 N10; (obtain ⟨t9, e9, e8⟩ := hR9; subst e9 e8); (try simp only [List.nil_append, List.cons_append] at N10); (try k_sweep); refine finQ hQ5 ?_; clear hQ5; clear Q5; (try dsimp only)) | ((with_reducible show wpAny _ _ (call (Value.ref _) _) _ _ _); refine opqQ ?_; intro Q5 hQ5; refine callS (concat_spec _ _ _ _ _) ?_ (by ((try dsimp only); (try simp only [Str.length_append]); (try simp only [show ∀ c : Nat, (⟨#[c]⟩ : Str).length = 1 from fun _ => rfl]); omega)); intro v9 new9 h9 tk9 hR9 st9 F9 N9 N10; (obtain ⟨t9, e9, e8⟩ := hR9; subst e9 e8); (try simp only [List.nil_append, List.cons_append] at N10); (try k_sweep); refine finQ hQ5 ?_; clear hQ5; clear Q5; (try dsimp only)) | (with_reducible refine Mine.toksE ?_; intro _) | (k_unfold; (try dsimp only)) | (k_end; wrow_close) | walk1 | (dsimp only; walk1) | (leave1; (try dsimp only))))
  unfold Stop
  refine opqQ ?_
  intro Q5 hQ5
  refine' (cls_spec _ _ _ (wsT ⟨R, 0⟩) [32, 9]) _ _ _ _ _ _ _ _ _ _ _ _ _ _ _ _ _ _ _ _ _ _ _ _ _ _ ?k1_s10 ?k2_s10 ?k3_s10 ?k4_s10 ?k5_s10 ?k6_s10 ?k7_s10 ?k8_s10 ?_
  case k5_s10 => first | exact rfl | assumption
  case k1_s10 => k_asm
  case k2_s10 => k_asm
  case k3_s10 => k_asm
  case k4_s10 => k_asm
  case k7_s10 => ktr_room
  case k8_s10 => ktr_units
  case k6_s10 => exact ⟨raw_of0 R _ rfl, wsT_mem, by rw [Str.length_append]; exact Nat.le_trans (Nat.add_le_add_right z7 _) (by decide)⟩
  intro v9 new9 h9 tk9 hR9 st9 F9 N9
  obtain ⟨xb, eb, hwb⟩ := hR9; subst eb; rw [wsF_of] at hwb
  have N10 := Mine.news_grow (by first | with_reducible assumption | assumption) st9 N9
  (try simp only [List.nil_append, List.cons_append] at N10)
  (try k_sweep)
  refine finQ hQ5 ?_
  clear hQ5
  clear Q5
  (try dsimp only)
  obtain ⟨TB, NB, hTB⟩ := led_any N10
  clear N10
  (repeat' (first | ((with_reducible show Mine.Fnm _); exact hEnd _ _ _ (by first | with_reducible assumption | assumption)) | ((with_reducible show wpAny _ _ (compareOp CmpOp.IsNot (Value.bool _) (Value.bool _)) _ _ _); refine isnotB (by first | rfl | assumption) ?_) | ((with_reducible show wpAny _ _ (exec (PySem.Stmt.For _ (PySem.Expr.Call (PySem.Expr.Name (Str.ofString "_law_pairs") _) _ _ _) _ _ _) _) _ _ _); refine stopHere ?_) | ((with_reducible show wpAny _ _ (call (Value.ref _) _) _ _ _); refine opqQ ?_; intro Q5 hQ5; refine callS (prepared_spec _ _ _) ?_ (by ((try dsimp only); (try simp only [Str.length_append]); (try simp only [show ∀ c : Nat, (⟨#[c]⟩ : Str).length = 1 from fun _ => rfl]); omega)); intro v9 new9 h9 tk9 hR9 st9 F9 N9 N10; (obtain ⟨t9, e9, e8⟩ := hR9; subst e9 e8); (try simp only [List.nil_append, List.cons_append] at N10); (try k_sweep); refine finQ hQ5 ?_; clear hQ5; clear Q5; (try dsimp only)) | ((with_reducible show wpAny _ _ (call (Value.ref _) _) _ _ _); refine opqQ ?_; intro Q5 hQ5; refine callS (concat_spec _ _ _ _ _) ?_ (by ((try dsimp only); (try simp only [Str.length_append]); (try simp only [show ∀ c : Nat, (⟨#[c]⟩ : Str).length = 1 from fun _ => rfl]); omega)); intro v9 new9 h9 tk9 hR9 st9 F9 N9 N10; (obtain ⟨t9, e9, e8⟩ := hR9; subst e9 e8); (try simp only [List.nil_append, List.cons_append] at N10); (try k_sweep); refine finQ hQ5 ?_; clear hQ5; clear Q5; (try dsimp only)) | (with_reducible refine Mine.toksE ?_; intro _) | (k_unfold; (try dsimp only)) | (k_end; wrow_close) | walk1 | (dsimp only; walk1) | (leave1; (try dsimp only))))
  unfold Stop
  refine opqQ ?_
  intro Q5 hQ5
  refine' (cls_spec _ _ _ (wsT ⟨R, 1⟩) [32, 9]) _ _ _ _ _ _ _ _ _ _ _ _ _ _ _ _ _ _ _ _ _ _ _ _ _ _ ?k1_s10 ?k2_s10 ?k3_s10 ?k4_s10 ?k5_s10 ?k6_s10 ?k7_s10 ?k8_s10 ?_
  case k5_s10 => first | exact rfl | assumption
  case k1_s10 => k_asm
  case k2_s10 => k_asm
  case k3_s10 => k_asm
  case k4_s10 => k_asm
  case k7_s10 => ktr_room
  case k8_s10 => ktr_units
  case k6_s10 => exact ⟨raw_of1 R _ rfl, wsT_mem, by rw [Str.length_append]; exact Nat.le_trans (Nat.add_le_add_right z7 _) (by decide)⟩
  intro v9 new9 h9 tk9 hR9 st9 F9 N9
  obtain ⟨xc, ec, hwc⟩ := hR9; subst ec; rw [wsF_of] at hwc
  have N10 := Mine.news_grow (by first | with_reducible assumption | assumption) st9 N9
  (try simp only [List.nil_append, List.cons_append] at N10)
  (try k_sweep)
  refine finQ hQ5 ?_
  clear hQ5
  clear Q5
  (try dsimp only)
  obtain ⟨TC, NC, hTC⟩ := led_any N10
  clear N10
  have hia := hwa.mono fun a o h => hTC _ (List.mem_append_right _ (hTB _ (List.mem_append_right _ (hTA _ (List.mem_append_left _ h)))))
  have hib := hwb.mono fun a o h => hTC _ (List.mem_append_right _ (hTB _ (List.mem_append_left _ h)))
  have hic := hwc.mono fun a o h => hTC _ (List.mem_append_left _ h)
  have hwd : ∀ p ∈ [(_, W.listOf #[Value.str ⟨W0.toArray⟩ t1, Value.str ⟨W1.toArray⟩ t2, Value.str ⟨W2.toArray⟩ t11] 0)], p ∈ TC := fun p h => hTC _ (List.mem_append_right _ (hTB _ (List.mem_append_right _ (hTA _ (List.mem_append_right _ h)))))
  clear hwa hwb hwc hTA hTB hTC
  refine hide ?_
  intro G5 hG5
  obtain ⟨dxa, tNa, rawa, tra, tna, tnta, fa9, ka9, nna, hta⟩ := ws_top hia
  refine hG5 ?_
  clear hG5
  clear G5
  refine hide ?_
  intro G5 hG5
  obtain ⟨dxb, tNb, rawb, trb, tnb, tntb, fb9, kb9, nnb, htb⟩ := ws_top hib
  refine hG5 ?_
  clear hG5
  clear G5
  have ND := news_in NC _ (mem_two hwd (mem_two hta htb))
  simp only [List.cons_append, List.nil_append] at ND
  clear NC
  have nA := n_le (b := 0) (k := 5) pl5 (Nat.le_of_eq lA)
  have nR0 := n_le (b := 0) (k := 5) pl7 (Nat.le_of_eq lR)
  have nR1 := n_le (b := 1) (k := 5) pl7 (Nat.le_of_eq lR)
  have hcase := case_ok (r := (W0.length, W1.length, W2.length)) (l := oN) ⟨x1, x2⟩ ⟨x3, x4⟩ ⟨x5, x6⟩ lN sN mN
  have huse := case_use pN hcase
  dsimp only at huse
  rw [hA, hR] at huse
  obtain ⟨hless, hone⟩ := huse
  (repeat' (first | ((with_reducible show Mine.Fnm _); exact hEnd _ _ _ (by first | with_reducible assumption | assumption)) | ((with_reducible show wpAny _ _ (compareOp CmpOp.IsNot (Value.bool _) (Value.bool _)) _ _ _); refine isnotB (by first | rfl | assumption) ?_) | ((with_reducible show wpAny _ _ (exec (PySem.Stmt.For _ (PySem.Expr.Call (PySem.Expr.Name (Str.ofString "_law_pairs") _) _ _ _) _ _ _) _) _ _ _); refine stopHere ?_) | ((with_reducible show wpAny _ _ (call (Value.ref _) _) _ _ _); refine opqQ ?_; intro Q5 hQ5; refine callS (prepared_spec _ _ _) ?_ (by ((try dsimp only); (try simp only [Str.length_append]); (try simp only [show ∀ c : Nat, (⟨#[c]⟩ : Str).length = 1 from fun _ => rfl]); omega)); intro v9 new9 h9 tk9 hR9 st9 F9 N9 N10; (obtain ⟨t9, e9, e8⟩ := hR9; subst e9 e8); (try simp only [List.nil_append, List.cons_append] at N10); (try k_sweep); refine finQ hQ5 ?_; clear hQ5; clear Q5; (try dsimp only)) | ((with_reducible show wpAny _ _ (call (Value.ref _) _) _ _ _); refine opqQ ?_; intro Q5 hQ5; refine callS (concat_spec _ _ _ _ _) ?_ (by ((try dsimp only); (try simp only [Str.length_append]); (try simp only [show ∀ c : Nat, (⟨#[c]⟩ : Str).length = 1 from fun _ => rfl]); omega)); intro v9 new9 h9 tk9 hR9 st9 F9 N9 N10; (obtain ⟨t9, e9, e8⟩ := hR9; subst e9 e8); (try simp only [List.nil_append, List.cons_append] at N10); (try k_sweep); refine finQ hQ5 ?_; clear hQ5; clear Q5; (try dsimp only)) | (with_reducible refine Mine.toksE ?_; intro _) | (k_unfold; (try dsimp only)) | (k_end; wrow_close) | walk1 | (dsimp only; walk1) | (leave1; (try dsimp only))))
  rename News _ _ _ _ => NN
  unfold Stop
  refine opqQ ?_
  intro Q5 hQ5
  refine' (less_spec _ xa xc _ _ _ _ _ _ _ _ (ws_ok ⟨A, 0⟩ (Nat.le_trans nA (by decide))) (ws_ok ⟨R, 1⟩ (Nat.le_trans nR1 (by decide)))) _ _ _ _ _ _ _ _ _ _ _ _ _ _ _ _ _ _ _ _ _ _ _ _ _ _ ?k1_s10 ?k2_s10 ?k3_s10 ?k4_s10 ?k5_s10 ?k6_s10 ?k7_s10 ?k8_s10 ?_
  case k5_s10 => first | exact rfl | assumption
  case k1_s10 => k_asm
  case k2_s10 => k_asm
  case k3_s10 => k_asm
  case k4_s10 => k_asm
  case k7_s10 => ktr_room
  case k8_s10 => ktr_units
  case k6_s10 => exact ⟨ws_in NN (fun p h => by (repeat (refine List.mem_cons_of_mem _ ?_)); exact h) hia, ws_in NN (fun p h => by (repeat (refine List.mem_cons_of_mem _ ?_)); exact h) hic⟩
  intro v9 new9 h9 tk9 hR9 st9 F9 N9
  obtain ⟨e9, e8⟩ := hR9; rw [less_of ⟨A, 0⟩ ⟨R, 1⟩, hless] at e9; subst e9 e8
  have N10 := Mine.news_grow (by first | with_reducible assumption | assumption) st9 N9
  (try simp only [List.nil_append, List.cons_append] at N10)
  (try k_sweep)
  refine finQ hQ5 ?_
  clear hQ5
  clear Q5
  (try dsimp only)
  have heq : decide (tallyI [] (⟨R, 0⟩ : Ws).runs = tallyI [] (⟨R, 1⟩ : Ws).runs ∧ (((⟨R, 0⟩ : Ws).b : Nat) : Int) = (((⟨R, 1⟩ : Ws).b : Nat) : Int)) = false := decide_eq_false fun h => absurd h.2 (by show ¬ (((0 : Nat) : Int) = ((1 : Nat) : Int)); decide)
  (repeat' (first | ((with_reducible show Mine.Fnm _); exact hEnd _ _ _ (by first | with_reducible assumption | assumption)) | ((with_reducible show wpAny _ _ (compareOp CmpOp.IsNot (Value.bool _) (Value.bool _)) _ _ _); refine isnotB (by first | rfl | assumption) ?_) | ((with_reducible show wpAny _ _ (exec (PySem.Stmt.For _ (PySem.Expr.Call (PySem.Expr.Name (Str.ofString "_law_pairs") _) _ _ _) _ _ _) _) _ _ _); refine stopHere ?_) | ((with_reducible show wpAny _ _ (call (Value.ref _) _) _ _ _); refine opqQ ?_; intro Q5 hQ5; refine callS (prepared_spec _ _ _) ?_ (by ((try dsimp only); (try simp only [Str.length_append]); (try simp only [show ∀ c : Nat, (⟨#[c]⟩ : Str).length = 1 from fun _ => rfl]); omega)); intro v9 new9 h9 tk9 hR9 st9 F9 N9 N10; (obtain ⟨t9, e9, e8⟩ := hR9; subst e9 e8); (try simp only [List.nil_append, List.cons_append] at N10); (try k_sweep); refine finQ hQ5 ?_; clear hQ5; clear Q5; (try dsimp only)) | ((with_reducible show wpAny _ _ (call (Value.ref _) _) _ _ _); refine opqQ ?_; intro Q5 hQ5; refine callS (concat_spec _ _ _ _ _) ?_ (by ((try dsimp only); (try simp only [Str.length_append]); (try simp only [show ∀ c : Nat, (⟨#[c]⟩ : Str).length = 1 from fun _ => rfl]); omega)); intro v9 new9 h9 tk9 hR9 st9 F9 N9 N10; (obtain ⟨t9, e9, e8⟩ := hR9; subst e9 e8); (try simp only [List.nil_append, List.cons_append] at N10); (try k_sweep); refine finQ hQ5 ?_; clear hQ5; clear Q5; (try dsimp only)) | (with_reducible refine Mine.toksE ?_; intro _) | (k_unfold; (try dsimp only)) | (k_end; wrow_close) | walk1 | (dsimp only; walk1) | (leave1; (try dsimp only))))
  rename News _ _ _ _ => NN2
  unfold Stop
  refine opqQ ?_
  intro Q5 hQ5
  refine' (equal_specW _ xb xc ⟨R, 0⟩ ⟨R, 1⟩) _ _ _ _ _ _ _ _ _ _ _ _ _ _ _ _ _ _ _ _ _ _ _ _ _ _ ?k1_s10 ?k2_s10 ?k3_s10 ?k4_s10 ?k5_s10 ?k6_s10 ?k7_s10 ?k8_s10 ?_
  case k5_s10 => first | exact rfl | assumption
  case k1_s10 => k_asm
  case k2_s10 => k_asm
  case k3_s10 => k_asm
  case k4_s10 => k_asm
  case k7_s10 => ktr_room
  case k8_s10 => ktr_units
  case k6_s10 => exact ⟨ws_in NN2 (fun p h => by (repeat (refine List.mem_cons_of_mem _ ?_)); exact h) hib, ws_in NN2 (fun p h => by (repeat (refine List.mem_cons_of_mem _ ?_)); exact h) hic⟩
  intro v9 new9 h9 tk9 hR9 st9 F9 N9
  obtain ⟨e9, e8⟩ := hR9; rw [heq] at e9; subst e9 e8
  have N10 := Mine.news_grow (by first | with_reducible assumption | assumption) st9 N9
  (try simp only [List.nil_append, List.cons_append] at N10)
  (try k_sweep)
  refine finQ hQ5 ?_
  clear hQ5
  clear Q5
  (try dsimp only)
  (repeat' (first | ((with_reducible show Mine.Fnm _); exact hEnd _ _ _ (by first | with_reducible assumption | assumption)) | ((with_reducible show wpAny _ _ (compareOp CmpOp.IsNot (Value.bool _) (Value.bool _)) _ _ _); refine isnotB (by first | rfl | assumption) ?_) | ((with_reducible show wpAny _ _ (exec (PySem.Stmt.For _ (PySem.Expr.Call (PySem.Expr.Name (Str.ofString "_law_pairs") _) _ _ _) _ _ _) _) _ _ _); refine stopHere ?_) | ((with_reducible show wpAny _ _ (call (Value.ref _) _) _ _ _); refine opqQ ?_; intro Q5 hQ5; refine callS (prepared_spec _ _ _) ?_ (by ((try dsimp only); (try simp only [Str.length_append]); (try simp only [show ∀ c : Nat, (⟨#[c]⟩ : Str).length = 1 from fun _ => rfl]); omega)); intro v9 new9 h9 tk9 hR9 st9 F9 N9 N10; (obtain ⟨t9, e9, e8⟩ := hR9; subst e9 e8); (try simp only [List.nil_append, List.cons_append] at N10); (try k_sweep); refine finQ hQ5 ?_; clear hQ5; clear Q5; (try dsimp only)) | ((with_reducible show wpAny _ _ (call (Value.ref _) _) _ _ _); refine opqQ ?_; intro Q5 hQ5; refine callS (concat_spec _ _ _ _ _) ?_ (by ((try dsimp only); (try simp only [Str.length_append]); (try simp only [show ∀ c : Nat, (⟨#[c]⟩ : Str).length = 1 from fun _ => rfl]); omega)); intro v9 new9 h9 tk9 hR9 st9 F9 N9 N10; (obtain ⟨t9, e9, e8⟩ := hR9; subst e9 e8); (try simp only [List.nil_append, List.cons_append] at N10); (try k_sweep); refine finQ hQ5 ?_; clear hQ5; clear Q5; (try dsimp only)) | (with_reducible refine Mine.toksE ?_; intro _) | (k_unfold; (try dsimp only)) | (k_end; wrow_close) | walk1 | (dsimp only; walk1) | (leave1; (try dsimp only))))
  rename News _ _ _ _ => NN3
  have ll : (({ cps := W0.toArray } : Str) ++ { cps := W1.toArray }).length = W0.length + W1.length := by rw [Str.length_append]; rfl
  unfold Stop
  refine For_T ?_ (fun _ => rfl)
  (repeat' (first | ((with_reducible show Mine.Fnm _); exact hEnd _ _ _ (by first | with_reducible assumption | assumption)) | ((with_reducible show wpAny _ _ (compareOp CmpOp.IsNot (Value.bool _) (Value.bool _)) _ _ _); refine isnotB (by first | rfl | assumption) ?_) | ((with_reducible show wpAny _ _ (subscriptTail (PySem.Expr.Name (Str.ofString "words") _) _ (Value.ref _) (Value.int _ _)) _ _ _); k_dflt (refine PyProof.Rows.item_listL (by exact News.isList (by k_asm) (by k_mem)) (by decide) (by decide) (by rfl) ?_)) | ((with_reducible show wpAny _ _ (subscriptTail _ _ (Value.ref _) (Value.int _ _)) _ _ _); k_dflt (refine item_tupleT (by exact News.isTup (by k_asm) (by k_mem)) (by decide) (by decide) (by rfl) (by rfl) ?_)) | ((with_reducible show wpAny _ _ (call (Value.ref _) _) _ _ _); refine opqQ ?_; intro Q5 hQ5; refine callS (prepared_spec _ _ _) ?_ (by ((try dsimp only); (try simp only [Str.length_append]); (try simp only [show ∀ c : Nat, (⟨#[c]⟩ : Str).length = 1 from fun _ => rfl]); omega)); intro v9 new9 h9 tk9 hR9 st9 F9 N9 N10; (obtain ⟨t9, e9, e8⟩ := hR9; subst e9 e8); (try simp only [List.nil_append, List.cons_append] at N10); (try k_sweep); refine finQ hQ5 ?_; clear hQ5; clear Q5; (try dsimp only)) | ((with_reducible show wpAny _ _ (call (Value.ref _) _) _ _ _); refine opqQ ?_; intro Q5 hQ5; refine callS (concat_spec _ _ _ _ _) ?_ (by ((try dsimp only); (try simp only [Str.length_append]); (try simp only [show ∀ c : Nat, (⟨#[c]⟩ : Str).length = 1 from fun _ => rfl]); omega)); intro v9 new9 h9 tk9 hR9 st9 F9 N9 N10; (obtain ⟨t9, e9, e8⟩ := hR9; subst e9 e8); (try simp only [List.nil_append, List.cons_append] at N10); (try k_sweep); refine finQ hQ5 ?_; clear hQ5; clear Q5; (try dsimp only)) | (with_reducible refine Mine.toksE ?_; intro _) | (k_unfold; (try dsimp only)) | (k_end; wrow_close) | walk1 | (dsimp only; walk1) | (leave1; (try dsimp only))))
  unfold Stop
  refine opqQ ?_
  intro Q5 hQ5
  refine' (pairs_spec _ _ _ (((({ cps := W0.toArray } : Str) ++ { cps := W1.toArray }).length : Nat) : Int) _) _ _ _ _ _ _ _ _ _ _ _ _ _ _ _ _ _ _ _ _ _ _ _ _ _ _ ?k1_s11 ?k2_s11 ?k3_s11 ?k4_s11 ?k5_s11 ?k6_s11 ?k7_s11 ?k8_s11 ?_
  case k5_s11 => first | exact rfl | assumption
  case k1_s11 => k_asm
  case k2_s11 => k_asm
  case k3_s11 => k_asm
  case k4_s11 => k_asm
  case k7_s11 => ktr_room
  case k8_s11 => ktr_units
  case k6_s11 => exact ⟨Nat.le_trans z5 (by decide), by omega, by omega⟩
  intro v9 new9 h9 tk9 hR9 st9 F9 N9
  obtain ⟨Dp, l0, l1', l2', l3', l4', l5', l6', pt0, pt1, pt2, pt3, pt4, pt5, pt6, pu0, pu1, pu2, pu3, pu4, pu5, pu6, e9, e8⟩ := hR9; subst e9 e8
  have N10 := Mine.news_grow (by first | with_reducible assumption | assumption) st9 N9
  (try simp only [List.nil_append, List.cons_append] at N10)
  (try k_sweep)
  refine finQ hQ5 ?_
  clear hQ5
  clear Q5
  (try dsimp only)
  (repeat' (first | ((with_reducible show Mine.Fnm _); exact hEnd _ _ _ (by first | with_reducible assumption | assumption)) | ((with_reducible show wpAny _ _ (compareOp CmpOp.IsNot (Value.bool _) (Value.bool _)) _ _ _); refine isnotB (by first | rfl | assumption) ?_) | ((with_reducible show wpAny _ _ (subscriptTail (PySem.Expr.Name (Str.ofString "words") _) _ (Value.ref _) (Value.int _ _)) _ _ _); k_dflt (refine PyProof.Rows.item_listL (by exact News.isList (by k_asm) (by k_mem)) (by decide) (by decide) (by rfl) ?_)) | ((with_reducible show wpAny _ _ (subscriptTail _ _ (Value.ref _) (Value.int _ _)) _ _ _); k_dflt (refine item_tupleT (by exact News.isTup (by k_asm) (by k_mem)) (by decide) (by decide) (by rfl) (by rfl) ?_)) | ((with_reducible show wpAny _ _ (call (Value.ref _) _) _ _ _); refine opqQ ?_; intro Q5 hQ5; refine callS (prepared_spec _ _ _) ?_ (by ((try dsimp only); (try simp only [Str.length_append]); (try simp only [show ∀ c : Nat, (⟨#[c]⟩ : Str).length = 1 from fun _ => rfl]); omega)); intro v9 new9 h9 tk9 hR9 st9 F9 N9 N10; (obtain ⟨t9, e9, e8⟩ := hR9; subst e9 e8); (try simp only [List.nil_append, List.cons_append] at N10); (try k_sweep); refine finQ hQ5 ?_; clear hQ5; clear Q5; (try dsimp only)) | ((with_reducible show wpAny _ _ (call (Value.ref _) _) _ _ _); refine opqQ ?_; intro Q5 hQ5; refine callS (concat_spec _ _ _ _ _) ?_ (by ((try dsimp only); (try simp only [Str.length_append]); (try simp only [show ∀ c : Nat, (⟨#[c]⟩ : Str).length = 1 from fun _ => rfl]); omega)); intro v9 new9 h9 tk9 hR9 st9 F9 N9 N10; (obtain ⟨t9, e9, e8⟩ := hR9; subst e9 e8); (try simp only [List.nil_append, List.cons_append] at N10); (try k_sweep); refine finQ hQ5 ?_; clear hQ5; clear Q5; (try dsimp only)) | (with_reducible refine Mine.toksE ?_; intro _) | (k_unfold; (try dsimp only)) | (k_end; wrow_close) | walk1 | (dsimp only; walk1) | (leave1; (try dsimp only))))
  unfold Stop
  rename News _ _ _ _ => NP0
  obtain ⟨fx, NP, hfx⟩ := led_any NP0
  clear NP0
  rename Fr _ _ _ _ => FP
  obtain ⟨m_FPk, FPk⟩ := fr_only3 (x1 := Str.ofString "lead") (x2 := Str.ofString "other") (x3 := Str.ofString "ways") FP rfl rfl rfl (by decide) (by decide) (by decide)
  clear FP
  refine hide ?_
  intro G5 hG5
  obtain ⟨hp0, hp1, hp2, hp3, hp4, hp5, hp6⟩ := pairs_all A pl5 lA (({ cps := W0.toArray } : Str) ++ { cps := W1.toArray }).length (by omega) (by omega)
  refine hG5 ?_
  clear hG5
  clear G5
  refine listT _ [Str.ofString "near", Str.ofString "far", Str.ofString "due"] (by exact rfl) (News.isList NP (hfx _ (.head _))) ⟨_, hfx _ (.head _)⟩ (by passes_own) (fun i v h => ?hv_s11) (by k_asm) NP ?_ ?_
  case hv_s11 =>
    have := Array.mem_of_getElem? h
    simp only [List.mem_toArray, List.mem_cons, List.not_mem_nil, or_false] at this
    rcases this with rfl | rfl | rfl | rfl | rfl | rfl | rfl <;> exact ⟨_, rfl⟩
  · intro i v m9 h9 tk9 I9 o9 hi nI hm F9 N9
    dsimp only [envOfC] at F9 N9
    have hex : ∃ l near far tn tf d, v = Value.ref l ∧ News hS L0 h9 [(l, tri near far tn tf d)] ∧ PairOk near far d := by
      have hi' : i = 0 ∨ i = 1 ∨ i = 2 ∨ i = 3 ∨ i = 4 ∨ i = 5 ∨ i = 6 := by
        exact (by decide : ∀ j < 7, j = 0 ∨ j = 1 ∨ j = 2 ∨ j = 3 ∨ j = 4 ∨ j = 5 ∨ j = 6) i (Array.getElem?_eq_some_iff.mp hi).1
      rcases hi' with rfl | rfl | rfl | rfl | rfl | rfl | rfl
      · exact ⟨l0, _, _, _, _, _, (Option.some.inj hi).symm, news_one N9 (.tail _ (hfx _ (by k_mem))), hp0⟩
      · exact ⟨l1', _, _, _, _, _, (Option.some.inj hi).symm, news_one N9 (.tail _ (hfx _ (by k_mem))), hp1⟩
      · exact ⟨l2', _, _, _, _, _, (Option.some.inj hi).symm, news_one N9 (.tail _ (hfx _ (by k_mem))), hp2⟩
      · exact ⟨l3', _, _, _, _, _, (Option.some.inj hi).symm, news_one N9 (.tail _ (hfx _ (by k_mem))), hp3⟩
      · exact ⟨l4', _, _, _, _, _, (Option.some.inj hi).symm, news_one N9 (.tail _ (hfx _ (by k_mem))), hp4⟩
      · exact ⟨l5', _, _, _, _, _, (Option.some.inj hi).symm, news_one N9 (.tail _ (hfx _ (by k_mem))), hp5⟩
      · exact ⟨l6', _, _, _, _, _, (Option.some.inj hi).symm, news_one N9 (.tail _ (hfx _ (by k_mem))), hp6⟩
    refine hide ?_
    intro G5 hG5
    obtain ⟨lt9, near, far, tn9, tf9, d9, hv9, Nt9, X9, Y9, hx9, hy9, hd9, bx9, by9⟩ := hex
    refine hG5 ?_
    clear hG5
    clear G5
    subst hv9
    have Nt := news_cons Nt9 N9
    clear Nt9 hi
    have ln9 : near.length ≤ 900 := by rw [len_of hx9]; exact bx9
    have lf9 : far.length ≤ 900 := by rw [len_of hy9]; exact by9
    (repeat' (first | ((with_reducible show Mine.Fnm _); exact hEnd _ _ _ (by first | with_reducible assumption | assumption)) | ((with_reducible show wpAny _ _ (compareOp CmpOp.IsNot (Value.bool _) (Value.bool _)) _ _ _); refine isnotB (by first | rfl | assumption) ?_) | ((with_reducible show wpAny _ _ (subscriptTail (PySem.Expr.Name (Str.ofString "words") _) _ (Value.ref _) (Value.int _ _)) _ _ _); k_dflt (refine PyProof.Rows.item_listL (by exact News.isList (by k_asm) (by k_mem)) (by decide) (by decide) (by rfl) ?_)) | ((with_reducible show wpAny _ _ (subscriptTail _ _ (Value.ref _) (Value.int _ _)) _ _ _); k_dflt (refine item_tupleT (by exact News.isTup (by k_asm) (by k_mem)) (by decide) (by decide) (by rfl) (by rfl) ?_)) | ((with_reducible show wpAny _ _ (call (Value.ref _) _) _ _ _); refine opqQ ?_; intro Q5 hQ5; refine callS (prepared_spec _ _ _) ?_ (by ((try dsimp only); (try simp only [Str.length_append]); (try simp only [show ∀ c : Nat, (⟨#[c]⟩ : Str).length = 1 from fun _ => rfl]); omega)); intro v9 new9 h9 tk9 hR9 st9 F9 N9 N10; (obtain ⟨t9, e9, e8⟩ := hR9; subst e9 e8); (try simp only [List.nil_append, List.cons_append] at N10); (try k_sweep); refine finQ hQ5 ?_; clear hQ5; clear Q5; (try dsimp only)) | ((with_reducible show wpAny _ _ (call (Value.ref _) _) _ _ _); refine opqQ ?_; intro Q5 hQ5; refine callS (concat_spec _ _ _ _ _) ?_ (by ((try dsimp only); (try simp only [Str.length_append]); (try simp only [show ∀ c : Nat, (⟨#[c]⟩ : Str).length = 1 from fun _ => rfl]); omega)); intro v9 new9 h9 tk9 hR9 st9 F9 N9 N10; (obtain ⟨t9, e9, e8⟩ := hR9; subst e9 e8); (try simp only [List.nil_append, List.cons_append] at N10); (try k_sweep); refine finQ hQ5 ?_; clear hQ5; clear Q5; (try dsimp only)) | (with_reducible refine Mine.toksE ?_; intro _) | (k_unfold; (try dsimp only)) | (k_end; wrow_close) | walk1 | (dsimp only; walk1) | (leave1; (try dsimp only))))
    unfold Stop
    refine opqQ ?_
    intro Q5 hQ5
    refine' (cls_spec _ _ _ (wsT X9) [32, 9]) _ _ _ _ _ _ _ _ _ _ _ _ _ _ _ _ _ _ _ _ _ _ _ _ _ _ ?k1_s11 ?k2_s11 ?k3_s11 ?k4_s11 ?k5_s11 ?k6_s11 ?k7_s11 ?k8_s11 ?_
    case k5_s11 => first | exact rfl | assumption
    case k1_s11 => k_asm
    case k2_s11 => k_asm
    case k3_s11 => k_asm
    case k4_s11 => k_asm
    case k7_s11 => ktr_room
    case k8_s11 => ktr_units
    case k6_s11 => exact ⟨raw_of X9 _ hx9, wsT_mem, by rw [Str.length_append]; exact Nat.le_trans (Nat.add_le_add_right ln9 _) (by decide)⟩
    intro v9 new9 h9 tk9 hR9 st9 F9 N9
    obtain ⟨xd, ed, hwd⟩ := hR9; subst ed; rw [wsF_of] at hwd
    have N10 := Mine.news_grow (by first | with_reducible assumption | assumption) st9 N9
    (try simp only [List.nil_append, List.cons_append] at N10)
    (try k_sweep)
    refine finQ hQ5 ?_
    clear hQ5
    clear Q5
    (try dsimp only)
    obtain ⟨TD, ND', hTD⟩ := led_any N10
    clear N10
    have hid := hwd.mono fun a o h => hTD _ (List.mem_append_left _ h)
    have hfd : ∀ p ∈ (I9, o9) :: fx, p ∈ TD := fun p h => hTD _ (List.mem_append_right _ (.tail _ h))
    refine hide ?_
    intro G5 hG5
    obtain ⟨dxd, tNd, rawd, trd, tnd, tntd, fd9, kd9, nnd, htd⟩ := ws_top hid
    refine hG5 ?_
    clear hG5
    clear G5
    have NF := news_in ND' _ htd
    simp only [List.cons_append, List.nil_append] at NF
    clear ND' htd hwd hTD
    (repeat' (first | ((with_reducible show Mine.Fnm _); exact hEnd _ _ _ (by first | with_reducible assumption | assumption)) | ((with_reducible show wpAny _ _ (compareOp CmpOp.IsNot (Value.bool _) (Value.bool _)) _ _ _); refine isnotB (by first | rfl | assumption) ?_) | ((with_reducible show wpAny _ _ (subscriptTail (PySem.Expr.Name (Str.ofString "words") _) _ (Value.ref _) (Value.int _ _)) _ _ _); k_dflt (refine PyProof.Rows.item_listL (by exact News.isList (by k_asm) (by k_mem)) (by decide) (by decide) (by rfl) ?_)) | ((with_reducible show wpAny _ _ (subscriptTail _ _ (Value.ref _) (Value.int _ _)) _ _ _); k_dflt (refine item_tupleT (by exact News.isTup (by k_asm) (by k_mem)) (by decide) (by decide) (by rfl) (by rfl) ?_)) | ((with_reducible show wpAny _ _ (call (Value.ref _) _) _ _ _); refine opqQ ?_; intro Q5 hQ5; refine callS (prepared_spec _ _ _) ?_ (by ((try dsimp only); (try simp only [Str.length_append]); (try simp only [show ∀ c : Nat, (⟨#[c]⟩ : Str).length = 1 from fun _ => rfl]); omega)); intro v9 new9 h9 tk9 hR9 st9 F9 N9 N10; (obtain ⟨t9, e9, e8⟩ := hR9; subst e9 e8); (try simp only [List.nil_append, List.cons_append] at N10); (try k_sweep); refine finQ hQ5 ?_; clear hQ5; clear Q5; (try dsimp only)) | ((with_reducible show wpAny _ _ (call (Value.ref _) _) _ _ _); refine opqQ ?_; intro Q5 hQ5; refine callS (concat_spec _ _ _ _ _) ?_ (by ((try dsimp only); (try simp only [Str.length_append]); (try simp only [show ∀ c : Nat, (⟨#[c]⟩ : Str).length = 1 from fun _ => rfl]); omega)); intro v9 new9 h9 tk9 hR9 st9 F9 N9 N10; (obtain ⟨t9, e9, e8⟩ := hR9; subst e9 e8); (try simp only [List.nil_append, List.cons_append] at N10); (try k_sweep); refine finQ hQ5 ?_; clear hQ5; clear Q5; (try dsimp only)) | (with_reducible refine Mine.toksE ?_; intro _) | (k_unfold; (try dsimp only)) | (k_end; wrow_close) | walk1 | (dsimp only; walk1) | (leave1; (try dsimp only))))
    unfold Stop
    refine opqQ ?_
    intro Q5 hQ5
    refine' (cls_spec _ _ _ (wsT Y9) [32, 9]) _ _ _ _ _ _ _ _ _ _ _ _ _ _ _ _ _ _ _ _ _ _ _ _ _ _ ?k1_s11 ?k2_s11 ?k3_s11 ?k4_s11 ?k5_s11 ?k6_s11 ?k7_s11 ?k8_s11 ?_
    case k5_s11 => first | exact rfl | assumption
    case k1_s11 => k_asm
    case k2_s11 => k_asm
    case k3_s11 => k_asm
    case k4_s11 => k_asm
    case k7_s11 => ktr_room
    case k8_s11 => ktr_units
    case k6_s11 => exact ⟨raw_of Y9 _ hy9, wsT_mem, by rw [Str.length_append]; exact Nat.le_trans (Nat.add_le_add_right lf9 _) (by decide)⟩
    intro v9 new9 h9 tk9 hR9 st9 F9 N9
    obtain ⟨xe, ee, hwe⟩ := hR9; subst ee; rw [wsF_of] at hwe
    have N10 := Mine.news_grow (by first | with_reducible assumption | assumption) st9 N9
    (try simp only [List.nil_append, List.cons_append] at N10)
    (try k_sweep)
    refine finQ hQ5 ?_
    clear hQ5
    clear Q5
    (try dsimp only)
    obtain ⟨TE, NE', hTE⟩ := led_any N10
    clear N10
    have hie := hwe.mono fun a o h => hTE _ (List.mem_append_left _ h)
    have hide := hid.mono fun a o h => hTE _ (List.mem_append_right _ (.tail _ (.tail _ h)))
    have hfe : ∀ p ∈ (I9, o9) :: fx, p ∈ TE := fun p h => hTE _ (List.mem_append_right _ (.tail _ (.tail _ (hfd p h))))
    clear hwe hTE hid hfd
    (repeat' (first | ((with_reducible show Mine.Fnm _); exact hEnd _ _ _ (by first | with_reducible assumption | assumption)) | ((with_reducible show wpAny _ _ (compareOp CmpOp.IsNot (Value.bool _) (Value.bool _)) _ _ _); refine isnotB (by first | rfl | assumption) ?_) | ((with_reducible show wpAny _ _ (subscriptTail (PySem.Expr.Name (Str.ofString "words") _) _ (Value.ref _) (Value.int _ _)) _ _ _); k_dflt (refine PyProof.Rows.item_listL (by exact News.isList (by k_asm) (by k_mem)) (by decide) (by decide) (by rfl) ?_)) | ((with_reducible show wpAny _ _ (subscriptTail _ _ (Value.ref _) (Value.int _ _)) _ _ _); k_dflt (refine item_tupleT (by exact News.isTup (by k_asm) (by k_mem)) (by decide) (by decide) (by rfl) (by rfl) ?_)) | ((with_reducible show wpAny _ _ (call (Value.ref _) _) _ _ _); refine opqQ ?_; intro Q5 hQ5; refine callS (prepared_spec _ _ _) ?_ (by ((try dsimp only); (try simp only [Str.length_append]); (try simp only [show ∀ c : Nat, (⟨#[c]⟩ : Str).length = 1 from fun _ => rfl]); omega)); intro v9 new9 h9 tk9 hR9 st9 F9 N9 N10; (obtain ⟨t9, e9, e8⟩ := hR9; subst e9 e8); (try simp only [List.nil_append, List.cons_append] at N10); (try k_sweep); refine finQ hQ5 ?_; clear hQ5; clear Q5; (try dsimp only)) | ((with_reducible show wpAny _ _ (call (Value.ref _) _) _ _ _); refine opqQ ?_; intro Q5 hQ5; refine callS (concat_spec _ _ _ _ _) ?_ (by ((try dsimp only); (try simp only [Str.length_append]); (try simp only [show ∀ c : Nat, (⟨#[c]⟩ : Str).length = 1 from fun _ => rfl]); omega)); intro v9 new9 h9 tk9 hR9 st9 F9 N9 N10; (obtain ⟨t9, e9, e8⟩ := hR9; subst e9 e8); (try simp only [List.nil_append, List.cons_append] at N10); (try k_sweep); refine finQ hQ5 ?_; clear hQ5; clear Q5; (try dsimp only)) | (with_reducible refine Mine.toksE ?_; intro _) | (k_unfold; (try dsimp only)) | (k_end; wrow_close) | walk1 | (dsimp only; walk1) | (leave1; (try dsimp only))))
    rename News _ _ _ _ => NN9
    unfold Stop
    refine opqQ ?_
    intro Q5 hQ5
    refine' (less_specW _ xd xe X9 Y9 (Nat.le_trans bx9 (by decide)) (Nat.le_trans by9 (by decide))) _ _ _ _ _ _ _ _ _ _ _ _ _ _ _ _ _ _ _ _ _ _ _ _ _ _ ?k1_s11 ?k2_s11 ?k3_s11 ?k4_s11 ?k5_s11 ?k6_s11 ?k7_s11 ?k8_s11 ?_
    case k5_s11 => first | exact rfl | assumption
    case k1_s11 => k_asm
    case k2_s11 => k_asm
    case k3_s11 => k_asm
    case k4_s11 => k_asm
    case k7_s11 => ktr_room
    case k8_s11 => ktr_units
    case k6_s11 => exact ⟨ws_in NN9 (fun p h => by (repeat (refine List.mem_cons_of_mem _ ?_)); exact h) hide, ws_in NN9 (fun p h => by (repeat (refine List.mem_cons_of_mem _ ?_)); exact h) hie⟩
    intro v9 new9 h9 tk9 hR9 st9 F9 N9
    obtain ⟨e9, e8⟩ := hR9; rw [hd9] at e9; subst e9 e8
    have N10 := Mine.news_grow (by first | with_reducible assumption | assumption) st9 N9
    (try simp only [List.nil_append, List.cons_append] at N10)
    (try k_sweep)
    refine finQ hQ5 ?_
    clear hQ5
    clear Q5
    (try dsimp only)
    (repeat' (first | ((with_reducible show Mine.Fnm _); exact hEnd _ _ _ (by first | with_reducible assumption | assumption)) | ((with_reducible show wpAny _ _ (compareOp CmpOp.IsNot (Value.bool _) (Value.bool _)) _ _ _); refine isnotB (by first | rfl | assumption) ?_) | ((with_reducible show wpAny _ _ (subscriptTail (PySem.Expr.Name (Str.ofString "words") _) _ (Value.ref _) (Value.int _ _)) _ _ _); k_dflt (refine PyProof.Rows.item_listL (by exact News.isList (by k_asm) (by k_mem)) (by decide) (by decide) (by rfl) ?_)) | ((with_reducible show wpAny _ _ (subscriptTail _ _ (Value.ref _) (Value.int _ _)) _ _ _); k_dflt (refine item_tupleT (by exact News.isTup (by k_asm) (by k_mem)) (by decide) (by decide) (by rfl) (by rfl) ?_)) | ((with_reducible show wpAny _ _ (call (Value.ref _) _) _ _ _); refine opqQ ?_; intro Q5 hQ5; refine callS (prepared_spec _ _ _) ?_ (by ((try dsimp only); (try simp only [Str.length_append]); (try simp only [show ∀ c : Nat, (⟨#[c]⟩ : Str).length = 1 from fun _ => rfl]); omega)); intro v9 new9 h9 tk9 hR9 st9 F9 N9 N10; (obtain ⟨t9, e9, e8⟩ := hR9; subst e9 e8); (try simp only [List.nil_append, List.cons_append] at N10); (try k_sweep); refine finQ hQ5 ?_; clear hQ5; clear Q5; (try dsimp only)) | ((with_reducible show wpAny _ _ (call (Value.ref _) _) _ _ _); refine opqQ ?_; intro Q5 hQ5; refine callS (concat_spec _ _ _ _ _) ?_ (by ((try dsimp only); (try simp only [Str.length_append]); (try simp only [show ∀ c : Nat, (⟨#[c]⟩ : Str).length = 1 from fun _ => rfl]); omega)); intro v9 new9 h9 tk9 hR9 st9 F9 N9 N10; (obtain ⟨t9, e9, e8⟩ := hR9; subst e9 e8); (try simp only [List.nil_append, List.cons_append] at N10); (try k_sweep); refine finQ hQ5 ?_; clear hQ5; clear Q5; (try dsimp only)) | (with_reducible refine Mine.toksE ?_; intro _) | (k_unfold; (try dsimp only)) | (k_end; wrow_close) | walk1 | (dsimp only; walk1) | (leave1; (try dsimp only))))
    all_goals (
      rename News _ _ _ _ => NE
      refine nextT (by k_asm) NE (fun p hp => by have hp := hfe p hp; (repeat (first | exact hp | apply List.mem_cons_of_mem))) ?_
      intro z hz
      have h0 := hm z hz
      simp only [List.contains_cons, List.contains_nil, Bool.or_false, Bool.or_eq_false_iff, beq_eq_false_iff_ne] at hz
      obtain ⟨z1, z2, z3⟩ := hz
      (try dsimp only [put] at h0 ⊢)
      simp only [if_neg z1, if_neg z2, if_neg z3]
      exact h0)
  intro m9 h9 tk9 hm F9 N9
  dsimp only [envOfC] at F9 N9
  have hfT : ∀ p ∈ TC, p ∈ fx := fun p h => hfx p (by (repeat (refine List.mem_cons_of_mem _ ?_)); exact h)
  have NL := news_cons (news_one N9 (p := (xa, instObj 83 dxa)) (hfx _ (by k_mem))) (news_cons (news_one N9 (p := (dxa, dictOf [⟨fa9 0, .str (Str.ofString "raw") (ka9 0), .str rawa tra⟩, ⟨fa9 1, .str (Str.ofString "n") (ka9 1), .int _ tna⟩, ⟨fa9 2, .str (Str.ofString "nt") (ka9 2), .int _ tnta⟩, ⟨fa9 3, .str (Str.ofString "norm") (ka9 3), .ref tNa⟩, ⟨fa9 4, .str (Str.ofString "is_simple") (ka9 4), .bool _⟩] nna)) (hfx _ (by k_mem))) N9)
  clear N9 hfx
  have F10 := fr_stored F9 hm
  clear F9 hm
  (try dsimp only at F10)
  have htr := tally_runs (W0.length + W1.length + W2.length) oN (theirs (W0.length, W1.length, W2.length))
  rw [hA, hR] at htr
  have hfin := htr.trans hone
  (repeat' (first | ((with_reducible show wpAny _ _ (compareOp CmpOp.Is (Value.bool _) (Value.bool _)) _ _ _); refine isB (by first | rfl | assumption) ?_) | ((with_reducible show Mine.Fnm _); exact hEnd _ _ _ (by first | with_reducible assumption | assumption)) | ((with_reducible show wpAny _ _ (call (Value.ref _) _) _ _ _); refine opqQ ?_; intro Q5 hQ5; refine callS (prepared_spec _ _ _) ?_ (by ((try dsimp only); (try simp only [Str.length_append]); (try simp only [show ∀ c : Nat, (⟨#[c]⟩ : Str).length = 1 from fun _ => rfl]); omega)); intro v9 new9 h9 tk9 hR9 st9 F9 N9 N10; (obtain ⟨t9, e9, e8⟩ := hR9; subst e9 e8); (try simp only [List.nil_append, List.cons_append] at N10); (try k_sweep); refine finQ hQ5 ?_; clear hQ5; clear Q5; (try dsimp only)) | ((with_reducible show wpAny _ _ (call (Value.ref _) _) _ _ _); refine opqQ ?_; intro Q5 hQ5; refine callS (concat_spec _ _ _ _ _) ?_ (by ((try dsimp only); (try simp only [Str.length_append]); (try simp only [show ∀ c : Nat, (⟨#[c]⟩ : Str).length = 1 from fun _ => rfl]); omega)); intro v9 new9 h9 tk9 hR9 st9 F9 N9 N10; (obtain ⟨t9, e9, e8⟩ := hR9; subst e9 e8); (try simp only [List.nil_append, List.cons_append] at N10); (try k_sweep); refine finQ hQ5 ?_; clear hQ5; clear Q5; (try dsimp only)) | (with_reducible refine Mine.toksE ?_; intro _) | (k_unfold; (try dsimp only)) | (k_end; wrow_close) | walk1 | (dsimp only; walk1) | (leave1; (try dsimp only))))
  rename News _ _ _ _ => NL
  unfold Stop
  refine opqQ ?_
  intro Q5 hQ5
  refine' (equal_specW _ xa xb ⟨A, 0⟩ ⟨R, 0⟩) _ _ _ _ _ _ _ _ _ _ _ _ _ _ _ _ _ _ _ _ _ _ _ _ _ _ ?k1_s12 ?k2_s12 ?k3_s12 ?k4_s12 ?k5_s12 ?k6_s12 ?k7_s12 ?k8_s12 ?_
  case k5_s12 => first | exact rfl | assumption
  case k1_s12 => k_asm
  case k2_s12 => k_asm
  case k3_s12 => k_asm
  case k4_s12 => k_asm
  case k7_s12 => ktr_room
  case k8_s12 => ktr_units
  case k6_s12 => exact ⟨ws_in NL (fun p h => by have h := hfT p h; (repeat (refine List.mem_cons_of_mem _ ?_)); exact h) hia, ws_in NL (fun p h => by have h := hfT p h; (repeat (refine List.mem_cons_of_mem _ ?_)); exact h) hib⟩
  intro v9 new9 h9 tk9 hR9 st9 F9 N9
  obtain ⟨e9, e8⟩ := hR9; rw [hfin] at e9; subst e9 e8
  have N10 := Mine.news_grow (by first | with_reducible assumption | assumption) st9 N9
  (try simp only [List.nil_append, List.cons_append] at N10)
  (try k_sweep)
  refine finQ hQ5 ?_
  clear hQ5
  clear Q5
  (try dsimp only)
  (repeat' (first | ((with_reducible show wpAny _ _ (compareOp CmpOp.Is (Value.bool _) (Value.bool _)) _ _ _); refine isB (by first | rfl | assumption) ?_) | ((with_reducible show Mine.Fnm _); exact hEnd _ _ _ (by first | with_reducible assumption | assumption)) | ((with_reducible show wpAny _ _ (call (Value.ref _) _) _ _ _); refine opqQ ?_; intro Q5 hQ5; refine callS (prepared_spec _ _ _) ?_ (by ((try dsimp only); (try simp only [Str.length_append]); (try simp only [show ∀ c : Nat, (⟨#[c]⟩ : Str).length = 1 from fun _ => rfl]); omega)); intro v9 new9 h9 tk9 hR9 st9 F9 N9 N10; (obtain ⟨t9, e9, e8⟩ := hR9; subst e9 e8); (try simp only [List.nil_append, List.cons_append] at N10); (try k_sweep); refine finQ hQ5 ?_; clear hQ5; clear Q5; (try dsimp only)) | ((with_reducible show wpAny _ _ (call (Value.ref _) _) _ _ _); refine opqQ ?_; intro Q5 hQ5; refine callS (concat_spec _ _ _ _ _) ?_ (by ((try dsimp only); (try simp only [Str.length_append]); (try simp only [show ∀ c : Nat, (⟨#[c]⟩ : Str).length = 1 from fun _ => rfl]); omega)); intro v9 new9 h9 tk9 hR9 st9 F9 N9 N10; (obtain ⟨t9, e9, e8⟩ := hR9; subst e9 e8); (try simp only [List.nil_append, List.cons_append] at N10); (try k_sweep); refine finQ hQ5 ?_; clear hQ5; clear Q5; (try dsimp only)) | (with_reducible refine Mine.toksE ?_; intro _) | (k_unfold; (try dsimp only)) | (k_end; wrow_close) | walk1 | (dsimp only; walk1) | (leave1; (try dsimp only))))
