import PyProof.Rows.All
import Wide.All
import OpenK.AllK
import Wide.FinOn
import PySem.Challenge.RW_st0039_01
set_option Elab.async false
set_option linter.all false
set_option maxRecDepth 100000
section
set_option Elab.async false
set_option maxRecDepth 100000
set_option maxHeartbeats 0
open PySem PySem.W PyProof.Rows
namespace Mine
noncomputable def fdef (i : Nat) : Arguments × List Stmt × Scope := match PySem.Challenge.pw_st0039_01.main.body[i]? with
  | some (Stmt.FunctionDef _ a b _ _ _ s _ _ _) => (a, b, s)
  | _ => default
noncomputable def mdef (j : Nat) : Arguments × List Stmt × Scope := match PySem.Challenge.pw_st0039_01.main.body[9]? with
  | some (Stmt.ClassDef _ _ _ b _ _ _ _ _ _ _) => (match b[j]? with
    | some (Stmt.FunctionDef _ a b _ _ _ s _ _ _) => (a, b, s)
    | _ => default)
  | _ => default
noncomputable def b3src : List (Int × Str) := match PySem.Challenge.pw_st0039_01.main.body[6]? with
  | some (Stmt.Assign _ (Expr.Dict ks vs _) _) => (ks.zip vs).filterMap fun
    | (some (Expr.Constant (Const.int k) _ _), Expr.Constant (Const.str v) _ _) => some (k, v)
    | _ => none
  | _ => []
noncomputable def b3tok (i : Nat) : Nat := if i < 646 then 275 + 3 * i else 2213 + 2 * (i - 646)
noncomputable def b3from : Nat → List (Int × Str) → List DictEntry
  | _, [] => []
  | i, (k, v) :: r => ⟨PySem.hashInt k, .int k (b3tok i), .str v (b3tok i + 1)⟩ :: b3from (i + 1) r
noncomputable def b3entries : List DictEntry := b3from 0 b3src
noncomputable def heapK : Params → Frag := fun P =>
  (nat_lit 2, (Obj.mk Value.none none (Data.dict #[] 0) #[])) ::
  (nat_lit 3, (Obj.mk (Value.type "dict") none (Data.dict #[(DictEntry.mk (PyData.keyHash P (Str.ofString "__name__")) (Value.str (Str.ofString "__name__") 165) (Value.str (Str.ofString "law_st0039_01") 2336)), (DictEntry.mk (PyData.keyHash P (Str.ofString "__doc__")) (Value.str (Str.ofString "__doc__") 166) Value.none), (DictEntry.mk (PyData.keyHash P (Str.ofString "__package__")) (Value.str (Str.ofString "__package__") 167) Value.none), (DictEntry.mk (PyData.keyHash P (Str.ofString "__loader__")) (Value.str (Str.ofString "__loader__") 168) (Value.builtin "__main__.__loader__#opaque")), (DictEntry.mk (PyData.keyHash P (Str.ofString "__spec__")) (Value.str (Str.ofString "__spec__") 169) Value.none), (DictEntry.mk (PyData.keyHash P (Str.ofString "__annotations__")) (Value.str (Str.ofString "__annotations__") 170) (Value.ref 6)), (DictEntry.mk (PyData.keyHash P (Str.ofString "__builtins__")) (Value.str (Str.ofString "__builtins__") 171) (Value.ref 4)), (DictEntry.mk (PyData.keyHash P (Str.ofString "__file__")) (Value.str (Str.ofString "__file__") 173) (Value.str (Str.ofString "/claim/cut.py") 172)), (DictEntry.mk (PyData.keyHash P (Str.ofString "__cached__")) (Value.str (Str.ofString "__cached__") 174) Value.none), (DictEntry.mk (PyData.keyHash P (Str.ofString "_wall")) (Value.str (Str.ofString "_wall") 193) (Value.ref 21)), (DictEntry.mk (PyData.keyHash P (Str.ofString "_strip_padding")) (Value.str (Str.ofString "_strip_padding") 205) (Value.ref 28)), (DictEntry.mk (PyData.keyHash P (Str.ofString "b1_set")) (Value.str (Str.ofString "b1_set") 267) (Value.ref 36)), (DictEntry.mk (PyData.keyHash P (Str.ofString "in_table_b1")) (Value.str (Str.ofString "in_table_b1") 274) (Value.ref 46)), (DictEntry.mk (PyData.keyHash P (Str.ofString "b3_exceptions")) (Value.str (Str.ofString "b3_exceptions") 2225) (Value.ref 47)), (DictEntry.mk (PyData.keyHash P (Str.ofString "map_table_b3")) (Value.str (Str.ofString "map_table_b3") 2233) (Value.ref 92)), (DictEntry.mk (PyData.keyHash P (Str.ofString "Whitespace")) (Value.str (Str.ofString "Whitespace") 2335) (Value.ref 154)), (DictEntry.mk (PyData.keyHash P (Str.ofString "_law_prepared")) (Value.str (Str.ofString "_law_prepared") 2343) (Value.ref 163)), (DictEntry.mk (PyData.keyHash P (Str.ofString "_law_grown")) (Value.str (Str.ofString "_law_grown") 2353) (Value.ref 170)), (DictEntry.mk (PyData.keyHash P (Str.ofString "_law_read")) (Value.str (Str.ofString "_law_read") 2364) (Value.ref 177)), (DictEntry.mk (PyData.keyHash P (Str.ofString "law")) (Value.str (Str.ofString "law") 2370) (Value.ref 182))] 20) #[])) ::
  (nat_lit 6, (Obj.mk (Value.type "dict") none (Data.dict #[] 0) #[])) ::
  (nat_lit 15, (Obj.mk (Value.type "tuple") none (Data.seq #[] 0) #[])) ::
  (nat_lit 17, (Obj.mk (Value.type "tuple") none (Data.seq #[(Value.str (Str.ofString "k") 190)] 0) #[])) ::
  (nat_lit 18, (Obj.mk (Value.type "tuple") none (Data.seq #[] 0) #[])) ::
  (nat_lit 20, (Obj.mk (Value.type "code") none (Data.fields #[(Value.str (Str.ofString "_wall") 187), (Value.str (Str.ofString "_wall") 188), (Value.str (Str.ofString "/claim/cut.py") 189), (Value.int 1 0), (Value.int 1 0), (Value.int 0 0), (Value.int 0 0), (Value.int 3 0), (Value.ref 15), (Value.bool Bool.true), (Value.int 181 0), (Value.ref 16), Value.none, (Value.ref 17), (Value.ref 18), (Value.ref 19), (Value.int 191 0), (Value.int 1 0), (Value.str (Str.ofString "/claim/cut.py") 192)]) #[])) ::
  (nat_lit 21, (Obj.mk (Value.type "function") none (Data.func (FuncData.mk (Str.ofString "_wall") (Str.ofString "_wall") (fdef 0).1 (FuncBody.stmts (fdef 0).2.1) (fdef 0).2.2 3 [] Value.none Value.none Value.none (Value.str (Str.ofString "__main__") 164) none (Value.ref 20) Value.none 0)) #[])) ::
  (nat_lit 22, (Obj.mk (Value.type "tuple") none (Data.seq #[] 0) #[])) ::
  (nat_lit 24, (Obj.mk (Value.type "tuple") none (Data.seq #[(Value.str (Str.ofString "s") 199), (Value.str (Str.ofString "amount") 200), (Value.str (Str.ofString "lpos") 201), (Value.str (Str.ofString "rpos") 202)] 0) #[])) ::
  (nat_lit 25, (Obj.mk (Value.type "tuple") none (Data.seq #[] 0) #[])) ::
  (nat_lit 27, (Obj.mk (Value.type "code") none (Data.fields #[(Value.str (Str.ofString "_strip_padding") 196), (Value.str (Str.ofString "_strip_padding") 197), (Value.str (Str.ofString "/claim/cut.py") 198), (Value.int 5 0), (Value.int 2 0), (Value.int 0 0), (Value.int 0 0), (Value.int 3 0), (Value.ref 22), (Value.bool Bool.true), (Value.int 181 0), (Value.ref 23), Value.none, (Value.ref 24), (Value.ref 25), (Value.ref 26), (Value.int 203 0), (Value.int 5 0), (Value.str (Str.ofString "/claim/cut.py") 204)]) #[])) ::
  (nat_lit 28, (Obj.mk (Value.type "function") none (Data.func (FuncData.mk (Str.ofString "_strip_padding") (Str.ofString "_strip_padding") (fdef 2).1 (FuncBody.stmts (fdef 2).2.1) (fdef 2).2.2 3 [] Value.none Value.none Value.none (Value.str (Str.ofString "cpy313.locale") 194) none (Value.ref 27) Value.none 0)) #[])) ::
  (nat_lit 36, (Obj.mk (Value.type "set") none (Data.set #[(65024, (Value.int 65024 224)), (65025, (Value.int 65025 225)), (65026, (Value.int 65026 226)), (65027, (Value.int 65027 227)), (65028, (Value.int 65028 228)), (65029, (Value.int 65029 229)), (6150, (Value.int 6150 210)), (65030, (Value.int 65030 230)), (65031, (Value.int 65031 231)), (65032, (Value.int 65032 232)), (65033, (Value.int 65033 233)), (6155, (Value.int 6155 211)), (6156, (Value.int 6156 212)), (6157, (Value.int 6157 213)), (8203, (Value.int 8203 214)), (8204, (Value.int 8204 215)), (8205, (Value.int 8205 216)), (65034, (Value.int 65034 234)), (65035, (Value.int 65035 235)), (65036, (Value.int 65036 236)), (65037, (Value.int 65037 237)), (65038, (Value.int 65038 238)), (65039, (Value.int 65039 239)), (173, (Value.int 173 208)), (847, (Value.int 847 209)), (8288, (Value.int 8288 217)), (65279, (Value.int 65279 218))] 29 (SetTable.mk 127 #[0, 1, 2, 3, 4, 5, 6, 7, 8, 9, 10, 11, 12, 13, 14, 15, 16, 17, 18, 19, 20, 21, 22, 45, 79, 96, 127] #[] 0 (!(P.followText "set-order")) 2 true)) #[])) ::
  (nat_lit 40, (Obj.mk (Value.type "tuple") none (Data.seq #[] 0) #[])) ::
  (nat_lit 42, (Obj.mk (Value.type "tuple") none (Data.seq #[(Value.str (Str.ofString "code") 271)] 0) #[])) ::
  (nat_lit 43, (Obj.mk (Value.type "tuple") none (Data.seq #[] 0) #[])) ::
  (nat_lit 45, (Obj.mk (Value.type "code") none (Data.fields #[(Value.str (Str.ofString "in_table_b1") 268), (Value.str (Str.ofString "in_table_b1") 269), (Value.str (Str.ofString "/claim/cut.py") 270), (Value.int 17 0), (Value.int 1 0), (Value.int 0 0), (Value.int 0 0), (Value.int 3 0), (Value.ref 40), (Value.bool Bool.true), (Value.int 181 0), (Value.ref 41), Value.none, (Value.ref 42), (Value.ref 43), (Value.ref 44), (Value.int 272 0), (Value.int 17 0), (Value.str (Str.ofString "/claim/cut.py") 273)]) #[])) ::
  (nat_lit 46, (Obj.mk (Value.type "function") none (Data.func (FuncData.mk (Str.ofString "in_table_b1") (Str.ofString "in_table_b1") (fdef 5).1 (FuncBody.stmts (fdef 5).2.1) (fdef 5).2.2 3 [] Value.none Value.none Value.none (Value.str (Str.ofString "cpy313.stringprep") 206) none (Value.ref 45) Value.none 0)) #[])) ::
  (nat_lit 47, (Obj.mk (Value.type "dict") none (Data.dict (List.toArray b3entries) 650) #[])) ::
  (nat_lit 86, (Obj.mk (Value.type "tuple") none (Data.seq #[] 0) #[])) ::
  (nat_lit 88, (Obj.mk (Value.type "tuple") none (Data.seq #[(Value.str (Str.ofString "code") 2229), (Value.str (Str.ofString "r") 2230)] 0) #[])) ::
  (nat_lit 89, (Obj.mk (Value.type "tuple") none (Data.seq #[] 0) #[])) ::
  (nat_lit 91, (Obj.mk (Value.type "code") none (Data.fields #[(Value.str (Str.ofString "map_table_b3") 2226), (Value.str (Str.ofString "map_table_b3") 2227), (Value.str (Str.ofString "/claim/cut.py") 2228), (Value.int 20 0), (Value.int 1 0), (Value.int 0 0), (Value.int 0 0), (Value.int 3 0), (Value.ref 86), (Value.bool Bool.true), (Value.int 181 0), (Value.ref 87), Value.none, (Value.ref 88), (Value.ref 89), (Value.ref 90), (Value.int 2231 0), (Value.int 20 0), (Value.str (Str.ofString "/claim/cut.py") 2232)]) #[])) ::
  (nat_lit 92, (Obj.mk (Value.type "function") none (Data.func (FuncData.mk (Str.ofString "map_table_b3") (Str.ofString "map_table_b3") (fdef 7).1 (FuncBody.stmts (fdef 7).2.1) (fdef 7).2.2 3 [] Value.none Value.none Value.none (Value.str (Str.ofString "cpy313.stringprep") 206) none (Value.ref 91) Value.none 0)) #[])) ::
  (nat_lit 103, (Obj.mk (Value.type "tuple") none (Data.seq #[] 0) #[])) ::
  (nat_lit 105, (Obj.mk (Value.type "tuple") none (Data.seq #[(Value.str (Str.ofString "self") 2256), (Value.str (Str.ofString "ws") 2257), (Value.str (Str.ofString "S") 2258), (Value.str (Str.ofString "T") 2259), (Value.str (Str.ofString "count") 2260), (Value.str (Str.ofString "b") 2261), (Value.str (Str.ofString "n") 2262), (Value.str (Str.ofString "nt") 2263), (Value.str (Str.ofString "ch") 2264)] 0) #[])) ::
  (nat_lit 106, (Obj.mk (Value.type "tuple") none (Data.seq #[] 0) #[])) ::
  (nat_lit 108, (Obj.mk (Value.type "code") none (Data.fields #[(Value.str (Str.ofString "__init__") 2253), (Value.str (Str.ofString "Whitespace.__init__") 2254), (Value.str (Str.ofString "/claim/cut.py") 2255), (Value.int 29 0), (Value.int 2 0), (Value.int 0 0), (Value.int 0 0), (Value.int 3 0), (Value.ref 103), (Value.bool Bool.true), (Value.int 181 0), (Value.ref 104), Value.none, (Value.ref 105), (Value.ref 106), (Value.ref 107), (Value.int 2265 0), (Value.int 29 0), (Value.str (Str.ofString "/claim/cut.py") 2266)]) #[])) ::
  (nat_lit 109, (Obj.mk (Value.type "function") none (Data.func (FuncData.mk (Str.ofString "__init__") (Str.ofString "Whitespace.__init__") (mdef 1).1 (FuncBody.stmts (mdef 1).2.1) (mdef 1).2.2 3 [] Value.none Value.none Value.none (Value.str (Str.ofString "cpy313.tabnanny") 2234) none (Value.ref 108) Value.none 0)) #[])) ::
  (nat_lit 110, (Obj.mk (Value.type "tuple") none (Data.seq #[] 0) #[])) ::
  (nat_lit 112, (Obj.mk (Value.type "tuple") none (Data.seq #[(Value.str (Str.ofString "self") 2271), (Value.str (Str.ofString "count") 2272), (Value.str (Str.ofString "trailing") 2273)] 0) #[])) ::
  (nat_lit 113, (Obj.mk (Value.type "tuple") none (Data.seq #[] 0) #[])) ::
  (nat_lit 115, (Obj.mk (Value.type "code") none (Data.fields #[(Value.str (Str.ofString "longest_run_of_spaces") 2268), (Value.str (Str.ofString "Whitespace.longest_run_of_spaces") 2269), (Value.str (Str.ofString "/claim/cut.py") 2270), (Value.int 52 0), (Value.int 1 0), (Value.int 0 0), (Value.int 0 0), (Value.int 3 0), (Value.ref 110), (Value.bool Bool.true), (Value.int 181 0), (Value.ref 111), Value.none, (Value.ref 112), (Value.ref 113), (Value.ref 114), (Value.int 2274 0), (Value.int 52 0), (Value.str (Str.ofString "/claim/cut.py") 2275)]) #[])) ::
  (nat_lit 116, (Obj.mk (Value.type "function") none (Data.func (FuncData.mk (Str.ofString "longest_run_of_spaces") (Str.ofString "Whitespace.longest_run_of_spaces") (mdef 2).1 (FuncBody.stmts (mdef 2).2.1) (mdef 2).2.2 3 [] Value.none Value.none Value.none (Value.str (Str.ofString "cpy313.tabnanny") 2234) none (Value.ref 115) Value.none 0)) #[])) ::
  (nat_lit 117, (Obj.mk (Value.type "tuple") none (Data.seq #[] 0) #[])) ::
  (nat_lit 119, (Obj.mk (Value.type "tuple") none (Data.seq #[(Value.str (Str.ofString "self") 2280), (Value.str (Str.ofString "tabsize") 2281), (Value.str (Str.ofString "count") 2282), (Value.str (Str.ofString "trailing") 2283), (Value.str (Str.ofString "il") 2284), (Value.str (Str.ofString "i") 2285)] 0) #[])) ::
  (nat_lit 120, (Obj.mk (Value.type "tuple") none (Data.seq #[] 0) #[])) ::
  (nat_lit 122, (Obj.mk (Value.type "code") none (Data.fields #[(Value.str (Str.ofString "indent_level") 2277), (Value.str (Str.ofString "Whitespace.indent_level") 2278), (Value.str (Str.ofString "/claim/cut.py") 2279), (Value.int 56 0), (Value.int 2 0), (Value.int 0 0), (Value.int 0 0), (Value.int 3 0), (Value.ref 117), (Value.bool Bool.true), (Value.int 181 0), (Value.ref 118), Value.none, (Value.ref 119), (Value.ref 120), (Value.ref 121), (Value.int 2286 0), (Value.int 56 0), (Value.str (Str.ofString "/claim/cut.py") 2287)]) #[])) ::
  (nat_lit 123, (Obj.mk (Value.type "function") none (Data.func (FuncData.mk (Str.ofString "indent_level") (Str.ofString "Whitespace.indent_level") (mdef 3).1 (FuncBody.stmts (mdef 3).2.1) (mdef 3).2.2 3 [] Value.none Value.none Value.none (Value.str (Str.ofString "cpy313.tabnanny") 2234) none (Value.ref 122) Value.none 0)) #[])) ::
  (nat_lit 124, (Obj.mk (Value.type "tuple") none (Data.seq #[] 0) #[])) ::
  (nat_lit 126, (Obj.mk (Value.type "tuple") none (Data.seq #[(Value.str (Str.ofString "self") 2292), (Value.str (Str.ofString "other") 2293)] 0) #[])) ::
  (nat_lit 127, (Obj.mk (Value.type "tuple") none (Data.seq #[] 0) #[])) ::
  (nat_lit 129, (Obj.mk (Value.type "code") none (Data.fields #[(Value.str (Str.ofString "equal") 2289), (Value.str (Str.ofString "Whitespace.equal") 2290), (Value.str (Str.ofString "/claim/cut.py") 2291), (Value.int 63 0), (Value.int 2 0), (Value.int 0 0), (Value.int 0 0), (Value.int 3 0), (Value.ref 124), (Value.bool Bool.true), (Value.int 181 0), (Value.ref 125), Value.none, (Value.ref 126), (Value.ref 127), (Value.ref 128), (Value.int 2294 0), (Value.int 63 0), (Value.str (Str.ofString "/claim/cut.py") 2295)]) #[])) ::
  (nat_lit 130, (Obj.mk (Value.type "function") none (Data.func (FuncData.mk (Str.ofString "equal") (Str.ofString "Whitespace.equal") (mdef 4).1 (FuncBody.stmts (mdef 4).2.1) (mdef 4).2.2 3 [] Value.none Value.none Value.none (Value.str (Str.ofString "cpy313.tabnanny") 2234) none (Value.ref 129) Value.none 0)) #[])) ::
  (nat_lit 131, (Obj.mk (Value.type "tuple") none (Data.seq #[] 0) #[])) ::
  (nat_lit 133, (Obj.mk (Value.type "tuple") none (Data.seq #[(Value.str (Str.ofString "self") 2300), (Value.str (Str.ofString "other") 2301)] 0) #[])) ::
  (nat_lit 134, (Obj.mk (Value.type "tuple") none (Data.seq #[] 0) #[])) ::
  (nat_lit 136, (Obj.mk (Value.type "code") none (Data.fields #[(Value.str (Str.ofString "not_equal_witness") 2297), (Value.str (Str.ofString "Whitespace.not_equal_witness") 2298), (Value.str (Str.ofString "/claim/cut.py") 2299), (Value.int 66 0), (Value.int 2 0), (Value.int 0 0), (Value.int 0 0), (Value.int 3 0), (Value.ref 131), (Value.bool Bool.true), (Value.int 181 0), (Value.ref 132), Value.none, (Value.ref 133), (Value.ref 134), (Value.ref 135), (Value.int 2302 0), (Value.int 66 0), (Value.str (Str.ofString "/claim/cut.py") 2303)]) #[])) ::
  (nat_lit 137, (Obj.mk (Value.type "function") none (Data.func (FuncData.mk (Str.ofString "not_equal_witness") (Str.ofString "Whitespace.not_equal_witness") (mdef 5).1 (FuncBody.stmts (mdef 5).2.1) (mdef 5).2.2 3 [] Value.none Value.none Value.none (Value.str (Str.ofString "cpy313.tabnanny") 2234) none (Value.ref 136) Value.none 0)) #[])) ::
  (nat_lit 138, (Obj.mk (Value.type "tuple") none (Data.seq #[] 0) #[])) ::
  (nat_lit 140, (Obj.mk (Value.type "tuple") none (Data.seq #[(Value.str (Str.ofString "self") 2308), (Value.str (Str.ofString "other") 2309), (Value.str (Str.ofString "n") 2310), (Value.str (Str.ofString "ts") 2311)] 0) #[])) ::
  (nat_lit 141, (Obj.mk (Value.type "tuple") none (Data.seq #[] 0) #[])) ::
  (nat_lit 143, (Obj.mk (Value.type "code") none (Data.fields #[(Value.str (Str.ofString "less") 2305), (Value.str (Str.ofString "Whitespace.less") 2306), (Value.str (Str.ofString "/claim/cut.py") 2307), (Value.int 69 0), (Value.int 2 0), (Value.int 0 0), (Value.int 0 0), (Value.int 3 0), (Value.ref 138), (Value.bool Bool.true), (Value.int 181 0), (Value.ref 139), Value.none, (Value.ref 140), (Value.ref 141), (Value.ref 142), (Value.int 2312 0), (Value.int 69 0), (Value.str (Str.ofString "/claim/cut.py") 2313)]) #[])) ::
  (nat_lit 144, (Obj.mk (Value.type "function") none (Data.func (FuncData.mk (Str.ofString "less") (Str.ofString "Whitespace.less") (mdef 6).1 (FuncBody.stmts (mdef 6).2.1) (mdef 6).2.2 3 [] Value.none Value.none Value.none (Value.str (Str.ofString "cpy313.tabnanny") 2234) none (Value.ref 143) Value.none 0)) #[])) ::
  (nat_lit 145, (Obj.mk (Value.type "tuple") none (Data.seq #[] 0) #[])) ::
  (nat_lit 147, (Obj.mk (Value.type "tuple") none (Data.seq #[(Value.str (Str.ofString "self") 2318), (Value.str (Str.ofString "other") 2319)] 0) #[])) ::
  (nat_lit 148, (Obj.mk (Value.type "tuple") none (Data.seq #[] 0) #[])) ::
  (nat_lit 150, (Obj.mk (Value.type "code") none (Data.fields #[(Value.str (Str.ofString "not_less_witness") 2315), (Value.str (Str.ofString "Whitespace.not_less_witness") 2316), (Value.str (Str.ofString "/claim/cut.py") 2317), (Value.int 80 0), (Value.int 2 0), (Value.int 0 0), (Value.int 0 0), (Value.int 3 0), (Value.ref 145), (Value.bool Bool.true), (Value.int 181 0), (Value.ref 146), Value.none, (Value.ref 147), (Value.ref 148), (Value.ref 149), (Value.int 2320 0), (Value.int 80 0), (Value.str (Str.ofString "/claim/cut.py") 2321)]) #[])) ::
  (nat_lit 151, (Obj.mk (Value.type "function") none (Data.func (FuncData.mk (Str.ofString "not_less_witness") (Str.ofString "Whitespace.not_less_witness") (mdef 7).1 (FuncBody.stmts (mdef 7).2.1) (mdef 7).2.2 3 [] Value.none Value.none Value.none (Value.str (Str.ofString "cpy313.tabnanny") 2234) none (Value.ref 150) Value.none 0)) #[])) ::
  (nat_lit 152, (Obj.mk (Value.type "tuple") none (Data.seq #[(Value.str (Str.ofString "is_simple") 2323), (Value.str (Str.ofString "n") 2324), (Value.str (Str.ofString "norm") 2325), (Value.str (Str.ofString "nt") 2326), (Value.str (Str.ofString "raw") 2327)] 0) #[])) ::
  (nat_lit 153, (Obj.mk (Value.type "dict") none (Data.dict #[(DictEntry.mk (PyData.keyHash P (Str.ofString "__module__")) (Value.str (Str.ofString "__module__") 2243) (Value.str (Str.ofString "cpy313.tabnanny") 2234)), (DictEntry.mk (PyData.keyHash P (Str.ofString "__firstlineno__")) (Value.str (Str.ofString "__firstlineno__") 2247) (Value.int 26 2246)), (DictEntry.mk (PyData.keyHash P (Str.ofString "S")) (Value.str (Str.ofString "S") 2251) (Value.str (Str.ofString " ") 2249)), (DictEntry.mk (PyData.keyHash P (Str.ofString "T")) (Value.str (Str.ofString "T") 2252) (Value.str (Str.ofString "\t") 2250)), (DictEntry.mk (PyData.keyHash P (Str.ofString "__init__")) (Value.str (Str.ofString "__init__") 2267) (Value.ref 109)), (DictEntry.mk (PyData.keyHash P (Str.ofString "longest_run_of_spaces")) (Value.str (Str.ofString "longest_run_of_spaces") 2276) (Value.ref 116)), (DictEntry.mk (PyData.keyHash P (Str.ofString "indent_level")) (Value.str (Str.ofString "indent_level") 2288) (Value.ref 123)), (DictEntry.mk (PyData.keyHash P (Str.ofString "equal")) (Value.str (Str.ofString "equal") 2296) (Value.ref 130)), (DictEntry.mk (PyData.keyHash P (Str.ofString "not_equal_witness")) (Value.str (Str.ofString "not_equal_witness") 2304) (Value.ref 137)), (DictEntry.mk (PyData.keyHash P (Str.ofString "less")) (Value.str (Str.ofString "less") 2314) (Value.ref 144)), (DictEntry.mk (PyData.keyHash P (Str.ofString "not_less_witness")) (Value.str (Str.ofString "not_less_witness") 2322) (Value.ref 151)), (DictEntry.mk (PyData.keyHash P (Str.ofString "__static_attributes__")) (Value.str (Str.ofString "__static_attributes__") 2328) (Value.ref 152)), (DictEntry.mk (PyData.keyHash P (Str.ofString "__dict__")) (Value.str (Str.ofString "__dict__") 2330) (Value.ref 155)), (DictEntry.mk (PyData.keyHash P (Str.ofString "__weakref__")) (Value.str (Str.ofString "__weakref__") 2332) (Value.ref 156)), (DictEntry.mk (PyData.keyHash P (Str.ofString "__doc__")) (Value.str (Str.ofString "__doc__") 2333) Value.none)] 4) #[])) ::
  (nat_lit 154, (Obj.mk (Value.type "type") none (Data.cls (ClassData.mk (Str.ofString "Whitespace") [(Value.type "object")] [(Value.ref 154), (Value.type "object")] 153 (Str.ofString "Whitespace") Bool.true [] [] Bool.false none Bool.false)) #[none, none, (some (Value.str (Str.ofString "Whitespace") 2236)), (some (Value.str (Str.ofString "Whitespace") 2244)), (some (Value.builtin "object.__new__")), (some (Value.bool Bool.true))])) ::
  (nat_lit 155, (Obj.mk (Value.type "getset_descriptor") none (Data.fields #[(Value.str (Str.ofString "__dict__") 2329), (Value.ref 154), (Value.builtin "function.__dict__"), (Value.builtin "function.__dict__#set")]) #[])) ::
  (nat_lit 156, (Obj.mk (Value.type "getset_descriptor") none (Data.fields #[(Value.str (Str.ofString "__weakref__") 2331), (Value.ref 154), (Value.builtin "ExceptionGroup.__weakref__"), Value.none]) #[])) ::
  (nat_lit 159, (Obj.mk (Value.type "tuple") none (Data.seq #[] 0) #[])) ::
  (nat_lit 162, (Obj.mk (Value.type "code") none (Data.fields #[(Value.str (Str.ofString "_law_prepared") 2338), (Value.str (Str.ofString "_law_prepared") 2339), (Value.str (Str.ofString "/claim/cut.py") 2340), (Value.int 83 0), (Value.int 1 0), (Value.int 0 0), (Value.int 0 0), (Value.int 3 0), (Value.ref 159), (Value.bool Bool.true), (Value.int 181 0), (Value.ref 160), Value.none, Value.none, Value.none, (Value.ref 161), (Value.int 2341 0), (Value.int 83 0), (Value.str (Str.ofString "/claim/cut.py") 2342)]) #[])) ::
  (nat_lit 163, (Obj.mk (Value.type "function") none (Data.func (FuncData.mk (Str.ofString "_law_prepared") (Str.ofString "_law_prepared") (fdef 11).1 (FuncBody.stmts (fdef 11).2.1) (fdef 11).2.2 3 [] Value.none Value.none Value.none (Value.str (Str.ofString "law_st0039_01") 2336) none (Value.ref 162) Value.none 0)) #[])) ::
  (nat_lit 164, (Obj.mk (Value.type "tuple") none (Data.seq #[] 0) #[])) ::
  (nat_lit 166, (Obj.mk (Value.type "tuple") none (Data.seq #[(Value.str (Str.ofString "word") 2347), (Value.str (Str.ofString "a") 2348), (Value.str (Str.ofString "b") 2349), (Value.str (Str.ofString "letter") 2350)] 0) #[])) ::
  (nat_lit 167, (Obj.mk (Value.type "tuple") none (Data.seq #[] 0) #[])) ::
  (nat_lit 169, (Obj.mk (Value.type "code") none (Data.fields #[(Value.str (Str.ofString "_law_grown") 2344), (Value.str (Str.ofString "_law_grown") 2345), (Value.str (Str.ofString "/claim/cut.py") 2346), (Value.int 87 0), (Value.int 1 0), (Value.int 0 0), (Value.int 0 0), (Value.int 3 0), (Value.ref 164), (Value.bool Bool.true), (Value.int 181 0), (Value.ref 165), Value.none, (Value.ref 166), (Value.ref 167), (Value.ref 168), (Value.int 2351 0), (Value.int 87 0), (Value.str (Str.ofString "/claim/cut.py") 2352)]) #[])) ::
  (nat_lit 170, (Obj.mk (Value.type "function") none (Data.func (FuncData.mk (Str.ofString "_law_grown") (Str.ofString "_law_grown") (fdef 12).1 (FuncBody.stmts (fdef 12).2.1) (fdef 12).2.2 3 [] Value.none Value.none Value.none (Value.str (Str.ofString "law_st0039_01") 2336) none (Value.ref 169) Value.none 0)) #[])) ::
  (nat_lit 171, (Obj.mk (Value.type "tuple") none (Data.seq #[] 0) #[])) ::
  (nat_lit 173, (Obj.mk (Value.type "tuple") none (Data.seq #[(Value.str (Str.ofString "line") 2357), (Value.str (Str.ofString "read") 2358), (Value.str (Str.ofString "step") 2359), (Value.str (Str.ofString "ahead") 2360), (Value.str (Str.ofString "behind") 2361)] 0) #[])) ::
  (nat_lit 174, (Obj.mk (Value.type "tuple") none (Data.seq #[] 0) #[])) ::
  (nat_lit 176, (Obj.mk (Value.type "code") none (Data.fields #[(Value.str (Str.ofString "_law_read") 2354), (Value.str (Str.ofString "_law_read") 2355), (Value.str (Str.ofString "/claim/cut.py") 2356), (Value.int 95 0), (Value.int 1 0), (Value.int 0 0), (Value.int 0 0), (Value.int 3 0), (Value.ref 171), (Value.bool Bool.true), (Value.int 181 0), (Value.ref 172), Value.none, (Value.ref 173), (Value.ref 174), (Value.ref 175), (Value.int 2362 0), (Value.int 95 0), (Value.str (Str.ofString "/claim/cut.py") 2363)]) #[])) ::
  (nat_lit 177, (Obj.mk (Value.type "function") none (Data.func (FuncData.mk (Str.ofString "_law_read") (Str.ofString "_law_read") (fdef 13).1 (FuncBody.stmts (fdef 13).2.1) (fdef 13).2.2 3 [] Value.none Value.none Value.none (Value.str (Str.ofString "law_st0039_01") 2336) none (Value.ref 176) Value.none 0)) #[])) ::
  (nat_lit 178, (Obj.mk (Value.type "tuple") none (Data.seq #[] 0) #[])) ::
  (nat_lit 181, (Obj.mk (Value.type "code") none (Data.fields #[(Value.str (Str.ofString "law") 2365), (Value.str (Str.ofString "law") 2366), (Value.str (Str.ofString "/claim/cut.py") 2367), (Value.int 111 0), (Value.int 1 0), (Value.int 0 0), (Value.int 0 0), (Value.int 3 0), (Value.ref 178), (Value.bool Bool.true), (Value.int 181 0), (Value.ref 179), Value.none, Value.none, Value.none, (Value.ref 180), (Value.int 2368 0), (Value.int 111 0), (Value.str (Str.ofString "/claim/cut.py") 2369)]) #[])) ::
  (nat_lit 182, (Obj.mk (Value.type "function") none (Data.func (FuncData.mk (Str.ofString "law") (Str.ofString "law") (fdef 14).1 (FuncBody.stmts (fdef 14).2.1) (fdef 14).2.2 3 [] Value.none Value.none Value.none (Value.str (Str.ofString "law_st0039_01") 2336) none (Value.ref 181) Value.none 0)) #[])) ::
  []
noncomputable def heapAt : List Addr := nat_lit 2 :: nat_lit 3 :: nat_lit 6 :: nat_lit 15 :: nat_lit 17 :: nat_lit 18 :: nat_lit 20 :: nat_lit 21 :: nat_lit 22 :: nat_lit 24 :: nat_lit 25 :: nat_lit 27 :: nat_lit 28 :: nat_lit 36 :: nat_lit 40 :: nat_lit 42 :: nat_lit 43 :: nat_lit 45 :: nat_lit 46 :: nat_lit 47 :: nat_lit 86 :: nat_lit 88 :: nat_lit 89 :: nat_lit 91 :: nat_lit 92 :: nat_lit 103 :: nat_lit 105 :: nat_lit 106 :: nat_lit 108 :: nat_lit 109 :: nat_lit 110 :: nat_lit 112 :: nat_lit 113 :: nat_lit 115 :: nat_lit 116 :: nat_lit 117 :: nat_lit 119 :: nat_lit 120 :: nat_lit 122 :: nat_lit 123 :: nat_lit 124 :: nat_lit 126 :: nat_lit 127 :: nat_lit 129 :: nat_lit 130 :: nat_lit 131 :: nat_lit 133 :: nat_lit 134 :: nat_lit 136 :: nat_lit 137 :: nat_lit 138 :: nat_lit 140 :: nat_lit 141 :: nat_lit 143 :: nat_lit 144 :: nat_lit 145 :: nat_lit 147 :: nat_lit 148 :: nat_lit 150 :: nat_lit 151 :: nat_lit 152 :: nat_lit 153 :: nat_lit 154 :: nat_lit 155 :: nat_lit 156 :: nat_lit 159 :: nat_lit 162 :: nat_lit 163 :: nat_lit 164 :: nat_lit 166 :: nat_lit 167 :: nat_lit 169 :: nat_lit 170 :: nat_lit 171 :: nat_lit 173 :: nat_lit 174 :: nat_lit 176 :: nat_lit 177 :: nat_lit 178 :: nat_lit 181 :: nat_lit 182 :: []
theorem heapK_at : ∀ P, heapAt = (heapK P).map (·.1) := fun _ => by kernel_rfl
noncomputable def top : Program := view PySem.Challenge.pw_st0039_01 [0, 2, 4, 5, 6, 7, 9, 11, 12, 13, 14]
end Mine
end
section
open PySem PySem.W PyProof.Rows PySem.Calls PyProof
namespace Mine
noncomputable def padL (a : Nat) (mid : List Nat) (b : Nat) : List Nat := List.replicate a 32 ++ (mid ++ List.replicate b 32)
noncomputable def pad (a : Nat) (mid : List Nat) (b : Nat) : Str := ⟨(padL a mid b).toArray⟩
noncomputable def inky (mid : List Nat) : Prop := mid ≠ [] ∧ mid.head? ≠ some 32 ∧ mid.getLast? ≠ some 32

theorem padL_length (a : Nat) (mid : List Nat) (b : Nat) : (padL a mid b).length = a + mid.length + b := by
  simp [padL]; omega
theorem pad_length (a : Nat) (mid : List Nat) (b : Nat) : ((pad a mid b).length : Int) = a + mid.length + b := by
  have := padL_length a mid b
  show (((padL a mid b).toArray.size : Nat) : Int) = _
  rw [List.size_toArray, this]; omega
theorem inky_pos {mid : List Nat} (h : inky mid) : 0 < mid.length := List.length_pos_iff.mpr h.1
theorem padL_lead {a : Nat} {mid : List Nat} {b i : Nat} (h : i < a) : (padL a mid b)[i]? = some 32 := by
  unfold padL
  rw [List.getElem?_append_left (by simpa using h), List.getElem?_replicate, if_pos h]
theorem padL_first {a : Nat} {mid : List Nat} {b : Nat} (h : inky mid) : ∃ c, (padL a mid b)[a]? = some c ∧ c ≠ 32 := by
  obtain ⟨h1, h2, h3⟩ := h
  cases mid with
  | nil => exact absurd rfl h1
  | cons c m =>
    refine ⟨c, ?_, fun e => h2 (by rw [e]; rfl)⟩
    unfold padL
    rw [List.getElem?_append_right (by simp)]
    simp
theorem padL_trail {a : Nat} {mid : List Nat} {b i : Nat} (h1 : a + mid.length ≤ i) (h : i < a + mid.length + b) : (padL a mid b)[i]? = some 32 := by
  unfold padL
  rw [List.getElem?_append_right (by simp; omega), List.getElem?_append_right (by simp; omega), List.getElem?_replicate, if_pos (by simp; omega)]
theorem padL_last {a : Nat} {mid : List Nat} {b : Nat} (h : inky mid) : ∃ c, (padL a mid b)[a + mid.length - 1]? = some c ∧ c ≠ 32 := by
  have hp := inky_pos h
  obtain ⟨h1, h2, h3⟩ := h
  refine ⟨mid.getLast h1, ?_, fun e => h3 (by rw [List.getLast?_eq_some_getLast h1, e])⟩
  unfold padL
  rw [List.getElem?_append_right (by simp; omega), List.getElem?_append_left (by simp; omega)]
  rw [List.getLast_eq_getElem, List.getElem?_eq_getElem (by simp; omega)]
  simp only [List.length_replicate]
  congr 2
  omega

theorem blank_eq : Str.ofString " " = ⟨#[32]⟩ := by decide +kernel
theorem item_blank {x : Str} {i : Int} {c : Nat} (h0 : 0 ≤ i) (hc : x.cps[i.toNat]? = some c) : (Txt.item x i == Str.ofString " ") = decide (c = 32) := by
  rw [item_meets h0 hc, blank_eq]
  by_cases e : c = 32
  · subst e; simp
  · rw [decide_eq_false e, beq_eq_false_iff_ne]
    intro q
    injection q with q
    simp at q
    exact e q
theorem pad_at {a : Nat} {mid : List Nat} {b i : Nat} : (pad a mid b).cps[i]? = (padL a mid b)[i]? := by
  show (padL a mid b).toArray[i]? = _
  simp
theorem lead_lt {x : Str} {a b : Nat} {mid : List Nat} (hx : x = pad a mid b) (hi : inky mid) {l : Int} (h0 : 0 ≤ l) (h1 : l ≤ a) (h : (Txt.item x l == Str.ofString " ") = true) : l < a := by
  by_cases e : l < a
  · exact e
  · exfalso
    have : l = a := by omega
    subst this
    obtain ⟨c, hc, hn⟩ := padL_first (a := a) (b := b) hi
    rw [item_blank (c := c) h0 (by rw [hx, pad_at, Int.toNat_natCast]; exact hc)] at h
    exact hn (of_decide_eq_true h)
theorem lead_ge {x : Str} {a b : Nat} {mid : List Nat} (hx : x = pad a mid b) {l : Int} (h0 : 0 ≤ l) (h1 : l ≤ a) (h : (Txt.item x l == Str.ofString " ") = false) : l = a := by
  by_cases e : l < a
  · exfalso
    rw [item_blank (c := 32) h0 (by rw [hx, pad_at]; exact padL_lead (by omega))] at h
    cases h
  · omega
theorem trail_lt {x : Str} {a b : Nat} {mid : List Nat} (hx : x = pad a mid b) (hi : inky mid) {r k : Int} (hr : r = (x.length : Int) - 1 - k) (h0 : 0 ≤ k) (h1 : k ≤ b) (h : (Txt.item x r == Str.ofString " ") = true) : k < b := by
  have hl : (x.length : Int) = a + mid.length + b := by rw [hx]; exact pad_length a mid b
  have hp := inky_pos hi
  by_cases e : k < b
  · exact e
  · exfalso
    obtain ⟨c, hc, hn⟩ := padL_last (a := a) (b := b) hi
    have e2 : r.toNat = a + mid.length - 1 := by omega
    rw [item_blank (c := c) (by omega) (by rw [e2, hx, pad_at]; exact hc)] at h
    exact hn (of_decide_eq_true h)
theorem trail_ge {x : Str} {a b : Nat} {mid : List Nat} (hx : x = pad a mid b) {r k : Int} (hr : r = (x.length : Int) - 1 - k) (h0 : 0 ≤ k) (h1 : k ≤ b) (h : (Txt.item x r == Str.ofString " ") = false) : k = b := by
  have hl : (x.length : Int) = a + mid.length + b := by rw [hx]; exact pad_length a mid b
  by_cases e : k < b
  · exfalso
    rw [item_blank (c := 32) (by omega) (by rw [hx, pad_at]; exact padL_trail (by omega) (by omega))] at h
    cases h
  · omega
theorem padL_cut {a : Nat} {mid : List Nat} {b l k : Nat} (hl : l ≤ a) (hk : k ≤ b) : ((padL a mid b).drop l).take (a + mid.length + b - k - l) = padL (a - l) mid (b - k) := by
  unfold padL
  have e1 : l - a = 0 := by omega
  simp only [List.drop_append, List.drop_replicate, List.length_replicate, e1, List.drop_zero, List.take_append, List.take_replicate]
  congr 1
  · congr 1; omega
  congr 1
  · rw [List.take_of_length_le (by omega)]
  · congr 1; omega
theorem strip_end {x : Str} {a b n : Nat} {mid : List Nat} (hx : x = pad a mid b) (hi : inky mid) {l m₁ r m : Int} (h0 : 0 ≤ l) (h1 : l ≤ a) (hn : l + m₁ = n) (he : m₁ = 0 ∨ l = a)
    (hm0 : 0 ≤ m) (hm : m ≤ m₁) (hr : r = (x.length : Int) - 1 - (m₁ - m)) (hb : m₁ - m ≤ b) (he2 : m = 0 ∨ m₁ - m = b) : Txt.slice x (some l) (some (r + 1)) = pad (a - n) mid (b - (n - a)) := by
  have hL : (x.length : Int) = a + mid.length + b := by rw [hx]; exact pad_length a mid b
  have hp := inky_pos hi
  have hz : x.cps.toList.length = a + mid.length + b := by rw [hx]; show (padL a mid b).toArray.toList.length = _; simp [padL_length]
  have q := slice_closes (x := x) (i := l) (j := r + 1) ⟨h0, by omega, by rw [hz]; omega⟩
  rw [eq_of_beq q]
  have e1 : x.cps.toList = padL a mid b := by rw [hx]; rfl
  rw [e1]
  have e2 : (r + 1 - l).toNat = a + mid.length + b - (m₁ - m).toNat - l.toNat := by omega
  rw [e2, padL_cut (by omega) (by omega)]
  unfold pad
  congr 3
  · omega
  · omega
end Mine
end
section
open PySem PySem.W PyProof.Rows PySem.Calls PyProof PySem.Challenge
namespace Mine
noncomputable abbrev lse : List Str := looseW top [Str.ofString "b1_set", Str.ofString "b3_exceptions", Str.ofString "Whitespace"]
/-- a call of the top's function or class `f`, out of a function's frame -/
abbrev Ct (w : World) (mean : ExcName → Option Value) (mg mb : Str → Option Value) (dp un : Nat) (f : Addr) (news : List (Addr × Obj)) (vs : List Value)
    (ret : Heap → Addr → (Str → Option Value) → Shared → (Value → Shared → Prop) → Prop) : Prop :=
  ∀ (gd : Option (List Code)) (cn : Str) (cs : Scope) (a : Addr) (ccd : Value) (cl : List (Str × Addr)) (outer : List Env) (A₀ : Around) (base h₀ : Heap) (L : Addr) (m : Str → Option Value) (s : Shared) (Q E : Value → Shared → Prop),
    Below A₀ base outer h₀ → Fr h₀ L s.heap m → (heapK w.params).In h₀ → News h₀ L s.heap news → Top top lse mean mg mb h₀ → cs.kind = .function →
    ret h₀ L m s Q → wpAny (model pw_st0039_01 w) (ktrTop dp un gd cn cs L a ccd cl outer) (call (.ref f) vs) Q E s
noncomputable def grow1 (p : Nat × Nat) (c : Nat) : Nat × Nat := if c = 115 then (p.1 + p.2, p.2) else (p.1, p.1 + p.2)
noncomputable def gr (w : List Nat) : Nat × Nat := w.foldl grow1 (1, 1)
noncomputable def turned (w : List Nat) (n : Nat) (line read : Str) : Prop := ∃ v s : List Nat, w = v ++ s ∧ s.length = n ∧ line = pad (gr v).1 (120 :: w) (gr v).2 ∧ read = ⟨s.toArray⟩
end Mine
end
section
set_option Elab.async false
set_option maxRecDepth 100000
set_option maxHeartbeats 4000000
open PySem PySem.W PyProof.Rows PySem.Calls PyProof PySem.Challenge
namespace Mine
noncomputable def b1list : List Int := [65024, 65025, 65026, 65027, 65028, 65029, 6150, 65030, 65031, 65032, 65033, 6155, 6156, 6157, 8203, 8204, 8205, 65034, 65035, 65036, 65037, 65038, 65039, 173, 847, 8288, 65279]
noncomputable def b1in (k : Int) : Bool := b1list.contains k
noncomputable def objAt (P : Params) (a : Addr) : Obj := ((heapK P).lookup a).getD { cls := .none, data := .fields #[] }
noncomputable def setAt (P : Params) (a : Addr) : Array (Int × Value) × Nat × SetTable := match (objAt P a).data with | .set es ep t => (es, ep, t) | _ => (#[], 0, ⟨0, #[], #[], 0, false, 0, false⟩)
theorem at36 {P : Params} {h : Heap} (hK : (heapK P).In h) : ∃ o es ep t, h.get? 36 = some o ∧ o.ExactSet ∧ o.data = .set es ep t ∧ (es.toList.map fun e => match e.2 with | .int k _ => k | _ => 0) = b1list ∧ (es.toList.all fun e => match e.2 with | .int k _ => e.1 == PySem.hashInt k | _ => false) = true ∧ (es.toList.all fun e => e.2.scannable) = true ∧ es.size = 27 ∧ t.fits 27 = true := by
  refine ⟨objAt P 36, (setAt P 36).1, (setAt P 36).2.1, (setAt P 36).2.2, hK 36 _ ?_, ⟨?_, ?_, ?_⟩, ?_, ?_, ?_, ?_, ?_, ?_⟩ <;> kernel_rfl
theorem set36 {P : Params} {h : Heap} (prog : Program) (w : World) (hK : (heapK P).In h) : h.SetOf (intKind prog w) 36 b1in 27 := by
  obtain ⟨o, es, ep, t, ho, hx, hd, hk, hh, hs, hn, hf⟩ := at36 hK
  have keys : ∀ e ∈ es.toList, ∃ k u, e.2 = .int k u ∧ e.1 = PySem.hashInt k ∧ k ∈ b1list := by
    intro e he
    have h1 := List.all_eq_true.mp hh e he
    have h2 : (match e.2 with | .int k _ => k | _ => 0) ∈ b1list := by rw [← hk]; exact List.mem_map_of_mem he
    cases hv : e.2 <;> simp only [hv] at h1 h2 <;> first | exact absurd h1 (by decide) | skip
    rename_i k u
    exact ⟨k, u, rfl, by simpa using h1, h2⟩
  refine ⟨o, es, ep, t, ho, hx, hd, ?_, ?_, by rw [hn]; decide, by rw [hn]; exact hf, hn⟩
  · intro e he
    obtain ⟨k, u, h1, h2, h3⟩ := keys e he
    exact ⟨⟨k, by rw [h1]; exact intKind_is _ _ _ _, h2⟩, List.all_eq_true.mp hs e he⟩
  · intro k
    constructor
    · intro h1
      have h2 : k ∈ es.toList.map (fun e => match e.2 with | .int k _ => k | _ => 0) := by rw [hk]; exact List.contains_iff_mem.mp h1
      obtain ⟨e, he, h3⟩ := List.mem_map.mp h2
      obtain ⟨k', u, h4, -, -⟩ := keys e he
      rw [h4] at h3
      exact ⟨e, he, by rw [h4, ← h3]; exact intKind_is _ _ _ _⟩
    · rintro ⟨e, he, h3⟩
      obtain ⟨k', u, h4, -, h5⟩ := keys e he
      rw [h4] at h3
      have : k' = k := by simpa [intKind, Value.isInt] using h3
      subst this
      exact List.contains_iff_mem.mpr h5
noncomputable def b3kvs : List (Int × Value) := b3entries.map fun e => match e.key with | .int k _ => (k, e.val) | _ => (0, e.val)
noncomputable def b3good : List Int → Bool
  | a :: b :: r => decide (a < b) && b3good (b :: r)
  | _ => true
theorem b3good_nodup : ∀ l : List Int, b3good l = true → l.Pairwise (· < ·)
  | [], _ => .nil
  | [a], _ => List.pairwise_singleton _ _
  | a :: b :: r, h => by
    simp only [b3good, Bool.and_eq_true, decide_eq_true_eq] at h
    have ih := b3good_nodup (b :: r) h.2
    refine .cons ?_ ih
    intro x hx
    rcases List.mem_cons.mp hx with rfl | hx
    · exact h.1
    · exact Int.lt_trans h.1 ((List.pairwise_cons.mp ih).1 x hx)
theorem pairs_of (prog : Program) (w : World) : ∀ es : List DictEntry, (es.all fun e => match e.key with | .int k _ => e.hash == PySem.hashInt k | _ => false) = true →
    Pairs (intKind prog w) es (es.map fun e => match e.key with | .int k _ => (k, e.val) | _ => (0, e.val))
  | [], _ => .nil
  | e :: r, h => by
    simp only [List.all_cons, Bool.and_eq_true] at h
    refine .cons ?_ ?_ (pairs_of prog w r h.2)
    · have h1 := h.1
      cases hv : e.key <;> simp only [hv] at h1 <;> first | exact absurd h1 (by decide) | (dsimp only; rw [hv]; exact intKind_is _ _ _ _)
    · have h1 := h.1
      cases hv : e.key <;> simp only [hv] at h1 <;> first | exact absurd h1 (by decide) | (dsimp only; rw [hv])
theorem b3all : (b3entries.all fun e => match e.key with | .int k _ => e.hash == PySem.hashInt k | _ => false) = true := by decide +kernel
theorem b3asc : b3good (b3kvs.map (·.1)) = true := by decide +kernel
theorem dict47 {P : Params} {h : Heap} (prog : Program) (w : World) (hK : (heapK P).In h) : h.DictOf (intKind prog w) 47 b3kvs := by
  refine ⟨objAt P 47, List.toArray b3entries, 650, hK 47 _ (by kernel_rfl), ⟨by kernel_rfl, by kernel_rfl, by kernel_rfl⟩, by kernel_rfl, ?_, ?_, ?_⟩
  · intro e he
    have he : e ∈ b3entries := by simpa using he
    have h1 := List.all_eq_true.mp b3all e he
    cases hv : e.key <;> simp only [hv] at h1 <;> first | exact absurd h1 (by decide) | skip
    rename_i k u
    exact ⟨k, intKind_is _ _ _ _, eq_of_beq h1⟩
  · have := pairs_of prog w b3entries b3all
    simpa [b3kvs] using this
  · exact (b3good_nodup _ b3asc).imp (fun h e => absurd (e ▸ h) (Int.lt_irrefl _))
/-- what the table has for a code -/
noncomputable def b3get (k : Int) : Option Str := match valueAt b3kvs k with | some (.str v _) => some v | _ => none
theorem b3vals : (b3kvs.all fun e => match e.2 with | .str _ _ => true | _ => false) = true := by decide +kernel
theorem b3get_some {k : Int} {v : Str} (h : b3get k = some v) : ∃ t, valueAt b3kvs k = some (.str v t) := by
  unfold b3get at h
  split at h
  · rename_i x t he; cases h; exact ⟨t, he⟩
  · exact absurd h (by simp)
theorem b3get_none {k : Int} (h : b3get k = none) : valueAt b3kvs k = none := by
  cases he : valueAt b3kvs k with
  | none => rfl
  | some v =>
    exfalso
    unfold valueAt at he
    obtain ⟨p, hp, hv⟩ := Option.map_eq_some_iff.mp he
    have h1 := List.all_eq_true.mp b3vals p (List.mem_of_find?_eq_some hp)
    unfold b3get valueAt at h
    rw [he] at h
    subst hv
    cases hx : p.2 <;> simp only [hx] at h1 h <;> first | exact absurd h1 (by decide) | exact absurd h (by simp)
end Mine
end
section
set_option Elab.async false
set_option maxRecDepth 100000
set_option maxHeartbeats 4000000
open PySem PySem.W PyProof.Rows PySem.Calls PyProof PySem.Challenge
namespace Mine
noncomputable def signs : List Nat := [173, 223, 64261, 64262, 83, 383, 119826, 84, 119827, 116, 8203, 119931]
noncomputable def sg (d : Int) : Nat := (d.fmod 12).toNat
noncomputable def sign (d : Int) : Nat := signs.getD (sg d) 0
noncomputable def partI (i : Nat) : Str := if b1in ((signs.getD i 0 : Nat) : Int) then ⟨#[]⟩ else (b3get ((signs.getD i 0 : Nat) : Int)).getD (Txt.lower ⟨#[signs.getD i 0]⟩)
noncomputable def part (d : Int) : Str := partI (sg d)
theorem sg_lt (d : Int) : sg d < 12 := by
  have h2 : d.fmod 12 < 12 := Int.fmod_lt_of_pos d (by decide)
  unfold sg
  omega
theorem sign_int (d : Int) : ([173, 223, 64261, 64262, 83, 383, 119826, 84, 119827, 116, 8203, 119931] : List Int).getD (d.fmod 12).toNat 0 = (sign d : Int) := by
  have h : ∀ i, i < 12 → ([173, 223, 64261, 64262, 83, 383, 119826, 84, 119827, 116, 8203, 119931] : List Int).getD i 0 = ((signs.getD i 0 : Nat) : Int) := by decide
  exact h (sg d) (sg_lt d)
theorem sign_le (d : Int) : sign d ≤ 1114111 := by
  have h : ∀ i, i < 12 → signs.getD i 0 ≤ 1114111 := by decide
  exact h (sg d) (sg_lt d)
theorem part_in {d : Int} (h : b1in (sign d) = true) : part d = Str.ofString "" := by
  exact if_pos h
theorem part_out {d : Int} (h : b1in (sign d) = false) : (b3get (sign d)).getD (Txt.lower ⟨#[sign d]⟩) = part d := by
  exact (if_neg (by rw [show b1in ((signs.getD (sg d) 0 : Nat) : Int) = false from h]; exact Bool.false_ne_true)).symm
noncomputable def parts : List Str := [⟨#[]⟩, ⟨#[115, 115]⟩, ⟨#[115, 116]⟩, ⟨#[115, 116]⟩, ⟨#[115]⟩, ⟨#[115]⟩, ⟨#[115]⟩, ⟨#[116]⟩, ⟨#[116]⟩, ⟨#[116]⟩, ⟨#[]⟩, ⟨#[116]⟩]
theorem partI_eq : ∀ i, i < 12 → partI i = parts.getD i ⟨#[]⟩ := by decide +kernel
theorem part_eq (d : Int) : part d = parts.getD (sg d) ⟨#[]⟩ := partI_eq _ (sg_lt d)
theorem part_ok (d : Int) : (∀ c ∈ (part d).cps.toList, c = 115 ∨ c = 116) ∧ (part d).length ≤ 2 := by
  have h : ∀ i, i < 12 → (∀ c ∈ (parts.getD i ⟨#[]⟩).cps.toList, c = 115 ∨ c = 116) ∧ (parts.getD i ⟨#[]⟩).length ≤ 2 := by decide
  rw [part_eq]
  exact h _ (sg_lt d)
theorem part_short (d : Int) : PySem.Builtin.Str.tooLong (part d).length = false := by
  have := (part_ok d).2
  have h : ∀ n, n ≤ 2 → PySem.Builtin.Str.tooLong n = false := by decide
  exact h _ this
end Mine
end
section
open PySem PySem.W PyProof.Rows PySem.Calls PyProof PySem.Challenge
namespace Mine
theorem tab_eq : Str.ofString "\t" = ⟨#[9]⟩ := by decide +kernel
theorem one_eq {n c : Nat} (h : (({ cps := #[n] } : Str) == ⟨#[c]⟩) = true) : n = c := by
  have := eq_of_beq h
  injection this with q
  simpa using q
theorem one_ne {n c : Nat} (h : (({ cps := #[n] } : Str) == ⟨#[c]⟩) = false) : n ≠ c := by
  rintro rfl
  simp at h
theorem codes_pad (a : Nat) (mid : List Nat) (b : Nat) : KStt.codes (pad a mid b) = (padL a mid b).map fun (c : Nat) => (c : Int) := rfl
theorem code_lead {x : Str} {a b : Nat} {mid : List Nat} (hx : x = pad a mid b) (hi : inky mid) {pre post : List Int} {n : Nat} (he : KStt.codes x = pre ++ (n : Int) :: post) (hp : ∀ c ∈ pre, c = 32) :
    pre.length ≤ a ∧ (pre.length < a → n = 32) ∧ (pre.length = a → mid.head? = some n) := by
  rw [hx, codes_pad] at he
  have hlen := congrArg List.length he
  simp only [List.length_map, List.length_append, List.length_cons, padL_length] at hlen
  have at' : ∀ i : Nat, (padL a mid b)[i]?.map (fun (c : Nat) => (c : Int)) = (pre ++ (n : Int) :: post)[i]? := fun i => by rw [← he, List.getElem?_map]
  have h1 : pre.length ≤ a := by
    by_cases e : pre.length ≤ a
    · exact e
    · exfalso
      obtain ⟨c, hc, hn⟩ := padL_first (a := a) (b := b) hi
      have q := at' a
      rw [hc, List.getElem?_append_left (by omega), List.getElem?_eq_getElem (by omega)] at q
      have q2 : (c : Int) = pre[a] := by simpa using q
      have := hp _ (List.getElem_mem (l := pre) (n := a) (by omega))
      omega
  have q := at' pre.length
  rw [List.getElem?_append_right (by omega)] at q
  simp only [Nat.sub_self, List.getElem?_cons_zero] at q
  refine ⟨h1, fun h => ?_, fun h => ?_⟩
  · rw [padL_lead h] at q
    have : (32 : Int) = (n : Int) := by simpa using q
    omega
  · obtain ⟨hm, h2, h3⟩ := hi
    cases mid with
    | nil => exact absurd rfl hm
    | cons c m =>
      have e : (padL a (c :: m) b)[a]? = some c := by
        unfold padL
        rw [List.getElem?_append_right (by simp)]
        simp
      rw [h, e] at q
      have : (c : Int) = (n : Int) := by simpa using q
      have : c = n := by omega
      rw [this]; rfl
theorem no_tab {P : Prop} {x : Str} {a b : Nat} {mid : List Nat} (hx : x = pad a mid b) (hi : inky mid) (h9 : mid.head? ≠ some 9) {pre post : List Int} {n : Nat} (he : KStt.codes x = pre ++ (n : Int) :: post) (hp : ∀ c ∈ pre, c = 32)
    (h : (({ cps := #[n] } : Str) == Str.ofString "\t") = true) : P := by
  exfalso
  rw [tab_eq] at h
  have := one_eq h
  subst this
  obtain ⟨h1, h2, h3⟩ := code_lead hx hi he hp
  rcases Nat.lt_or_ge pre.length a with q | q
  · exact absurd (h2 q) (by decide)
  · exact h9 (h3 (by omega))
theorem all_blank {P : Prop} {x : Str} {a b : Nat} {mid : List Nat} (hx : x = pad a mid b) (hi : inky mid) (hp : ∀ c ∈ KStt.codes x, c = 32) : P := by
  exfalso
  obtain ⟨c, hc, hn⟩ := padL_first (a := a) (b := b) hi
  have := hp (c : Int) (by
    rw [hx, codes_pad]
    exact List.mem_map.mpr ⟨c, List.mem_of_getElem? hc, rfl⟩)
  omega
theorem ws_turn {b1 n1 m1 : Int} {pre : List Int} {n : Nat} (e1 : b1 = (pre.length : Int)) (e2 : n1 = (pre.length : Int)) (e3 : m1 = 0) (hp : ∀ c ∈ pre, c = 32) (h : (({ cps := #[n] } : Str) == Str.ofString " ") = true) :
    b1 + 1 = ((pre ++ [(n : Int)]).length : Int) ∧ n1 + 1 = ((pre ++ [(n : Int)]).length : Int) ∧ m1 = 0 ∧ ∀ c ∈ pre ++ [(n : Int)], c = 32 := by
  rw [blank_eq] at h
  have := one_eq h
  subst this
  refine ⟨by simp; omega, by simp; omega, e3, fun c hc => ?_⟩
  rcases List.mem_append.mp hc with hc | hc
  · exact hp c hc
  · simpa using hc
theorem ws_break {x : Str} {a b : Nat} {mid : List Nat} (hx : x = pad a mid b) (hi : inky mid) {pre post : List Int} {n : Nat} (he : KStt.codes x = pre ++ (n : Int) :: post) (hp : ∀ c ∈ pre, c = 32)
    (h : (({ cps := #[n] } : Str) == Str.ofString " ") = false) : pre.length = a := by
  rw [blank_eq] at h
  have := one_ne h
  obtain ⟨h1, h2, h3⟩ := code_lead hx hi he hp
  rcases Nat.lt_or_ge pre.length a with q | q
  · exact absurd (h2 q) this
  · omega
end Mine
namespace Mine
abbrev wsTup (z : Addr) (n : Int) (t : Tok) : Obj := { cls := .type "tuple", data := .seq #[.ref z, .int n t] }
abbrev wsNil : Obj := { cls := .type "tuple", data := .seq #[] }
noncomputable abbrev wsDict (P : Params) (k1 k2 k3 k4 k5 : Tok) (x : Str) (t : Tok) (n : Int) (tn tm : Tok) (q : Addr) : Obj :=
  dictOf [{ hash := PyData.keyHash P (Str.ofString "raw"), key := Value.str (Str.ofString "raw") k1, val := Value.str x t },
    { hash := PyData.keyHash P (Str.ofString "n"), key := Value.str (Str.ofString "n") k2, val := Value.int n tn },
    { hash := PyData.keyHash P (Str.ofString "nt"), key := Value.str (Str.ofString "nt") k3, val := Value.int 0 tm },
    { hash := PyData.keyHash P (Str.ofString "norm"), key := Value.str (Str.ofString "norm") k4, val := Value.ref q },
    { hash := PyData.keyHash P (Str.ofString "is_simple"), key := Value.str (Str.ofString "is_simple") k5, val := Value.bool true }] 5
theorem ws_news {h₀ h : Heap} {L : Addr} {q z l st x d : Addr × Obj} {news own : List (Addr × Obj)} (N : News h₀ L h (q :: z :: l :: st :: x :: d :: (news ++ own))) : News h₀ L h (q :: z :: x :: d :: news) := fun p hp => N p (by
  simp only [List.mem_cons, List.mem_append] at hp ⊢
  rcases hp with h | h | h | h | h <;> simp [h])
end Mine
end
section
set_option Elab.async false
set_option maxRecDepth 100000
set_option maxHeartbeats 4000000
open PySem PySem.W PyProof.Rows PySem.Calls PyProof PySem.Challenge
namespace Mine
theorem in_fr {K : Frag} {g h : Heap} {L : Addr} {m : Str → Option Value} (F : Fr g L h m) (x : K.In g) : K.In h := x.keeps F.keep
theorem b3_some {w : World} {A : Around} {E : Value → Shared → Prop} {s : Shared} {c : Nat} {u : Tok} {v : Str} {Q : Value → Shared → Prop} (hD : s.heap.DictOf (intKind pw_st0039_01 w) 47 b3kvs) (hb : b3get c = some v) (h : ∀ t, Q (.str v t) { s with toks := s.toks + 1 }) :
    wpAny (model pw_st0039_01 w) A (call (.builtin "dict.get") [.ref 47, .int c u]) Q E s := by
  obtain ⟨t, ht⟩ := b3get_some hb
  exact call_meetsIn PySem.F.slot_dict_get hD.mapOf.typeIs PySem.F.entry_dict_get (PySem.F.args_dict_get_2 _ _) (meets_dict_get (intKind pw_st0039_01 w) 47 (intKind_is _ _ _ _) (by decide)) ⟨_, hD.mapOf, by rw [ht]; exact h t⟩
theorem b3_none {w : World} {A : Around} {E : Value → Shared → Prop} {s : Shared} {c : Nat} {u : Tok} {Q : Value → Shared → Prop} (hD : s.heap.DictOf (intKind pw_st0039_01 w) 47 b3kvs) (hb : b3get c = none) (h : Q .none { s with toks := s.toks + 1 }) :
    wpAny (model pw_st0039_01 w) A (call (.builtin "dict.get") [.ref 47, .int c u]) Q E s :=
  call_meetsIn PySem.F.slot_dict_get hD.mapOf.typeIs PySem.F.entry_dict_get (PySem.F.args_dict_get_2 _ _) (meets_dict_get (intKind pw_st0039_01 w) 47 (intKind_is _ _ _ _) (by decide)) ⟨_, hD.mapOf, by rw [b3get_none hb]; exact h⟩
theorem c_b1 (w : World) (mean : ExcName → Option Value) (mg mb : Str → Option Value) (dp un : Nat) (hd : dp + 1 < recursionLimit) (news : List (Addr × Obj)) (x : Str) (t : Tok) (c : Nat) (hx : x = ⟨#[c]⟩) :
  Ct w mean mg mb dp un 46 news [.str x t] (fun h₀ L m s Q => ∀ (h' : Heap) (tk' : Nat), Fr h₀ L h' m → News h₀ L h' news → Q (.bool (b1in c)) { s with heap := h', toks := tk' }) := by
  have mk : rw_st0039_01 = rw_st0039_01 ∧ heapK = heapK := by (k_fill; exact ⟨rfl, rfl⟩)
  clear mk
  subst hx
  intro gd cn cs fa ccd cl outer A₀ base h₀ L m s Q E hB hF hK hN hT hk hret
  refine wpAny_call ?_
  k_dflt cell_enter
  k_steps
  refine wpAny_inSet_of (knd := intKind _ _) (intKind_is _ _ _ _) (by rfl) (set36 _ _ (in_fr (by assumption) (by assumption))) ?_
  (try dsimp only)
  k_steps
  (rename News h₀ L _ _ => kN9)
  exact hret _ _ (by k_asm) kN9
theorem c_b3 (w : World) (mean : ExcName → Option Value) (mg mb : Str → Option Value) (dp un : Nat) (hd : dp + 1 < recursionLimit) (news : List (Addr × Obj)) (x : Str) (t : Tok) (c : Nat) (hx : x = ⟨#[c]⟩) (r : Str) (hr : (b3get c).getD (Txt.lower x) = r) (hf : PySem.Builtin.Str.tooLong r.length = false) :
  Ct w mean mg mb dp un 92 news [.str x t] (fun h₀ L m s Q => ∀ (h' : Heap) (tk' : Nat) (u : Tok), Fr h₀ L h' m → News h₀ L h' news → Q (.str r u) { s with heap := h', toks := tk' }) := by
  have mk : rw_st0039_01 = rw_st0039_01 ∧ heapK = heapK := by (k_fill; exact ⟨rfl, rfl⟩)
  clear mk
  subst hx
  intro gd cn cs fa ccd cl outer A₀ base h₀ L m s Q E hB hF hK hN hT hk hret
  refine wpAny_call ?_
  k_dflt cell_enter
  k_steps
  refine getMethod_builtin (Heap.DictOf.mapOf (knd := intKind _ _) (dict47 pw_st0039_01 w (in_fr (by assumption) (by assumption)))).typeIs PySem.F.plainAttrs_dict PySem.F.slot_dict_get PySem.F.type_dict_get (Heap.DictOf.mapOf (knd := intKind _ _) (dict47 pw_st0039_01 w (in_fr (by assumption) (by assumption)))).noDict ?_
  (try dsimp only)
  k_steps
  cases hb : b3get c with
  | none =>
    rw [hb] at hr
    refine b3_none (dict47 _ _ (in_fr (by assumption) (by assumption))) hb ?_
    (try dsimp only)
    k_steps
    have hr9 : Txt.lower ⟨#[c]⟩ = r := hr
    refine KXw.lower hr9 (by rw [hr9]; exact hf) ?_
    intro t9 k9
    (try dsimp only)
    k_steps
    (rename News h₀ L _ _ => kN9)
    exact hret _ _ _ (by k_asm) kN9
  | some v =>
    rw [hb] at hr
    refine b3_some (dict47 _ _ (in_fr (by assumption) (by assumption))) hb fun u9 => ?_
    (try dsimp only)
    k_steps
    have hr9 : v = r := hr
    subst hr9
    (rename News h₀ L _ _ => kN9)
    exact hret _ _ _ (by k_asm) kN9
end Mine
end
section
open PySem PySem.W PyProof.Rows PySem.Calls PyProof
set_option Elab.async false
set_option maxRecDepth 100000
set_option maxHeartbeats 4000000
namespace Mine
open PySem.Challenge
theorem c_strip (w : World) (mean : ExcName → Option Value) (mg mb : Str → Option Value) (dp un : Nat) (hd : dp + 1 < recursionLimit) (news : List (Addr × Obj)) (x : Str) (t : Tok) (k : Int) (u : Tok) (n a b : Nat) (mid : List Nat)
    (hkn : k = n) (hx : x = pad a mid b) (hi : inky mid) (hl : x.length ≤ 1000) :
  Ct w mean mg mb dp un 28 news [.str x t, .int k u] (fun h₀ L m s Q => ∀ (t : Tok) (h' : Heap) (tk' : Nat), (pad (a - n) mid (b - (n - a))).length ≤ 1000 → Fr h₀ L h' m → News h₀ L h' news → Q (.str (pad (a - n) mid (b - (n - a))) t) { s with heap := h', toks := tk' }) := by
  have mk : rw_st0039_01 = rw_st0039_01 ∧ heapK = heapK := by (k_fill; exact ⟨rfl, rfl⟩)
  clear mk
  subst hkn
  intro gd cn cs fa ccd cl outer A₀ base h₀ L m s Q E hB hF hK hN hT hk hret0
  have hz : (pad (a - n) mid (b - (n - a))).length ≤ 1000 := by
    have h1 := pad_length a mid b
    have h2 := pad_length (a - n) mid (b - (n - a))
    rw [← hx] at h1
    omega
  have hret : ∀ (t : Tok) (h' : Heap) (tk' : Nat), Fr h₀ L h' m → News h₀ L h' news → Q (.str (pad (a - n) mid (b - (n - a))) t) { s with heap := h', toks := tk' } := fun t h' tk' F N => hret0 t h' tk' hz F N
  clear hret0
  have hlen : (x.length : Int) = a + mid.length + b := by rw [hx]; exact pad_length a mid b
  have hmid : (0 : Int) < mid.length := by have := inky_pos hi; omega
  refine wpAny_call ?_
  (k_with "exec While BoolOp cons nil" => first
    | k_while_given ["amount!"] (fun (m₁ : Int) _ r m => 0 ≤ m ∧ m ≤ m₁ ∧ r = (x.length:Int) - 1 - (m₁ - m) ∧ m₁ - m ≤ b) (fun (m₁ : Int) _ r m => m.toNat) "rpos" "amount"
    | k_while (fun _ l m => 0 ≤ l ∧ l ≤ (a:Int) ∧ 0 ≤ m ∧ l + m = n) (fun _ l m => m.toNat) "lpos" "amount")
  (k_with "state" => first
    | omega
    | ((rename ((Txt.item _ _ == _) = true) => hq); (have q1 := lead_lt hx hi (by assumption) (by assumption) hq); omega)
    | ((rename ((Txt.item _ _ == _) = true) => hq); (have q1 := trail_lt hx hi (by assumption) (by omega) (by omega) hq); omega))
  k_dflt cell_enter
  k_steps
  all_goals (
    (rename (_ + _ = ((n : Nat) : Int)) => e1)
    (rename (_ = (x.length : Int) - 1 - _) => e2)
    refine cb_retS hret (strip_end hx hi (by assumption) (by assumption) e1 ?_ ?_ ?_ e2 (by omega) ?_) (by k_asm) (by k_asm)
    · first | exact Or.inl (by omega) | exact Or.inr (lead_ge hx (by assumption) (by assumption) (by assumption))
    · omega
    · omega
    · first | exact Or.inl (by omega) | exact Or.inr (trail_ge hx e2 (by omega) (by omega) (by assumption)))
end Mine
end
section
open PySem PySem.W PyProof.Rows PySem.Calls PyProof PySem.Challenge
namespace Mine
theorem range_rev (l : List Nat) : ((List.range l.length).map fun k => l.getD (l.length - 1 - k) 0) = l.reverse := by
  apply List.ext_getElem?
  intro i
  rw [List.getElem?_map]
  by_cases h : i < l.length
  · rw [List.getElem?_range h, List.getElem?_reverse h]
    simp only [Option.map_some, List.getD_eq_getElem?_getD]
    rw [List.getElem?_eq_getElem (by omega)]
    rfl
  · rw [List.getElem?_eq_none (by simp; omega), List.getElem?_eq_none (by simp; omega)]
    rfl
theorem rev_list (x : Str) (u : Tok) : (Txt.sliceBy x none none (-1, u)).cps.toList = x.cps.toList.reverse := by
  rw [step_rev_list, ← range_rev]
  have e : x.length = x.cps.toList.length := by show x.cps.size = _; simp
  rw [e]
  refine List.map_congr_left fun k _ => ?_
  simp [Array.getD_eq_getD_getElem?, List.getD_eq_getElem?_getD]
theorem str_ext {x y : Str} (h : x.cps.toList = y.cps.toList) : x = y := PySem.Str.ext' (Array.toList_inj.mp h)
theorem rev_pad {x : Str} {a b : Nat} {mid : List Nat} {u : Tok} (hx : x = pad a mid b) : Txt.sliceBy x none none (-1, u) = pad b mid.reverse a := by
  refine str_ext ?_
  rw [rev_list, hx]
  show (padL a mid b).toArray.toList.reverse = (padL b mid.reverse a).toArray.toList
  simp [padL]
theorem rev_rev {x y : Str} {a b : Nat} {mid : List Nat} {u : Tok} (hx : x = pad a mid.reverse b) : Txt.sliceBy x none none (-1, u) = pad b mid a := by
  rw [rev_pad hx, List.reverse_reverse]
theorem rev_len {x : Str} {u : Tok} {n : Nat} (h : x.length ≤ n) : (Txt.sliceBy x none none (-1, u)).length ≤ n := by rw [step_rev_len]; exact h
end Mine
end
section
open PySem PySem.W PyProof.Rows PySem.Calls PyProof PySem.Challenge
namespace Mine
theorem gr_snoc (v : List Nat) (c : Nat) : gr (v ++ [c]) = grow1 (gr v) c := by simp [gr, List.foldl_append]
theorem foldl_pos : ∀ (l : List Nat) (p : Nat × Nat), 1 ≤ p.1 → 1 ≤ p.2 → 1 ≤ (l.foldl grow1 p).1 ∧ 1 ≤ (l.foldl grow1 p).2
  | [], _, h1, h2 => ⟨h1, h2⟩
  | c :: l, p, h1, h2 => by
    rw [List.foldl_cons]
    refine foldl_pos l _ ?_ ?_ <;> (unfold grow1; split <;> simp only <;> omega)
theorem gr_pos (v : List Nat) : 1 ≤ (gr v).1 ∧ 1 ≤ (gr v).2 := foldl_pos v (1, 1) (Nat.le_refl _) (Nat.le_refl _)
theorem foldl_le : ∀ (l : List Nat) (p : Nat × Nat), (l.foldl grow1 p).1 + (l.foldl grow1 p).2 ≤ (p.1 + p.2) * 2 ^ l.length
  | [], p => by simp
  | c :: l, p => by
    rw [List.foldl_cons, List.length_cons, Nat.pow_succ]
    have h := foldl_le l (grow1 p c)
    have h2 : (grow1 p c).1 + (grow1 p c).2 ≤ (p.1 + p.2) * 2 := by unfold grow1; split <;> simp only <;> omega
    have h3 := Nat.mul_le_mul_right (2 ^ l.length) h2
    have h4 : (p.1 + p.2) * 2 * 2 ^ l.length = (p.1 + p.2) * (2 ^ l.length * 2) := by rw [Nat.mul_assoc, Nat.mul_comm 2]
    omega
theorem gr_le (v : List Nat) : (gr v).1 + (gr v).2 ≤ 2 ^ (v.length + 1) := by
  have h := foldl_le v (1, 1)
  have e : (1 + 1) * 2 ^ v.length = 2 ^ (v.length + 1) := by rw [Nat.pow_succ]; omega
  unfold gr
  simp only at h
  omega
theorem max_nat (n : Nat) : (if (n : Int) > 0 - 1 then (n : Int) else 0 - 1) = n := by rw [if_pos (by omega)]
theorem letters_inky {v : List Nat} (h : ∀ c ∈ v, c = 115 ∨ c = 116) : inky (120 :: v) ∧ (120 :: v).head? ≠ some 9 ∧ inky (120 :: v).reverse ∧ (120 :: v).reverse.head? ≠ some 9 := by
  have hl : ∀ c, (120 :: v).getLast? = some c → c ≠ 32 ∧ c ≠ 9 := by
    intro c hc
    have := List.mem_of_getLast? hc
    rcases List.mem_cons.mp this with rfl | hm
    · decide
    · rcases h c hm with rfl | rfl <;> decide
  refine ⟨⟨by simp, by simp, fun q => (hl _ q).1 rfl⟩, by simp, ⟨by simp, ?_, ?_⟩, ?_⟩
  · rw [List.head?_reverse]; exact fun q => (hl _ q).1 rfl
  · rw [List.getLast?_reverse]; simp
  · rw [List.head?_reverse]; exact fun q => (hl _ q).2 rfl
theorem turned_len {v : List Nat} {n : Nat} {line read : Str} (hl : v.length ≤ 7) (h : turned v n line read) : line.length ≤ 1000 ∧ read.length = n ∧ n ≤ 7 := by
  obtain ⟨v1, s1, e, hs, hline, hread⟩ := h
  have e2 := congrArg List.length e
  rw [List.length_append] at e2
  refine ⟨?_, ?_, by omega⟩
  · have := pad_length (gr v1).1 (120 :: v) (gr v1).2
    rw [← hline] at this
    have g := gr_le v1
    have : 2 ^ (v1.length + 1) ≤ 2 ^ 8 := Nat.pow_le_pow_right (by decide) (by omega)
    simp only [List.length_cons] at *
    omega
  · rw [hread, ← hs]
    show s1.toArray.size = _
    simp
theorem split_last {v : List Nat} (h : v ≠ []) : ∃ v' c, v = v' ++ [c] := ⟨v.dropLast, v.getLast h, (List.dropLast_concat_getLast h).symm⟩
theorem read_end {v v1 s1 : List Nat} {line read : Str} (hv1 : v = v1 ++ s1) (hline : line = pad (gr v1).1 (120 :: v) (gr v1).2) (hread : read = ⟨s1.toArray⟩) (h : ((gr v1).1 : Int) = ((gr v1).2 : Int)) :
    line = pad 1 (120 :: v) 1 ∧ read = ⟨v.toArray⟩ := by
  have e : v1 = [] := by
    by_cases q : v1 = []
    · exact q
    · exfalso
      obtain ⟨v', c, rfl⟩ := split_last q
      have hp := gr_pos v'
      rw [gr_snoc] at h
      unfold grow1 at h
      split at h <;> simp only at h <;> omega
  subst e
  rw [List.nil_append] at hv1
  subst hv1
  exact ⟨hline, hread⟩
theorem s_eq : Str.ofString "s" = ⟨#[115]⟩ := by decide +kernel
theorem t_eq : Str.ofString "t" = ⟨#[116]⟩ := by decide +kernel
theorem cons_text (c : Nat) (l : List Nat) : (⟨#[c]⟩ : Str) ++ (⟨l.toArray⟩ : Str) = ⟨(c :: l).toArray⟩ := by
  refine str_ext ?_
  rw [PySem.Str.cps_append]
  simp
theorem turn_s {v v1 s1 : List Nat} {pre : List Int} {k : Int} {read : Str} (hv1 : v = v1 ++ s1) (hs1 : s1.length = pre.length) (hread : read = ⟨s1.toArray⟩)
    (hne : ((gr v1).1 : Int) ≠ ((gr v1).2 : Int)) (hle : ((gr v1).2 : Int) ≤ ((gr v1).1 : Int)) : turned v (pre ++ [k]).length (pad ((gr v1).1 - (gr v1).2) (120 :: v) ((gr v1).2 - ((gr v1).2 - (gr v1).1))) (Str.ofString "s" ++ read) := by
  have q : v1 ≠ [] := by rintro rfl; exact hne rfl
  obtain ⟨v', c, rfl⟩ := split_last q
  have hp := gr_pos v'
  have hc : c = 115 := by
    by_cases e : c = 115
    · exact e
    · exfalso
      rw [gr_snoc] at hle
      unfold grow1 at hle
      rw [if_neg e] at hle
      simp only at hle
      omega
  subst hc
  refine ⟨v', 115 :: s1, by rw [hv1]; simp, by simp [hs1], ?_, by rw [s_eq, hread, cons_text]⟩
  rw [gr_snoc]
  unfold grow1
  rw [if_pos rfl]
  simp only
  congr 1 <;> omega
theorem turn_t {v v1 s1 : List Nat} {pre : List Int} {k : Int} {read : Str} {u : Tok} (hv : ∀ c ∈ v, c = 115 ∨ c = 116) (hv1 : v = v1 ++ s1) (hs1 : s1.length = pre.length) (hread : read = ⟨s1.toArray⟩)
    (hle : ¬ ((gr v1).2 : Int) ≤ ((gr v1).1 : Int)) : turned v (pre ++ [k]).length (Txt.sliceBy (pad ((gr v1).2 - (gr v1).1) (120 :: v).reverse ((gr v1).1 - ((gr v1).1 - (gr v1).2))) none none (-1, u)) (Str.ofString "t" ++ read) := by
  have q : v1 ≠ [] := by rintro rfl; exact hle (Int.le_refl _)
  obtain ⟨v', c, rfl⟩ := split_last q
  have hp := gr_pos v'
  have hc : c = 116 := by
    rcases hv c (by rw [hv1]; simp) with e | e
    · exfalso
      subst e
      rw [gr_snoc] at hle
      unfold grow1 at hle
      rw [if_pos rfl] at hle
      simp only at hle
      omega
    · exact e
  subst hc
  refine ⟨v', 116 :: s1, by rw [hv1]; simp, by simp [hs1], ?_, by rw [t_eq, hread, cons_text]⟩
  rw [rev_pad rfl, List.reverse_reverse, gr_snoc]
  unfold grow1
  rw [if_neg (by decide)]
  simp only
  congr 1 <;> omega
theorem read_news {h₀ h : Heap} {L : Addr} {r a1 a2 a3 a4 b1 b2 b3 b4 : Addr × Obj} {news own : List (Addr × Obj)} (N : News h₀ L h (r :: a1 :: a2 :: a3 :: a4 :: b1 :: b2 :: b3 :: b4 :: (news ++ own))) : News h₀ L h (r :: news) := fun p hp => N p (by
  simp only [List.mem_cons, List.mem_append] at hp ⊢
  rcases hp with h | h <;> simp [h])
end Mine
namespace Mine
noncomputable def grI (l : List Int) : Nat × Nat := gr (l.map Int.toNat)
theorem grI_snoc (l : List Int) (n : Nat) : grI (l ++ [(n : Int)]) = grow1 (grI l) n := by
  unfold grI
  rw [List.map_append, List.map_singleton, gr_snoc, Int.toNat_natCast]
theorem grown_s {a b : Int} {pre : List Int} {n : Nat} (ha : a = ((grI pre).1 : Int)) (hb : b = ((grI pre).2 : Int)) (h : (({ cps := #[n] } : Str) == Str.ofString "s") = true) :
    a + b = ((grI (pre ++ [(n : Int)])).1 : Int) ∧ b = ((grI (pre ++ [(n : Int)])).2 : Int) := by
  rw [s_eq] at h
  have := one_eq h
  rw [grI_snoc]
  unfold grow1
  rw [if_pos this]
  simp only
  omega
theorem grown_t {a b : Int} {pre : List Int} {n : Nat} (ha : a = ((grI pre).1 : Int)) (hb : b = ((grI pre).2 : Int)) (h : (({ cps := #[n] } : Str) == Str.ofString "s") = false) :
    a = ((grI (pre ++ [(n : Int)])).1 : Int) ∧ a + b = ((grI (pre ++ [(n : Int)])).2 : Int) := by
  rw [s_eq] at h
  have := one_ne h
  rw [grI_snoc]
  unfold grow1
  rw [if_neg this]
  simp only
  omega
theorem grI_codes {x : Str} {v : List Nat} (hx : x = ⟨v.toArray⟩) : grI (KStt.codes x) = gr v := by
  subst hx
  unfold grI KStt.codes
  simp only [List.map_map]
  congr 1
  conv => rhs; rw [← List.map_id v]
  exact List.map_congr_left fun c _ => Int.toNat_natCast c
theorem news_one {h₀ h : Heap} {L : Addr} {r a1 : Addr × Obj} {news : List (Addr × Obj)} (N : News h₀ L h (r :: a1 :: news)) : News h₀ L h (r :: news) := fun p hp => N p (by
  simp only [List.mem_cons] at hp ⊢
  rcases hp with h | h <;> simp [h])
end Mine
end
section
set_option Elab.async false
set_option maxRecDepth 100000
set_option maxHeartbeats 4000000
open PySem PySem.W PyProof.Rows PySem.Calls PyProof PySem.Challenge
namespace Mine
theorem c_grown (w : World) (mean : ExcName → Option Value) (mg mb : Str → Option Value) (news : List (Addr × Obj)) (x : Str) (t : Tok) (v : List Nat) (hx : x = ⟨v.toArray⟩) (hl : v.length ≤ 7) (hv : ∀ c ∈ v, c = 115 ∨ c = 116) :
  Ct w mean mg mb (2 + claimMargin) 7 170 news [.str x t] (fun h₀ L m s Q => ∀ (r : Addr) (t₁ t₂ : Tok) (h' : Heap) (tk' : Nat), Fr h₀ L h' m → News h₀ L h' ((r, { cls := .type "tuple", data := .seq #[.int (gr v).1 t₁, .int (gr v).2 t₂] }) :: news) → (∀ p ∈ news, p.1 < r) → Q (.ref r) { s with heap := h', toks := tk' }) := by
  have mk : rw_st0039_01 = rw_st0039_01 ∧ heapK = heapK := by (k_fill; exact ⟨rfl, rfl⟩)
  clear mk
  intro gd cn cs fa ccd cl outer A₀ base h₀ L m s Q E hB hF hK hN hT hk hret
  refine wpAny_call ?_
  (k_with "pyIter str" => k_state (fun pre a b => a = ((grI pre).1 : Int) ∧ b = ((grI pre).2 : Int)) "a" "b")
  k_dflt cell_enter
  (k_with "state" => first
    | exact grown_s (by assumption) (by assumption) (by assumption)
    | exact grown_t (by assumption) (by assumption) (by assumption))
  k_steps
  all_goals (
    (rename (_ = ((grI (KStt.codes x)).1 : Int)) => e1)
    (rename (_ = ((grI (KStt.codes x)).2 : Int)) => e2)
    rw [grI_codes hx] at e1 e2
    subst e1 e2
    (rename News h₀ L _ _ => kN9)
    (rename (_ < _ ∧ AllLt _ news) => g9)
    exact hret _ _ _ _ _ (by k_asm) (news_one kN9) (fun p hp => kst_ltOf g9.2 p hp))
end Mine
end
section
set_option Elab.async false
set_option maxRecDepth 100000
set_option maxHeartbeats 4000000
open PySem PySem.W PyProof.Rows PySem.Calls PyProof PySem.Challenge
namespace Mine
local macro_rules | `(tactic| walk_at "execs cons") => `(tactic| ((rename ((({ cps := #[_] } : Str) == Str.ofString "\t") = true) => hq9); exact no_tab (by assumption) (by assumption) (by assumption) (by assumption) (by assumption) hq9))
theorem c_ws (w : World) (mean : ExcName → Option Value) (mg mb : Str → Option Value) (news : List (Addr × Obj)) (x : Str) (t : Tok) (a b : Nat) (mid : List Nat) (hx : x = pad a mid b) (hi : inky mid) (h9 : mid.head? ≠ some 9) (hl : x.length ≤ 1000) :
  Ct w mean mg mb (3 + claimMargin) 10 154 news [.str x t] (fun h₀ L m s Q => ∀ (x' d' z q : Addr) (k1 k2 k3 k4 k5 tn tm tb : Tok) (h' : Heap) (tk' : Nat), Fr h₀ L h' m →
      News h₀ L h' ((q, wsTup z a tb) :: (z, wsNil) :: (x', instObj 154 d') :: (d', wsDict w.params k1 k2 k3 k4 k5 x t a tn tm q) :: news) →
      (∀ p ∈ news, p.1 < d') → d' < x' → x' < z → z < q → Q (.ref x') { s with heap := h', toks := tk' }) := by
  have mk : rw_st0039_01 = rw_st0039_01 ∧ heapK = heapK := by (k_fill; exact ⟨rfl, rfl⟩)
  clear mk
  intro gd cn cs fa ccd cl outer A₀ base h₀ L m s Q E hB hF hK hN hT hk hret
  have hlen : (x.length : Int) = a + mid.length + b := by rw [hx]; exact pad_length a mid b
  have hmid : (0 : Int) < mid.length := by have := inky_pos hi; omega
  (k_with "state" => exact ws_turn (by assumption) (by assumption) (by assumption) (by assumption) (by assumption))
  k_dflt (refine' call_cls ?k1 ?k2 ?k3 ?k4 ?k5 ?k6 ?_)
  case k1 => k_asm
  case k2 => k_asm
  case k3 => k_asm
  case k4 => k_is
  case k5 => k_is
  case k6 => k_is
  k_whole
  intro x' d' h' F' N' l1 l2
  (try k_lt l1); (try k_lt2 l2); (try k_sweep)
  k_dflt cell_enter
  (k_with "pyIter str" => fail "mine")
  k_steps
  (rename Fr _ _ _ _ => lF')
  (rename News _ _ _ _ => lN')
  (with_unfolding_all refine' KStt.kst_text (σ := Int × Tok × Int × Tok × Int × Tok) (fun _ => _) (fun c => [(Str.ofString "b", Value.int c.1 c.2.1), (Str.ofString "n", Value.int c.2.2.1 c.2.2.2.1), (Str.ofString "nt", Value.int c.2.2.2.2.1 c.2.2.2.2.2)]) (fun _ => True) [] (fun pre c => c.1 = (pre.length : Int) ∧ c.2.2.1 = (pre.length : Int) ∧ c.2.2.2.2.1 = 0 ∧ ∀ c ∈ pre, c = 32) (0, _, 0, _, 0, _) (by rfl) lF' lN' ?kf ?kk ?kp ?turn ?done)
  (case kf => kst_facts)
  (case kk => kst_all)
  (case kp => (exact ⟨rfl, rfl, rfl, fun _ h => nomatch h⟩))
  (case done => (clear lF' lN'; intro ⟨b1, tb, n1, tn, m1, tm⟩ u h tk hf hP F1 N1; exact all_blank hx hi hP.2.2.2))
  clear lF' lN'
  intro ⟨b1, tb, n1, tn, m1, tm⟩ pre post ch tc u h tk own he hoff hf hP F1 N1
  obtain ⟨e1, e2, e3, hp⟩ := hP
  have kMark : KstMark := kstMark
  dsimp only at e1 e2 e3
  (try dsimp only [kstB] at F1); (try dsimp only at N1); (try simp only [List.nil_append, List.cons_append, List.append_nil] at N1); (try dsimp only at hoff); (try simp only [List.map_cons, List.map_nil] at hoff)
  (try k_fold)
  k_steps
  have hb := ws_break hx hi he hp (by assumption)
  subst e1 e2 e3
  (rename News h₀ L _ _ => kN9)
  rw [hb] at kN9
  refine hret _ _ _ _ _ _ _ _ _ _ _ _ _ _ (by k_asm) (ws_news kN9) ?_ ?_ ?_ ?_
  · exact l1
  · exact l2
  · (rename (_ < _ ∧ _ < _ ∧ x' < _ ∧ d' < _ ∧ AllLt _ _) => g9); exact g9.2.2.1
  · (rename (_ < _ ∧ _ < _ ∧ _ < _ ∧ x' < _ ∧ d' < _ ∧ AllLt _ _) => g9); exact g9.1
end Mine
end
section
set_option Elab.async false
set_option maxRecDepth 100000
set_option maxHeartbeats 4000000
open PySem PySem.W PyProof.Rows PySem.Calls PyProof PySem.Challenge
namespace Mine
theorem chr_sign {w : World} {A : Around} {E : Value → Shared → Prop} {s : Shared} {d : Int} {u : Tok} {Q : Value → Shared → Prop} (h : ∀ t k, Q (.str ⟨#[sign d]⟩ t) { s with toks := k }) :
    wpAny (model pw_st0039_01 w) A (call (.builtin "chr") [.int (([173, 223, 64261, 64262, 83, 383, 119826, 84, 119827, 116, 8203, 119931] : List Int).getD (d.fmod 12).toNat 0) u]) Q E s := by
  rw [sign_int]
  have := sign_le d
  exact chr_of_range (by omega) (by omega) (h _ _)
theorem rejoin {w : World} {A : Around} {E : Value → Shared → Prop} {s : Shared} {x : Sem Value} {d : Int} {t₀ : Tok} {o : Option Value} {h₀ : Heap} {L : Addr} {m : Str → Option Value} {news : List (Addr × Obj)} {Q : Value → Shared → Prop}
    (_ : o = some (.str ⟨#[sign d]⟩ t₀)) (_ : Fr h₀ L s.heap m) (_ : News h₀ L s.heap news)
    (walk : ∀ Q' : Value → Shared → Prop, (∀ t h' tk', Fr h₀ L h' m → News h₀ L h' news → Q' (.str (part d) t) { s with heap := h', toks := tk' }) → wpAny (model pw_st0039_01 w) A x Q' E s)
    (cont : ∀ t h' tk', Fr h₀ L h' m → News h₀ L h' news → Q (.str (part d) t) { s with heap := h', toks := tk' }) : wpAny (model pw_st0039_01 w) A x Q E s := walk Q cont
theorem rj_close {s : Shared} {d : Int} {x : Str} {t : Tok} {h' h₀ : Heap} {tk : Nat} {L : Addr} {m : Str → Option Value} {news : List (Addr × Obj)} {Q : Value → Shared → Prop}
    (h : ∀ t h' tk', Fr h₀ L h' m → News h₀ L h' news → Q (.str (part d) t) { s with heap := h', toks := tk' }) (e : part d = x) (F : Fr h₀ L h' m) (N : News h₀ L h' news) : Q (.str x t) { s with heap := h', toks := tk } := e ▸ h t h' tk F N
theorem part_sum (a b c d : Int) : (([part a, part b, part c, part d] : List Str).map (·.length)).sum + ([part a, part b, part c, part d] : List Str).length ≤ 1048576 := by
  have h1 := (part_ok a).2
  have h2 := (part_ok b).2
  have h3 := (part_ok c).2
  have h4 := (part_ok d).2
  simp only [List.map_cons, List.map_nil, List.sum_cons, List.sum_nil, List.length_cons, List.length_nil]
  omega
theorem compEnd' {h₀ : Heap} {L I C D : Addr} {m : Str → Option Value} {s₁ : Shared} {oI oC oD : Obj} {S : List (Addr × Obj) → Prop} {rest : Value → List (Addr × Obj) → Prop} {y : Value} {h' : Heap} {tk : Nat} {news' : List (Addr × Obj)}
    (F : Fr h₀ L h' m) (N : News h₀ L h' ((I, oI) :: (C, oC) :: (D, oD) :: news')) (off : LCg.Off3 I C D news') (hS : S news') (r : rest y news') :
    LCg.CompEnd h₀ L m s₁ I oI C oC D oD S rest y { s₁ with heap := h', toks := tk } := LCg.CompEnd.intro F N news' (fun _ h => h) off hS r
local macro_rules | `(tactic| walk_at "CompEnd") => `(tactic| ((show LCg.CompEnd _ _ _ _ _ _ _ _ _ _ _ _ _ _); (rename News _ _ _ _ => n9); refine compEnd' (by assumption) n9 (by first | assumption | (simp only [LCg.Off3, and_true]; done) | (simp only [LCg.Off3, and_true]; assumption)) (by lcg_src) ?_; clear n9))
local macro_rules | `(tactic| walk_at "CompSrc") => `(tactic| (k_here; k_dflt (refine LCg.CompSrc.ledger rfl (by k_asm) (by k_asm) (by k_mem) (by exact Nat.le_of_ble_eq_true rfl) ?_; intro gh; lcg_lit)))
local macro_rules | `(tactic| walk_at "call builtin:chr") => `(tactic| (k_here; k_dflt (refine chr_sign ?_); intro t9 k9))
local macro_rules | `(tactic| walk_at "call ref") => `(tactic| (k_here; (with_reducible show wpAny _ _ (call (Value.ref 46) [Value.str _ _]) _ _ _); k_dflt (refine' c_b1 _ _ _ _ _ _ ?wd _ _ _ _ ?wx _ _ _ _ _ _ _ _ _ _ _ _ _ _ _ ?k1 ?k2 ?k3 ?k4 ?k5 ?kk ?_; (case wx => exact rfl); (case k1 => k_asm); (case k2 => k_asm); (case k3 => k_asm); (case k4 => k_asm); (case k5 => k_asm); (case kk => first | exact rfl | assumption); (case wd => exact Nat.le_of_ble_eq_true rfl); k_whole); intro h' tk' F' N'; (try dsimp only); (try k_sweep); (try k_fold)))
local macro_rules | `(tactic| walk_at "call ref") => `(tactic| (k_here; (with_reducible show wpAny _ _ (call (Value.ref 92) [Value.str _ _]) _ _ _); k_dflt (refine' c_b3 _ _ _ _ _ _ ?wd _ _ _ _ ?wx _ (part_out ?wh) (part_short _) _ _ _ _ _ _ _ _ _ _ _ _ _ _ _ ?k1 ?k2 ?k3 ?k4 ?k5 ?kk ?_; (case wx => exact rfl); (case wh => first | assumption | exact Bool.not_eq_true _ ▸ (by assumption)); (case k1 => k_asm); (case k2 => k_asm); (case k3 => k_asm); (case k4 => k_asm); (case k5 => k_asm); (case kk => first | exact rfl | assumption); (case wd => exact Nat.le_of_ble_eq_true rfl); k_whole); intro h' tk' u' F' N'; (try dsimp only); (try k_sweep); (try k_fold)))
theorem c_prep (w : World) (mean : ExcName → Option Value) (mg mb : Str → Option Value) (l a1 a2 a3 a4 : Addr) (o1 o2 o3 o4 : Obj) (d₀ d₁ d₂ d₃ : Int) (t₀ t₁ t₂ t₃ : Tok) :
  Ct w mean mg mb (2 + claimMargin) 7 163 [(l, LCg.lst [.int d₀ t₀, .int d₁ t₁, .int d₂ t₂, .int d₃ t₃]), (a4, o4), (a3, o3), (a2, o2), (a1, o1)] [.ref l] (fun h₀ L m s Q => ∀ (t : Tok) (h' : Heap) (tk' : Nat), Fr h₀ L h' m → News h₀ L h' [(l, LCg.lst [.int d₀ t₀, .int d₁ t₁, .int d₂ t₂, .int d₃ t₃]), (a4, o4), (a3, o3), (a2, o2), (a1, o1)] → Q (.str (Txt.join (Str.ofString "") [part d₀, part d₁, part d₂, part d₃]) t) { s with heap := h', toks := tk' }) := by
  have mk : rw_st0039_01 = rw_st0039_01 ∧ heapK = heapK := by (k_fill; exact ⟨rfl, rfl⟩)
  clear mk
  intro gd cn cs fa ccd cl outer A₀ base h₀ L m s Q E hB hF hK hN hT hk hret
  refine wpAny_call ?_
  k_dflt (refine' code_defC ?k1 ?k2 ?k3 ?k4 ?k5 ?kA ?kF ?kK ?k6 ?k7 ?k8 ?k9 ?kB ?kD ?_ ?c2 ?c3 ?c4; (case kA => exact rfl); (case kF => exact rfl); (case kK => assumption); (case k1 => k_asm); (case k2 => k_asm); (case k3 => k_asm); (case k4 => k_asm); (case k5 => k_asm); (case k6 => k_is); (case k7 => k_is); (case k8 => ktr_room); (case k9 => exact BindsTo.of_eq rfl); (case kB => exact rfl); (case kD => decide +kernel); (case c2 => exact rfl); (case c3 => exact rfl); (case c4 => exact rfl); k_whole)
  intro g' L' h' tk' cells' FG' F' N' Y' B' X' T' l1
  have l2 : AllLt (L' + 1) [(l, LCg.lst [.int d₀ t₀, .int d₁ t₁, .int d₂ t₂, .int d₃ t₃]), (a4, o4), (a3, o3), (a2, o2), (a1, o1)] := allLt_of fun p hp => Nat.lt_succ_of_lt (l1 p hp)
  (try k_lt l1)
  k_cells Y'
  (try simp only [List.cons_append, List.nil_append] at N')
  (rename (_ = Data.cell _) => d9)
  change _ = Data.cell none at d9
  (try dsimp only); (try k_lift B'); (try k_fold)
  repeat' ((fail_if_success (with_reducible show wpAny _ _ (call (Value.builtin "chr") _) _ _ _)); first | (k_unfold; (try dsimp only)) | (k_end; wrow_close) | walk1 | (dsimp only; walk1))
  refine chr_sign ?_
  intro t9 k9
  repeat' ((fail_if_success (with_reducible show wpAny _ _ (eval (Expr.IfExp _ _ _ _) _) _ _ _)); first | (k_unfold; (try dsimp only)) | (k_end; wrow_close) | walk1 | (dsimp only; walk1))
  ((rename (_ = some (Value.str (Str.mk #[sign _]) _)) => hq9); (rename News _ _ _ _ => n9); (refine rejoin hq9 (by assumption) n9 ?_ ?_); (focus (intro Q9 hret9; (with_reducible refine IfExp_ ?_); k_steps; all_goals (first | (exact rj_close hret9 (part_in (by assumption)) (by k_asm) (by assumption)) | (exact rj_close hret9 rfl (by k_asm) (by assumption))))); (intro t9 h9 tk9 F9 N9; (try dsimp only); (try k_sweep); (try k_fold)))
  repeat' ((fail_if_success (with_reducible show wpAny _ _ (eval (Expr.IfExp _ _ _ _) _) _ _ _)); first | (k_unfold; (try dsimp only)) | (k_end; wrow_close) | walk1 | (dsimp only; walk1))
  ((rename (_ = some (Value.str (Str.mk #[sign _]) _)) => hq9); (rename News _ _ _ _ => n9); (refine rejoin hq9 (by assumption) n9 ?_ ?_); (focus (intro Q9 hret9; (with_reducible refine IfExp_ ?_); k_steps; all_goals (first | (exact rj_close hret9 (part_in (by assumption)) (by k_asm) (by assumption)) | (exact rj_close hret9 rfl (by k_asm) (by assumption))))); (intro t9 h9 tk9 F9 N9; (try dsimp only); (try k_sweep); (try k_fold)))
  repeat' ((fail_if_success (with_reducible show wpAny _ _ (eval (Expr.IfExp _ _ _ _) _) _ _ _)); first | (k_unfold; (try dsimp only)) | (k_end; wrow_close) | walk1 | (dsimp only; walk1))
  ((rename (_ = some (Value.str (Str.mk #[sign _]) _)) => hq9); (rename News _ _ _ _ => n9); (refine rejoin hq9 (by assumption) n9 ?_ ?_); (focus (intro Q9 hret9; (with_reducible refine IfExp_ ?_); k_steps; all_goals (first | (exact rj_close hret9 (part_in (by assumption)) (by k_asm) (by assumption)) | (exact rj_close hret9 rfl (by k_asm) (by assumption))))); (intro t9 h9 tk9 F9 N9; (try dsimp only); (try k_sweep); (try k_fold)))
  repeat' ((fail_if_success (with_reducible show wpAny _ _ (eval (Expr.IfExp _ _ _ _) _) _ _ _)); first | (k_unfold; (try dsimp only)) | (k_end; wrow_close) | walk1 | (dsimp only; walk1))
  ((rename (_ = some (Value.str (Str.mk #[sign _]) _)) => hq9); (rename News _ _ _ _ => n9); (refine rejoin hq9 (by assumption) n9 ?_ ?_); (focus (intro Q9 hret9; (with_reducible refine IfExp_ ?_); k_steps; all_goals (first | (exact rj_close hret9 (part_in (by assumption)) (by k_asm) (by assumption)) | (exact rj_close hret9 rfl (by k_asm) (by assumption))))); (intro t9 h9 tk9 F9 N9; (try dsimp only); (try k_sweep); (try k_fold)))
  repeat' ((fail_if_success (with_reducible show wpAny _ _ (call (Value.builtin "str.join") _) _ _ _)); first | (k_unfold; (try dsimp only)) | (k_end; wrow_close) | walk1 | (dsimp only; walk1))
  refine join_listW (ys := [part d₀, part d₁, part d₂, part d₃]) (by is_list) (by kct_strs) (by decide +kernel) (part_sum _ _ _ _) ?_
  intro t9 k9
  k_steps
  (rename News h₀ L _ _ => kN9)
  exact hret _ _ _ (by k_asm) (fun p hp => kN9 p (.tail _ (.tail _ (.tail _ (.tail _ hp)))))
end Mine
end
section
set_option Elab.async false
set_option maxRecDepth 100000
set_option maxHeartbeats 4000000
open PySem PySem.W PyProof.Rows PySem.Calls PyProof PySem.Challenge
namespace Mine
local macro_rules | `(tactic| walk_at "call ref") => `(tactic| (k_here; (with_reducible show wpAny _ _ (call (Value.ref 154) [Value.str _ _]) _ _ _); k_dflt (refine' c_ws _ _ _ _ _ _ _ _ _ _ ?wx ?wi ?w9 ?wl _ _ _ _ _ _ _ _ _ _ _ _ _ _ _ ?k1 ?k2 ?k3 ?k4 ?k5 ?kk ?_; (case wx => first | assumption | exact rev_pad (by assumption)); (case wi => assumption); (case w9 => assumption); (case wl => first | assumption | exact rev_len (by assumption)); (case k1 => k_asm); (case k2 => k_asm); (case k3 => k_asm); (case k4 => k_asm); (case k5 => k_asm); (case kk => first | exact rfl | assumption); k_whole); intro x' d' z' q' k1 k2 k3 k4 k5 tn tm tb h' tk' F' N' l1 l2 l3 l4; (try k_lt l1); (try k_lt2 l2); (try k_lt2 l3); (try k_lt2 l4); (try dsimp only); (try k_sweep); (try k_fold)))
local macro_rules | `(tactic| walk_at "call ref") => `(tactic| (k_here; (with_reducible show wpAny _ _ (call (Value.ref 28) [Value.str _ _, Value.int _ _]) _ _ _); k_dflt (refine' c_strip _ _ _ _ _ _ ?wd _ _ _ _ _ _ _ _ _ ?wn ?wx ?wi ?wl _ _ _ _ _ _ _ _ _ _ _ _ _ _ _ ?k1 ?k2 ?k3 ?k4 ?k5 ?kk ?_; (case wn => exact max_nat _); (case wx => first | assumption | exact rev_pad (by assumption)); (case wi => assumption); (case wl => first | assumption | exact rev_len (by assumption)); (case k1 => k_asm); (case k2 => k_asm); (case k3 => k_asm); (case k4 => k_asm); (case k5 => k_asm); (case kk => first | exact rfl | assumption); (case wd => exact Nat.le_of_ble_eq_true rfl); k_whole); intro t' h' tk' hz F' N'; (try dsimp only); (try k_sweep); (try k_fold)))
theorem c_read (w : World) (mean : ExcName → Option Value) (mg mb : Str → Option Value) (news : List (Addr × Obj)) (x : Str) (t : Tok) (v : List Nat) (hx : x = pad (gr v).1 (120 :: v) (gr v).2) (hl : v.length ≤ 7) (hv : ∀ c ∈ v, c = 115 ∨ c = 116) :
  Ct w mean mg mb (2 + claimMargin) 7 177 news [.str x t] (fun h₀ L m s Q => ∀ (r : Addr) (t₁ t₂ : Tok) (h' : Heap) (tk' : Nat), Fr h₀ L h' m → News h₀ L h' ((r, { cls := .type "tuple", data := .seq #[.str ⟨v.toArray⟩ t₁, .str (pad 1 (120 :: v) 1) t₂] }) :: news) → (∀ p ∈ news, p.1 < r) → Q (.ref r) { s with heap := h', toks := tk' }) := by
  have mk : rw_st0039_01 = rw_st0039_01 ∧ heapK = heapK := by (k_fill; exact ⟨rfl, rfl⟩)
  clear mk
  intro gd cn cs fa ccd cl outer A₀ base h₀ L m s Q E hB hF hK hN hT hk hret
  obtain ⟨hi1, h91, hi2, h92⟩ := letters_inky hv
  refine wpAny_call ?_
  (k_with "exec For Name Call cons nil" => kpr_for)
  k_dflt cell_enter
  repeat' ((fail_if_success (with_reducible show wpAny _ _ (pyIter (Value.ref _)) _ _ _)); first | (k_unfold; (try dsimp only)) | (k_end; wrow_close) | walk1 | (dsimp only; walk1))
  (rename Fr _ _ _ _ => lF')
  (rename News _ _ _ _ => lN')
  (rename IsRange _ _ _ _ _ _ _ _ => rgX)
  (with_unfolding_all refine' kst_range (σ := Str × Tok × Str × Tok) (fun _ => _) (fun c => [(Str.ofString "line", Value.str c.1 c.2.1), (Str.ofString "read", Value.str c.2.2.1 c.2.2.2)]) (fun _ => True) [Str.ofString "ahead", Str.ofString "behind"] (fun pre c => turned v pre.length c.1 c.2.2.1) (x, t, Str.ofString "", _) (by rfl) rgX ?ks ?kr lF' lN' ?kf ?kk ?kp ?turn ?done)
  (case ks => decide)
  (case kr => rfl)
  (case kf => kst_facts)
  (case kk => kst_all)
  (case kp => exact ⟨v, [], by simp, rfl, hx, rfl⟩)
  (case done => (clear lF' lN'; intro ⟨b1, tb, n1, tn⟩ u h tk hf hP F1 N1; exact absurd (turned_len hl hP).2.2 (by simp [rangeKs_length])))
  clear lF' lN'
  intro ⟨line, tl, read, tr⟩ pre k tc u h tk own he hlt hoff hf hP F1 N1
  have kMark : KstMark := kstMark
  dsimp only at hP
  have hlen := turned_len hl hP
  obtain ⟨v1, s1, hv1, hs1, hline, hread⟩ := hP
  (try dsimp only [kstB] at F1); (try dsimp only at N1); (try simp only [List.nil_append, List.cons_append, List.append_nil] at N1); (try dsimp only at hoff); (try simp only [List.map_cons, List.map_nil] at hoff)
  (try k_fold)
  have hl1 := hlen.1
  (k_with "state" => first
    | exact turn_s hv1 hs1 hread (by assumption) (by assumption)
    | exact turn_t hv hv1 hs1 hread (by assumption))
  k_steps
  all_goals (
    (rename (((gr v1).1 : Int) = ((gr v1).2 : Int)) => e9)
    obtain ⟨e1, e2⟩ := read_end hv1 hline hread e9
    subst e1 e2
    (rename News h₀ L _ _ => kN9)
    (rename (_ < _ ∧ _ < _ ∧ _ < _ ∧ _ < _ ∧ _ < _ ∧ _ < _ ∧ _ < _ ∧ _ < _ ∧ AllLt _ (news ++ own)) => g9)
    exact hret _ _ _ _ _ (by k_asm) (read_news kN9) (fun p hp => kst_ltOf g9.2.2.2.2.2.2.2.2 p (List.mem_append_left _ hp)))
end Mine
end
section
set_option Elab.async false
set_option maxRecDepth 100000
set_option maxHeartbeats 4000000
open PySem PySem.W PyProof.Rows PySem.Calls PyProof PySem.Challenge
namespace Mine
theorem word_eq {x : Str} {v : List Nat} (hx : x = ⟨v.toArray⟩) : Txt.slice x none (some 7) = ⟨(v.take 7).toArray⟩ := by
  have hl : x.length = v.length := by rw [hx]; show v.toArray.size = _; simp
  have hc : x.cps.toList = v := by rw [hx]
  by_cases h : v.length ≤ 7
  · rw [slice_to_beyond (by omega), eq_of_beq (slice_closes_to (x := x) (j := (x.length : Int)) ⟨by omega, by rw [hc]; omega⟩), hc]
    congr 2
    simp
    omega
  · rw [eq_of_beq (slice_closes_to (x := x) (j := 7) ⟨by omega, by rw [hc]; omega⟩), hc]
    simp
theorem back_eq {x : Str} {v : List Nat} {u : Tok} (hx : x = ⟨v.toArray⟩) : Txt.sliceBy (Txt.slice x none (some 7)) none none (-1, u) = ⟨(v.take 7).reverse.toArray⟩ := by
  refine str_ext ?_
  rw [rev_list, word_eq hx]
theorem word_len (v : List Nat) : (v.take 7).length ≤ 7 := by simp; omega
theorem back_len (v : List Nat) : (v.take 7).reverse.length ≤ 7 := by simp; omega
theorem word_ok {v : List Nat} (h : ∀ c ∈ v, c = 115 ∨ c = 116) : ∀ c ∈ v.take 7, c = 115 ∨ c = 116 := fun c hc => h c (List.mem_of_mem_take hc)
theorem back_ok {v : List Nat} (h : ∀ c ∈ v, c = 115 ∨ c = 116) : ∀ c ∈ (v.take 7).reverse, c = 115 ∨ c = 116 := fun c hc => word_ok h c (List.mem_reverse.mp hc)
theorem gr_256 {v : List Nat} (h : v.length ≤ 7) : (0 : Int) ≤ ((gr v).1 : Int) ∧ (0 : Int) ≤ ((gr v).2 : Int) ∧ ((gr v).1 : Int) + ((gr v).2 : Int) ≤ 256 := by
  have g := gr_le v
  have : 2 ^ (v.length + 1) ≤ 2 ^ 8 := Nat.pow_le_pow_right (by decide) (by omega)
  omega
theorem mul_blank (n : Nat) : Txt.mul (Str.ofString " ") (n : Int) = ⟨(List.replicate n 32).toArray⟩ := by
  refine str_ext ?_
  rw [blank_eq, mul_one_list]
  simp
theorem x_eq : Str.ofString "x" = ⟨#[120]⟩ := by decide +kernel
theorem tab1_eq : Str.ofString "\t" = ⟨#[9]⟩ := by decide +kernel
theorem line_eq (a b : Nat) {u : List Nat} {x : Str} (hx : x = ⟨u.toArray⟩) : Txt.mul (Str.ofString " ") (a : Int) ++ (Str.ofString "x" ++ x) ++ Txt.mul (Str.ofString " ") (b : Int) = pad a (120 :: u) b := by
  refine str_ext ?_
  rw [mul_blank, mul_blank, x_eq, hx]
  simp [PySem.Str.cps_append, pad, padL]
theorem left_eq {u : List Nat} {x : Str} (hx : x = ⟨u.toArray⟩) : pad 1 (120 :: u) 1 = Str.ofString " " ++ (Str.ofString "x" ++ x) ++ Str.ofString " " := by
  refine str_ext ?_
  rw [blank_eq, x_eq, hx]
  simp [PySem.Str.cps_append, pad, padL]
theorem right_eq {u : List Nat} {x : Str} (hx : x = ⟨u.toArray⟩) : pad 0 (120 :: u) 1 = Str.ofString "x" ++ x ++ Str.ofString " " := by
  refine str_ext ?_
  rw [blank_eq, x_eq, hx]
  simp [PySem.Str.cps_append, pad, padL]
theorem ink_eq {u : List Nat} {x : Str} (hx : x = ⟨u.toArray⟩) : pad 0 (120 :: u) 0 = Str.ofString "x" ++ x := by
  refine str_ext ?_
  rw [x_eq, hx]
  simp [PySem.Str.cps_append, pad, padL]
theorem tleft_eq {u : List Nat} {x : Str} (hx : x = ⟨u.toArray⟩) : Str.ofString " " ++ (Str.ofString "\t" ++ x ++ Str.ofString "\t") ++ Str.ofString " " = pad 1 (9 :: u ++ [9]) 1 := by
  refine str_ext ?_
  rw [blank_eq, tab1_eq, hx]
  simp [PySem.Str.cps_append, pad, padL]
theorem tright_eq {u : List Nat} {x : Str} (hx : x = ⟨u.toArray⟩) : pad 0 (9 :: u ++ [9]) 1 = Str.ofString "\t" ++ x ++ Str.ofString "\t" ++ Str.ofString " " := by
  refine str_ext ?_
  rw [blank_eq, tab1_eq, hx]
  simp [PySem.Str.cps_append, pad, padL]
theorem tink_eq {u : List Nat} {x : Str} (hx : x = ⟨u.toArray⟩) : pad 0 (9 :: u ++ [9]) 0 = Str.ofString "\t" ++ x ++ Str.ofString "\t" := by
  refine str_ext ?_
  rw [tab1_eq, hx]
  simp [PySem.Str.cps_append, pad, padL]
theorem tabs_inky (u : List Nat) : inky (9 :: u ++ [9]) := ⟨by simp, by simp, by rw [List.getLast?_concat]; simp⟩
end Mine
namespace Mine
theorem pad1_len {u : List Nat} (h : u.length ≤ 7) : (pad 1 (120 :: u) 1).length ≤ 1000 := by
  have := pad_length 1 (120 :: u) 1
  simp only [List.length_cons] at this
  omega
theorem ptab_len {u : List Nat} (h : u.length ≤ 7) : (pad 1 (9 :: u ++ [9]) 1).length ≤ 1000 := by
  have := pad_length 1 (9 :: u ++ [9]) 1
  simp only [List.length_cons, List.length_append, List.length_nil] at this
  omega
theorem tleft_len {x : Str} {u : List Nat} (hx : x = ⟨u.toArray⟩) (h : u.length ≤ 7) : (Str.ofString " " ++ (Str.ofString "\t" ++ x ++ Str.ofString "\t") ++ Str.ofString " ").length ≤ 1000 := by
  rw [tleft_eq hx]; exact ptab_len h
theorem somePass {w : World} {A : Around} {E : Value → Shared → Prop} {s : Shared} {x : Sem Flow} {h₀ : Heap} {L : Addr} {m : Str → Option Value} {news : List (Addr × Obj)} {Q : Flow → Shared → Prop}
    (_ : Fr h₀ L s.heap m) (_ : News h₀ L s.heap news)
    (walk : ∀ Q' : Flow → Shared → Prop, (∀ h' tk', Fr h₀ L h' m → News h₀ L h' news → Q' .next { s with heap := h', toks := tk' }) → wpAny (model pw_st0039_01 w) A x Q' E s)
    (cont : ∀ h' tk', Fr h₀ L h' m → News h₀ L h' news → Q .next { s with heap := h', toks := tk' }) : wpAny (model pw_st0039_01 w) A x Q E s := walk Q cont
theorem sp_close {s : Shared} {h' h₀ : Heap} {tk : Nat} {L : Addr} {m : Str → Option Value} {n₁ news : List (Addr × Obj)} {Q : Flow → Shared → Prop}
    (h : ∀ h' tk', Fr h₀ L h' m → News h₀ L h' news → Q .next { s with heap := h', toks := tk' }) (F : Fr h₀ L h' m) (N : News h₀ L h' n₁) (sub : ∀ p ∈ news, p ∈ n₁) : Q .next { s with heap := h', toks := tk } := h h' tk F (fun p hp => N p (sub p hp))
end Mine
namespace Mine
theorem kill_ne {P : Prop} {x y : Str} (h : (x != y) = true) (e : x = y) : P := absurd e (bne_iff_ne.mp h)
end Mine
end
section
set_option Elab.async false
set_option maxRecDepth 100000
set_option maxHeartbeats 4000000
open PySem PySem.W PyProof.Rows PySem.Calls PyProof PySem.Challenge PyProof.V
namespace Mine
theorem pad_ok {a b : Nat} {mid : List Nat} (h : ∀ c ∈ mid, c < 0x110000) : PyData.strOk (pad a mid b) = true := by
  unfold PyData.strOk pad
  rw [Array.all_eq_true']
  intro c hc
  simp only [List.mem_toArray, padL, List.mem_append, List.mem_replicate] at hc
  rcases hc with ⟨_, rfl⟩ | hc | ⟨_, rfl⟩
  · decide
  · exact decide_eq_true (h c hc)
  · decide
theorem x_ok {u : List Nat} (h : ∀ c ∈ u, c = 115 ∨ c = 116) : ∀ c ∈ 120 :: u, c < 0x110000 := by
  intro c hc
  rcases List.mem_cons.mp hc with rfl | hc
  · decide
  · rcases h c hc with rfl | rfl <;> decide
theorem t_ok {u : List Nat} (h : ∀ c ∈ u, c = 115 ∨ c = 116) : ∀ c ∈ 9 :: u ++ [9], c < 0x110000 := by
  intro c hc
  rcases List.mem_append.mp hc with hc | hc
  · rcases List.mem_cons.mp hc with rfl | hc
    · decide
    · rcases h c hc with rfl | rfl <;> decide
  · rw [List.mem_singleton.mp hc]; decide
theorem cmp4 {w : World} {A : Around} {E : Value → Shared → Prop} {s : Shared} {Q : Value → Shared → Prop} {a b : Addr} {x0 x1 x2 x3 y0 y1 y2 y3 : Str} {t0 t1 t2 t3 u0 u1 u2 u3 : Tok}
    (ha : s.heap.IsList a #[.str x0 t0, .str x1 t1, .str x2 t2, .str x3 t3]) (hb : s.heap.IsList b #[.str y0 u0, .str y1 u1, .str y2 u2, .str y3 u3]) (hu : A.units + 64 < cLine)
    (o0 : PyData.strOk x0 = true) (o1 : PyData.strOk x1 = true) (o2 : PyData.strOk x2 = true) (o3 : PyData.strOk x3 = true) (e0 : x0 = y0) (e1 : x1 = y1) (e2 : x2 = y2) (e3 : x3 = y3) (h : Q (.bool false) s) : wpAny (model pw_st0039_01 w) A (compareOp .NotEq (.ref a) (.ref b)) Q E s := by
  subst e0 e1 e2 e3
  refine ne_dataH_same (reads_newData (ys := [.str x0 t0, .str x1 t1, .str x2 t2, .str x3 t3]) ha (.cons (.str _ _) (.cons (.str _ _) (.cons (.str _ _) (.cons (.str _ _) .nil))))) (reads_newData (ys := [.str x0 u0, .str x1 u1, .str x2 u2, .str x3 u3]) hb (.cons (.str _ _) (.cons (.str _ _) (.cons (.str _ _) (.cons (.str _ _) .nil))))) ?_ ?_ hu ?_ ?_
  · simp [SeqAt.shaped, PyData.canLay0, PyData.canLayAll0, PyData.depth, PyData.depthAll, o0, o1, o2, o3]
  · simp [SeqAt.shaped, PyData.canLay0, PyData.canLayAll0, PyData.depth, PyData.depthAll, o0, o1, o2, o3]
  · simp [SeqAt.noMix, SeqAt.noMixAll]
  · simp [PySem.Spec.same, PySem.Spec.sameAll]
    exact h
end Mine
end
section
set_option Elab.async false
set_option maxRecDepth 100000
set_option maxHeartbeats 4000000
open PySem PySem.W PyProof.Rows PySem.Calls PyProof PySem.Challenge
namespace Mine
noncomputable def words : Nat → List (List Nat)
  | 0 => [[]]
  | n + 1 => [] :: ((words n).map (115 :: ·) ++ (words n).map (116 :: ·))
theorem mem_words : ∀ (n : Nat) (u : List Nat), u.length ≤ n → (∀ c ∈ u, c = 115 ∨ c = 116) → u ∈ words n
  | 0, u, h, _ => by
    have : u = [] := List.length_eq_zero_iff.mp (by omega)
    subst this
    simp [words]
  | n + 1, [], _, _ => by simp [words]
  | n + 1, c :: r, h, hc => by
    have hr := mem_words n r (by simpa using h) (fun d hd => hc d (.tail _ hd))
    unfold words
    refine .tail _ (List.mem_append.mpr ?_)
    rcases hc c (.head _) with rfl | rfl
    · exact Or.inl (List.mem_map.mpr ⟨r, hr, rfl⟩)
    · exact Or.inr (List.mem_map.mpr ⟨r, hr, rfl⟩)
noncomputable def okW (u : List Nat) : Bool :=
  ((gr u.reverse).1 + (gr u.reverse).2 == (gr u).1 + (gr u).2) && ((gr u).1 * (gr u.reverse).1 % ((gr u).1 + (gr u).2) == 1) && ((u == u.reverse) == ((gr u).1 * (gr u).1 % ((gr u).1 + (gr u).2) == 1))
theorem all_ok : (words 7).all okW = true := by decide +kernel
theorem word_law {u : List Nat} (hl : u.length ≤ 7) (hu : ∀ c ∈ u, c = 115 ∨ c = 116) :
    (gr u.reverse).1 + (gr u.reverse).2 = (gr u).1 + (gr u).2 ∧ (gr u).1 * (gr u.reverse).1 % ((gr u).1 + (gr u).2) = 1 ∧ ((u == u.reverse) = ((gr u).1 * (gr u).1 % ((gr u).1 + (gr u).2) == 1)) := by
  have h := List.all_eq_true.mp all_ok u (mem_words 7 u hl hu)
  unfold okW at h
  rw [Bool.and_eq_true, Bool.and_eq_true] at h
  exact ⟨eq_of_beq h.1.1, eq_of_beq h.1.2, eq_of_beq h.2⟩
theorem law_sum {u : List Nat} (hl : u.length ≤ 7) (hu : ∀ c ∈ u, c = 115 ∨ c = 116) : ((gr u.reverse).1 : Int) + ((gr u.reverse).2 : Int) = ((gr u).1 : Int) + ((gr u).2 : Int) := by
  have := (word_law hl hu).1
  omega
theorem fmod_nat (a b : Nat) : ((a : Int)).fmod (b : Int) = ((a % b : Nat) : Int) := by
  rw [Int.fmod_eq_emod_of_nonneg _ (by omega)]
  exact (Int.natCast_emod a b).symm
theorem law_prod {u : List Nat} (hl : u.length ≤ 7) (hu : ∀ c ∈ u, c = 115 ∨ c = 116) : (((gr u).1 : Int) * ((gr u.reverse).1 : Int)).fmod (((gr u).1 : Int) + ((gr u).2 : Int)) = 1 := by
  have := (word_law hl hu).2.1
  rw [← Int.natCast_mul, ← Int.natCast_add, fmod_nat, this]
  rfl
theorem law_square {u : List Nat} (hl : u.length ≤ 7) (hu : ∀ c ∈ u, c = 115 ∨ c = 116) : (((gr u).1 : Int) * ((gr u).1 : Int)).fmod (((gr u).1 : Int) + ((gr u).2 : Int)) = 1 ↔ u = u.reverse := by
  have h := (word_law hl hu).2.2
  rw [← Int.natCast_mul, ← Int.natCast_add, fmod_nat]
  constructor
  · intro e
    have e' : (gr u).1 * (gr u).1 % ((gr u).1 + (gr u).2) = 1 := by omega
    rw [e'] at h
    exact eq_of_beq h
  · intro e
    have : (u == u.reverse) = true := beq_iff_eq.mpr e
    rw [this] at h
    have := eq_of_beq h.symm
    omega
theorem law_pal {Wd : Str} {u : List Nat} {t : Tok} (hW : Wd = ⟨u.toArray⟩) : Wd = Txt.sliceBy Wd none none (-1, t) ↔ u = u.reverse := by
  constructor
  · intro e
    have h := congrArg (fun x : Str => x.cps.toList) e
    simp only [rev_list, hW] at h
    exact h
  · intro e
    refine str_ext ?_
    rw [rev_list, hW]
    exact e
end Mine
end
section
set_option Elab.async false
set_option maxRecDepth 100000
set_option maxHeartbeats 4000000
open PySem PySem.W PyProof.Rows PySem.Calls PyProof PySem.Challenge
namespace Mine
theorem bits_256 {a : Int} (h0 : 1 ≤ a) (h1 : a ≤ 256) : Builtin.Int.intBits a ≤ 64 := by
  have h : ∀ n, n ≤ 256 → Builtin.Int.intBits ((n : Nat) : Int) ≤ 64 := by decide +kernel
  have := h a.toNat (by omega)
  rwa [Int.toNat_of_nonneg (by omega)] at this
theorem law_square' {u : List Nat} (hl : u.length ≤ 7) (hu : ∀ c ∈ u, c = 115 ∨ c = 116) : (((gr u).1 : Int) ^ (2 : Int).toNat).fmod (((gr u).1 : Int) + ((gr u).2 : Int)) = 1 ↔ u = u.reverse := by
  have e : (((gr u).1 : Int) ^ (2 : Int).toNat) = ((gr u).1 : Int) * ((gr u).1 : Int) := by
    show ((gr u).1 : Int) ^ 2 = _
    rw [Int.pow_succ, Int.pow_succ, Int.pow_zero, Int.one_mul]
  rw [e]
  exact law_square hl hu
theorem law_key {Wd : Str} {u : List Nat} (hW : Wd = ⟨u.toArray⟩) (hl : u.length ≤ 7) (hu : ∀ c ∈ u, c = 115 ∨ c = 116) (t : Tok) : ((((gr u).1 : Int) ^ (2 : Int).toNat).fmod (((gr u).1 : Int) + ((gr u).2 : Int)) == 1) = (Wd == Txt.sliceBy Wd none none (-1, t)) := by
  rw [Bool.eq_iff_iff, beq_iff_eq, beq_iff_eq]
  exact (law_square' hl hu).trans (law_pal hW).symm
theorem mul_256 {prog : Program} {w : World} {A : Around} {E : Value → Shared → Prop} {s : Shared} {a b : Int} {t u : Tok} {Q : Value → Shared → Prop} (h0 : 1 ≤ a) (h1 : a ≤ 256) (h : Q (.int (a * b) s.toks) { s with toks := s.toks + 1 }) : wpAny (model prog w) A (binaryOp .Mult (.int a t) (.int b u)) Q E s :=
  mul_int h (IntMulOk.of_left (bits_256 h0 h1))
end Mine
end
section
set_option Elab.async false
set_option maxRecDepth 100000
set_option maxHeartbeats 4000000
open PySem PySem.W PyProof.Rows PySem.Calls PyProof PySem.Challenge
namespace Mine
theorem empty_eq : Str.ofString "" = ⟨#[]⟩ := by decide +kernel
theorem join4 (a b c d : Str) : Txt.join (Str.ofString "") [a, b, c, d] = ⟨(a.cps.toList ++ b.cps.toList ++ c.cps.toList ++ d.cps.toList).toArray⟩ := by
  refine str_ext ?_
  rw [empty_eq]
  simp [Txt.join, Builtin.Str.glued]
noncomputable def vOf (a b c d : Int) : List Nat := (part a).cps.toList ++ (part b).cps.toList ++ (part c).cps.toList ++ (part d).cps.toList
theorem vOf_ok (a b c d : Int) : ∀ x ∈ vOf a b c d, x = 115 ∨ x = 116 := by
  intro x hx
  unfold vOf at hx
  rcases List.mem_append.mp hx with hx | hx
  · rcases List.mem_append.mp hx with hx | hx
    · rcases List.mem_append.mp hx with hx | hx
      · exact (part_ok a).1 x hx
      · exact (part_ok b).1 x hx
    · exact (part_ok c).1 x hx
  · exact (part_ok d).1 x hx
theorem vOf_len (a b c d : Int) : (vOf a b c d).length ≤ 8 := by
  have h1 := (part_ok a).2
  have h2 := (part_ok b).2
  have h3 := (part_ok c).2
  have h4 := (part_ok d).2
  have e : ∀ d : Int, (part d).length = (part d).cps.toList.length := fun d => by show (part d).cps.size = _; simp
  rw [e] at h1 h2 h3 h4
  unfold vOf
  simp only [List.length_append]
  omega
theorem join_v (a b c d : Int) : Txt.join (Str.ofString "") [part a, part b, part c, part d] = ⟨(vOf a b c d).toArray⟩ := join4 _ _ _ _
theorem join_len (a b c d : Int) : (Txt.join (Str.ofString "") [part a, part b, part c, part d]).length ≤ 1000 := by
  rw [join_v]
  show (vOf a b c d).toArray.size ≤ 1000
  have := vOf_len a b c d
  simp
  omega
end Mine
end
section
set_option Elab.async false
set_option maxRecDepth 100000
set_option maxHeartbeats 0
open PySem PySem.W PyProof.Rows PySem.Calls PyProof PySem.Challenge
namespace Mine
noncomputable abbrev lawEnv (L fa : Addr) (cd : Value) : Env := envOfC (Str.ofString "law") (fdef 14).2.2 L fa cd
local macro_rules | `(tactic| walk_at "call ref") => `(tactic| (k_here; (with_reducible show wpAny _ _ (call (Value.ref 170) [Value.str _ _]) _ _ _); k_dflt (refine' c_grown _ _ _ _ _ _ _ _ ?wx ?wl ?wi _ _ _ _ _ _ _ _ _ _ _ _ _ _ _ ?k1 ?k2 ?k3 ?k4 ?k5 ?kk ?_; (case wx => assumption); (case wl => assumption); (case wi => assumption); (case k1 => k_asm); (case k2 => k_asm); (case k3 => k_asm); (case k4 => k_asm); (case k5 => k_asm); (case kk => first | exact rfl | assumption); k_whole); intro r' t₁' t₂' h' tk' F' N' l1; (try k_lt l1); (try dsimp only); (try k_sweep); (try k_fold)))
local macro_rules | `(tactic| walk_at "call ref") => `(tactic| (k_here; (with_reducible show wpAny _ _ (call (Value.ref 177) [Value.str _ _]) _ _ _); k_dflt (refine' c_read _ _ _ _ _ _ _ _ ?wx ?wl ?wi _ _ _ _ _ _ _ _ _ _ _ _ _ _ _ ?k1 ?k2 ?k3 ?k4 ?k5 ?kk ?_; (case wx => exact line_eq _ _ (by assumption)); (case wl => assumption); (case wi => assumption); (case k1 => k_asm); (case k2 => k_asm); (case k3 => k_asm); (case k4 => k_asm); (case k5 => k_asm); (case kk => first | exact rfl | assumption); k_whole); intro r' t₁' t₂' h' tk' F' N' l1; (try k_lt l1); (try dsimp only); (try k_sweep); (try k_fold)))
local macro_rules | `(tactic| walk_at "call ref") => `(tactic| (k_here; (with_reducible show wpAny _ _ (call (Value.ref 28) [Value.str (pad _ _ _) _, Value.int _ _]) _ _ _); k_dflt (refine' c_strip _ _ _ _ _ _ ?wd _ _ _ _ _ _ _ _ _ (Int.zero_add _) rfl ?wi ?wl _ _ _ _ _ _ _ _ _ _ _ _ _ _ _ ?k1 ?k2 ?k3 ?k4 ?k5 ?kk ?_; (case wi => exact (letters_inky (by assumption)).1); (case wl => exact pad1_len (by assumption)); (case k1 => k_asm); (case k2 => k_asm); (case k3 => k_asm); (case k4 => k_asm); (case k5 => k_asm); (case kk => first | exact rfl | assumption); (case wd => exact Nat.le_of_ble_eq_true rfl); k_whole); intro t' h' tk' hz F' N'; (try dsimp only); (try k_sweep); (try k_fold)))
local macro_rules | `(tactic| walk_at "call ref") => `(tactic| (k_here; (with_reducible show wpAny _ _ (call (Value.ref 28) [Value.str (_ ++ _) _, Value.int _ _]) _ _ _); k_dflt (refine' c_strip _ _ _ _ _ _ ?wd _ _ _ _ _ _ _ _ _ (Int.zero_add _) ?wx (tabs_inky _) ?wl _ _ _ _ _ _ _ _ _ _ _ _ _ _ _ ?k1 ?k2 ?k3 ?k4 ?k5 ?kk ?_; (case wx => exact tleft_eq (by assumption)); (case wl => exact tleft_len (by assumption) (by assumption)); (case k1 => k_asm); (case k2 => k_asm); (case k3 => k_asm); (case k4 => k_asm); (case k5 => k_asm); (case kk => first | exact rfl | assumption); (case wd => exact Nat.le_of_ble_eq_true rfl); k_whole); intro t' h' tk' hz F' N'; (try dsimp only); (try k_sweep); (try k_fold)))
local macro_rules | `(tactic| walk_at "CompEnd") => `(tactic| ((show LCg.CompEnd _ _ _ _ _ _ _ _ _ _ _ _ _ _); (rename News _ _ _ _ => n9); refine compEnd' (by assumption) n9 (by first | assumption | (simp only [LCg.Off3, and_true]; done) | (simp only [LCg.Off3, and_true]; assumption)) (by lcg_src) ?_; clear n9))
local macro_rules | `(tactic| walk_at "CompSrc") => `(tactic| (k_here; k_dflt (refine LCg.CompSrc.range rfl (by k_asm) (by k_asm) (by assumption) (by exact rfl) (by exact rfl) (by exact Nat.le_of_ble_eq_true rfl) ?_; intro gh; lcg_lit)))
noncomputable def turnBody : List Stmt := match (fdef 14).2.1[6]? with
  | some (Stmt.For _ _ b _ _) => b
  | _ => []
theorem law_turn (w : World) (mean : ExcName → Option Value) (mg mb : Str → Option Value) (h₀ : Heap) (fa a1 i l l1 : Addr) (cd : Value) (X : Str) (u : List Nat) (tx : Tok) (p1 it p2 p3 o4 o3 : Obj) (v4 v3 : Option Value) (m : Str → Option Value) (s : Shared) (Q : Flow → Shared → Prop) (E : Value → Shared → Prop)
    (hE : PassesOwn (model pw_st0039_01 w) (callerA.deeper (lawEnv h₀.objs.size fa cd)) (lawEnv h₀.objs.size fa cd) E)
    (hK0 : Below callerA h₀ [] h₀)
    (hF : Fr h₀ h₀.objs.size s.heap (fun y => if y = Str.ofString "text" then some (Value.str X tx) else m y))
    (hN : News h₀ h₀.objs.size s.heap [(a1, p1), (i, it), (l, p2), (l1, p3), (h₀.objs.size + 1 + 1 + 1 + 1, o4), (h₀.objs.size + 1 + 1 + 1, o3)])
    (hlt : h₀.objs.size + 1 + 1 + 1 + 1 < a1 ∧ h₀.objs.size + 1 + 1 + 1 + 1 < i ∧ h₀.objs.size + 1 + 1 + 1 + 1 < l ∧ h₀.objs.size + 1 + 1 + 1 + 1 < l1)
    (d4 : o4.data = Data.cell v4) (d3 : o3.data = Data.cell v3) (hX : X = ⟨u.toArray⟩) (hu : ∀ c ∈ u, c = 115 ∨ c = 116) (hul : u.length ≤ 7) (hXl : X.length ≤ 7)
    (hg : (0 : Int) ≤ ((gr u).1 : Int) ∧ (0 : Int) ≤ ((gr u).2 : Int) ∧ ((gr u).1 : Int) + ((gr u).2 : Int) ≤ 256)
    (hK : (heapK w.params).In h₀) (hT : Top top lse mean mg mb h₀) (hcd : h₀.CodeRec cd (Str.ofString "law"))
    (hret : ∀ h' tk' o4' o3' w4 w3 t1 t2 t3 t4, Fr h₀ h₀.objs.size h' (fun y => if y = Str.ofString "read" then some (Value.str ⟨u.toArray⟩ t1) else if y = Str.ofString "ink" then some (Value.str (Str.ofString "x" ++ X) t2) else if y = Str.ofString "b" then some (Value.int ((gr u).2 : Int) t3) else if y = Str.ofString "a" then some (Value.int ((gr u).1 : Int) t4) else if y = Str.ofString "text" then some (Value.str X tx) else m y) →
      News h₀ h₀.objs.size h' [(a1, p1), (i, it), (l, p2), (l1, p3), (h₀.objs.size + 1 + 1 + 1 + 1, o4'), (h₀.objs.size + 1 + 1 + 1, o3')] → o4'.data = Data.cell w4 → o3'.data = Data.cell w3 →
      wpAny (model pw_st0039_01 w) (callerA.deeper (lawEnv h₀.objs.size fa cd)) (execs (turnBody.drop 7) (lawEnv h₀.objs.size fa cd)) Q E { s with heap := h', toks := tk' }) :
    wpAny (model pw_st0039_01 w) (callerA.deeper (lawEnv h₀.objs.size fa cd)) (execs turnBody (lawEnv h₀.objs.size fa cd)) Q E s := by
  have mk : rw_st0039_01 = rw_st0039_01 ∧ heapK = heapK := by (k_fill; exact ⟨rfl, rfl⟩)
  clear mk
  have kMark : KstMark := kstMark
  (try dsimp only); (try k_lift hK0); (try k_fold)
  repeat' ((fail_if_success (with_reducible show wpAny _ _ (exec (Stmt.If _ _ _ _) _) _ _ _)); first | (k_unfold; (try dsimp only)) | (k_end; wrow_close) | walk1 | (dsimp only; walk1))
  (rename News _ _ _ _ => n9)
  refine somePass (by assumption) n9 ?_ ?_
  · intro Q9 hret9
    k_steps
    all_goals first
      | ((try dsimp only); refine sp_close hret9 (by assumption) (by assumption) ?_; intro p hp; first | exact hp | exact .tail _ hp | exact .tail _ (.tail _ hp) | exact .tail _ (.tail _ (.tail _ hp)) | exact .tail _ (.tail _ (.tail _ (.tail _ hp))) | exact .tail _ (.tail _ (.tail _ (.tail _ (.tail _ hp)))))
      | ((rename ((_ != _) = true) => q9); exact kill_ne q9 (by first | with_reducible exact hX.symm | exact left_eq hX))
  intro h9 tk9 F9 N9; (try dsimp only); (try k_sweep); (try k_fold)
  repeat' ((fail_if_success (with_reducible show wpAny _ _ (exec (Stmt.If _ _ _ _) _) _ _ _)); first | (k_unfold; (try dsimp only)) | (k_end; wrow_close) | walk1 | (dsimp only; walk1))
  (rename News _ _ _ _ => n9)
  refine somePass (by assumption) n9 ?_ ?_
  · intro Q9 hret9
    repeat' ((fail_if_success (with_reducible show wpAny _ _ (compareOp _ (Value.ref _) (Value.ref _)) _ _ _)); first | (k_unfold; (try dsimp only)) | (k_end; wrow_close) | walk1 | (dsimp only; walk1))
    k_dflt (refine' cmp4 (News.isList (by assumption) (by k_mem)) (News.isList (by assumption) (by k_mem)) ?hu (pad_ok (x_ok hu)) (pad_ok (x_ok hu)) (pad_ok (x_ok hu)) (pad_ok (x_ok hu)) rfl (right_eq hX) (ink_eq hX) (ink_eq hX) ?_; (case hu => first | units_room | exact Nat.le_of_ble_eq_true rfl))
    k_steps
    all_goals first
      | ((try dsimp only); refine sp_close hret9 (by assumption) (by assumption) ?_; intro p hp; first | exact hp | exact .tail _ hp | exact .tail _ (.tail _ hp) | exact .tail _ (.tail _ (.tail _ hp)) | exact .tail _ (.tail _ (.tail _ (.tail _ hp))) | exact .tail _ (.tail _ (.tail _ (.tail _ (.tail _ hp)))))
      | ((rename ((_ != _) = true) => q9); exact kill_ne q9 (by first | with_reducible exact hX.symm | exact left_eq hX))
  intro h9 tk9 F9 N9; (try dsimp only); (try k_sweep); (try k_fold)
  repeat' ((fail_if_success (with_reducible show wpAny _ _ (exec (Stmt.If _ _ _ _) _) _ _ _)); first | (k_unfold; (try dsimp only)) | (k_end; wrow_close) | walk1 | (dsimp only; walk1))
  (rename News _ _ _ _ => n9)
  refine somePass (by assumption) n9 ?_ ?_
  · intro Q9 hret9
    repeat' ((fail_if_success (with_reducible show wpAny _ _ (compareOp _ (Value.ref _) (Value.ref _)) _ _ _)); first | (k_unfold; (try dsimp only)) | (k_end; wrow_close) | walk1 | (dsimp only; walk1))
    k_dflt (refine' cmp4 (News.isList (by assumption) (by k_mem)) (News.isList (by assumption) (by k_mem)) ?hu (pad_ok (t_ok hu)) (pad_ok (t_ok hu)) (pad_ok (t_ok hu)) (pad_ok (t_ok hu)) (tleft_eq hX).symm (tright_eq hX) (tink_eq hX) (tink_eq hX) ?_; (case hu => first | units_room | exact Nat.le_of_ble_eq_true rfl))
    k_steps
    all_goals first
      | ((try dsimp only); refine sp_close hret9 (by assumption) (by assumption) ?_; intro p hp; first | exact hp | exact .tail _ hp | exact .tail _ (.tail _ hp) | exact .tail _ (.tail _ (.tail _ hp)) | exact .tail _ (.tail _ (.tail _ (.tail _ hp))) | exact .tail _ (.tail _ (.tail _ (.tail _ (.tail _ hp)))))
      | ((rename ((_ != _) = true) => q9); exact kill_ne q9 (by first | with_reducible exact hX.symm | exact left_eq hX))
  intro h9 tk9 F9 N9; (try dsimp only); (try k_sweep); (try k_fold)
  (rename News _ _ _ _ => n9)
  exact hret _ _ _ _ _ _ _ _ _ _ (by assumption) (fun p hp => n9 p (.tail _ (.tail _ hp))) (by assumption) (by assumption)
end Mine
end
section
set_option Elab.async false
set_option maxRecDepth 100000
set_option maxHeartbeats 0
open PySem PySem.W PyProof.Rows PySem.Calls PyProof PySem.Challenge
namespace Mine
local macro_rules | `(tactic| walk_at "binaryOp Mult int int") => `(tactic| (k_here; k_dflt (refine mul_256 (by omega) (by omega) ?_)))
local macro_rules | `(tactic| walk_at "binaryOp Mod int int") => `(tactic| (k_here; k_dflt (refine mod_int' (by omega) ?_)))
local macro_rules | `(tactic| walk_at "binaryOp Pow int int") => `(tactic| (k_here; k_dflt (refine pow_int_small (by omega) (by omega) (by omega) ?_)))
theorem law_end (w : World) (mean : ExcName → Option Value) (mg mb : Str → Option Value) (h₀ : Heap) (fa D1 D2 l1 : Addr) (cd : Value) (Wd : Str) (u : List Nat) (tw : Tok) (t1 t2 t3 t4 : Tok) (m : Str → Option Value) (s : Shared) (Q : Flow → Shared → Prop) (E : Value → Shared → Prop)
    (hE : PassesOwn (model pw_st0039_01 w) (callerA.deeper (lawEnv h₀.objs.size fa cd)) (lawEnv h₀.objs.size fa cd) E)
    (hK0 : Below callerA h₀ [] h₀)
    (hF : Fr h₀ h₀.objs.size s.heap (fun y => if y = Str.ofString "sizes" then some (Value.ref l1) else if y = Str.ofString "word" then some (Value.str Wd tw) else m y))
    (hN : News h₀ h₀.objs.size s.heap [(D2, { cls := Value.type "tuple", data := Data.seq #[Value.int ((gr u.reverse).1 : Int) t3, Value.int (((gr u.reverse).1 : Int) + ((gr u.reverse).2 : Int)) t4] }), (D1, { cls := Value.type "tuple", data := Data.seq #[Value.int ((gr u).1 : Int) t1, Value.int (((gr u).1 : Int) + ((gr u).2 : Int)) t2] }), (l1, W.listOf #[Value.ref D1, Value.ref D2] 2)])
    (hW : Wd = ⟨u.toArray⟩) (hWl : Wd.length ≤ 7) (hu : ∀ c ∈ u, c = 115 ∨ c = 116) (hul : u.length ≤ 7)
    (g1 : (1 : Int) ≤ ((gr u).1 : Int) ∧ (1 : Int) ≤ ((gr u).2 : Int) ∧ ((gr u).1 : Int) + ((gr u).2 : Int) ≤ 256)
    (g2 : (1 : Int) ≤ ((gr u.reverse).1 : Int) ∧ (1 : Int) ≤ ((gr u.reverse).2 : Int) ∧ ((gr u.reverse).1 : Int) + ((gr u.reverse).2 : Int) ≤ 256)
    (hK : (heapK w.params).In h₀) (hT : Top top lse mean mg mb h₀) (hcd : h₀.CodeRec cd (Str.ofString "law"))
    (hret : ∀ h' tk' m', Fr h₀ h₀.objs.size h' m' → Q (.ret (.bool true)) { s with heap := h', toks := tk' }) :
    wpAny (model pw_st0039_01 w) (callerA.deeper (lawEnv h₀.objs.size fa cd)) (execs ((fdef 14).2.1.drop 7) (lawEnv h₀.objs.size fa cd)) Q E s := by
  have mk : rw_st0039_01 = rw_st0039_01 ∧ heapK = heapK := by (k_fill; exact ⟨rfl, rfl⟩)
  clear mk
  have kMark : KstMark := kstMark
  have q1 := law_sum hul hu
  have q2 := law_prod hul hu
  (try dsimp only); (try k_lift hK0); (try k_fold)
  repeat' ((fail_if_success (with_reducible show wpAny _ _ (compareOp _ _ (Value.int 1 _)) _ _ _)); first | (k_unfold; (try dsimp only)) | (k_end; wrow_close) | walk1 | (dsimp only; walk1))
  all_goals try (exact absurd q1 (by assumption))
  simp only [q2]
  clear q2
  repeat' ((fail_if_success (with_reducible show wpAny _ _ (exec (Stmt.Return (some (Expr.Compare _ _ _ _)) _) _) _ _ _)); first | (k_unfold; (try dsimp only)) | (k_end; wrow_close) | walk1 | (dsimp only; walk1))
  repeat' ((fail_if_success (with_reducible show wpAny _ _ (compareOp _ _ (Value.int 1 _)) _ _ _)); first | (k_unfold; (try dsimp only)) | (k_end; wrow_close) | walk1 | (dsimp only; walk1))
  (try dsimp only)
  refine PyProof.Rows.eq_int ?_
  repeat' ((fail_if_success (with_reducible show wpAny _ _ (compareOp _ (Value.bool _) (Value.bool _)) _ _ _)); first | (k_unfold; (try dsimp only)) | (k_end; wrow_close) | walk1 | (dsimp only; walk1))
  simp only [← law_key hW hul hu]
  refine eq_bool ?_
  simp only [beq_self_eq_true]
  k_steps
  all_goals (exact hret _ _ _ (by assumption))
end Mine
end
section
set_option Elab.async false
set_option maxRecDepth 100000
set_option maxHeartbeats 0
open PySem PySem.W PyProof.Rows PySem.Calls PyProof PySem.Challenge
namespace Mine
theorem n_turn1 {h₀ h : Heap} {L : Addr} {I W S c4 c3 c2 c1 : Addr × Obj} (N : News h₀ L h [I, W, S, c4, c3, c2, c1]) : News h₀ L h [W, I, W, S, c4, c3] := fun p hp => N p (by
  simp only [List.mem_cons, List.not_mem_nil, or_false] at hp ⊢
  rcases hp with h | h | h | h | h | h <;> simp [h])
theorem n_turn2 {h₀ h : Heap} {L : Addr} {I D W S c4 c3 : Addr × Obj} (N : News h₀ L h [I, D, W, S, c4, c3]) : News h₀ L h [D, I, W, S, c4, c3] := fun p hp => N p (by
  simp only [List.mem_cons, List.not_mem_nil, or_false] at hp ⊢
  rcases hp with h | h | h | h | h | h <;> simp [h])
theorem gr_facts {v : List Nat} (h : v.length ≤ 7) : (1 : Int) ≤ ((gr v).1 : Int) ∧ (1 : Int) ≤ ((gr v).2 : Int) ∧ ((gr v).1 : Int) + ((gr v).2 : Int) ≤ 256 := by
  have g := gr_256 h
  have := gr_pos v
  omega
theorem n_end {h₀ h : Heap} {L : Addr} {D2 D1 W S : Addr × Obj} {r : List (Addr × Obj)} (N : News h₀ L h (D2 :: D1 :: W :: S :: r)) : News h₀ L h [D2, D1, S] := fun p hp => N p (by
  simp only [List.mem_cons, List.not_mem_nil, or_false] at hp ⊢
  rcases hp with h | h | h <;> simp [h])
theorem fr_two {h₀ h : Heap} {L : Addr} {m : Str → Option Value} {a b : Str} {va vb : Option Value} (F : Fr h₀ L h m) (ea : m a = va) (eb : m b = vb) : Fr h₀ L h (fun y => if y = a then va else if y = b then vb else m y) := by
  have e : (fun y => if y = a then va else if y = b then vb else m y) = m := by
    funext y
    by_cases h1 : y = a
    · rw [if_pos h1, h1, ea]
    · rw [if_neg h1]
      by_cases h2 : y = b
      · rw [if_pos h2, h2, eb]
      · rw [if_neg h2]
  rw [e]
  exact F
theorem n_drop {h₀ h : Heap} {L : Addr} {A : Addr × Obj} {r : List (Addr × Obj)} (N : News h₀ L h (A :: r)) : News h₀ L h r := fun p hp => N p (.tail _ hp)
theorem word_len7 {x : Str} {v : List Nat} (hx : x = ⟨v.toArray⟩) : (Txt.slice x none (some 7)).length ≤ 7 := by
  rw [word_eq hx]
  show (v.take 7).toArray.size ≤ 7
  have := word_len v
  simpa using this
theorem back_len7 {x : Str} {v : List Nat} {u : Tok} (hx : x = ⟨v.toArray⟩) : (Txt.sliceBy (Txt.slice x none (some 7)) none none (-1, u)).length ≤ 7 := by
  rw [back_eq hx]
  show (v.take 7).reverse.toArray.size ≤ 7
  have := back_len v
  simpa using this
theorem law_tail (w : World) (mean : ExcName → Option Value) (mg mb : Str → Option Value) (h₀ : Heap) (fa a dr : Addr) (cd : Value) (x : Str) (tx : Tok) (v : List Nat) (o1 o2 o3 o4 : Obj) (s : Shared) (Q : Flow → Shared → Prop) (E : Value → Shared → Prop)
    (hE : PassesOwn (model pw_st0039_01 w) (callerA.deeper (lawEnv h₀.objs.size fa cd)) (lawEnv h₀.objs.size fa cd) E)
    (hK0 : Below callerA h₀ [] h₀)
    (hF : Fr h₀ h₀.objs.size s.heap (fun y => if y = Str.ofString "whole" then some (Value.str x tx) else if y = Str.ofString "draws" then some (Value.ref dr) else bindL (lawEnv h₀.objs.size fa cd).kindOf [(Str.ofString "script", Value.ref a)] (fun _ => none) y))
    (hN : News h₀ h₀.objs.size s.heap [(h₀.objs.size + 1 + 1 + 1 + 1, o4), (h₀.objs.size + 1 + 1 + 1, o3), (h₀.objs.size + 1 + 1, o2), (h₀.objs.size + 1, o1)])
    (d4 : o4.data = Data.cell none) (d3 : o3.data = Data.cell none) (hx : x = ⟨v.toArray⟩) (hv : ∀ c ∈ v, c = 115 ∨ c = 116) (hl : v.length ≤ 8) (hxl : x.length ≤ 1000)
    (hK : (heapK w.params).In h₀) (hT : Top top lse mean mg mb h₀) (hcd : h₀.CodeRec cd (Str.ofString "law"))
    (hret : ∀ h' tk' m', Fr h₀ h₀.objs.size h' m' → Q (.ret (.bool true)) { s with heap := h', toks := tk' }) :
    wpAny (model pw_st0039_01 w) (callerA.deeper (lawEnv h₀.objs.size fa cd)) (execs ((fdef 14).2.1.drop 4) (lawEnv h₀.objs.size fa cd)) Q E s := by
  have mk : rw_st0039_01 = rw_st0039_01 ∧ heapK = heapK := by (k_fill; exact ⟨rfl, rfl⟩)
  clear mk
  have kMark : KstMark := kstMark
  (try dsimp only); (try k_lift hK0); (try k_fold)
  repeat' ((fail_if_success (with_reducible show wpAny _ _ (execs (Stmt.Assign [Expr.Tuple _ _ _] _ _ :: _) _) _ _ _)); first | (k_unfold; (try dsimp only)) | (k_end; wrow_close) | walk1 | (dsimp only; walk1))
  (rename News _ _ _ _ => n9)
  refine' law_turn _ _ _ _ _ _ _ _ _ _ _ _ (v.take 7) _ _ _ _ _ _ _ _ _ _ _ _ _ ?hE ?hK0 ?hF ?hN ?hlt ?d4 ?d3 ?hX ?hu ?hul ?hXl ?hg ?hK ?hT ?hcd ?hret
  (case hF => assumption)
  (case hN => (have q9 := n_turn1 n9; exact q9))
  (case hE => assumption)
  (case hK0 => assumption)
  (case hlt => exact ⟨by omega, by omega, by omega, by omega⟩)
  (case d4 => assumption)
  (case d3 => assumption)
  (case hX => exact word_eq hx)
  (case hu => exact word_ok hv)
  (case hul => exact word_len _)
  (case hXl => exact word_len7 hx)
  (case hg => exact gr_256 (word_len _))
  (case hK => assumption)
  (case hT => assumption)
  (case hcd => assumption)
  clear n9
  intro h' tk' o4' o3' w4 w3 t1 t2 t3 t4 F9 N9 d4' d3'
  (have N9 := n_drop N9)
  clear d4 d3
  (try dsimp only); (try k_sweep); (try k_fold)
  repeat' ((fail_if_success (with_reducible show wpAny _ _ (execs (Stmt.Assign [Expr.Tuple _ _ _] _ _ :: _) _) _ _ _)); first | (k_unfold; (try dsimp only)) | (k_end; wrow_close) | walk1 | (dsimp only; walk1))
  (rename News _ _ _ _ => n9)
  refine' law_turn _ _ _ _ _ _ _ _ _ _ _ _ ((v.take 7).reverse) _ _ _ _ _ _ _ _ _ _ _ _ _ ?zhE ?zhK0 ?zhF ?zhN ?zhlt ?zd4 ?zd3 ?zhX ?zhu ?zhul ?zhXl ?zhg ?zhK ?zhT ?zhcd ?zhret
  (case zhF => assumption)
  (case zhN => (have q9 := n_turn2 n9; exact q9))
  (case zhE => assumption)
  (case zhK0 => assumption)
  (case zhlt => exact ⟨by omega, by omega, by omega, by omega⟩)
  (case zd4 => assumption)
  (case zd3 => assumption)
  (case zhX => exact back_eq hx)
  (case zhu => exact back_ok hv)
  (case zhul => exact back_len _)
  (case zhXl => exact back_len7 hx)
  (case zhg => exact gr_256 (back_len _))
  (case zhK => assumption)
  (case zhT => assumption)
  (case zhcd => assumption)
  clear n9
  intro h' tk' o4' o3' w4 w3 t1 t2 t3 t4 F9 N9 d4'' d3''
  clear d4' d3'
  (try dsimp only); (try k_sweep); (try k_fold)
  have g1 := gr_facts (word_len v)
  have g2 := gr_facts (back_len v)
  repeat' ((fail_if_success (with_reducible show wpAny _ _ (execs (Stmt.Assign [Expr.Name _ _] (Expr.Subscript _ _ _) _ :: _) _) _ _ _)); first | (k_unfold; (try dsimp only)) | (k_end; wrow_close) | walk1 | (dsimp only; walk1))
  (try dsimp only)
  (rename News _ _ _ _ => n9)
  refine' law_end _ _ _ _ _ _ _ _ _ _ _ (v.take 7) _ _ _ _ _ _ _ _ _ ?yE ?yK0 ?yF ?yN (word_eq hx) (word_len7 hx) (word_ok hv) (word_len v) g1 g2 ?yK ?yT ?ycd ?yret
  (case yF => refine' fr_two (by assumption) ?ya ?yb; (case ya => rfl); (case yb => rfl))
  (case yN => (have q9 := n_end n9; exact q9))
  (case yE => assumption)
  (case yK0 => assumption)
  (case yK => assumption)
  (case yT => assumption)
  (case ycd => assumption)
  (case yret => exact hret)
end Mine
end
section
set_option Elab.async false
set_option maxRecDepth 100000
set_option maxHeartbeats 0
open PySem PySem.W PyProof.Rows PySem.Calls PyProof PySem.Challenge
namespace Mine
local macro_rules | `(tactic| walk_at "CompEnd") => `(tactic| ((show LCg.CompEnd _ _ _ _ _ _ _ _ _ _ _ _ _ _); (rename News _ _ _ _ => n9); refine compEnd' (by assumption) n9 (by first | assumption | (simp only [LCg.Off3, and_true]; done) | (simp only [LCg.Off3, and_true]; assumption)) (by lcg_src) ?_; clear n9))
local macro_rules | `(tactic| walk_at "CompSrc") => `(tactic| (k_here; k_dflt (first | (refine LCg.CompSrc.ledger rfl (by k_asm) (by k_asm) (by k_mem) (by exact Nat.le_of_ble_eq_true rfl) ?_; intro gh; lcg_lit) | (refine LCg.CompSrc.range rfl (by k_asm) (by k_asm) (by assumption) (by exact rfl) (by exact rfl) (by exact Nat.le_of_ble_eq_true rfl) ?_; intro gh; lcg_lit))))
theorem tbl_eq (d : Int) : ([Str.ofString "", Str.ofString "ss", Str.ofString "st", Str.ofString "st", Str.ofString "s", Str.ofString "s", Str.ofString "s", Str.ofString "t", Str.ofString "t", Str.ofString "t", Str.ofString "", Str.ofString "t"] : List Str).getD (d.fmod 12).toNat Str.empty = part d := by
  have h : ∀ i, i < 12 → ([Str.ofString "", Str.ofString "ss", Str.ofString "st", Str.ofString "st", Str.ofString "s", Str.ofString "s", Str.ofString "s", Str.ofString "t", Str.ofString "t", Str.ofString "t", Str.ofString "", Str.ofString "t"] : List Str).getD i Str.empty = parts.getD i ⟨#[]⟩ := by decide +kernel
  exact (h _ (sg_lt d)).trans (part_eq d).symm
theorem someInt {w : World} {A : Around} {E : Value → Shared → Prop} {s : Shared} {x : Sem Value} {h₀ : Heap} {L : Addr} {m : Str → Option Value} {news : List (Addr × Obj)} {Q : Value → Shared → Prop}
    (_ : Fr h₀ L s.heap m) (_ : News h₀ L s.heap news)
    (walk : ∀ Q' : Value → Shared → Prop, (∀ z t h' tk', Fr h₀ L h' m → News h₀ L h' news → Q' (.int z t) { s with heap := h', toks := tk' }) → wpAny (model pw_st0039_01 w) A x Q' E s)
    (cont : ∀ z t h' tk', Fr h₀ L h' m → News h₀ L h' news → Q (.int z t) { s with heap := h', toks := tk' }) : wpAny (model pw_st0039_01 w) A x Q E s := walk Q cont
theorem si_close {s : Shared} {z : Int} {t : Tok} {h' h₀ : Heap} {tk : Nat} {L : Addr} {m : Str → Option Value} {n₁ news : List (Addr × Obj)} {Q : Value → Shared → Prop}
    (h : ∀ z t h' tk', Fr h₀ L h' m → News h₀ L h' news → Q (.int z t) { s with heap := h', toks := tk' }) (F : Fr h₀ L h' m) (N : News h₀ L h' n₁) (sub : ∀ p ∈ news, p ∈ n₁) : Q (.int z t) { s with heap := h', toks := tk } := h z t h' tk F (fun p hp => N p (sub p hp))
theorem law_tail4 (w : World) (mean : ExcName → Option Value) (mg mb : Str → Option Value) (h₀ : Heap) (fa a dr : Addr) (cd : Value) (z0 z1 z2 z3 : Int) (tx : Tok) (o1 o2 o3 o4 : Obj) (s : Shared) (Q : Flow → Shared → Prop) (E : Value → Shared → Prop)
    (hF : Fr h₀ h₀.objs.size s.heap (fun y => if y = Str.ofString "whole" then some (Value.str (Txt.join (Str.ofString "") [part z0, part z1, part z2, part z3]) tx) else if y = Str.ofString "draws" then some (Value.ref dr) else bindL (lawEnv h₀.objs.size fa cd).kindOf [(Str.ofString "script", Value.ref a)] (fun _ => none) y))
    (hN : News h₀ h₀.objs.size s.heap [(h₀.objs.size + 1 + 1 + 1 + 1, o4), (h₀.objs.size + 1 + 1 + 1, o3), (h₀.objs.size + 1 + 1, o2), (h₀.objs.size + 1, o1)])
    (hE : PassesOwn (model pw_st0039_01 w) (callerA.deeper (lawEnv h₀.objs.size fa cd)) (lawEnv h₀.objs.size fa cd) E)
    (hK0 : Below callerA h₀ [] h₀)
    (d4 : o4.data = Data.cell none) (d3 : o3.data = Data.cell none)
    (hK : (heapK w.params).In h₀) (hT : Top top lse mean mg mb h₀) (hcd : h₀.CodeRec cd (Str.ofString "law"))
    (hret : ∀ h' tk' m', Fr h₀ h₀.objs.size h' m' → Q (.ret (.bool true)) { s with heap := h', toks := tk' }) :
    wpAny (model pw_st0039_01 w) (callerA.deeper (lawEnv h₀.objs.size fa cd)) (execs ((fdef 14).2.1.drop 4) (lawEnv h₀.objs.size fa cd)) Q E s :=
  law_tail w mean mg mb h₀ fa a dr cd _ tx (vOf z0 z1 z2 z3) o1 o2 o3 o4 s Q E hE hK0 hF hN d4 d3 (join_v z0 z1 z2 z3) (vOf_ok z0 z1 z2 z3) (vOf_len z0 z1 z2 z3) (join_len z0 z1 z2 z3) hK hT hcd hret
theorem News.last4 {h₀ h : Heap} {L : Addr} {A B C c4 c3 c2 c1 : Addr × Obj} (N : News h₀ L h [A, B, C, c4, c3, c2, c1]) : News h₀ L h [c4, c3, c2, c1] := fun p hp => N p (.tail _ (.tail _ (.tail _ hp)))
theorem law_body (w : World) (mean : ExcName → Option Value) (mg mb : Str → Option Value) (h₀ : Heap) (fa a : Addr) (cd : Value) (vs : List Value) (ns : List Int) (o1 o2 o3 o4 : Obj) (s : Shared) (Q : Flow → Shared → Prop) (E : Value → Shared → Prop)
    (hE : PassesOwn (model pw_st0039_01 w) (callerA.deeper (lawEnv h₀.objs.size fa cd)) (lawEnv h₀.objs.size fa cd) E)
    (hK0 : Below callerA h₀ [] h₀)
    (hF : Fr h₀ h₀.objs.size s.heap (bindL (lawEnv h₀.objs.size fa cd).kindOf [(Str.ofString "script", Value.ref a)] (fun _ => none)))
    (hN : News h₀ h₀.objs.size s.heap [(h₀.objs.size + 1 + 1 + 1 + 1, o4), (h₀.objs.size + 1 + 1 + 1, o3), (h₀.objs.size + 1 + 1, o2), (h₀.objs.size + 1, o1)])
    (d4 : o4.data = Data.cell none) (d3 : o3.data = Data.cell none) (d2 : o2.data = Data.cell none) (d1 : o1.data = Data.cell (some (.ref a)))
    (hK : (heapK w.params).In h₀) (hT : Top top lse mean mg mb h₀) (hcd : h₀.CodeRec cd (Str.ofString "law"))
    (hL : h₀.IsList a vs.toArray) (hI : IntsAre vs ns) (hn : ns.length ≤ 63) (hlay : (PyData.list (ns.map PyData.int)).layable0 = true)
    (hret : ∀ h' tk' m', Fr h₀ h₀.objs.size h' m' → Q (.ret (.bool true)) { s with heap := h', toks := tk' }) :
    wpAny (model pw_st0039_01 w) (callerA.deeper (lawEnv h₀.objs.size fa cd)) (execs (fdef 14).2.1 (lawEnv h₀.objs.size fa cd)) Q E s := by
  have mk : rw_st0039_01 = rw_st0039_01 ∧ heapK = heapK := by (k_fill; exact ⟨rfl, rfl⟩)
  clear mk
  have kMark : KstMark := kstMark
  (try dsimp only); (try k_lift hK0); (try k_fold)
  repeat' ((fail_if_success (with_reducible show wpAny _ _ (eval (Expr.BinOp _ _ _ _) _) _ _ _)); first | (k_unfold; (try dsimp only)) | (k_end; wrow_close) | walk1 | (dsimp only; walk1))
  (rename News _ _ _ _ => n9)
  refine someInt (by assumption) n9 ?_ ?_
  · intro Q9 hret9
    repeat' ((fail_if_success (with_reducible show wpAny _ _ (call (Value.builtin "sum") _) _ _ _)); first | (k_unfold; (try dsimp only)) | (k_end; wrow_close) | walk1 | (dsimp only; walk1))
    refine sumK (by rfl) (by assumption) (by assumption) (News.isList (by assumption) (by k_mem)) (IntsAre.pick hI _ _ _) ?_
    intro h9 tk9 t9 F9 N9
    (try dsimp only)
    k_steps
    exact si_close hret9 (by assumption) N9 (fun p hp => .tail _ (.tail _ hp))
  intro z9 t9 h9 tk9 F9 N9; (try dsimp only); (try k_sweep); (try k_fold)
  repeat' ((fail_if_success (with_reducible show wpAny _ _ (eval (Expr.BinOp _ _ _ _) _) _ _ _)); first | (k_unfold; (try dsimp only)) | (k_end; wrow_close) | walk1 | (dsimp only; walk1))
  (rename News _ _ _ _ => n9)
  refine someInt (by assumption) n9 ?_ ?_
  · intro Q9 hret9
    repeat' ((fail_if_success (with_reducible show wpAny _ _ (call (Value.builtin "sum") _) _ _ _)); first | (k_unfold; (try dsimp only)) | (k_end; wrow_close) | walk1 | (dsimp only; walk1))
    refine sumK (by rfl) (by assumption) (by assumption) (News.isList (by assumption) (by k_mem)) (IntsAre.pick hI _ _ _) ?_
    intro h9 tk9 t9 F9 N9
    (try dsimp only)
    k_steps
    exact si_close hret9 (by assumption) N9 (fun p hp => .tail _ (.tail _ hp))
  intro z9 t9 h9 tk9 F9 N9; (try dsimp only); (try k_sweep); (try k_fold)
  repeat' ((fail_if_success (with_reducible show wpAny _ _ (eval (Expr.BinOp _ _ _ _) _) _ _ _)); first | (k_unfold; (try dsimp only)) | (k_end; wrow_close) | walk1 | (dsimp only; walk1))
  (rename News _ _ _ _ => n9)
  refine someInt (by assumption) n9 ?_ ?_
  · intro Q9 hret9
    repeat' ((fail_if_success (with_reducible show wpAny _ _ (call (Value.builtin "sum") _) _ _ _)); first | (k_unfold; (try dsimp only)) | (k_end; wrow_close) | walk1 | (dsimp only; walk1))
    refine sumK (by rfl) (by assumption) (by assumption) (News.isList (by assumption) (by k_mem)) (IntsAre.pick hI _ _ _) ?_
    intro h9 tk9 t9 F9 N9
    (try dsimp only)
    k_steps
    exact si_close hret9 (by assumption) N9 (fun p hp => .tail _ (.tail _ hp))
  intro z9 t9 h9 tk9 F9 N9; (try dsimp only); (try k_sweep); (try k_fold)
  repeat' ((fail_if_success (with_reducible show wpAny _ _ (eval (Expr.BinOp _ _ _ _) _) _ _ _)); first | (k_unfold; (try dsimp only)) | (k_end; wrow_close) | walk1 | (dsimp only; walk1))
  (rename News _ _ _ _ => n9)
  refine someInt (by assumption) n9 ?_ ?_
  · intro Q9 hret9
    repeat' ((fail_if_success (with_reducible show wpAny _ _ (call (Value.builtin "sum") _) _ _ _)); first | (k_unfold; (try dsimp only)) | (k_end; wrow_close) | walk1 | (dsimp only; walk1))
    refine sumK (by rfl) (by assumption) (by assumption) (News.isList (by assumption) (by k_mem)) (IntsAre.pick hI _ _ _) ?_
    intro h9 tk9 t9 F9 N9
    (try dsimp only)
    k_steps
    exact si_close hret9 (by assumption) N9 (fun p hp => .tail _ (.tail _ hp))
  intro z9 t9 h9 tk9 F9 N9; (try dsimp only); (try k_sweep); (try k_fold)
  repeat' ((fail_if_success (with_reducible show wpAny _ _ (call (Value.ref 163) _) _ _ _)); first | (k_unfold; (try dsimp only)) | (k_end; wrow_close) | walk1 | (dsimp only; walk1))
  k_dflt (refine' c_prep _ _ _ _ _ _ _ _ _ _ _ _ _ _ _ _ _ _ _ _ _ _ _ _ _ _ _ _ _ _ _ _ _ _ _ _ ?k1 ?k2 ?k3 ?k4 ?k5 ?kk ?_; (case k1 => k_asm); (case k2 => k_asm); (case k3 => k_asm); (case k4 => k_asm); (case k5 => k_asm); (case kk => first | exact rfl | assumption); k_whole)
  intro t' h' tk' F' N'; (try dsimp only); (try k_sweep); (try k_fold)
  repeat' ((fail_if_success (with_reducible show wpAny _ _ (call (Value.builtin "str.join") _) _ _ _)); first | (k_unfold; (try dsimp only)) | (k_end; wrow_close) | walk1 | (dsimp only; walk1))
  (rename News _ _ _ _ => n9)
  simp only [tbl_eq] at n9
  refine join_listW (ys := [part _, part _, part _, part _]) (by is_list) (by kct_strs) (by decide +kernel) (part_sum _ _ _ _) ?_
  intro t9 k9
  (try dsimp only)
  repeat' ((fail_if_success (with_reducible show wpAny _ _ (execs (Stmt.Assign [Expr.Name _ _] (Expr.Subscript _ _ _) _ :: _) _) _ _ _)); first | (k_unfold; (try dsimp only)) | (k_end; wrow_close) | walk1 | (dsimp only; walk1))
  · ((rename ((_ != _) = true) => q9); exact kill_ne q9 rfl)
  · (try dsimp only)
    (rename News _ _ _ _ => n9)
    (with_reducible rename Fr _ _ _ _ => f9)
    have q9 := News.last4 n9
    have r9 := law_tail4 w mean mg mb h₀ fa a _ cd _ _ _ _ _ o1 _ o3 o4 ⟨_, s.gens, s.drawn, k9, s.os⟩ _ _ f9 q9 hE hK0 d4 d3 hK hT hcd hret
    exact r9
end Mine
end
section
set_option Elab.async false
set_option linter.unusedVariables false
set_option maxRecDepth 100000
set_option maxHeartbeats 0
open PySem PySem.W PyProof.Rows
noncomputable section
namespace Mine
noncomputable def prog : Program := PySem.Challenge.pw_st0039_01
noncomputable def theLife : Life := (Life.mk [] [] [] 0 [] [] Bool.false #[] [] 0 Bool.false Bool.false Bool.false 0 [2000, 10, 10] Bool.false 0 Bool.true [] [] 0 Bool.false)
noncomputable def theDrawn : Drawn := (Drawn.mk 0 0 0 0)
noncomputable def b3grp (j : Nat) : List DictEntry := (b3entries.drop (17 * j)).take 17
noncomputable def b3sub (j : Nat) : Obj := Obj.mk (Value.type "dict") none (Data.dict (b3grp j).toArray (b3grp j).length) #[]
noncomputable def env : Env := { scope := prog.main.scope, locals := mainNs, globals := mainNs, cells := [], code := .ref 13, frame := some 14 }
abbrev bod : List Stmt := behindTheImports prog
abbrev cE : Code := .body bod env
abbrev tB : List Frame := [topFrame ⟨0, 0, 0, 0⟩]
abbrev annE : Option Value := some (.ref 6)
noncomputable def stm (i : Nat) : List Stmt := (bod.drop i).take 1
noncomputable def T_s0 : Params → BT := fun P => (.node (boot_o_0 P) (.node (boot_o_1 P) (.node (boot_o_3 P) (.node (boot_o_7 P) .nil .nil) .nil) (.node (boot_o_5 P) (.node (boot_o_9 P) .nil .nil) .nil)) (.node (boot_o_2 P) (.node (boot_o_4 P) (.node (boot_o_8 P) .nil .nil) .nil) (.node (boot_o_6 P) (.node (boot_o_10 P) .nil .nil) .nil)))
noncomputable def S_s0 (w : World) (os : OsState) : SharedT := ⟨T_s0 w.params, nat_lit 11, theLife, #[], theDrawn, nat_lit 181, os⟩
noncomputable def o11_0 : Params → Obj := fun P => (Obj.mk (Value.type "tuple") none (Data.seq #[] 0) #[])
noncomputable def o12_0 : Params → Obj := fun P => (Obj.mk Value.none none (Data.fields #[]) #[])
noncomputable def o13_0 : Params → Obj := fun P => (Obj.mk (Value.type "code") none (Data.fields #[(Value.str (Str.ofString "<module>") 182), (Value.str (Str.ofString "<module>") 183), (Value.str (Str.ofString "/claim/cut.py") 184), (Value.int 1 0), (Value.int 0 0), (Value.int 0 0), (Value.int 0 0), (Value.int 0 0), (Value.ref 11), (Value.bool Bool.false), (Value.int 181 0), (Value.ref 12), Value.none, Value.none, Value.none, Value.none, (Value.int 185 0), (Value.int 1 0), (Value.str (Str.ofString "/claim/cut.py") 186)]) #[])
noncomputable def o14_0 : Params → Obj := fun P => (Obj.mk (Value.type "frame") none Data.plain #[(some (Value.ref 13)), (some (Value.ref 3)), (some (Value.ref 3)), none, (some (Value.str (Str.ofString "__main__") 164)), none, (some (Value.ref 0))])
noncomputable def T_pre : Params → BT := fun P => (.node (boot_o_0 P) (.node (boot_o_1 P) (.node (boot_o_3 P) (.node (boot_o_7 P) .nil .nil) (.node (o11_0 P) .nil .nil)) (.node (boot_o_5 P) (.node (boot_o_9 P) .nil .nil) (.node (o13_0 P) .nil .nil))) (.node (boot_o_2 P) (.node (boot_o_4 P) (.node (boot_o_8 P) .nil .nil) (.node (o12_0 P) .nil .nil)) (.node (boot_o_6 P) (.node (boot_o_10 P) .nil .nil) (.node (o14_0 P) .nil .nil))))
noncomputable def S_pre (w : World) (os : OsState) : SharedT := ⟨T_pre w.params, nat_lit 15, theLife, #[], theDrawn, nat_lit 187, os⟩
noncomputable def T_block : Params → BT := fun P => (.node (boot_o_0 P) (.node (boot_o_1 P) (.node (boot_o_3 P) (.node (boot_o_7 P) .nil .nil) (.node (o11_0 P) .nil .nil)) (.node (boot_o_5 P) (.node (boot_o_9 P) .nil .nil) (.node (o13_0 P) .nil .nil))) (.node (boot_o_2 P) (.node (boot_o_4 P) (.node (boot_o_8 P) .nil .nil) (.node (o12_0 P) .nil .nil)) (.node (boot_o_6 P) (.node (boot_o_10 P) .nil .nil) (.node (o14_0 P) .nil .nil))))
noncomputable def S_block (w : World) (os : OsState) : SharedT := ⟨T_block w.params, nat_lit 15, theLife, #[], theDrawn, nat_lit 187, os⟩
noncomputable def o3_0 : Params → Obj := fun P => (Obj.mk (Value.type "dict") none (Data.dict #[(DictEntry.mk (PyData.keyHash P (Str.ofString "__name__")) (Value.str (Str.ofString "__name__") 165) (Value.str (Str.ofString "__main__") 164)), (DictEntry.mk (PyData.keyHash P (Str.ofString "__doc__")) (Value.str (Str.ofString "__doc__") 166) Value.none), (DictEntry.mk (PyData.keyHash P (Str.ofString "__package__")) (Value.str (Str.ofString "__package__") 167) Value.none), (DictEntry.mk (PyData.keyHash P (Str.ofString "__loader__")) (Value.str (Str.ofString "__loader__") 168) (Value.builtin "__main__.__loader__#opaque")), (DictEntry.mk (PyData.keyHash P (Str.ofString "__spec__")) (Value.str (Str.ofString "__spec__") 169) Value.none), (DictEntry.mk (PyData.keyHash P (Str.ofString "__annotations__")) (Value.str (Str.ofString "__annotations__") 170) (Value.ref 6)), (DictEntry.mk (PyData.keyHash P (Str.ofString "__builtins__")) (Value.str (Str.ofString "__builtins__") 171) (Value.ref 4)), (DictEntry.mk (PyData.keyHash P (Str.ofString "__file__")) (Value.str (Str.ofString "__file__") 173) (Value.str (Str.ofString "/claim/cut.py") 172)), (DictEntry.mk (PyData.keyHash P (Str.ofString "__cached__")) (Value.str (Str.ofString "__cached__") 174) Value.none), (DictEntry.mk (PyData.keyHash P (Str.ofString "_wall")) (Value.str (Str.ofString "_wall") 193) (Value.ref 21))] 10) #[])
noncomputable def o12_1 : Params → Obj := fun P => (Obj.mk Value.none none (Data.fields #[(Value.int 1 0), (Value.int 0 0), (Value.ref 20)]) #[])
noncomputable def o15_0 : Params → Obj := fun P => (Obj.mk (Value.type "tuple") none (Data.seq #[] 0) #[])
noncomputable def o16_0 : Params → Obj := fun P => (Obj.mk Value.none none (Data.fields #[]) #[])
noncomputable def o17_0 : Params → Obj := fun P => (Obj.mk (Value.type "tuple") none (Data.seq #[(Value.str (Str.ofString "k") 190)] 0) #[])
noncomputable def o18_0 : Params → Obj := fun P => (Obj.mk (Value.type "tuple") none (Data.seq #[] 0) #[])
noncomputable def o19_0 : Params → Obj := fun P => (Obj.mk Value.none none (Data.func (FuncData.mk (Str.ofString "_wall") (Str.ofString "_wall") (fdef 0).1 (FuncBody.stmts (fdef 0).2.1) (fdef 0).2.2 0 [] Value.none Value.none Value.none Value.none none Value.none Value.none 0)) #[])
noncomputable def o20_0 : Params → Obj := fun P => (Obj.mk (Value.type "code") none (Data.fields #[(Value.str (Str.ofString "_wall") 187), (Value.str (Str.ofString "_wall") 188), (Value.str (Str.ofString "/claim/cut.py") 189), (Value.int 1 0), (Value.int 1 0), (Value.int 0 0), (Value.int 0 0), (Value.int 3 0), (Value.ref 15), (Value.bool Bool.true), (Value.int 181 0), (Value.ref 16), Value.none, (Value.ref 17), (Value.ref 18), (Value.ref 19), (Value.int 191 0), (Value.int 1 0), (Value.str (Str.ofString "/claim/cut.py") 192)]) #[])
noncomputable def o21_0 : Params → Obj := fun P => (Obj.mk (Value.type "function") none (Data.func (FuncData.mk (Str.ofString "_wall") (Str.ofString "_wall") (fdef 0).1 (FuncBody.stmts (fdef 0).2.1) (fdef 0).2.2 3 [] Value.none Value.none Value.none (Value.str (Str.ofString "__main__") 164) none (Value.ref 20) Value.none 0)) #[])
noncomputable def T_p0 : Params → BT := fun P => (.node (boot_o_0 P) (.node (boot_o_1 P) (.node (o3_0 P) (.node (boot_o_7 P) (.node (o15_0 P) .nil .nil) .nil) (.node (o11_0 P) (.node (o19_0 P) .nil .nil) .nil)) (.node (boot_o_5 P) (.node (boot_o_9 P) (.node (o17_0 P) .nil .nil) .nil) (.node (o13_0 P) (.node (o21_0 P) .nil .nil) .nil))) (.node (boot_o_2 P) (.node (boot_o_4 P) (.node (boot_o_8 P) (.node (o16_0 P) .nil .nil) .nil) (.node (o12_1 P) (.node (o20_0 P) .nil .nil) .nil)) (.node (boot_o_6 P) (.node (boot_o_10 P) (.node (o18_0 P) .nil .nil) .nil) (.node (o14_0 P) .nil .nil))))
noncomputable def S_p0 (w : World) (os : OsState) : SharedT := ⟨T_p0 w.params, nat_lit 22, theLife, #[], theDrawn, nat_lit 194, os⟩
noncomputable def o3_1 : Params → Obj := fun P => (Obj.mk (Value.type "dict") none (Data.dict #[(DictEntry.mk (PyData.keyHash P (Str.ofString "__name__")) (Value.str (Str.ofString "__name__") 165) (Value.str (Str.ofString "cpy313.locale") 194)), (DictEntry.mk (PyData.keyHash P (Str.ofString "__doc__")) (Value.str (Str.ofString "__doc__") 166) Value.none), (DictEntry.mk (PyData.keyHash P (Str.ofString "__package__")) (Value.str (Str.ofString "__package__") 167) Value.none), (DictEntry.mk (PyData.keyHash P (Str.ofString "__loader__")) (Value.str (Str.ofString "__loader__") 168) (Value.builtin "__main__.__loader__#opaque")), (DictEntry.mk (PyData.keyHash P (Str.ofString "__spec__")) (Value.str (Str.ofString "__spec__") 169) Value.none), (DictEntry.mk (PyData.keyHash P (Str.ofString "__annotations__")) (Value.str (Str.ofString "__annotations__") 170) (Value.ref 6)), (DictEntry.mk (PyData.keyHash P (Str.ofString "__builtins__")) (Value.str (Str.ofString "__builtins__") 171) (Value.ref 4)), (DictEntry.mk (PyData.keyHash P (Str.ofString "__file__")) (Value.str (Str.ofString "__file__") 173) (Value.str (Str.ofString "/claim/cut.py") 172)), (DictEntry.mk (PyData.keyHash P (Str.ofString "__cached__")) (Value.str (Str.ofString "__cached__") 174) Value.none), (DictEntry.mk (PyData.keyHash P (Str.ofString "_wall")) (Value.str (Str.ofString "_wall") 193) (Value.ref 21))] 10) #[])
noncomputable def T_p1 : Params → BT := fun P => (.node (boot_o_0 P) (.node (boot_o_1 P) (.node (o3_1 P) (.node (boot_o_7 P) (.node (o15_0 P) .nil .nil) .nil) (.node (o11_0 P) (.node (o19_0 P) .nil .nil) .nil)) (.node (boot_o_5 P) (.node (boot_o_9 P) (.node (o17_0 P) .nil .nil) .nil) (.node (o13_0 P) (.node (o21_0 P) .nil .nil) .nil))) (.node (boot_o_2 P) (.node (boot_o_4 P) (.node (boot_o_8 P) (.node (o16_0 P) .nil .nil) .nil) (.node (o12_1 P) (.node (o20_0 P) .nil .nil) .nil)) (.node (boot_o_6 P) (.node (boot_o_10 P) (.node (o18_0 P) .nil .nil) .nil) (.node (o14_0 P) .nil .nil))))
noncomputable def S_p1 (w : World) (os : OsState) : SharedT := ⟨T_p1 w.params, nat_lit 22, theLife, #[], theDrawn, nat_lit 196, os⟩
noncomputable def o3_2 : Params → Obj := fun P => (Obj.mk (Value.type "dict") none (Data.dict #[(DictEntry.mk (PyData.keyHash P (Str.ofString "__name__")) (Value.str (Str.ofString "__name__") 165) (Value.str (Str.ofString "cpy313.locale") 194)), (DictEntry.mk (PyData.keyHash P (Str.ofString "__doc__")) (Value.str (Str.ofString "__doc__") 166) Value.none), (DictEntry.mk (PyData.keyHash P (Str.ofString "__package__")) (Value.str (Str.ofString "__package__") 167) Value.none), (DictEntry.mk (PyData.keyHash P (Str.ofString "__loader__")) (Value.str (Str.ofString "__loader__") 168) (Value.builtin "__main__.__loader__#opaque")), (DictEntry.mk (PyData.keyHash P (Str.ofString "__spec__")) (Value.str (Str.ofString "__spec__") 169) Value.none), (DictEntry.mk (PyData.keyHash P (Str.ofString "__annotations__")) (Value.str (Str.ofString "__annotations__") 170) (Value.ref 6)), (DictEntry.mk (PyData.keyHash P (Str.ofString "__builtins__")) (Value.str (Str.ofString "__builtins__") 171) (Value.ref 4)), (DictEntry.mk (PyData.keyHash P (Str.ofString "__file__")) (Value.str (Str.ofString "__file__") 173) (Value.str (Str.ofString "/claim/cut.py") 172)), (DictEntry.mk (PyData.keyHash P (Str.ofString "__cached__")) (Value.str (Str.ofString "__cached__") 174) Value.none), (DictEntry.mk (PyData.keyHash P (Str.ofString "_wall")) (Value.str (Str.ofString "_wall") 193) (Value.ref 21)), (DictEntry.mk (PyData.keyHash P (Str.ofString "_strip_padding")) (Value.str (Str.ofString "_strip_padding") 205) (Value.ref 28))] 11) #[])
noncomputable def o12_2 : Params → Obj := fun P => (Obj.mk Value.none none (Data.fields #[(Value.int 1 0), (Value.int 0 0), (Value.ref 20), (Value.int 5 0), (Value.int 0 0), (Value.ref 27)]) #[])
noncomputable def o22_0 : Params → Obj := fun P => (Obj.mk (Value.type "tuple") none (Data.seq #[] 0) #[])
noncomputable def o23_0 : Params → Obj := fun P => (Obj.mk Value.none none (Data.fields #[]) #[])
noncomputable def o24_0 : Params → Obj := fun P => (Obj.mk (Value.type "tuple") none (Data.seq #[(Value.str (Str.ofString "s") 199), (Value.str (Str.ofString "amount") 200), (Value.str (Str.ofString "lpos") 201), (Value.str (Str.ofString "rpos") 202)] 0) #[])
noncomputable def o25_0 : Params → Obj := fun P => (Obj.mk (Value.type "tuple") none (Data.seq #[] 0) #[])
noncomputable def o26_0 : Params → Obj := fun P => (Obj.mk Value.none none (Data.func (FuncData.mk (Str.ofString "_strip_padding") (Str.ofString "_strip_padding") (fdef 2).1 (FuncBody.stmts (fdef 2).2.1) (fdef 2).2.2 0 [] Value.none Value.none Value.none Value.none none Value.none Value.none 0)) #[])
noncomputable def o27_0 : Params → Obj := fun P => (Obj.mk (Value.type "code") none (Data.fields #[(Value.str (Str.ofString "_strip_padding") 196), (Value.str (Str.ofString "_strip_padding") 197), (Value.str (Str.ofString "/claim/cut.py") 198), (Value.int 5 0), (Value.int 2 0), (Value.int 0 0), (Value.int 0 0), (Value.int 3 0), (Value.ref 22), (Value.bool Bool.true), (Value.int 181 0), (Value.ref 23), Value.none, (Value.ref 24), (Value.ref 25), (Value.ref 26), (Value.int 203 0), (Value.int 5 0), (Value.str (Str.ofString "/claim/cut.py") 204)]) #[])
noncomputable def o28_0 : Params → Obj := fun P => (Obj.mk (Value.type "function") none (Data.func (FuncData.mk (Str.ofString "_strip_padding") (Str.ofString "_strip_padding") (fdef 2).1 (FuncBody.stmts (fdef 2).2.1) (fdef 2).2.2 3 [] Value.none Value.none Value.none (Value.str (Str.ofString "cpy313.locale") 194) none (Value.ref 27) Value.none 0)) #[])
noncomputable def T_p2 : Params → BT := fun P => (.node (boot_o_0 P) (.node (boot_o_1 P) (.node (o3_2 P) (.node (boot_o_7 P) (.node (o15_0 P) .nil .nil) (.node (o23_0 P) .nil .nil)) (.node (o11_0 P) (.node (o19_0 P) .nil .nil) (.node (o27_0 P) .nil .nil))) (.node (boot_o_5 P) (.node (boot_o_9 P) (.node (o17_0 P) .nil .nil) (.node (o25_0 P) .nil .nil)) (.node (o13_0 P) (.node (o21_0 P) .nil .nil) .nil))) (.node (boot_o_2 P) (.node (boot_o_4 P) (.node (boot_o_8 P) (.node (o16_0 P) .nil .nil) (.node (o24_0 P) .nil .nil)) (.node (o12_2 P) (.node (o20_0 P) .nil .nil) (.node (o28_0 P) .nil .nil))) (.node (boot_o_6 P) (.node (boot_o_10 P) (.node (o18_0 P) .nil .nil) (.node (o26_0 P) .nil .nil)) (.node (o14_0 P) (.node (o22_0 P) .nil .nil) .nil))))
noncomputable def S_p2 (w : World) (os : OsState) : SharedT := ⟨T_p2 w.params, nat_lit 29, theLife, #[], theDrawn, nat_lit 206, os⟩
noncomputable def o3_3 : Params → Obj := fun P => (Obj.mk (Value.type "dict") none (Data.dict #[(DictEntry.mk (PyData.keyHash P (Str.ofString "__name__")) (Value.str (Str.ofString "__name__") 165) (Value.str (Str.ofString "cpy313.stringprep") 206)), (DictEntry.mk (PyData.keyHash P (Str.ofString "__doc__")) (Value.str (Str.ofString "__doc__") 166) Value.none), (DictEntry.mk (PyData.keyHash P (Str.ofString "__package__")) (Value.str (Str.ofString "__package__") 167) Value.none), (DictEntry.mk (PyData.keyHash P (Str.ofString "__loader__")) (Value.str (Str.ofString "__loader__") 168) (Value.builtin "__main__.__loader__#opaque")), (DictEntry.mk (PyData.keyHash P (Str.ofString "__spec__")) (Value.str (Str.ofString "__spec__") 169) Value.none), (DictEntry.mk (PyData.keyHash P (Str.ofString "__annotations__")) (Value.str (Str.ofString "__annotations__") 170) (Value.ref 6)), (DictEntry.mk (PyData.keyHash P (Str.ofString "__builtins__")) (Value.str (Str.ofString "__builtins__") 171) (Value.ref 4)), (DictEntry.mk (PyData.keyHash P (Str.ofString "__file__")) (Value.str (Str.ofString "__file__") 173) (Value.str (Str.ofString "/claim/cut.py") 172)), (DictEntry.mk (PyData.keyHash P (Str.ofString "__cached__")) (Value.str (Str.ofString "__cached__") 174) Value.none), (DictEntry.mk (PyData.keyHash P (Str.ofString "_wall")) (Value.str (Str.ofString "_wall") 193) (Value.ref 21)), (DictEntry.mk (PyData.keyHash P (Str.ofString "_strip_padding")) (Value.str (Str.ofString "_strip_padding") 205) (Value.ref 28))] 11) #[])
noncomputable def T_p3 : Params → BT := fun P => (.node (boot_o_0 P) (.node (boot_o_1 P) (.node (o3_3 P) (.node (boot_o_7 P) (.node (o15_0 P) .nil .nil) (.node (o23_0 P) .nil .nil)) (.node (o11_0 P) (.node (o19_0 P) .nil .nil) (.node (o27_0 P) .nil .nil))) (.node (boot_o_5 P) (.node (boot_o_9 P) (.node (o17_0 P) .nil .nil) (.node (o25_0 P) .nil .nil)) (.node (o13_0 P) (.node (o21_0 P) .nil .nil) .nil))) (.node (boot_o_2 P) (.node (boot_o_4 P) (.node (boot_o_8 P) (.node (o16_0 P) .nil .nil) (.node (o24_0 P) .nil .nil)) (.node (o12_2 P) (.node (o20_0 P) .nil .nil) (.node (o28_0 P) .nil .nil))) (.node (boot_o_6 P) (.node (boot_o_10 P) (.node (o18_0 P) .nil .nil) (.node (o26_0 P) .nil .nil)) (.node (o14_0 P) (.node (o22_0 P) .nil .nil) .nil))))
noncomputable def S_p3 (w : World) (os : OsState) : SharedT := ⟨T_p3 w.params, nat_lit 29, theLife, #[], theDrawn, nat_lit 208, os⟩
noncomputable def o3_4 : Params → Obj := fun P => (Obj.mk (Value.type "dict") none (Data.dict #[(DictEntry.mk (PyData.keyHash P (Str.ofString "__name__")) (Value.str (Str.ofString "__name__") 165) (Value.str (Str.ofString "cpy313.stringprep") 206)), (DictEntry.mk (PyData.keyHash P (Str.ofString "__doc__")) (Value.str (Str.ofString "__doc__") 166) Value.none), (DictEntry.mk (PyData.keyHash P (Str.ofString "__package__")) (Value.str (Str.ofString "__package__") 167) Value.none), (DictEntry.mk (PyData.keyHash P (Str.ofString "__loader__")) (Value.str (Str.ofString "__loader__") 168) (Value.builtin "__main__.__loader__#opaque")), (DictEntry.mk (PyData.keyHash P (Str.ofString "__spec__")) (Value.str (Str.ofString "__spec__") 169) Value.none), (DictEntry.mk (PyData.keyHash P (Str.ofString "__annotations__")) (Value.str (Str.ofString "__annotations__") 170) (Value.ref 6)), (DictEntry.mk (PyData.keyHash P (Str.ofString "__builtins__")) (Value.str (Str.ofString "__builtins__") 171) (Value.ref 4)), (DictEntry.mk (PyData.keyHash P (Str.ofString "__file__")) (Value.str (Str.ofString "__file__") 173) (Value.str (Str.ofString "/claim/cut.py") 172)), (DictEntry.mk (PyData.keyHash P (Str.ofString "__cached__")) (Value.str (Str.ofString "__cached__") 174) Value.none), (DictEntry.mk (PyData.keyHash P (Str.ofString "_wall")) (Value.str (Str.ofString "_wall") 193) (Value.ref 21)), (DictEntry.mk (PyData.keyHash P (Str.ofString "_strip_padding")) (Value.str (Str.ofString "_strip_padding") 205) (Value.ref 28)), (DictEntry.mk (PyData.keyHash P (Str.ofString "b1_set")) (Value.str (Str.ofString "b1_set") 267) (Value.ref 36))] 12) #[])
noncomputable def o29_0 : Params → Obj := fun P => (Obj.mk (Value.type "list") none (Data.seq #[(Value.int 173 208), (Value.int 847 209), (Value.int 6150 210), (Value.int 6155 211), (Value.int 6156 212), (Value.int 6157 213), (Value.int 8203 214), (Value.int 8204 215), (Value.int 8205 216), (Value.int 8288 217), (Value.int 65279 218)] 0) #[])
noncomputable def o30_0 : Params → Obj := fun P => (Obj.mk (Value.type "range") none (Data.fields #[(Value.int 65024 219), (Value.int 65040 220), (Value.int 1 221)]) #[])
noncomputable def o31_0 : Params → Obj := fun P => (Obj.mk (Value.type "list") none (Data.seq #[(Value.int 65024 224), (Value.int 65025 225), (Value.int 65026 226), (Value.int 65027 227), (Value.int 65028 228), (Value.int 65029 229), (Value.int 65030 230), (Value.int 65031 231), (Value.int 65032 232), (Value.int 65033 233), (Value.int 65034 234), (Value.int 65035 235), (Value.int 65036 236), (Value.int 65037 237), (Value.int 65038 238), (Value.int 65039 239)] 18) #[])
noncomputable def o32_0 : Params → Obj := fun P => (Obj.mk (Value.type "range_iterator") none (Data.fields #[(Value.int 65040 0), (Value.int 0 0), (Value.int 1 0)]) #[])
noncomputable def o33_0 : Params → Obj := fun P => (Obj.mk (Value.type "tuple") none (Data.seq #[] 0) #[])
noncomputable def o34_0 : Params → Obj := fun P => (Obj.mk (Value.type "StopIteration") none (Data.fields #[(Value.ref 33), Value.none, Value.none, Value.none, (Value.bool Bool.false), Value.none]) #[])
noncomputable def o35_0 : Params → Obj := fun P => (Obj.mk (Value.type "list") none (Data.seq #[(Value.int 173 208), (Value.int 847 209), (Value.int 6150 210), (Value.int 6155 211), (Value.int 6156 212), (Value.int 6157 213), (Value.int 8203 214), (Value.int 8204 215), (Value.int 8205 216), (Value.int 8288 217), (Value.int 65279 218), (Value.int 65024 224), (Value.int 65025 225), (Value.int 65026 226), (Value.int 65027 227), (Value.int 65028 228), (Value.int 65029 229), (Value.int 65030 230), (Value.int 65031 231), (Value.int 65032 232), (Value.int 65033 233), (Value.int 65034 234), (Value.int 65035 235), (Value.int 65036 236), (Value.int 65037 237), (Value.int 65038 238), (Value.int 65039 239)] 0) #[])
noncomputable def o36_0 : Params → Obj := fun P => (Obj.mk (Value.type "set") none (Data.set #[(65024, (Value.int 65024 224)), (65025, (Value.int 65025 225)), (65026, (Value.int 65026 226)), (65027, (Value.int 65027 227)), (65028, (Value.int 65028 228)), (65029, (Value.int 65029 229)), (6150, (Value.int 6150 210)), (65030, (Value.int 65030 230)), (65031, (Value.int 65031 231)), (65032, (Value.int 65032 232)), (65033, (Value.int 65033 233)), (6155, (Value.int 6155 211)), (6156, (Value.int 6156 212)), (6157, (Value.int 6157 213)), (8203, (Value.int 8203 214)), (8204, (Value.int 8204 215)), (8205, (Value.int 8205 216)), (65034, (Value.int 65034 234)), (65035, (Value.int 65035 235)), (65036, (Value.int 65036 236)), (65037, (Value.int 65037 237)), (65038, (Value.int 65038 238)), (65039, (Value.int 65039 239)), (173, (Value.int 173 208)), (847, (Value.int 847 209)), (8288, (Value.int 8288 217)), (65279, (Value.int 65279 218))] 29 (SetTable.mk 127 #[0, 1, 2, 3, 4, 5, 6, 7, 8, 9, 10, 11, 12, 13, 14, 15, 16, 17, 18, 19, 20, 21, 22, 45, 79, 96, 127] #[] 0 (!(P.followText "set-order")) 2 true)) #[])
noncomputable def o37_0 : Params → Obj := fun P => (Obj.mk (Value.type "list_iterator") none (Data.fields #[Value.none, (Value.int 27 0)]) #[])
noncomputable def o38_0 : Params → Obj := fun P => (Obj.mk (Value.type "tuple") none (Data.seq #[] 0) #[])
noncomputable def o39_0 : Params → Obj := fun P => (Obj.mk (Value.type "StopIteration") none (Data.fields #[(Value.ref 38), Value.none, Value.none, Value.none, (Value.bool Bool.false), Value.none]) #[])
noncomputable def T_p4 : Params → BT := fun P => (.node (boot_o_0 P) (.node (boot_o_1 P) (.node (o3_4 P) (.node (boot_o_7 P) (.node (o15_0 P) (.node (o31_0 P) .nil .nil) .nil) (.node (o23_0 P) (.node (o39_0 P) .nil .nil) .nil)) (.node (o11_0 P) (.node (o19_0 P) (.node (o35_0 P) .nil .nil) .nil) (.node (o27_0 P) .nil .nil))) (.node (boot_o_5 P) (.node (boot_o_9 P) (.node (o17_0 P) (.node (o33_0 P) .nil .nil) .nil) (.node (o25_0 P) .nil .nil)) (.node (o13_0 P) (.node (o21_0 P) (.node (o37_0 P) .nil .nil) .nil) (.node (o29_0 P) .nil .nil)))) (.node (boot_o_2 P) (.node (boot_o_4 P) (.node (boot_o_8 P) (.node (o16_0 P) (.node (o32_0 P) .nil .nil) .nil) (.node (o24_0 P) .nil .nil)) (.node (o12_2 P) (.node (o20_0 P) (.node (o36_0 P) .nil .nil) .nil) (.node (o28_0 P) .nil .nil))) (.node (boot_o_6 P) (.node (boot_o_10 P) (.node (o18_0 P) (.node (o34_0 P) .nil .nil) .nil) (.node (o26_0 P) .nil .nil)) (.node (o14_0 P) (.node (o22_0 P) (.node (o38_0 P) .nil .nil) .nil) (.node (o30_0 P) .nil .nil)))))
noncomputable def S_p4 (w : World) (os : OsState) : SharedT := ⟨T_p4 w.params, nat_lit 40, theLife, #[], theDrawn, nat_lit 268, os⟩
noncomputable def o3_5 : Params → Obj := fun P => (Obj.mk (Value.type "dict") none (Data.dict #[(DictEntry.mk (PyData.keyHash P (Str.ofString "__name__")) (Value.str (Str.ofString "__name__") 165) (Value.str (Str.ofString "cpy313.stringprep") 206)), (DictEntry.mk (PyData.keyHash P (Str.ofString "__doc__")) (Value.str (Str.ofString "__doc__") 166) Value.none), (DictEntry.mk (PyData.keyHash P (Str.ofString "__package__")) (Value.str (Str.ofString "__package__") 167) Value.none), (DictEntry.mk (PyData.keyHash P (Str.ofString "__loader__")) (Value.str (Str.ofString "__loader__") 168) (Value.builtin "__main__.__loader__#opaque")), (DictEntry.mk (PyData.keyHash P (Str.ofString "__spec__")) (Value.str (Str.ofString "__spec__") 169) Value.none), (DictEntry.mk (PyData.keyHash P (Str.ofString "__annotations__")) (Value.str (Str.ofString "__annotations__") 170) (Value.ref 6)), (DictEntry.mk (PyData.keyHash P (Str.ofString "__builtins__")) (Value.str (Str.ofString "__builtins__") 171) (Value.ref 4)), (DictEntry.mk (PyData.keyHash P (Str.ofString "__file__")) (Value.str (Str.ofString "__file__") 173) (Value.str (Str.ofString "/claim/cut.py") 172)), (DictEntry.mk (PyData.keyHash P (Str.ofString "__cached__")) (Value.str (Str.ofString "__cached__") 174) Value.none), (DictEntry.mk (PyData.keyHash P (Str.ofString "_wall")) (Value.str (Str.ofString "_wall") 193) (Value.ref 21)), (DictEntry.mk (PyData.keyHash P (Str.ofString "_strip_padding")) (Value.str (Str.ofString "_strip_padding") 205) (Value.ref 28)), (DictEntry.mk (PyData.keyHash P (Str.ofString "b1_set")) (Value.str (Str.ofString "b1_set") 267) (Value.ref 36)), (DictEntry.mk (PyData.keyHash P (Str.ofString "in_table_b1")) (Value.str (Str.ofString "in_table_b1") 274) (Value.ref 46))] 13) #[])
noncomputable def o12_3 : Params → Obj := fun P => (Obj.mk Value.none none (Data.fields #[(Value.int 1 0), (Value.int 0 0), (Value.ref 20), (Value.int 5 0), (Value.int 0 0), (Value.ref 27), (Value.int 17 0), (Value.int 0 0), (Value.ref 45)]) #[])
noncomputable def o40_0 : Params → Obj := fun P => (Obj.mk (Value.type "tuple") none (Data.seq #[] 0) #[])
noncomputable def o41_0 : Params → Obj := fun P => (Obj.mk Value.none none (Data.fields #[]) #[])
noncomputable def o42_0 : Params → Obj := fun P => (Obj.mk (Value.type "tuple") none (Data.seq #[(Value.str (Str.ofString "code") 271)] 0) #[])
noncomputable def o43_0 : Params → Obj := fun P => (Obj.mk (Value.type "tuple") none (Data.seq #[] 0) #[])
noncomputable def o44_0 : Params → Obj := fun P => (Obj.mk Value.none none (Data.func (FuncData.mk (Str.ofString "in_table_b1") (Str.ofString "in_table_b1") (fdef 5).1 (FuncBody.stmts (fdef 5).2.1) (fdef 5).2.2 0 [] Value.none Value.none Value.none Value.none none Value.none Value.none 0)) #[])
noncomputable def o45_0 : Params → Obj := fun P => (Obj.mk (Value.type "code") none (Data.fields #[(Value.str (Str.ofString "in_table_b1") 268), (Value.str (Str.ofString "in_table_b1") 269), (Value.str (Str.ofString "/claim/cut.py") 270), (Value.int 17 0), (Value.int 1 0), (Value.int 0 0), (Value.int 0 0), (Value.int 3 0), (Value.ref 40), (Value.bool Bool.true), (Value.int 181 0), (Value.ref 41), Value.none, (Value.ref 42), (Value.ref 43), (Value.ref 44), (Value.int 272 0), (Value.int 17 0), (Value.str (Str.ofString "/claim/cut.py") 273)]) #[])
noncomputable def o46_0 : Params → Obj := fun P => (Obj.mk (Value.type "function") none (Data.func (FuncData.mk (Str.ofString "in_table_b1") (Str.ofString "in_table_b1") (fdef 5).1 (FuncBody.stmts (fdef 5).2.1) (fdef 5).2.2 3 [] Value.none Value.none Value.none (Value.str (Str.ofString "cpy313.stringprep") 206) none (Value.ref 45) Value.none 0)) #[])
noncomputable def T_p5 : Params → BT := fun P => (.node (boot_o_0 P) (.node (boot_o_1 P) (.node (o3_5 P) (.node (boot_o_7 P) (.node (o15_0 P) (.node (o31_0 P) .nil .nil) .nil) (.node (o23_0 P) (.node (o39_0 P) .nil .nil) .nil)) (.node (o11_0 P) (.node (o19_0 P) (.node (o35_0 P) .nil .nil) .nil) (.node (o27_0 P) (.node (o43_0 P) .nil .nil) .nil))) (.node (boot_o_5 P) (.node (boot_o_9 P) (.node (o17_0 P) (.node (o33_0 P) .nil .nil) .nil) (.node (o25_0 P) (.node (o41_0 P) .nil .nil) .nil)) (.node (o13_0 P) (.node (o21_0 P) (.node (o37_0 P) .nil .nil) .nil) (.node (o29_0 P) (.node (o45_0 P) .nil .nil) .nil)))) (.node (boot_o_2 P) (.node (boot_o_4 P) (.node (boot_o_8 P) (.node (o16_0 P) (.node (o32_0 P) .nil .nil) .nil) (.node (o24_0 P) (.node (o40_0 P) .nil .nil) .nil)) (.node (o12_3 P) (.node (o20_0 P) (.node (o36_0 P) .nil .nil) .nil) (.node (o28_0 P) (.node (o44_0 P) .nil .nil) .nil))) (.node (boot_o_6 P) (.node (boot_o_10 P) (.node (o18_0 P) (.node (o34_0 P) .nil .nil) .nil) (.node (o26_0 P) (.node (o42_0 P) .nil .nil) .nil)) (.node (o14_0 P) (.node (o22_0 P) (.node (o38_0 P) .nil .nil) .nil) (.node (o30_0 P) (.node (o46_0 P) .nil .nil) .nil)))))
noncomputable def S_p5 (w : World) (os : OsState) : SharedT := ⟨T_p5 w.params, nat_lit 47, theLife, #[], theDrawn, nat_lit 275, os⟩
noncomputable def o3_6 : Params → Obj := fun P => (Obj.mk (Value.type "dict") none (Data.dict #[(DictEntry.mk (PyData.keyHash P (Str.ofString "__name__")) (Value.str (Str.ofString "__name__") 165) (Value.str (Str.ofString "cpy313.stringprep") 206)), (DictEntry.mk (PyData.keyHash P (Str.ofString "__doc__")) (Value.str (Str.ofString "__doc__") 166) Value.none), (DictEntry.mk (PyData.keyHash P (Str.ofString "__package__")) (Value.str (Str.ofString "__package__") 167) Value.none), (DictEntry.mk (PyData.keyHash P (Str.ofString "__loader__")) (Value.str (Str.ofString "__loader__") 168) (Value.builtin "__main__.__loader__#opaque")), (DictEntry.mk (PyData.keyHash P (Str.ofString "__spec__")) (Value.str (Str.ofString "__spec__") 169) Value.none), (DictEntry.mk (PyData.keyHash P (Str.ofString "__annotations__")) (Value.str (Str.ofString "__annotations__") 170) (Value.ref 6)), (DictEntry.mk (PyData.keyHash P (Str.ofString "__builtins__")) (Value.str (Str.ofString "__builtins__") 171) (Value.ref 4)), (DictEntry.mk (PyData.keyHash P (Str.ofString "__file__")) (Value.str (Str.ofString "__file__") 173) (Value.str (Str.ofString "/claim/cut.py") 172)), (DictEntry.mk (PyData.keyHash P (Str.ofString "__cached__")) (Value.str (Str.ofString "__cached__") 174) Value.none), (DictEntry.mk (PyData.keyHash P (Str.ofString "_wall")) (Value.str (Str.ofString "_wall") 193) (Value.ref 21)), (DictEntry.mk (PyData.keyHash P (Str.ofString "_strip_padding")) (Value.str (Str.ofString "_strip_padding") 205) (Value.ref 28)), (DictEntry.mk (PyData.keyHash P (Str.ofString "b1_set")) (Value.str (Str.ofString "b1_set") 267) (Value.ref 36)), (DictEntry.mk (PyData.keyHash P (Str.ofString "in_table_b1")) (Value.str (Str.ofString "in_table_b1") 274) (Value.ref 46)), (DictEntry.mk (PyData.keyHash P (Str.ofString "b3_exceptions")) (Value.str (Str.ofString "b3_exceptions") 2225) (Value.ref 47))] 14) #[])
noncomputable def o47_0 : Params → Obj := fun P => (Obj.mk (Value.type "dict") none (Data.dict (List.toArray b3entries) 650) #[])
noncomputable def o48_0 : Params → Obj := fun P => (b3sub 1)
noncomputable def o49_0 : Params → Obj := fun P => (b3sub 2)
noncomputable def o50_0 : Params → Obj := fun P => (b3sub 3)
noncomputable def o51_0 : Params → Obj := fun P => (b3sub 4)
noncomputable def o52_0 : Params → Obj := fun P => (b3sub 5)
noncomputable def o53_0 : Params → Obj := fun P => (b3sub 6)
noncomputable def o54_0 : Params → Obj := fun P => (b3sub 7)
noncomputable def o55_0 : Params → Obj := fun P => (b3sub 8)
noncomputable def o56_0 : Params → Obj := fun P => (b3sub 9)
noncomputable def o57_0 : Params → Obj := fun P => (b3sub 10)
noncomputable def o58_0 : Params → Obj := fun P => (b3sub 11)
noncomputable def o59_0 : Params → Obj := fun P => (b3sub 12)
noncomputable def o60_0 : Params → Obj := fun P => (b3sub 13)
noncomputable def o61_0 : Params → Obj := fun P => (b3sub 14)
noncomputable def o62_0 : Params → Obj := fun P => (b3sub 15)
noncomputable def o63_0 : Params → Obj := fun P => (b3sub 16)
noncomputable def o64_0 : Params → Obj := fun P => (b3sub 17)
noncomputable def o65_0 : Params → Obj := fun P => (b3sub 18)
noncomputable def o66_0 : Params → Obj := fun P => (b3sub 19)
noncomputable def o67_0 : Params → Obj := fun P => (b3sub 20)
noncomputable def o68_0 : Params → Obj := fun P => (b3sub 21)
noncomputable def o69_0 : Params → Obj := fun P => (b3sub 22)
noncomputable def o70_0 : Params → Obj := fun P => (b3sub 23)
noncomputable def o71_0 : Params → Obj := fun P => (b3sub 24)
noncomputable def o72_0 : Params → Obj := fun P => (b3sub 25)
noncomputable def o73_0 : Params → Obj := fun P => (b3sub 26)
noncomputable def o74_0 : Params → Obj := fun P => (b3sub 27)
noncomputable def o75_0 : Params → Obj := fun P => (b3sub 28)
noncomputable def o76_0 : Params → Obj := fun P => (b3sub 29)
noncomputable def o77_0 : Params → Obj := fun P => (b3sub 30)
noncomputable def o78_0 : Params → Obj := fun P => (b3sub 31)
noncomputable def o79_0 : Params → Obj := fun P => (b3sub 32)
noncomputable def o80_0 : Params → Obj := fun P => (b3sub 33)
noncomputable def o81_0 : Params → Obj := fun P => (b3sub 34)
noncomputable def o82_0 : Params → Obj := fun P => (b3sub 35)
noncomputable def o83_0 : Params → Obj := fun P => (b3sub 36)
noncomputable def o84_0 : Params → Obj := fun P => (b3sub 37)
noncomputable def o85_0 : Params → Obj := fun P => (b3sub 38)
noncomputable def T_p6 : Params → BT := fun P => (.node (boot_o_0 P) (.node (boot_o_1 P) (.node (o3_6 P) (.node (boot_o_7 P) (.node (o15_0 P) (.node (o31_0 P) (.node (o63_0 P) .nil .nil) .nil) (.node (o47_0 P) (.node (o79_0 P) .nil .nil) .nil)) (.node (o23_0 P) (.node (o39_0 P) (.node (o71_0 P) .nil .nil) .nil) (.node (o55_0 P) .nil .nil))) (.node (o11_0 P) (.node (o19_0 P) (.node (o35_0 P) (.node (o67_0 P) .nil .nil) .nil) (.node (o51_0 P) (.node (o83_0 P) .nil .nil) .nil)) (.node (o27_0 P) (.node (o43_0 P) (.node (o75_0 P) .nil .nil) .nil) (.node (o59_0 P) .nil .nil)))) (.node (boot_o_5 P) (.node (boot_o_9 P) (.node (o17_0 P) (.node (o33_0 P) (.node (o65_0 P) .nil .nil) .nil) (.node (o49_0 P) (.node (o81_0 P) .nil .nil) .nil)) (.node (o25_0 P) (.node (o41_0 P) (.node (o73_0 P) .nil .nil) .nil) (.node (o57_0 P) .nil .nil))) (.node (o13_0 P) (.node (o21_0 P) (.node (o37_0 P) (.node (o69_0 P) .nil .nil) .nil) (.node (o53_0 P) (.node (o85_0 P) .nil .nil) .nil)) (.node (o29_0 P) (.node (o45_0 P) (.node (o77_0 P) .nil .nil) .nil) (.node (o61_0 P) .nil .nil))))) (.node (boot_o_2 P) (.node (boot_o_4 P) (.node (boot_o_8 P) (.node (o16_0 P) (.node (o32_0 P) (.node (o64_0 P) .nil .nil) .nil) (.node (o48_0 P) (.node (o80_0 P) .nil .nil) .nil)) (.node (o24_0 P) (.node (o40_0 P) (.node (o72_0 P) .nil .nil) .nil) (.node (o56_0 P) .nil .nil))) (.node (o12_3 P) (.node (o20_0 P) (.node (o36_0 P) (.node (o68_0 P) .nil .nil) .nil) (.node (o52_0 P) (.node (o84_0 P) .nil .nil) .nil)) (.node (o28_0 P) (.node (o44_0 P) (.node (o76_0 P) .nil .nil) .nil) (.node (o60_0 P) .nil .nil)))) (.node (boot_o_6 P) (.node (boot_o_10 P) (.node (o18_0 P) (.node (o34_0 P) (.node (o66_0 P) .nil .nil) .nil) (.node (o50_0 P) (.node (o82_0 P) .nil .nil) .nil)) (.node (o26_0 P) (.node (o42_0 P) (.node (o74_0 P) .nil .nil) .nil) (.node (o58_0 P) .nil .nil))) (.node (o14_0 P) (.node (o22_0 P) (.node (o38_0 P) (.node (o70_0 P) .nil .nil) .nil) (.node (o54_0 P) .nil .nil)) (.node (o30_0 P) (.node (o46_0 P) (.node (o78_0 P) .nil .nil) .nil) (.node (o62_0 P) .nil .nil))))))
noncomputable def S_p6 (w : World) (os : OsState) : SharedT := ⟨T_p6 w.params, nat_lit 86, theLife, #[], theDrawn, nat_lit 2226, os⟩
noncomputable def o3_7 : Params → Obj := fun P => (Obj.mk (Value.type "dict") none (Data.dict #[(DictEntry.mk (PyData.keyHash P (Str.ofString "__name__")) (Value.str (Str.ofString "__name__") 165) (Value.str (Str.ofString "cpy313.stringprep") 206)), (DictEntry.mk (PyData.keyHash P (Str.ofString "__doc__")) (Value.str (Str.ofString "__doc__") 166) Value.none), (DictEntry.mk (PyData.keyHash P (Str.ofString "__package__")) (Value.str (Str.ofString "__package__") 167) Value.none), (DictEntry.mk (PyData.keyHash P (Str.ofString "__loader__")) (Value.str (Str.ofString "__loader__") 168) (Value.builtin "__main__.__loader__#opaque")), (DictEntry.mk (PyData.keyHash P (Str.ofString "__spec__")) (Value.str (Str.ofString "__spec__") 169) Value.none), (DictEntry.mk (PyData.keyHash P (Str.ofString "__annotations__")) (Value.str (Str.ofString "__annotations__") 170) (Value.ref 6)), (DictEntry.mk (PyData.keyHash P (Str.ofString "__builtins__")) (Value.str (Str.ofString "__builtins__") 171) (Value.ref 4)), (DictEntry.mk (PyData.keyHash P (Str.ofString "__file__")) (Value.str (Str.ofString "__file__") 173) (Value.str (Str.ofString "/claim/cut.py") 172)), (DictEntry.mk (PyData.keyHash P (Str.ofString "__cached__")) (Value.str (Str.ofString "__cached__") 174) Value.none), (DictEntry.mk (PyData.keyHash P (Str.ofString "_wall")) (Value.str (Str.ofString "_wall") 193) (Value.ref 21)), (DictEntry.mk (PyData.keyHash P (Str.ofString "_strip_padding")) (Value.str (Str.ofString "_strip_padding") 205) (Value.ref 28)), (DictEntry.mk (PyData.keyHash P (Str.ofString "b1_set")) (Value.str (Str.ofString "b1_set") 267) (Value.ref 36)), (DictEntry.mk (PyData.keyHash P (Str.ofString "in_table_b1")) (Value.str (Str.ofString "in_table_b1") 274) (Value.ref 46)), (DictEntry.mk (PyData.keyHash P (Str.ofString "b3_exceptions")) (Value.str (Str.ofString "b3_exceptions") 2225) (Value.ref 47)), (DictEntry.mk (PyData.keyHash P (Str.ofString "map_table_b3")) (Value.str (Str.ofString "map_table_b3") 2233) (Value.ref 92))] 15) #[])
noncomputable def o12_4 : Params → Obj := fun P => (Obj.mk Value.none none (Data.fields #[(Value.int 1 0), (Value.int 0 0), (Value.ref 20), (Value.int 5 0), (Value.int 0 0), (Value.ref 27), (Value.int 17 0), (Value.int 0 0), (Value.ref 45), (Value.int 20 0), (Value.int 0 0), (Value.ref 91)]) #[])
noncomputable def o86_0 : Params → Obj := fun P => (Obj.mk (Value.type "tuple") none (Data.seq #[] 0) #[])
noncomputable def o87_0 : Params → Obj := fun P => (Obj.mk Value.none none (Data.fields #[]) #[])
noncomputable def o88_0 : Params → Obj := fun P => (Obj.mk (Value.type "tuple") none (Data.seq #[(Value.str (Str.ofString "code") 2229), (Value.str (Str.ofString "r") 2230)] 0) #[])
noncomputable def o89_0 : Params → Obj := fun P => (Obj.mk (Value.type "tuple") none (Data.seq #[] 0) #[])
noncomputable def o90_0 : Params → Obj := fun P => (Obj.mk Value.none none (Data.func (FuncData.mk (Str.ofString "map_table_b3") (Str.ofString "map_table_b3") (fdef 7).1 (FuncBody.stmts (fdef 7).2.1) (fdef 7).2.2 0 [] Value.none Value.none Value.none Value.none none Value.none Value.none 0)) #[])
noncomputable def o91_0 : Params → Obj := fun P => (Obj.mk (Value.type "code") none (Data.fields #[(Value.str (Str.ofString "map_table_b3") 2226), (Value.str (Str.ofString "map_table_b3") 2227), (Value.str (Str.ofString "/claim/cut.py") 2228), (Value.int 20 0), (Value.int 1 0), (Value.int 0 0), (Value.int 0 0), (Value.int 3 0), (Value.ref 86), (Value.bool Bool.true), (Value.int 181 0), (Value.ref 87), Value.none, (Value.ref 88), (Value.ref 89), (Value.ref 90), (Value.int 2231 0), (Value.int 20 0), (Value.str (Str.ofString "/claim/cut.py") 2232)]) #[])
noncomputable def o92_0 : Params → Obj := fun P => (Obj.mk (Value.type "function") none (Data.func (FuncData.mk (Str.ofString "map_table_b3") (Str.ofString "map_table_b3") (fdef 7).1 (FuncBody.stmts (fdef 7).2.1) (fdef 7).2.2 3 [] Value.none Value.none Value.none (Value.str (Str.ofString "cpy313.stringprep") 206) none (Value.ref 91) Value.none 0)) #[])
noncomputable def T_p7 : Params → BT := fun P => (.node (boot_o_0 P) (.node (boot_o_1 P) (.node (o3_7 P) (.node (boot_o_7 P) (.node (o15_0 P) (.node (o31_0 P) (.node (o63_0 P) .nil .nil) .nil) (.node (o47_0 P) (.node (o79_0 P) .nil .nil) .nil)) (.node (o23_0 P) (.node (o39_0 P) (.node (o71_0 P) .nil .nil) .nil) (.node (o55_0 P) (.node (o87_0 P) .nil .nil) .nil))) (.node (o11_0 P) (.node (o19_0 P) (.node (o35_0 P) (.node (o67_0 P) .nil .nil) .nil) (.node (o51_0 P) (.node (o83_0 P) .nil .nil) .nil)) (.node (o27_0 P) (.node (o43_0 P) (.node (o75_0 P) .nil .nil) .nil) (.node (o59_0 P) (.node (o91_0 P) .nil .nil) .nil)))) (.node (boot_o_5 P) (.node (boot_o_9 P) (.node (o17_0 P) (.node (o33_0 P) (.node (o65_0 P) .nil .nil) .nil) (.node (o49_0 P) (.node (o81_0 P) .nil .nil) .nil)) (.node (o25_0 P) (.node (o41_0 P) (.node (o73_0 P) .nil .nil) .nil) (.node (o57_0 P) (.node (o89_0 P) .nil .nil) .nil))) (.node (o13_0 P) (.node (o21_0 P) (.node (o37_0 P) (.node (o69_0 P) .nil .nil) .nil) (.node (o53_0 P) (.node (o85_0 P) .nil .nil) .nil)) (.node (o29_0 P) (.node (o45_0 P) (.node (o77_0 P) .nil .nil) .nil) (.node (o61_0 P) .nil .nil))))) (.node (boot_o_2 P) (.node (boot_o_4 P) (.node (boot_o_8 P) (.node (o16_0 P) (.node (o32_0 P) (.node (o64_0 P) .nil .nil) .nil) (.node (o48_0 P) (.node (o80_0 P) .nil .nil) .nil)) (.node (o24_0 P) (.node (o40_0 P) (.node (o72_0 P) .nil .nil) .nil) (.node (o56_0 P) (.node (o88_0 P) .nil .nil) .nil))) (.node (o12_4 P) (.node (o20_0 P) (.node (o36_0 P) (.node (o68_0 P) .nil .nil) .nil) (.node (o52_0 P) (.node (o84_0 P) .nil .nil) .nil)) (.node (o28_0 P) (.node (o44_0 P) (.node (o76_0 P) .nil .nil) .nil) (.node (o60_0 P) (.node (o92_0 P) .nil .nil) .nil)))) (.node (boot_o_6 P) (.node (boot_o_10 P) (.node (o18_0 P) (.node (o34_0 P) (.node (o66_0 P) .nil .nil) .nil) (.node (o50_0 P) (.node (o82_0 P) .nil .nil) .nil)) (.node (o26_0 P) (.node (o42_0 P) (.node (o74_0 P) .nil .nil) .nil) (.node (o58_0 P) (.node (o90_0 P) .nil .nil) .nil))) (.node (o14_0 P) (.node (o22_0 P) (.node (o38_0 P) (.node (o70_0 P) .nil .nil) .nil) (.node (o54_0 P) (.node (o86_0 P) .nil .nil) .nil)) (.node (o30_0 P) (.node (o46_0 P) (.node (o78_0 P) .nil .nil) .nil) (.node (o62_0 P) .nil .nil))))))
noncomputable def S_p7 (w : World) (os : OsState) : SharedT := ⟨T_p7 w.params, nat_lit 93, theLife, #[], theDrawn, nat_lit 2234, os⟩
noncomputable def o3_8 : Params → Obj := fun P => (Obj.mk (Value.type "dict") none (Data.dict #[(DictEntry.mk (PyData.keyHash P (Str.ofString "__name__")) (Value.str (Str.ofString "__name__") 165) (Value.str (Str.ofString "cpy313.tabnanny") 2234)), (DictEntry.mk (PyData.keyHash P (Str.ofString "__doc__")) (Value.str (Str.ofString "__doc__") 166) Value.none), (DictEntry.mk (PyData.keyHash P (Str.ofString "__package__")) (Value.str (Str.ofString "__package__") 167) Value.none), (DictEntry.mk (PyData.keyHash P (Str.ofString "__loader__")) (Value.str (Str.ofString "__loader__") 168) (Value.builtin "__main__.__loader__#opaque")), (DictEntry.mk (PyData.keyHash P (Str.ofString "__spec__")) (Value.str (Str.ofString "__spec__") 169) Value.none), (DictEntry.mk (PyData.keyHash P (Str.ofString "__annotations__")) (Value.str (Str.ofString "__annotations__") 170) (Value.ref 6)), (DictEntry.mk (PyData.keyHash P (Str.ofString "__builtins__")) (Value.str (Str.ofString "__builtins__") 171) (Value.ref 4)), (DictEntry.mk (PyData.keyHash P (Str.ofString "__file__")) (Value.str (Str.ofString "__file__") 173) (Value.str (Str.ofString "/claim/cut.py") 172)), (DictEntry.mk (PyData.keyHash P (Str.ofString "__cached__")) (Value.str (Str.ofString "__cached__") 174) Value.none), (DictEntry.mk (PyData.keyHash P (Str.ofString "_wall")) (Value.str (Str.ofString "_wall") 193) (Value.ref 21)), (DictEntry.mk (PyData.keyHash P (Str.ofString "_strip_padding")) (Value.str (Str.ofString "_strip_padding") 205) (Value.ref 28)), (DictEntry.mk (PyData.keyHash P (Str.ofString "b1_set")) (Value.str (Str.ofString "b1_set") 267) (Value.ref 36)), (DictEntry.mk (PyData.keyHash P (Str.ofString "in_table_b1")) (Value.str (Str.ofString "in_table_b1") 274) (Value.ref 46)), (DictEntry.mk (PyData.keyHash P (Str.ofString "b3_exceptions")) (Value.str (Str.ofString "b3_exceptions") 2225) (Value.ref 47)), (DictEntry.mk (PyData.keyHash P (Str.ofString "map_table_b3")) (Value.str (Str.ofString "map_table_b3") 2233) (Value.ref 92))] 15) #[])
noncomputable def T_p8 : Params → BT := fun P => (.node (boot_o_0 P) (.node (boot_o_1 P) (.node (o3_8 P) (.node (boot_o_7 P) (.node (o15_0 P) (.node (o31_0 P) (.node (o63_0 P) .nil .nil) .nil) (.node (o47_0 P) (.node (o79_0 P) .nil .nil) .nil)) (.node (o23_0 P) (.node (o39_0 P) (.node (o71_0 P) .nil .nil) .nil) (.node (o55_0 P) (.node (o87_0 P) .nil .nil) .nil))) (.node (o11_0 P) (.node (o19_0 P) (.node (o35_0 P) (.node (o67_0 P) .nil .nil) .nil) (.node (o51_0 P) (.node (o83_0 P) .nil .nil) .nil)) (.node (o27_0 P) (.node (o43_0 P) (.node (o75_0 P) .nil .nil) .nil) (.node (o59_0 P) (.node (o91_0 P) .nil .nil) .nil)))) (.node (boot_o_5 P) (.node (boot_o_9 P) (.node (o17_0 P) (.node (o33_0 P) (.node (o65_0 P) .nil .nil) .nil) (.node (o49_0 P) (.node (o81_0 P) .nil .nil) .nil)) (.node (o25_0 P) (.node (o41_0 P) (.node (o73_0 P) .nil .nil) .nil) (.node (o57_0 P) (.node (o89_0 P) .nil .nil) .nil))) (.node (o13_0 P) (.node (o21_0 P) (.node (o37_0 P) (.node (o69_0 P) .nil .nil) .nil) (.node (o53_0 P) (.node (o85_0 P) .nil .nil) .nil)) (.node (o29_0 P) (.node (o45_0 P) (.node (o77_0 P) .nil .nil) .nil) (.node (o61_0 P) .nil .nil))))) (.node (boot_o_2 P) (.node (boot_o_4 P) (.node (boot_o_8 P) (.node (o16_0 P) (.node (o32_0 P) (.node (o64_0 P) .nil .nil) .nil) (.node (o48_0 P) (.node (o80_0 P) .nil .nil) .nil)) (.node (o24_0 P) (.node (o40_0 P) (.node (o72_0 P) .nil .nil) .nil) (.node (o56_0 P) (.node (o88_0 P) .nil .nil) .nil))) (.node (o12_4 P) (.node (o20_0 P) (.node (o36_0 P) (.node (o68_0 P) .nil .nil) .nil) (.node (o52_0 P) (.node (o84_0 P) .nil .nil) .nil)) (.node (o28_0 P) (.node (o44_0 P) (.node (o76_0 P) .nil .nil) .nil) (.node (o60_0 P) (.node (o92_0 P) .nil .nil) .nil)))) (.node (boot_o_6 P) (.node (boot_o_10 P) (.node (o18_0 P) (.node (o34_0 P) (.node (o66_0 P) .nil .nil) .nil) (.node (o50_0 P) (.node (o82_0 P) .nil .nil) .nil)) (.node (o26_0 P) (.node (o42_0 P) (.node (o74_0 P) .nil .nil) .nil) (.node (o58_0 P) (.node (o90_0 P) .nil .nil) .nil))) (.node (o14_0 P) (.node (o22_0 P) (.node (o38_0 P) (.node (o70_0 P) .nil .nil) .nil) (.node (o54_0 P) (.node (o86_0 P) .nil .nil) .nil)) (.node (o30_0 P) (.node (o46_0 P) (.node (o78_0 P) .nil .nil) .nil) (.node (o62_0 P) .nil .nil))))))
noncomputable def S_p8 (w : World) (os : OsState) : SharedT := ⟨T_p8 w.params, nat_lit 93, theLife, #[], theDrawn, nat_lit 2236, os⟩
noncomputable def o3_9 : Params → Obj := fun P => (Obj.mk (Value.type "dict") none (Data.dict #[(DictEntry.mk (PyData.keyHash P (Str.ofString "__name__")) (Value.str (Str.ofString "__name__") 165) (Value.str (Str.ofString "cpy313.tabnanny") 2234)), (DictEntry.mk (PyData.keyHash P (Str.ofString "__doc__")) (Value.str (Str.ofString "__doc__") 166) Value.none), (DictEntry.mk (PyData.keyHash P (Str.ofString "__package__")) (Value.str (Str.ofString "__package__") 167) Value.none), (DictEntry.mk (PyData.keyHash P (Str.ofString "__loader__")) (Value.str (Str.ofString "__loader__") 168) (Value.builtin "__main__.__loader__#opaque")), (DictEntry.mk (PyData.keyHash P (Str.ofString "__spec__")) (Value.str (Str.ofString "__spec__") 169) Value.none), (DictEntry.mk (PyData.keyHash P (Str.ofString "__annotations__")) (Value.str (Str.ofString "__annotations__") 170) (Value.ref 6)), (DictEntry.mk (PyData.keyHash P (Str.ofString "__builtins__")) (Value.str (Str.ofString "__builtins__") 171) (Value.ref 4)), (DictEntry.mk (PyData.keyHash P (Str.ofString "__file__")) (Value.str (Str.ofString "__file__") 173) (Value.str (Str.ofString "/claim/cut.py") 172)), (DictEntry.mk (PyData.keyHash P (Str.ofString "__cached__")) (Value.str (Str.ofString "__cached__") 174) Value.none), (DictEntry.mk (PyData.keyHash P (Str.ofString "_wall")) (Value.str (Str.ofString "_wall") 193) (Value.ref 21)), (DictEntry.mk (PyData.keyHash P (Str.ofString "_strip_padding")) (Value.str (Str.ofString "_strip_padding") 205) (Value.ref 28)), (DictEntry.mk (PyData.keyHash P (Str.ofString "b1_set")) (Value.str (Str.ofString "b1_set") 267) (Value.ref 36)), (DictEntry.mk (PyData.keyHash P (Str.ofString "in_table_b1")) (Value.str (Str.ofString "in_table_b1") 274) (Value.ref 46)), (DictEntry.mk (PyData.keyHash P (Str.ofString "b3_exceptions")) (Value.str (Str.ofString "b3_exceptions") 2225) (Value.ref 47)), (DictEntry.mk (PyData.keyHash P (Str.ofString "map_table_b3")) (Value.str (Str.ofString "map_table_b3") 2233) (Value.ref 92)), (DictEntry.mk (PyData.keyHash P (Str.ofString "Whitespace")) (Value.str (Str.ofString "Whitespace") 2335) (Value.ref 154))] 16) #[])
noncomputable def o12_5 : Params → Obj := fun P => (Obj.mk Value.none none (Data.fields #[(Value.int 1 0), (Value.int 0 0), (Value.ref 20), (Value.int 5 0), (Value.int 0 0), (Value.ref 27), (Value.int 17 0), (Value.int 0 0), (Value.ref 45), (Value.int 20 0), (Value.int 0 0), (Value.ref 91), (Value.int 26 0), (Value.int 0 0), (Value.ref 98)]) #[])
noncomputable def o93_0 : Params → Obj := fun P => (Obj.mk (Value.type "tuple") none (Data.seq #[] 0) #[])
noncomputable def o94_0 : Params → Obj := fun P => (Obj.mk (Value.type "builtin_function_or_method") none (Data.fields #[(Value.builtin "type.__prepare__"), (Value.type "type")]) #[])
noncomputable def o95_0 : Params → Obj := fun P => (Obj.mk (Value.type "dict") none (Data.dict #[(DictEntry.mk (PyData.keyHash P (Str.ofString "__module__")) (Value.str (Str.ofString "__module__") 2243) (Value.str (Str.ofString "cpy313.tabnanny") 2234)), (DictEntry.mk (PyData.keyHash P (Str.ofString "__qualname__")) (Value.str (Str.ofString "__qualname__") 2245) (Value.str (Str.ofString "Whitespace") 2244)), (DictEntry.mk (PyData.keyHash P (Str.ofString "__firstlineno__")) (Value.str (Str.ofString "__firstlineno__") 2247) (Value.int 26 2246)), (DictEntry.mk (PyData.keyHash P (Str.ofString "S")) (Value.str (Str.ofString "S") 2251) (Value.str (Str.ofString " ") 2249)), (DictEntry.mk (PyData.keyHash P (Str.ofString "T")) (Value.str (Str.ofString "T") 2252) (Value.str (Str.ofString "\t") 2250)), (DictEntry.mk (PyData.keyHash P (Str.ofString "__init__")) (Value.str (Str.ofString "__init__") 2267) (Value.ref 109)), (DictEntry.mk (PyData.keyHash P (Str.ofString "longest_run_of_spaces")) (Value.str (Str.ofString "longest_run_of_spaces") 2276) (Value.ref 116)), (DictEntry.mk (PyData.keyHash P (Str.ofString "indent_level")) (Value.str (Str.ofString "indent_level") 2288) (Value.ref 123)), (DictEntry.mk (PyData.keyHash P (Str.ofString "equal")) (Value.str (Str.ofString "equal") 2296) (Value.ref 130)), (DictEntry.mk (PyData.keyHash P (Str.ofString "not_equal_witness")) (Value.str (Str.ofString "not_equal_witness") 2304) (Value.ref 137)), (DictEntry.mk (PyData.keyHash P (Str.ofString "less")) (Value.str (Str.ofString "less") 2314) (Value.ref 144)), (DictEntry.mk (PyData.keyHash P (Str.ofString "not_less_witness")) (Value.str (Str.ofString "not_less_witness") 2322) (Value.ref 151)), (DictEntry.mk (PyData.keyHash P (Str.ofString "__static_attributes__")) (Value.str (Str.ofString "__static_attributes__") 2328) (Value.ref 152))] 13) #[])
noncomputable def o96_0 : Params → Obj := fun P => (Obj.mk (Value.type "tuple") none (Data.seq #[] 0) #[])
noncomputable def o97_0 : Params → Obj := fun P => (Obj.mk Value.none none (Data.fields #[(Value.int 29 0), (Value.int 4 0), (Value.ref 108), (Value.int 52 0), (Value.int 4 0), (Value.ref 115), (Value.int 56 0), (Value.int 4 0), (Value.ref 122), (Value.int 63 0), (Value.int 4 0), (Value.ref 129), (Value.int 66 0), (Value.int 4 0), (Value.ref 136), (Value.int 69 0), (Value.int 4 0), (Value.ref 143), (Value.int 80 0), (Value.int 4 0), (Value.ref 150)]) #[])
noncomputable def o98_0 : Params → Obj := fun P => (Obj.mk (Value.type "code") none (Data.fields #[(Value.str (Str.ofString "Whitespace") 2238), (Value.str (Str.ofString "Whitespace") 2239), (Value.str (Str.ofString "/claim/cut.py") 2240), (Value.int 26 0), (Value.int 0 0), (Value.int 0 0), (Value.int 0 0), (Value.int 0 0), (Value.ref 96), (Value.bool Bool.false), (Value.int 181 0), (Value.ref 97), Value.none, Value.none, Value.none, Value.none, (Value.int 2241 0), (Value.int 26 0), (Value.str (Str.ofString "/claim/cut.py") 2242)]) #[])
noncomputable def o99_0 : Params → Obj := fun P => (Obj.mk (Value.type "frame") none Data.plain #[(some (Value.ref 98)), (some (Value.ref 3)), (some (Value.ref 95)), none, (some (Value.str (Str.ofString "cpy313.tabnanny") 2234)), none, (some (Value.ref 0))])
noncomputable def o100_0 : Params → Obj := fun P => (Obj.mk (Value.type "str_ascii_iterator") none (Data.fields #[Value.none, (Value.int 2 0)]) #[])
noncomputable def o101_0 : Params → Obj := fun P => (Obj.mk (Value.type "tuple") none (Data.seq #[] 0) #[])
noncomputable def o102_0 : Params → Obj := fun P => (Obj.mk (Value.type "StopIteration") none (Data.fields #[(Value.ref 101), Value.none, Value.none, Value.none, (Value.bool Bool.false), Value.none]) #[])
noncomputable def o103_0 : Params → Obj := fun P => (Obj.mk (Value.type "tuple") none (Data.seq #[] 0) #[])
noncomputable def o104_0 : Params → Obj := fun P => (Obj.mk Value.none none (Data.fields #[]) #[])
noncomputable def o105_0 : Params → Obj := fun P => (Obj.mk (Value.type "tuple") none (Data.seq #[(Value.str (Str.ofString "self") 2256), (Value.str (Str.ofString "ws") 2257), (Value.str (Str.ofString "S") 2258), (Value.str (Str.ofString "T") 2259), (Value.str (Str.ofString "count") 2260), (Value.str (Str.ofString "b") 2261), (Value.str (Str.ofString "n") 2262), (Value.str (Str.ofString "nt") 2263), (Value.str (Str.ofString "ch") 2264)] 0) #[])
noncomputable def o106_0 : Params → Obj := fun P => (Obj.mk (Value.type "tuple") none (Data.seq #[] 0) #[])
noncomputable def o107_0 : Params → Obj := fun P => (Obj.mk Value.none none (Data.func (FuncData.mk (Str.ofString "__init__") (Str.ofString "Whitespace.__init__") (mdef 1).1 (FuncBody.stmts (mdef 1).2.1) (mdef 1).2.2 0 [] Value.none Value.none Value.none Value.none none Value.none Value.none 0)) #[])
noncomputable def o108_0 : Params → Obj := fun P => (Obj.mk (Value.type "code") none (Data.fields #[(Value.str (Str.ofString "__init__") 2253), (Value.str (Str.ofString "Whitespace.__init__") 2254), (Value.str (Str.ofString "/claim/cut.py") 2255), (Value.int 29 0), (Value.int 2 0), (Value.int 0 0), (Value.int 0 0), (Value.int 3 0), (Value.ref 103), (Value.bool Bool.true), (Value.int 181 0), (Value.ref 104), Value.none, (Value.ref 105), (Value.ref 106), (Value.ref 107), (Value.int 2265 0), (Value.int 29 0), (Value.str (Str.ofString "/claim/cut.py") 2266)]) #[])
noncomputable def o109_0 : Params → Obj := fun P => (Obj.mk (Value.type "function") none (Data.func (FuncData.mk (Str.ofString "__init__") (Str.ofString "Whitespace.__init__") (mdef 1).1 (FuncBody.stmts (mdef 1).2.1) (mdef 1).2.2 3 [] Value.none Value.none Value.none (Value.str (Str.ofString "cpy313.tabnanny") 2234) none (Value.ref 108) Value.none 0)) #[])
noncomputable def o110_0 : Params → Obj := fun P => (Obj.mk (Value.type "tuple") none (Data.seq #[] 0) #[])
noncomputable def o111_0 : Params → Obj := fun P => (Obj.mk Value.none none (Data.fields #[]) #[])
noncomputable def o112_0 : Params → Obj := fun P => (Obj.mk (Value.type "tuple") none (Data.seq #[(Value.str (Str.ofString "self") 2271), (Value.str (Str.ofString "count") 2272), (Value.str (Str.ofString "trailing") 2273)] 0) #[])
noncomputable def o113_0 : Params → Obj := fun P => (Obj.mk (Value.type "tuple") none (Data.seq #[] 0) #[])
noncomputable def o114_0 : Params → Obj := fun P => (Obj.mk Value.none none (Data.func (FuncData.mk (Str.ofString "longest_run_of_spaces") (Str.ofString "Whitespace.longest_run_of_spaces") (mdef 2).1 (FuncBody.stmts (mdef 2).2.1) (mdef 2).2.2 0 [] Value.none Value.none Value.none Value.none none Value.none Value.none 0)) #[])
noncomputable def o115_0 : Params → Obj := fun P => (Obj.mk (Value.type "code") none (Data.fields #[(Value.str (Str.ofString "longest_run_of_spaces") 2268), (Value.str (Str.ofString "Whitespace.longest_run_of_spaces") 2269), (Value.str (Str.ofString "/claim/cut.py") 2270), (Value.int 52 0), (Value.int 1 0), (Value.int 0 0), (Value.int 0 0), (Value.int 3 0), (Value.ref 110), (Value.bool Bool.true), (Value.int 181 0), (Value.ref 111), Value.none, (Value.ref 112), (Value.ref 113), (Value.ref 114), (Value.int 2274 0), (Value.int 52 0), (Value.str (Str.ofString "/claim/cut.py") 2275)]) #[])
noncomputable def o116_0 : Params → Obj := fun P => (Obj.mk (Value.type "function") none (Data.func (FuncData.mk (Str.ofString "longest_run_of_spaces") (Str.ofString "Whitespace.longest_run_of_spaces") (mdef 2).1 (FuncBody.stmts (mdef 2).2.1) (mdef 2).2.2 3 [] Value.none Value.none Value.none (Value.str (Str.ofString "cpy313.tabnanny") 2234) none (Value.ref 115) Value.none 0)) #[])
noncomputable def o117_0 : Params → Obj := fun P => (Obj.mk (Value.type "tuple") none (Data.seq #[] 0) #[])
noncomputable def o118_0 : Params → Obj := fun P => (Obj.mk Value.none none (Data.fields #[]) #[])
noncomputable def o119_0 : Params → Obj := fun P => (Obj.mk (Value.type "tuple") none (Data.seq #[(Value.str (Str.ofString "self") 2280), (Value.str (Str.ofString "tabsize") 2281), (Value.str (Str.ofString "count") 2282), (Value.str (Str.ofString "trailing") 2283), (Value.str (Str.ofString "il") 2284), (Value.str (Str.ofString "i") 2285)] 0) #[])
noncomputable def o120_0 : Params → Obj := fun P => (Obj.mk (Value.type "tuple") none (Data.seq #[] 0) #[])
noncomputable def o121_0 : Params → Obj := fun P => (Obj.mk Value.none none (Data.func (FuncData.mk (Str.ofString "indent_level") (Str.ofString "Whitespace.indent_level") (mdef 3).1 (FuncBody.stmts (mdef 3).2.1) (mdef 3).2.2 0 [] Value.none Value.none Value.none Value.none none Value.none Value.none 0)) #[])
noncomputable def o122_0 : Params → Obj := fun P => (Obj.mk (Value.type "code") none (Data.fields #[(Value.str (Str.ofString "indent_level") 2277), (Value.str (Str.ofString "Whitespace.indent_level") 2278), (Value.str (Str.ofString "/claim/cut.py") 2279), (Value.int 56 0), (Value.int 2 0), (Value.int 0 0), (Value.int 0 0), (Value.int 3 0), (Value.ref 117), (Value.bool Bool.true), (Value.int 181 0), (Value.ref 118), Value.none, (Value.ref 119), (Value.ref 120), (Value.ref 121), (Value.int 2286 0), (Value.int 56 0), (Value.str (Str.ofString "/claim/cut.py") 2287)]) #[])
noncomputable def o123_0 : Params → Obj := fun P => (Obj.mk (Value.type "function") none (Data.func (FuncData.mk (Str.ofString "indent_level") (Str.ofString "Whitespace.indent_level") (mdef 3).1 (FuncBody.stmts (mdef 3).2.1) (mdef 3).2.2 3 [] Value.none Value.none Value.none (Value.str (Str.ofString "cpy313.tabnanny") 2234) none (Value.ref 122) Value.none 0)) #[])
noncomputable def o124_0 : Params → Obj := fun P => (Obj.mk (Value.type "tuple") none (Data.seq #[] 0) #[])
noncomputable def o125_0 : Params → Obj := fun P => (Obj.mk Value.none none (Data.fields #[]) #[])
noncomputable def o126_0 : Params → Obj := fun P => (Obj.mk (Value.type "tuple") none (Data.seq #[(Value.str (Str.ofString "self") 2292), (Value.str (Str.ofString "other") 2293)] 0) #[])
noncomputable def o127_0 : Params → Obj := fun P => (Obj.mk (Value.type "tuple") none (Data.seq #[] 0) #[])
noncomputable def o128_0 : Params → Obj := fun P => (Obj.mk Value.none none (Data.func (FuncData.mk (Str.ofString "equal") (Str.ofString "Whitespace.equal") (mdef 4).1 (FuncBody.stmts (mdef 4).2.1) (mdef 4).2.2 0 [] Value.none Value.none Value.none Value.none none Value.none Value.none 0)) #[])
noncomputable def o129_0 : Params → Obj := fun P => (Obj.mk (Value.type "code") none (Data.fields #[(Value.str (Str.ofString "equal") 2289), (Value.str (Str.ofString "Whitespace.equal") 2290), (Value.str (Str.ofString "/claim/cut.py") 2291), (Value.int 63 0), (Value.int 2 0), (Value.int 0 0), (Value.int 0 0), (Value.int 3 0), (Value.ref 124), (Value.bool Bool.true), (Value.int 181 0), (Value.ref 125), Value.none, (Value.ref 126), (Value.ref 127), (Value.ref 128), (Value.int 2294 0), (Value.int 63 0), (Value.str (Str.ofString "/claim/cut.py") 2295)]) #[])
noncomputable def o130_0 : Params → Obj := fun P => (Obj.mk (Value.type "function") none (Data.func (FuncData.mk (Str.ofString "equal") (Str.ofString "Whitespace.equal") (mdef 4).1 (FuncBody.stmts (mdef 4).2.1) (mdef 4).2.2 3 [] Value.none Value.none Value.none (Value.str (Str.ofString "cpy313.tabnanny") 2234) none (Value.ref 129) Value.none 0)) #[])
noncomputable def o131_0 : Params → Obj := fun P => (Obj.mk (Value.type "tuple") none (Data.seq #[] 0) #[])
noncomputable def o132_0 : Params → Obj := fun P => (Obj.mk Value.none none (Data.fields #[]) #[])
noncomputable def o133_0 : Params → Obj := fun P => (Obj.mk (Value.type "tuple") none (Data.seq #[(Value.str (Str.ofString "self") 2300), (Value.str (Str.ofString "other") 2301)] 0) #[])
noncomputable def o134_0 : Params → Obj := fun P => (Obj.mk (Value.type "tuple") none (Data.seq #[] 0) #[])
noncomputable def o135_0 : Params → Obj := fun P => (Obj.mk Value.none none (Data.func (FuncData.mk (Str.ofString "not_equal_witness") (Str.ofString "Whitespace.not_equal_witness") (mdef 5).1 (FuncBody.stmts (mdef 5).2.1) (mdef 5).2.2 0 [] Value.none Value.none Value.none Value.none none Value.none Value.none 0)) #[])
noncomputable def o136_0 : Params → Obj := fun P => (Obj.mk (Value.type "code") none (Data.fields #[(Value.str (Str.ofString "not_equal_witness") 2297), (Value.str (Str.ofString "Whitespace.not_equal_witness") 2298), (Value.str (Str.ofString "/claim/cut.py") 2299), (Value.int 66 0), (Value.int 2 0), (Value.int 0 0), (Value.int 0 0), (Value.int 3 0), (Value.ref 131), (Value.bool Bool.true), (Value.int 181 0), (Value.ref 132), Value.none, (Value.ref 133), (Value.ref 134), (Value.ref 135), (Value.int 2302 0), (Value.int 66 0), (Value.str (Str.ofString "/claim/cut.py") 2303)]) #[])
noncomputable def o137_0 : Params → Obj := fun P => (Obj.mk (Value.type "function") none (Data.func (FuncData.mk (Str.ofString "not_equal_witness") (Str.ofString "Whitespace.not_equal_witness") (mdef 5).1 (FuncBody.stmts (mdef 5).2.1) (mdef 5).2.2 3 [] Value.none Value.none Value.none (Value.str (Str.ofString "cpy313.tabnanny") 2234) none (Value.ref 136) Value.none 0)) #[])
noncomputable def o138_0 : Params → Obj := fun P => (Obj.mk (Value.type "tuple") none (Data.seq #[] 0) #[])
noncomputable def o139_0 : Params → Obj := fun P => (Obj.mk Value.none none (Data.fields #[]) #[])
noncomputable def o140_0 : Params → Obj := fun P => (Obj.mk (Value.type "tuple") none (Data.seq #[(Value.str (Str.ofString "self") 2308), (Value.str (Str.ofString "other") 2309), (Value.str (Str.ofString "n") 2310), (Value.str (Str.ofString "ts") 2311)] 0) #[])
noncomputable def o141_0 : Params → Obj := fun P => (Obj.mk (Value.type "tuple") none (Data.seq #[] 0) #[])
noncomputable def o142_0 : Params → Obj := fun P => (Obj.mk Value.none none (Data.func (FuncData.mk (Str.ofString "less") (Str.ofString "Whitespace.less") (mdef 6).1 (FuncBody.stmts (mdef 6).2.1) (mdef 6).2.2 0 [] Value.none Value.none Value.none Value.none none Value.none Value.none 0)) #[])
noncomputable def o143_0 : Params → Obj := fun P => (Obj.mk (Value.type "code") none (Data.fields #[(Value.str (Str.ofString "less") 2305), (Value.str (Str.ofString "Whitespace.less") 2306), (Value.str (Str.ofString "/claim/cut.py") 2307), (Value.int 69 0), (Value.int 2 0), (Value.int 0 0), (Value.int 0 0), (Value.int 3 0), (Value.ref 138), (Value.bool Bool.true), (Value.int 181 0), (Value.ref 139), Value.none, (Value.ref 140), (Value.ref 141), (Value.ref 142), (Value.int 2312 0), (Value.int 69 0), (Value.str (Str.ofString "/claim/cut.py") 2313)]) #[])
noncomputable def o144_0 : Params → Obj := fun P => (Obj.mk (Value.type "function") none (Data.func (FuncData.mk (Str.ofString "less") (Str.ofString "Whitespace.less") (mdef 6).1 (FuncBody.stmts (mdef 6).2.1) (mdef 6).2.2 3 [] Value.none Value.none Value.none (Value.str (Str.ofString "cpy313.tabnanny") 2234) none (Value.ref 143) Value.none 0)) #[])
noncomputable def o145_0 : Params → Obj := fun P => (Obj.mk (Value.type "tuple") none (Data.seq #[] 0) #[])
noncomputable def o146_0 : Params → Obj := fun P => (Obj.mk Value.none none (Data.fields #[]) #[])
noncomputable def o147_0 : Params → Obj := fun P => (Obj.mk (Value.type "tuple") none (Data.seq #[(Value.str (Str.ofString "self") 2318), (Value.str (Str.ofString "other") 2319)] 0) #[])
noncomputable def o148_0 : Params → Obj := fun P => (Obj.mk (Value.type "tuple") none (Data.seq #[] 0) #[])
noncomputable def o149_0 : Params → Obj := fun P => (Obj.mk Value.none none (Data.func (FuncData.mk (Str.ofString "not_less_witness") (Str.ofString "Whitespace.not_less_witness") (mdef 7).1 (FuncBody.stmts (mdef 7).2.1) (mdef 7).2.2 0 [] Value.none Value.none Value.none Value.none none Value.none Value.none 0)) #[])
noncomputable def o150_0 : Params → Obj := fun P => (Obj.mk (Value.type "code") none (Data.fields #[(Value.str (Str.ofString "not_less_witness") 2315), (Value.str (Str.ofString "Whitespace.not_less_witness") 2316), (Value.str (Str.ofString "/claim/cut.py") 2317), (Value.int 80 0), (Value.int 2 0), (Value.int 0 0), (Value.int 0 0), (Value.int 3 0), (Value.ref 145), (Value.bool Bool.true), (Value.int 181 0), (Value.ref 146), Value.none, (Value.ref 147), (Value.ref 148), (Value.ref 149), (Value.int 2320 0), (Value.int 80 0), (Value.str (Str.ofString "/claim/cut.py") 2321)]) #[])
noncomputable def o151_0 : Params → Obj := fun P => (Obj.mk (Value.type "function") none (Data.func (FuncData.mk (Str.ofString "not_less_witness") (Str.ofString "Whitespace.not_less_witness") (mdef 7).1 (FuncBody.stmts (mdef 7).2.1) (mdef 7).2.2 3 [] Value.none Value.none Value.none (Value.str (Str.ofString "cpy313.tabnanny") 2234) none (Value.ref 150) Value.none 0)) #[])
noncomputable def o152_0 : Params → Obj := fun P => (Obj.mk (Value.type "tuple") none (Data.seq #[(Value.str (Str.ofString "is_simple") 2323), (Value.str (Str.ofString "n") 2324), (Value.str (Str.ofString "norm") 2325), (Value.str (Str.ofString "nt") 2326), (Value.str (Str.ofString "raw") 2327)] 0) #[])
noncomputable def o153_0 : Params → Obj := fun P => (Obj.mk (Value.type "dict") none (Data.dict #[(DictEntry.mk (PyData.keyHash P (Str.ofString "__module__")) (Value.str (Str.ofString "__module__") 2243) (Value.str (Str.ofString "cpy313.tabnanny") 2234)), (DictEntry.mk (PyData.keyHash P (Str.ofString "__firstlineno__")) (Value.str (Str.ofString "__firstlineno__") 2247) (Value.int 26 2246)), (DictEntry.mk (PyData.keyHash P (Str.ofString "S")) (Value.str (Str.ofString "S") 2251) (Value.str (Str.ofString " ") 2249)), (DictEntry.mk (PyData.keyHash P (Str.ofString "T")) (Value.str (Str.ofString "T") 2252) (Value.str (Str.ofString "\t") 2250)), (DictEntry.mk (PyData.keyHash P (Str.ofString "__init__")) (Value.str (Str.ofString "__init__") 2267) (Value.ref 109)), (DictEntry.mk (PyData.keyHash P (Str.ofString "longest_run_of_spaces")) (Value.str (Str.ofString "longest_run_of_spaces") 2276) (Value.ref 116)), (DictEntry.mk (PyData.keyHash P (Str.ofString "indent_level")) (Value.str (Str.ofString "indent_level") 2288) (Value.ref 123)), (DictEntry.mk (PyData.keyHash P (Str.ofString "equal")) (Value.str (Str.ofString "equal") 2296) (Value.ref 130)), (DictEntry.mk (PyData.keyHash P (Str.ofString "not_equal_witness")) (Value.str (Str.ofString "not_equal_witness") 2304) (Value.ref 137)), (DictEntry.mk (PyData.keyHash P (Str.ofString "less")) (Value.str (Str.ofString "less") 2314) (Value.ref 144)), (DictEntry.mk (PyData.keyHash P (Str.ofString "not_less_witness")) (Value.str (Str.ofString "not_less_witness") 2322) (Value.ref 151)), (DictEntry.mk (PyData.keyHash P (Str.ofString "__static_attributes__")) (Value.str (Str.ofString "__static_attributes__") 2328) (Value.ref 152)), (DictEntry.mk (PyData.keyHash P (Str.ofString "__dict__")) (Value.str (Str.ofString "__dict__") 2330) (Value.ref 155)), (DictEntry.mk (PyData.keyHash P (Str.ofString "__weakref__")) (Value.str (Str.ofString "__weakref__") 2332) (Value.ref 156)), (DictEntry.mk (PyData.keyHash P (Str.ofString "__doc__")) (Value.str (Str.ofString "__doc__") 2333) Value.none)] 4) #[])
noncomputable def o154_0 : Params → Obj := fun P => (Obj.mk (Value.type "type") none (Data.cls (ClassData.mk (Str.ofString "Whitespace") [(Value.type "object")] [(Value.ref 154), (Value.type "object")] 153 (Str.ofString "Whitespace") Bool.true [] [] Bool.false none Bool.false)) #[none, none, (some (Value.str (Str.ofString "Whitespace") 2236)), (some (Value.str (Str.ofString "Whitespace") 2244)), (some (Value.builtin "object.__new__")), (some (Value.bool Bool.true))])
noncomputable def o155_0 : Params → Obj := fun P => (Obj.mk (Value.type "getset_descriptor") none (Data.fields #[(Value.str (Str.ofString "__dict__") 2329), (Value.ref 154), (Value.builtin "function.__dict__"), (Value.builtin "function.__dict__#set")]) #[])
noncomputable def o156_0 : Params → Obj := fun P => (Obj.mk (Value.type "getset_descriptor") none (Data.fields #[(Value.str (Str.ofString "__weakref__") 2331), (Value.ref 154), (Value.builtin "ExceptionGroup.__weakref__"), Value.none]) #[])
noncomputable def o157_0 : Params → Obj := fun P => (Obj.mk (Value.type "super") none (Data.fields #[(Value.ref 154), (Value.ref 154), (Value.ref 154)]) #[])
noncomputable def o158_0 : Params → Obj := fun P => (Obj.mk (Value.type "builtin_function_or_method") none (Data.fields #[(Value.builtin "object.__init_subclass__"), (Value.ref 154)]) #[])
noncomputable def T_p9 : Params → BT := fun P => (.node (boot_o_0 P) (.node (boot_o_1 P) (.node (o3_9 P) (.node (boot_o_7 P) (.node (o15_0 P) (.node (o31_0 P) (.node (o63_0 P) (.node (o127_0 P) .nil .nil) .nil) (.node (o95_0 P) .nil .nil)) (.node (o47_0 P) (.node (o79_0 P) (.node (o143_0 P) .nil .nil) .nil) (.node (o111_0 P) .nil .nil))) (.node (o23_0 P) (.node (o39_0 P) (.node (o71_0 P) (.node (o135_0 P) .nil .nil) .nil) (.node (o103_0 P) .nil .nil)) (.node (o55_0 P) (.node (o87_0 P) (.node (o151_0 P) .nil .nil) .nil) (.node (o119_0 P) .nil .nil)))) (.node (o11_0 P) (.node (o19_0 P) (.node (o35_0 P) (.node (o67_0 P) (.node (o131_0 P) .nil .nil) .nil) (.node (o99_0 P) .nil .nil)) (.node (o51_0 P) (.node (o83_0 P) (.node (o147_0 P) .nil .nil) .nil) (.node (o115_0 P) .nil .nil))) (.node (o27_0 P) (.node (o43_0 P) (.node (o75_0 P) (.node (o139_0 P) .nil .nil) .nil) (.node (o107_0 P) .nil .nil)) (.node (o59_0 P) (.node (o91_0 P) (.node (o155_0 P) .nil .nil) .nil) (.node (o123_0 P) .nil .nil))))) (.node (boot_o_5 P) (.node (boot_o_9 P) (.node (o17_0 P) (.node (o33_0 P) (.node (o65_0 P) (.node (o129_0 P) .nil .nil) .nil) (.node (o97_0 P) .nil .nil)) (.node (o49_0 P) (.node (o81_0 P) (.node (o145_0 P) .nil .nil) .nil) (.node (o113_0 P) .nil .nil))) (.node (o25_0 P) (.node (o41_0 P) (.node (o73_0 P) (.node (o137_0 P) .nil .nil) .nil) (.node (o105_0 P) .nil .nil)) (.node (o57_0 P) (.node (o89_0 P) (.node (o153_0 P) .nil .nil) .nil) (.node (o121_0 P) .nil .nil)))) (.node (o13_0 P) (.node (o21_0 P) (.node (o37_0 P) (.node (o69_0 P) (.node (o133_0 P) .nil .nil) .nil) (.node (o101_0 P) .nil .nil)) (.node (o53_0 P) (.node (o85_0 P) (.node (o149_0 P) .nil .nil) .nil) (.node (o117_0 P) .nil .nil))) (.node (o29_0 P) (.node (o45_0 P) (.node (o77_0 P) (.node (o141_0 P) .nil .nil) .nil) (.node (o109_0 P) .nil .nil)) (.node (o61_0 P) (.node (o93_0 P) (.node (o157_0 P) .nil .nil) .nil) (.node (o125_0 P) .nil .nil)))))) (.node (boot_o_2 P) (.node (boot_o_4 P) (.node (boot_o_8 P) (.node (o16_0 P) (.node (o32_0 P) (.node (o64_0 P) (.node (o128_0 P) .nil .nil) .nil) (.node (o96_0 P) .nil .nil)) (.node (o48_0 P) (.node (o80_0 P) (.node (o144_0 P) .nil .nil) .nil) (.node (o112_0 P) .nil .nil))) (.node (o24_0 P) (.node (o40_0 P) (.node (o72_0 P) (.node (o136_0 P) .nil .nil) .nil) (.node (o104_0 P) .nil .nil)) (.node (o56_0 P) (.node (o88_0 P) (.node (o152_0 P) .nil .nil) .nil) (.node (o120_0 P) .nil .nil)))) (.node (o12_5 P) (.node (o20_0 P) (.node (o36_0 P) (.node (o68_0 P) (.node (o132_0 P) .nil .nil) .nil) (.node (o100_0 P) .nil .nil)) (.node (o52_0 P) (.node (o84_0 P) (.node (o148_0 P) .nil .nil) .nil) (.node (o116_0 P) .nil .nil))) (.node (o28_0 P) (.node (o44_0 P) (.node (o76_0 P) (.node (o140_0 P) .nil .nil) .nil) (.node (o108_0 P) .nil .nil)) (.node (o60_0 P) (.node (o92_0 P) (.node (o156_0 P) .nil .nil) .nil) (.node (o124_0 P) .nil .nil))))) (.node (boot_o_6 P) (.node (boot_o_10 P) (.node (o18_0 P) (.node (o34_0 P) (.node (o66_0 P) (.node (o130_0 P) .nil .nil) .nil) (.node (o98_0 P) .nil .nil)) (.node (o50_0 P) (.node (o82_0 P) (.node (o146_0 P) .nil .nil) .nil) (.node (o114_0 P) .nil .nil))) (.node (o26_0 P) (.node (o42_0 P) (.node (o74_0 P) (.node (o138_0 P) .nil .nil) .nil) (.node (o106_0 P) .nil .nil)) (.node (o58_0 P) (.node (o90_0 P) (.node (o154_0 P) .nil .nil) .nil) (.node (o122_0 P) .nil .nil)))) (.node (o14_0 P) (.node (o22_0 P) (.node (o38_0 P) (.node (o70_0 P) (.node (o134_0 P) .nil .nil) .nil) (.node (o102_0 P) .nil .nil)) (.node (o54_0 P) (.node (o86_0 P) (.node (o150_0 P) .nil .nil) .nil) (.node (o118_0 P) .nil .nil))) (.node (o30_0 P) (.node (o46_0 P) (.node (o78_0 P) (.node (o142_0 P) .nil .nil) .nil) (.node (o110_0 P) .nil .nil)) (.node (o62_0 P) (.node (o94_0 P) (.node (o158_0 P) .nil .nil) .nil) (.node (o126_0 P) .nil .nil)))))))
noncomputable def S_p9 (w : World) (os : OsState) : SharedT := ⟨T_p9 w.params, nat_lit 159, theLife, #[], theDrawn, nat_lit 2336, os⟩
noncomputable def o3_10 : Params → Obj := fun P => (Obj.mk (Value.type "dict") none (Data.dict #[(DictEntry.mk (PyData.keyHash P (Str.ofString "__name__")) (Value.str (Str.ofString "__name__") 165) (Value.str (Str.ofString "law_st0039_01") 2336)), (DictEntry.mk (PyData.keyHash P (Str.ofString "__doc__")) (Value.str (Str.ofString "__doc__") 166) Value.none), (DictEntry.mk (PyData.keyHash P (Str.ofString "__package__")) (Value.str (Str.ofString "__package__") 167) Value.none), (DictEntry.mk (PyData.keyHash P (Str.ofString "__loader__")) (Value.str (Str.ofString "__loader__") 168) (Value.builtin "__main__.__loader__#opaque")), (DictEntry.mk (PyData.keyHash P (Str.ofString "__spec__")) (Value.str (Str.ofString "__spec__") 169) Value.none), (DictEntry.mk (PyData.keyHash P (Str.ofString "__annotations__")) (Value.str (Str.ofString "__annotations__") 170) (Value.ref 6)), (DictEntry.mk (PyData.keyHash P (Str.ofString "__builtins__")) (Value.str (Str.ofString "__builtins__") 171) (Value.ref 4)), (DictEntry.mk (PyData.keyHash P (Str.ofString "__file__")) (Value.str (Str.ofString "__file__") 173) (Value.str (Str.ofString "/claim/cut.py") 172)), (DictEntry.mk (PyData.keyHash P (Str.ofString "__cached__")) (Value.str (Str.ofString "__cached__") 174) Value.none), (DictEntry.mk (PyData.keyHash P (Str.ofString "_wall")) (Value.str (Str.ofString "_wall") 193) (Value.ref 21)), (DictEntry.mk (PyData.keyHash P (Str.ofString "_strip_padding")) (Value.str (Str.ofString "_strip_padding") 205) (Value.ref 28)), (DictEntry.mk (PyData.keyHash P (Str.ofString "b1_set")) (Value.str (Str.ofString "b1_set") 267) (Value.ref 36)), (DictEntry.mk (PyData.keyHash P (Str.ofString "in_table_b1")) (Value.str (Str.ofString "in_table_b1") 274) (Value.ref 46)), (DictEntry.mk (PyData.keyHash P (Str.ofString "b3_exceptions")) (Value.str (Str.ofString "b3_exceptions") 2225) (Value.ref 47)), (DictEntry.mk (PyData.keyHash P (Str.ofString "map_table_b3")) (Value.str (Str.ofString "map_table_b3") 2233) (Value.ref 92)), (DictEntry.mk (PyData.keyHash P (Str.ofString "Whitespace")) (Value.str (Str.ofString "Whitespace") 2335) (Value.ref 154))] 16) #[])
noncomputable def T_p10 : Params → BT := fun P => (.node (boot_o_0 P) (.node (boot_o_1 P) (.node (o3_10 P) (.node (boot_o_7 P) (.node (o15_0 P) (.node (o31_0 P) (.node (o63_0 P) (.node (o127_0 P) .nil .nil) .nil) (.node (o95_0 P) .nil .nil)) (.node (o47_0 P) (.node (o79_0 P) (.node (o143_0 P) .nil .nil) .nil) (.node (o111_0 P) .nil .nil))) (.node (o23_0 P) (.node (o39_0 P) (.node (o71_0 P) (.node (o135_0 P) .nil .nil) .nil) (.node (o103_0 P) .nil .nil)) (.node (o55_0 P) (.node (o87_0 P) (.node (o151_0 P) .nil .nil) .nil) (.node (o119_0 P) .nil .nil)))) (.node (o11_0 P) (.node (o19_0 P) (.node (o35_0 P) (.node (o67_0 P) (.node (o131_0 P) .nil .nil) .nil) (.node (o99_0 P) .nil .nil)) (.node (o51_0 P) (.node (o83_0 P) (.node (o147_0 P) .nil .nil) .nil) (.node (o115_0 P) .nil .nil))) (.node (o27_0 P) (.node (o43_0 P) (.node (o75_0 P) (.node (o139_0 P) .nil .nil) .nil) (.node (o107_0 P) .nil .nil)) (.node (o59_0 P) (.node (o91_0 P) (.node (o155_0 P) .nil .nil) .nil) (.node (o123_0 P) .nil .nil))))) (.node (boot_o_5 P) (.node (boot_o_9 P) (.node (o17_0 P) (.node (o33_0 P) (.node (o65_0 P) (.node (o129_0 P) .nil .nil) .nil) (.node (o97_0 P) .nil .nil)) (.node (o49_0 P) (.node (o81_0 P) (.node (o145_0 P) .nil .nil) .nil) (.node (o113_0 P) .nil .nil))) (.node (o25_0 P) (.node (o41_0 P) (.node (o73_0 P) (.node (o137_0 P) .nil .nil) .nil) (.node (o105_0 P) .nil .nil)) (.node (o57_0 P) (.node (o89_0 P) (.node (o153_0 P) .nil .nil) .nil) (.node (o121_0 P) .nil .nil)))) (.node (o13_0 P) (.node (o21_0 P) (.node (o37_0 P) (.node (o69_0 P) (.node (o133_0 P) .nil .nil) .nil) (.node (o101_0 P) .nil .nil)) (.node (o53_0 P) (.node (o85_0 P) (.node (o149_0 P) .nil .nil) .nil) (.node (o117_0 P) .nil .nil))) (.node (o29_0 P) (.node (o45_0 P) (.node (o77_0 P) (.node (o141_0 P) .nil .nil) .nil) (.node (o109_0 P) .nil .nil)) (.node (o61_0 P) (.node (o93_0 P) (.node (o157_0 P) .nil .nil) .nil) (.node (o125_0 P) .nil .nil)))))) (.node (boot_o_2 P) (.node (boot_o_4 P) (.node (boot_o_8 P) (.node (o16_0 P) (.node (o32_0 P) (.node (o64_0 P) (.node (o128_0 P) .nil .nil) .nil) (.node (o96_0 P) .nil .nil)) (.node (o48_0 P) (.node (o80_0 P) (.node (o144_0 P) .nil .nil) .nil) (.node (o112_0 P) .nil .nil))) (.node (o24_0 P) (.node (o40_0 P) (.node (o72_0 P) (.node (o136_0 P) .nil .nil) .nil) (.node (o104_0 P) .nil .nil)) (.node (o56_0 P) (.node (o88_0 P) (.node (o152_0 P) .nil .nil) .nil) (.node (o120_0 P) .nil .nil)))) (.node (o12_5 P) (.node (o20_0 P) (.node (o36_0 P) (.node (o68_0 P) (.node (o132_0 P) .nil .nil) .nil) (.node (o100_0 P) .nil .nil)) (.node (o52_0 P) (.node (o84_0 P) (.node (o148_0 P) .nil .nil) .nil) (.node (o116_0 P) .nil .nil))) (.node (o28_0 P) (.node (o44_0 P) (.node (o76_0 P) (.node (o140_0 P) .nil .nil) .nil) (.node (o108_0 P) .nil .nil)) (.node (o60_0 P) (.node (o92_0 P) (.node (o156_0 P) .nil .nil) .nil) (.node (o124_0 P) .nil .nil))))) (.node (boot_o_6 P) (.node (boot_o_10 P) (.node (o18_0 P) (.node (o34_0 P) (.node (o66_0 P) (.node (o130_0 P) .nil .nil) .nil) (.node (o98_0 P) .nil .nil)) (.node (o50_0 P) (.node (o82_0 P) (.node (o146_0 P) .nil .nil) .nil) (.node (o114_0 P) .nil .nil))) (.node (o26_0 P) (.node (o42_0 P) (.node (o74_0 P) (.node (o138_0 P) .nil .nil) .nil) (.node (o106_0 P) .nil .nil)) (.node (o58_0 P) (.node (o90_0 P) (.node (o154_0 P) .nil .nil) .nil) (.node (o122_0 P) .nil .nil)))) (.node (o14_0 P) (.node (o22_0 P) (.node (o38_0 P) (.node (o70_0 P) (.node (o134_0 P) .nil .nil) .nil) (.node (o102_0 P) .nil .nil)) (.node (o54_0 P) (.node (o86_0 P) (.node (o150_0 P) .nil .nil) .nil) (.node (o118_0 P) .nil .nil))) (.node (o30_0 P) (.node (o46_0 P) (.node (o78_0 P) (.node (o142_0 P) .nil .nil) .nil) (.node (o110_0 P) .nil .nil)) (.node (o62_0 P) (.node (o94_0 P) (.node (o158_0 P) .nil .nil) .nil) (.node (o126_0 P) .nil .nil)))))))
noncomputable def S_p10 (w : World) (os : OsState) : SharedT := ⟨T_p10 w.params, nat_lit 159, theLife, #[], theDrawn, nat_lit 2338, os⟩
noncomputable def o3_11 : Params → Obj := fun P => (Obj.mk (Value.type "dict") none (Data.dict #[(DictEntry.mk (PyData.keyHash P (Str.ofString "__name__")) (Value.str (Str.ofString "__name__") 165) (Value.str (Str.ofString "law_st0039_01") 2336)), (DictEntry.mk (PyData.keyHash P (Str.ofString "__doc__")) (Value.str (Str.ofString "__doc__") 166) Value.none), (DictEntry.mk (PyData.keyHash P (Str.ofString "__package__")) (Value.str (Str.ofString "__package__") 167) Value.none), (DictEntry.mk (PyData.keyHash P (Str.ofString "__loader__")) (Value.str (Str.ofString "__loader__") 168) (Value.builtin "__main__.__loader__#opaque")), (DictEntry.mk (PyData.keyHash P (Str.ofString "__spec__")) (Value.str (Str.ofString "__spec__") 169) Value.none), (DictEntry.mk (PyData.keyHash P (Str.ofString "__annotations__")) (Value.str (Str.ofString "__annotations__") 170) (Value.ref 6)), (DictEntry.mk (PyData.keyHash P (Str.ofString "__builtins__")) (Value.str (Str.ofString "__builtins__") 171) (Value.ref 4)), (DictEntry.mk (PyData.keyHash P (Str.ofString "__file__")) (Value.str (Str.ofString "__file__") 173) (Value.str (Str.ofString "/claim/cut.py") 172)), (DictEntry.mk (PyData.keyHash P (Str.ofString "__cached__")) (Value.str (Str.ofString "__cached__") 174) Value.none), (DictEntry.mk (PyData.keyHash P (Str.ofString "_wall")) (Value.str (Str.ofString "_wall") 193) (Value.ref 21)), (DictEntry.mk (PyData.keyHash P (Str.ofString "_strip_padding")) (Value.str (Str.ofString "_strip_padding") 205) (Value.ref 28)), (DictEntry.mk (PyData.keyHash P (Str.ofString "b1_set")) (Value.str (Str.ofString "b1_set") 267) (Value.ref 36)), (DictEntry.mk (PyData.keyHash P (Str.ofString "in_table_b1")) (Value.str (Str.ofString "in_table_b1") 274) (Value.ref 46)), (DictEntry.mk (PyData.keyHash P (Str.ofString "b3_exceptions")) (Value.str (Str.ofString "b3_exceptions") 2225) (Value.ref 47)), (DictEntry.mk (PyData.keyHash P (Str.ofString "map_table_b3")) (Value.str (Str.ofString "map_table_b3") 2233) (Value.ref 92)), (DictEntry.mk (PyData.keyHash P (Str.ofString "Whitespace")) (Value.str (Str.ofString "Whitespace") 2335) (Value.ref 154)), (DictEntry.mk (PyData.keyHash P (Str.ofString "_law_prepared")) (Value.str (Str.ofString "_law_prepared") 2343) (Value.ref 163))] 17) #[])
noncomputable def o12_6 : Params → Obj := fun P => (Obj.mk Value.none none (Data.fields #[(Value.int 1 0), (Value.int 0 0), (Value.ref 20), (Value.int 5 0), (Value.int 0 0), (Value.ref 27), (Value.int 17 0), (Value.int 0 0), (Value.ref 45), (Value.int 20 0), (Value.int 0 0), (Value.ref 91), (Value.int 26 0), (Value.int 0 0), (Value.ref 98), (Value.int 83 0), (Value.int 0 0), (Value.ref 162)]) #[])
noncomputable def o159_0 : Params → Obj := fun P => (Obj.mk (Value.type "tuple") none (Data.seq #[] 0) #[])
noncomputable def o160_0 : Params → Obj := fun P => (Obj.mk Value.none none (Data.fields #[]) #[])
noncomputable def o161_0 : Params → Obj := fun P => (Obj.mk Value.none none (Data.func (FuncData.mk (Str.ofString "_law_prepared") (Str.ofString "_law_prepared") (fdef 11).1 (FuncBody.stmts (fdef 11).2.1) (fdef 11).2.2 0 [] Value.none Value.none Value.none Value.none none Value.none Value.none 0)) #[])
noncomputable def o162_0 : Params → Obj := fun P => (Obj.mk (Value.type "code") none (Data.fields #[(Value.str (Str.ofString "_law_prepared") 2338), (Value.str (Str.ofString "_law_prepared") 2339), (Value.str (Str.ofString "/claim/cut.py") 2340), (Value.int 83 0), (Value.int 1 0), (Value.int 0 0), (Value.int 0 0), (Value.int 3 0), (Value.ref 159), (Value.bool Bool.true), (Value.int 181 0), (Value.ref 160), Value.none, Value.none, Value.none, (Value.ref 161), (Value.int 2341 0), (Value.int 83 0), (Value.str (Str.ofString "/claim/cut.py") 2342)]) #[])
noncomputable def o163_0 : Params → Obj := fun P => (Obj.mk (Value.type "function") none (Data.func (FuncData.mk (Str.ofString "_law_prepared") (Str.ofString "_law_prepared") (fdef 11).1 (FuncBody.stmts (fdef 11).2.1) (fdef 11).2.2 3 [] Value.none Value.none Value.none (Value.str (Str.ofString "law_st0039_01") 2336) none (Value.ref 162) Value.none 0)) #[])
noncomputable def T_p11 : Params → BT := fun P => (.node (boot_o_0 P) (.node (boot_o_1 P) (.node (o3_11 P) (.node (boot_o_7 P) (.node (o15_0 P) (.node (o31_0 P) (.node (o63_0 P) (.node (o127_0 P) .nil .nil) .nil) (.node (o95_0 P) (.node (o159_0 P) .nil .nil) .nil)) (.node (o47_0 P) (.node (o79_0 P) (.node (o143_0 P) .nil .nil) .nil) (.node (o111_0 P) .nil .nil))) (.node (o23_0 P) (.node (o39_0 P) (.node (o71_0 P) (.node (o135_0 P) .nil .nil) .nil) (.node (o103_0 P) .nil .nil)) (.node (o55_0 P) (.node (o87_0 P) (.node (o151_0 P) .nil .nil) .nil) (.node (o119_0 P) .nil .nil)))) (.node (o11_0 P) (.node (o19_0 P) (.node (o35_0 P) (.node (o67_0 P) (.node (o131_0 P) .nil .nil) .nil) (.node (o99_0 P) (.node (o163_0 P) .nil .nil) .nil)) (.node (o51_0 P) (.node (o83_0 P) (.node (o147_0 P) .nil .nil) .nil) (.node (o115_0 P) .nil .nil))) (.node (o27_0 P) (.node (o43_0 P) (.node (o75_0 P) (.node (o139_0 P) .nil .nil) .nil) (.node (o107_0 P) .nil .nil)) (.node (o59_0 P) (.node (o91_0 P) (.node (o155_0 P) .nil .nil) .nil) (.node (o123_0 P) .nil .nil))))) (.node (boot_o_5 P) (.node (boot_o_9 P) (.node (o17_0 P) (.node (o33_0 P) (.node (o65_0 P) (.node (o129_0 P) .nil .nil) .nil) (.node (o97_0 P) (.node (o161_0 P) .nil .nil) .nil)) (.node (o49_0 P) (.node (o81_0 P) (.node (o145_0 P) .nil .nil) .nil) (.node (o113_0 P) .nil .nil))) (.node (o25_0 P) (.node (o41_0 P) (.node (o73_0 P) (.node (o137_0 P) .nil .nil) .nil) (.node (o105_0 P) .nil .nil)) (.node (o57_0 P) (.node (o89_0 P) (.node (o153_0 P) .nil .nil) .nil) (.node (o121_0 P) .nil .nil)))) (.node (o13_0 P) (.node (o21_0 P) (.node (o37_0 P) (.node (o69_0 P) (.node (o133_0 P) .nil .nil) .nil) (.node (o101_0 P) .nil .nil)) (.node (o53_0 P) (.node (o85_0 P) (.node (o149_0 P) .nil .nil) .nil) (.node (o117_0 P) .nil .nil))) (.node (o29_0 P) (.node (o45_0 P) (.node (o77_0 P) (.node (o141_0 P) .nil .nil) .nil) (.node (o109_0 P) .nil .nil)) (.node (o61_0 P) (.node (o93_0 P) (.node (o157_0 P) .nil .nil) .nil) (.node (o125_0 P) .nil .nil)))))) (.node (boot_o_2 P) (.node (boot_o_4 P) (.node (boot_o_8 P) (.node (o16_0 P) (.node (o32_0 P) (.node (o64_0 P) (.node (o128_0 P) .nil .nil) .nil) (.node (o96_0 P) (.node (o160_0 P) .nil .nil) .nil)) (.node (o48_0 P) (.node (o80_0 P) (.node (o144_0 P) .nil .nil) .nil) (.node (o112_0 P) .nil .nil))) (.node (o24_0 P) (.node (o40_0 P) (.node (o72_0 P) (.node (o136_0 P) .nil .nil) .nil) (.node (o104_0 P) .nil .nil)) (.node (o56_0 P) (.node (o88_0 P) (.node (o152_0 P) .nil .nil) .nil) (.node (o120_0 P) .nil .nil)))) (.node (o12_6 P) (.node (o20_0 P) (.node (o36_0 P) (.node (o68_0 P) (.node (o132_0 P) .nil .nil) .nil) (.node (o100_0 P) .nil .nil)) (.node (o52_0 P) (.node (o84_0 P) (.node (o148_0 P) .nil .nil) .nil) (.node (o116_0 P) .nil .nil))) (.node (o28_0 P) (.node (o44_0 P) (.node (o76_0 P) (.node (o140_0 P) .nil .nil) .nil) (.node (o108_0 P) .nil .nil)) (.node (o60_0 P) (.node (o92_0 P) (.node (o156_0 P) .nil .nil) .nil) (.node (o124_0 P) .nil .nil))))) (.node (boot_o_6 P) (.node (boot_o_10 P) (.node (o18_0 P) (.node (o34_0 P) (.node (o66_0 P) (.node (o130_0 P) .nil .nil) .nil) (.node (o98_0 P) (.node (o162_0 P) .nil .nil) .nil)) (.node (o50_0 P) (.node (o82_0 P) (.node (o146_0 P) .nil .nil) .nil) (.node (o114_0 P) .nil .nil))) (.node (o26_0 P) (.node (o42_0 P) (.node (o74_0 P) (.node (o138_0 P) .nil .nil) .nil) (.node (o106_0 P) .nil .nil)) (.node (o58_0 P) (.node (o90_0 P) (.node (o154_0 P) .nil .nil) .nil) (.node (o122_0 P) .nil .nil)))) (.node (o14_0 P) (.node (o22_0 P) (.node (o38_0 P) (.node (o70_0 P) (.node (o134_0 P) .nil .nil) .nil) (.node (o102_0 P) .nil .nil)) (.node (o54_0 P) (.node (o86_0 P) (.node (o150_0 P) .nil .nil) .nil) (.node (o118_0 P) .nil .nil))) (.node (o30_0 P) (.node (o46_0 P) (.node (o78_0 P) (.node (o142_0 P) .nil .nil) .nil) (.node (o110_0 P) .nil .nil)) (.node (o62_0 P) (.node (o94_0 P) (.node (o158_0 P) .nil .nil) .nil) (.node (o126_0 P) .nil .nil)))))))
noncomputable def S_p11 (w : World) (os : OsState) : SharedT := ⟨T_p11 w.params, nat_lit 164, theLife, #[], theDrawn, nat_lit 2344, os⟩
noncomputable def o3_12 : Params → Obj := fun P => (Obj.mk (Value.type "dict") none (Data.dict #[(DictEntry.mk (PyData.keyHash P (Str.ofString "__name__")) (Value.str (Str.ofString "__name__") 165) (Value.str (Str.ofString "law_st0039_01") 2336)), (DictEntry.mk (PyData.keyHash P (Str.ofString "__doc__")) (Value.str (Str.ofString "__doc__") 166) Value.none), (DictEntry.mk (PyData.keyHash P (Str.ofString "__package__")) (Value.str (Str.ofString "__package__") 167) Value.none), (DictEntry.mk (PyData.keyHash P (Str.ofString "__loader__")) (Value.str (Str.ofString "__loader__") 168) (Value.builtin "__main__.__loader__#opaque")), (DictEntry.mk (PyData.keyHash P (Str.ofString "__spec__")) (Value.str (Str.ofString "__spec__") 169) Value.none), (DictEntry.mk (PyData.keyHash P (Str.ofString "__annotations__")) (Value.str (Str.ofString "__annotations__") 170) (Value.ref 6)), (DictEntry.mk (PyData.keyHash P (Str.ofString "__builtins__")) (Value.str (Str.ofString "__builtins__") 171) (Value.ref 4)), (DictEntry.mk (PyData.keyHash P (Str.ofString "__file__")) (Value.str (Str.ofString "__file__") 173) (Value.str (Str.ofString "/claim/cut.py") 172)), (DictEntry.mk (PyData.keyHash P (Str.ofString "__cached__")) (Value.str (Str.ofString "__cached__") 174) Value.none), (DictEntry.mk (PyData.keyHash P (Str.ofString "_wall")) (Value.str (Str.ofString "_wall") 193) (Value.ref 21)), (DictEntry.mk (PyData.keyHash P (Str.ofString "_strip_padding")) (Value.str (Str.ofString "_strip_padding") 205) (Value.ref 28)), (DictEntry.mk (PyData.keyHash P (Str.ofString "b1_set")) (Value.str (Str.ofString "b1_set") 267) (Value.ref 36)), (DictEntry.mk (PyData.keyHash P (Str.ofString "in_table_b1")) (Value.str (Str.ofString "in_table_b1") 274) (Value.ref 46)), (DictEntry.mk (PyData.keyHash P (Str.ofString "b3_exceptions")) (Value.str (Str.ofString "b3_exceptions") 2225) (Value.ref 47)), (DictEntry.mk (PyData.keyHash P (Str.ofString "map_table_b3")) (Value.str (Str.ofString "map_table_b3") 2233) (Value.ref 92)), (DictEntry.mk (PyData.keyHash P (Str.ofString "Whitespace")) (Value.str (Str.ofString "Whitespace") 2335) (Value.ref 154)), (DictEntry.mk (PyData.keyHash P (Str.ofString "_law_prepared")) (Value.str (Str.ofString "_law_prepared") 2343) (Value.ref 163)), (DictEntry.mk (PyData.keyHash P (Str.ofString "_law_grown")) (Value.str (Str.ofString "_law_grown") 2353) (Value.ref 170))] 18) #[])
noncomputable def o12_7 : Params → Obj := fun P => (Obj.mk Value.none none (Data.fields #[(Value.int 1 0), (Value.int 0 0), (Value.ref 20), (Value.int 5 0), (Value.int 0 0), (Value.ref 27), (Value.int 17 0), (Value.int 0 0), (Value.ref 45), (Value.int 20 0), (Value.int 0 0), (Value.ref 91), (Value.int 26 0), (Value.int 0 0), (Value.ref 98), (Value.int 83 0), (Value.int 0 0), (Value.ref 162), (Value.int 87 0), (Value.int 0 0), (Value.ref 169)]) #[])
noncomputable def o164_0 : Params → Obj := fun P => (Obj.mk (Value.type "tuple") none (Data.seq #[] 0) #[])
noncomputable def o165_0 : Params → Obj := fun P => (Obj.mk Value.none none (Data.fields #[]) #[])
noncomputable def o166_0 : Params → Obj := fun P => (Obj.mk (Value.type "tuple") none (Data.seq #[(Value.str (Str.ofString "word") 2347), (Value.str (Str.ofString "a") 2348), (Value.str (Str.ofString "b") 2349), (Value.str (Str.ofString "letter") 2350)] 0) #[])
noncomputable def o167_0 : Params → Obj := fun P => (Obj.mk (Value.type "tuple") none (Data.seq #[] 0) #[])
noncomputable def o168_0 : Params → Obj := fun P => (Obj.mk Value.none none (Data.func (FuncData.mk (Str.ofString "_law_grown") (Str.ofString "_law_grown") (fdef 12).1 (FuncBody.stmts (fdef 12).2.1) (fdef 12).2.2 0 [] Value.none Value.none Value.none Value.none none Value.none Value.none 0)) #[])
noncomputable def o169_0 : Params → Obj := fun P => (Obj.mk (Value.type "code") none (Data.fields #[(Value.str (Str.ofString "_law_grown") 2344), (Value.str (Str.ofString "_law_grown") 2345), (Value.str (Str.ofString "/claim/cut.py") 2346), (Value.int 87 0), (Value.int 1 0), (Value.int 0 0), (Value.int 0 0), (Value.int 3 0), (Value.ref 164), (Value.bool Bool.true), (Value.int 181 0), (Value.ref 165), Value.none, (Value.ref 166), (Value.ref 167), (Value.ref 168), (Value.int 2351 0), (Value.int 87 0), (Value.str (Str.ofString "/claim/cut.py") 2352)]) #[])
noncomputable def o170_0 : Params → Obj := fun P => (Obj.mk (Value.type "function") none (Data.func (FuncData.mk (Str.ofString "_law_grown") (Str.ofString "_law_grown") (fdef 12).1 (FuncBody.stmts (fdef 12).2.1) (fdef 12).2.2 3 [] Value.none Value.none Value.none (Value.str (Str.ofString "law_st0039_01") 2336) none (Value.ref 169) Value.none 0)) #[])
noncomputable def T_p12 : Params → BT := fun P => (.node (boot_o_0 P) (.node (boot_o_1 P) (.node (o3_12 P) (.node (boot_o_7 P) (.node (o15_0 P) (.node (o31_0 P) (.node (o63_0 P) (.node (o127_0 P) .nil .nil) .nil) (.node (o95_0 P) (.node (o159_0 P) .nil .nil) .nil)) (.node (o47_0 P) (.node (o79_0 P) (.node (o143_0 P) .nil .nil) .nil) (.node (o111_0 P) .nil .nil))) (.node (o23_0 P) (.node (o39_0 P) (.node (o71_0 P) (.node (o135_0 P) .nil .nil) .nil) (.node (o103_0 P) (.node (o167_0 P) .nil .nil) .nil)) (.node (o55_0 P) (.node (o87_0 P) (.node (o151_0 P) .nil .nil) .nil) (.node (o119_0 P) .nil .nil)))) (.node (o11_0 P) (.node (o19_0 P) (.node (o35_0 P) (.node (o67_0 P) (.node (o131_0 P) .nil .nil) .nil) (.node (o99_0 P) (.node (o163_0 P) .nil .nil) .nil)) (.node (o51_0 P) (.node (o83_0 P) (.node (o147_0 P) .nil .nil) .nil) (.node (o115_0 P) .nil .nil))) (.node (o27_0 P) (.node (o43_0 P) (.node (o75_0 P) (.node (o139_0 P) .nil .nil) .nil) (.node (o107_0 P) .nil .nil)) (.node (o59_0 P) (.node (o91_0 P) (.node (o155_0 P) .nil .nil) .nil) (.node (o123_0 P) .nil .nil))))) (.node (boot_o_5 P) (.node (boot_o_9 P) (.node (o17_0 P) (.node (o33_0 P) (.node (o65_0 P) (.node (o129_0 P) .nil .nil) .nil) (.node (o97_0 P) (.node (o161_0 P) .nil .nil) .nil)) (.node (o49_0 P) (.node (o81_0 P) (.node (o145_0 P) .nil .nil) .nil) (.node (o113_0 P) .nil .nil))) (.node (o25_0 P) (.node (o41_0 P) (.node (o73_0 P) (.node (o137_0 P) .nil .nil) .nil) (.node (o105_0 P) (.node (o169_0 P) .nil .nil) .nil)) (.node (o57_0 P) (.node (o89_0 P) (.node (o153_0 P) .nil .nil) .nil) (.node (o121_0 P) .nil .nil)))) (.node (o13_0 P) (.node (o21_0 P) (.node (o37_0 P) (.node (o69_0 P) (.node (o133_0 P) .nil .nil) .nil) (.node (o101_0 P) (.node (o165_0 P) .nil .nil) .nil)) (.node (o53_0 P) (.node (o85_0 P) (.node (o149_0 P) .nil .nil) .nil) (.node (o117_0 P) .nil .nil))) (.node (o29_0 P) (.node (o45_0 P) (.node (o77_0 P) (.node (o141_0 P) .nil .nil) .nil) (.node (o109_0 P) .nil .nil)) (.node (o61_0 P) (.node (o93_0 P) (.node (o157_0 P) .nil .nil) .nil) (.node (o125_0 P) .nil .nil)))))) (.node (boot_o_2 P) (.node (boot_o_4 P) (.node (boot_o_8 P) (.node (o16_0 P) (.node (o32_0 P) (.node (o64_0 P) (.node (o128_0 P) .nil .nil) .nil) (.node (o96_0 P) (.node (o160_0 P) .nil .nil) .nil)) (.node (o48_0 P) (.node (o80_0 P) (.node (o144_0 P) .nil .nil) .nil) (.node (o112_0 P) .nil .nil))) (.node (o24_0 P) (.node (o40_0 P) (.node (o72_0 P) (.node (o136_0 P) .nil .nil) .nil) (.node (o104_0 P) (.node (o168_0 P) .nil .nil) .nil)) (.node (o56_0 P) (.node (o88_0 P) (.node (o152_0 P) .nil .nil) .nil) (.node (o120_0 P) .nil .nil)))) (.node (o12_7 P) (.node (o20_0 P) (.node (o36_0 P) (.node (o68_0 P) (.node (o132_0 P) .nil .nil) .nil) (.node (o100_0 P) (.node (o164_0 P) .nil .nil) .nil)) (.node (o52_0 P) (.node (o84_0 P) (.node (o148_0 P) .nil .nil) .nil) (.node (o116_0 P) .nil .nil))) (.node (o28_0 P) (.node (o44_0 P) (.node (o76_0 P) (.node (o140_0 P) .nil .nil) .nil) (.node (o108_0 P) .nil .nil)) (.node (o60_0 P) (.node (o92_0 P) (.node (o156_0 P) .nil .nil) .nil) (.node (o124_0 P) .nil .nil))))) (.node (boot_o_6 P) (.node (boot_o_10 P) (.node (o18_0 P) (.node (o34_0 P) (.node (o66_0 P) (.node (o130_0 P) .nil .nil) .nil) (.node (o98_0 P) (.node (o162_0 P) .nil .nil) .nil)) (.node (o50_0 P) (.node (o82_0 P) (.node (o146_0 P) .nil .nil) .nil) (.node (o114_0 P) .nil .nil))) (.node (o26_0 P) (.node (o42_0 P) (.node (o74_0 P) (.node (o138_0 P) .nil .nil) .nil) (.node (o106_0 P) (.node (o170_0 P) .nil .nil) .nil)) (.node (o58_0 P) (.node (o90_0 P) (.node (o154_0 P) .nil .nil) .nil) (.node (o122_0 P) .nil .nil)))) (.node (o14_0 P) (.node (o22_0 P) (.node (o38_0 P) (.node (o70_0 P) (.node (o134_0 P) .nil .nil) .nil) (.node (o102_0 P) (.node (o166_0 P) .nil .nil) .nil)) (.node (o54_0 P) (.node (o86_0 P) (.node (o150_0 P) .nil .nil) .nil) (.node (o118_0 P) .nil .nil))) (.node (o30_0 P) (.node (o46_0 P) (.node (o78_0 P) (.node (o142_0 P) .nil .nil) .nil) (.node (o110_0 P) .nil .nil)) (.node (o62_0 P) (.node (o94_0 P) (.node (o158_0 P) .nil .nil) .nil) (.node (o126_0 P) .nil .nil)))))))
noncomputable def S_p12 (w : World) (os : OsState) : SharedT := ⟨T_p12 w.params, nat_lit 171, theLife, #[], theDrawn, nat_lit 2354, os⟩
noncomputable def o3_13 : Params → Obj := fun P => (Obj.mk (Value.type "dict") none (Data.dict #[(DictEntry.mk (PyData.keyHash P (Str.ofString "__name__")) (Value.str (Str.ofString "__name__") 165) (Value.str (Str.ofString "law_st0039_01") 2336)), (DictEntry.mk (PyData.keyHash P (Str.ofString "__doc__")) (Value.str (Str.ofString "__doc__") 166) Value.none), (DictEntry.mk (PyData.keyHash P (Str.ofString "__package__")) (Value.str (Str.ofString "__package__") 167) Value.none), (DictEntry.mk (PyData.keyHash P (Str.ofString "__loader__")) (Value.str (Str.ofString "__loader__") 168) (Value.builtin "__main__.__loader__#opaque")), (DictEntry.mk (PyData.keyHash P (Str.ofString "__spec__")) (Value.str (Str.ofString "__spec__") 169) Value.none), (DictEntry.mk (PyData.keyHash P (Str.ofString "__annotations__")) (Value.str (Str.ofString "__annotations__") 170) (Value.ref 6)), (DictEntry.mk (PyData.keyHash P (Str.ofString "__builtins__")) (Value.str (Str.ofString "__builtins__") 171) (Value.ref 4)), (DictEntry.mk (PyData.keyHash P (Str.ofString "__file__")) (Value.str (Str.ofString "__file__") 173) (Value.str (Str.ofString "/claim/cut.py") 172)), (DictEntry.mk (PyData.keyHash P (Str.ofString "__cached__")) (Value.str (Str.ofString "__cached__") 174) Value.none), (DictEntry.mk (PyData.keyHash P (Str.ofString "_wall")) (Value.str (Str.ofString "_wall") 193) (Value.ref 21)), (DictEntry.mk (PyData.keyHash P (Str.ofString "_strip_padding")) (Value.str (Str.ofString "_strip_padding") 205) (Value.ref 28)), (DictEntry.mk (PyData.keyHash P (Str.ofString "b1_set")) (Value.str (Str.ofString "b1_set") 267) (Value.ref 36)), (DictEntry.mk (PyData.keyHash P (Str.ofString "in_table_b1")) (Value.str (Str.ofString "in_table_b1") 274) (Value.ref 46)), (DictEntry.mk (PyData.keyHash P (Str.ofString "b3_exceptions")) (Value.str (Str.ofString "b3_exceptions") 2225) (Value.ref 47)), (DictEntry.mk (PyData.keyHash P (Str.ofString "map_table_b3")) (Value.str (Str.ofString "map_table_b3") 2233) (Value.ref 92)), (DictEntry.mk (PyData.keyHash P (Str.ofString "Whitespace")) (Value.str (Str.ofString "Whitespace") 2335) (Value.ref 154)), (DictEntry.mk (PyData.keyHash P (Str.ofString "_law_prepared")) (Value.str (Str.ofString "_law_prepared") 2343) (Value.ref 163)), (DictEntry.mk (PyData.keyHash P (Str.ofString "_law_grown")) (Value.str (Str.ofString "_law_grown") 2353) (Value.ref 170)), (DictEntry.mk (PyData.keyHash P (Str.ofString "_law_read")) (Value.str (Str.ofString "_law_read") 2364) (Value.ref 177))] 19) #[])
noncomputable def o12_8 : Params → Obj := fun P => (Obj.mk Value.none none (Data.fields #[(Value.int 1 0), (Value.int 0 0), (Value.ref 20), (Value.int 5 0), (Value.int 0 0), (Value.ref 27), (Value.int 17 0), (Value.int 0 0), (Value.ref 45), (Value.int 20 0), (Value.int 0 0), (Value.ref 91), (Value.int 26 0), (Value.int 0 0), (Value.ref 98), (Value.int 83 0), (Value.int 0 0), (Value.ref 162), (Value.int 87 0), (Value.int 0 0), (Value.ref 169), (Value.int 95 0), (Value.int 0 0), (Value.ref 176)]) #[])
noncomputable def o171_0 : Params → Obj := fun P => (Obj.mk (Value.type "tuple") none (Data.seq #[] 0) #[])
noncomputable def o172_0 : Params → Obj := fun P => (Obj.mk Value.none none (Data.fields #[]) #[])
noncomputable def o173_0 : Params → Obj := fun P => (Obj.mk (Value.type "tuple") none (Data.seq #[(Value.str (Str.ofString "line") 2357), (Value.str (Str.ofString "read") 2358), (Value.str (Str.ofString "step") 2359), (Value.str (Str.ofString "ahead") 2360), (Value.str (Str.ofString "behind") 2361)] 0) #[])
noncomputable def o174_0 : Params → Obj := fun P => (Obj.mk (Value.type "tuple") none (Data.seq #[] 0) #[])
noncomputable def o175_0 : Params → Obj := fun P => (Obj.mk Value.none none (Data.func (FuncData.mk (Str.ofString "_law_read") (Str.ofString "_law_read") (fdef 13).1 (FuncBody.stmts (fdef 13).2.1) (fdef 13).2.2 0 [] Value.none Value.none Value.none Value.none none Value.none Value.none 0)) #[])
noncomputable def o176_0 : Params → Obj := fun P => (Obj.mk (Value.type "code") none (Data.fields #[(Value.str (Str.ofString "_law_read") 2354), (Value.str (Str.ofString "_law_read") 2355), (Value.str (Str.ofString "/claim/cut.py") 2356), (Value.int 95 0), (Value.int 1 0), (Value.int 0 0), (Value.int 0 0), (Value.int 3 0), (Value.ref 171), (Value.bool Bool.true), (Value.int 181 0), (Value.ref 172), Value.none, (Value.ref 173), (Value.ref 174), (Value.ref 175), (Value.int 2362 0), (Value.int 95 0), (Value.str (Str.ofString "/claim/cut.py") 2363)]) #[])
noncomputable def o177_0 : Params → Obj := fun P => (Obj.mk (Value.type "function") none (Data.func (FuncData.mk (Str.ofString "_law_read") (Str.ofString "_law_read") (fdef 13).1 (FuncBody.stmts (fdef 13).2.1) (fdef 13).2.2 3 [] Value.none Value.none Value.none (Value.str (Str.ofString "law_st0039_01") 2336) none (Value.ref 176) Value.none 0)) #[])
noncomputable def T_p13 : Params → BT := fun P => (.node (boot_o_0 P) (.node (boot_o_1 P) (.node (o3_13 P) (.node (boot_o_7 P) (.node (o15_0 P) (.node (o31_0 P) (.node (o63_0 P) (.node (o127_0 P) .nil .nil) .nil) (.node (o95_0 P) (.node (o159_0 P) .nil .nil) .nil)) (.node (o47_0 P) (.node (o79_0 P) (.node (o143_0 P) .nil .nil) .nil) (.node (o111_0 P) (.node (o175_0 P) .nil .nil) .nil))) (.node (o23_0 P) (.node (o39_0 P) (.node (o71_0 P) (.node (o135_0 P) .nil .nil) .nil) (.node (o103_0 P) (.node (o167_0 P) .nil .nil) .nil)) (.node (o55_0 P) (.node (o87_0 P) (.node (o151_0 P) .nil .nil) .nil) (.node (o119_0 P) .nil .nil)))) (.node (o11_0 P) (.node (o19_0 P) (.node (o35_0 P) (.node (o67_0 P) (.node (o131_0 P) .nil .nil) .nil) (.node (o99_0 P) (.node (o163_0 P) .nil .nil) .nil)) (.node (o51_0 P) (.node (o83_0 P) (.node (o147_0 P) .nil .nil) .nil) (.node (o115_0 P) .nil .nil))) (.node (o27_0 P) (.node (o43_0 P) (.node (o75_0 P) (.node (o139_0 P) .nil .nil) .nil) (.node (o107_0 P) (.node (o171_0 P) .nil .nil) .nil)) (.node (o59_0 P) (.node (o91_0 P) (.node (o155_0 P) .nil .nil) .nil) (.node (o123_0 P) .nil .nil))))) (.node (boot_o_5 P) (.node (boot_o_9 P) (.node (o17_0 P) (.node (o33_0 P) (.node (o65_0 P) (.node (o129_0 P) .nil .nil) .nil) (.node (o97_0 P) (.node (o161_0 P) .nil .nil) .nil)) (.node (o49_0 P) (.node (o81_0 P) (.node (o145_0 P) .nil .nil) .nil) (.node (o113_0 P) (.node (o177_0 P) .nil .nil) .nil))) (.node (o25_0 P) (.node (o41_0 P) (.node (o73_0 P) (.node (o137_0 P) .nil .nil) .nil) (.node (o105_0 P) (.node (o169_0 P) .nil .nil) .nil)) (.node (o57_0 P) (.node (o89_0 P) (.node (o153_0 P) .nil .nil) .nil) (.node (o121_0 P) .nil .nil)))) (.node (o13_0 P) (.node (o21_0 P) (.node (o37_0 P) (.node (o69_0 P) (.node (o133_0 P) .nil .nil) .nil) (.node (o101_0 P) (.node (o165_0 P) .nil .nil) .nil)) (.node (o53_0 P) (.node (o85_0 P) (.node (o149_0 P) .nil .nil) .nil) (.node (o117_0 P) .nil .nil))) (.node (o29_0 P) (.node (o45_0 P) (.node (o77_0 P) (.node (o141_0 P) .nil .nil) .nil) (.node (o109_0 P) (.node (o173_0 P) .nil .nil) .nil)) (.node (o61_0 P) (.node (o93_0 P) (.node (o157_0 P) .nil .nil) .nil) (.node (o125_0 P) .nil .nil)))))) (.node (boot_o_2 P) (.node (boot_o_4 P) (.node (boot_o_8 P) (.node (o16_0 P) (.node (o32_0 P) (.node (o64_0 P) (.node (o128_0 P) .nil .nil) .nil) (.node (o96_0 P) (.node (o160_0 P) .nil .nil) .nil)) (.node (o48_0 P) (.node (o80_0 P) (.node (o144_0 P) .nil .nil) .nil) (.node (o112_0 P) (.node (o176_0 P) .nil .nil) .nil))) (.node (o24_0 P) (.node (o40_0 P) (.node (o72_0 P) (.node (o136_0 P) .nil .nil) .nil) (.node (o104_0 P) (.node (o168_0 P) .nil .nil) .nil)) (.node (o56_0 P) (.node (o88_0 P) (.node (o152_0 P) .nil .nil) .nil) (.node (o120_0 P) .nil .nil)))) (.node (o12_8 P) (.node (o20_0 P) (.node (o36_0 P) (.node (o68_0 P) (.node (o132_0 P) .nil .nil) .nil) (.node (o100_0 P) (.node (o164_0 P) .nil .nil) .nil)) (.node (o52_0 P) (.node (o84_0 P) (.node (o148_0 P) .nil .nil) .nil) (.node (o116_0 P) .nil .nil))) (.node (o28_0 P) (.node (o44_0 P) (.node (o76_0 P) (.node (o140_0 P) .nil .nil) .nil) (.node (o108_0 P) (.node (o172_0 P) .nil .nil) .nil)) (.node (o60_0 P) (.node (o92_0 P) (.node (o156_0 P) .nil .nil) .nil) (.node (o124_0 P) .nil .nil))))) (.node (boot_o_6 P) (.node (boot_o_10 P) (.node (o18_0 P) (.node (o34_0 P) (.node (o66_0 P) (.node (o130_0 P) .nil .nil) .nil) (.node (o98_0 P) (.node (o162_0 P) .nil .nil) .nil)) (.node (o50_0 P) (.node (o82_0 P) (.node (o146_0 P) .nil .nil) .nil) (.node (o114_0 P) .nil .nil))) (.node (o26_0 P) (.node (o42_0 P) (.node (o74_0 P) (.node (o138_0 P) .nil .nil) .nil) (.node (o106_0 P) (.node (o170_0 P) .nil .nil) .nil)) (.node (o58_0 P) (.node (o90_0 P) (.node (o154_0 P) .nil .nil) .nil) (.node (o122_0 P) .nil .nil)))) (.node (o14_0 P) (.node (o22_0 P) (.node (o38_0 P) (.node (o70_0 P) (.node (o134_0 P) .nil .nil) .nil) (.node (o102_0 P) (.node (o166_0 P) .nil .nil) .nil)) (.node (o54_0 P) (.node (o86_0 P) (.node (o150_0 P) .nil .nil) .nil) (.node (o118_0 P) .nil .nil))) (.node (o30_0 P) (.node (o46_0 P) (.node (o78_0 P) (.node (o142_0 P) .nil .nil) .nil) (.node (o110_0 P) (.node (o174_0 P) .nil .nil) .nil)) (.node (o62_0 P) (.node (o94_0 P) (.node (o158_0 P) .nil .nil) .nil) (.node (o126_0 P) .nil .nil)))))))
noncomputable def S_p13 (w : World) (os : OsState) : SharedT := ⟨T_p13 w.params, nat_lit 178, theLife, #[], theDrawn, nat_lit 2365, os⟩
noncomputable def o3_14 : Params → Obj := fun P => (Obj.mk (Value.type "dict") none (Data.dict #[(DictEntry.mk (PyData.keyHash P (Str.ofString "__name__")) (Value.str (Str.ofString "__name__") 165) (Value.str (Str.ofString "law_st0039_01") 2336)), (DictEntry.mk (PyData.keyHash P (Str.ofString "__doc__")) (Value.str (Str.ofString "__doc__") 166) Value.none), (DictEntry.mk (PyData.keyHash P (Str.ofString "__package__")) (Value.str (Str.ofString "__package__") 167) Value.none), (DictEntry.mk (PyData.keyHash P (Str.ofString "__loader__")) (Value.str (Str.ofString "__loader__") 168) (Value.builtin "__main__.__loader__#opaque")), (DictEntry.mk (PyData.keyHash P (Str.ofString "__spec__")) (Value.str (Str.ofString "__spec__") 169) Value.none), (DictEntry.mk (PyData.keyHash P (Str.ofString "__annotations__")) (Value.str (Str.ofString "__annotations__") 170) (Value.ref 6)), (DictEntry.mk (PyData.keyHash P (Str.ofString "__builtins__")) (Value.str (Str.ofString "__builtins__") 171) (Value.ref 4)), (DictEntry.mk (PyData.keyHash P (Str.ofString "__file__")) (Value.str (Str.ofString "__file__") 173) (Value.str (Str.ofString "/claim/cut.py") 172)), (DictEntry.mk (PyData.keyHash P (Str.ofString "__cached__")) (Value.str (Str.ofString "__cached__") 174) Value.none), (DictEntry.mk (PyData.keyHash P (Str.ofString "_wall")) (Value.str (Str.ofString "_wall") 193) (Value.ref 21)), (DictEntry.mk (PyData.keyHash P (Str.ofString "_strip_padding")) (Value.str (Str.ofString "_strip_padding") 205) (Value.ref 28)), (DictEntry.mk (PyData.keyHash P (Str.ofString "b1_set")) (Value.str (Str.ofString "b1_set") 267) (Value.ref 36)), (DictEntry.mk (PyData.keyHash P (Str.ofString "in_table_b1")) (Value.str (Str.ofString "in_table_b1") 274) (Value.ref 46)), (DictEntry.mk (PyData.keyHash P (Str.ofString "b3_exceptions")) (Value.str (Str.ofString "b3_exceptions") 2225) (Value.ref 47)), (DictEntry.mk (PyData.keyHash P (Str.ofString "map_table_b3")) (Value.str (Str.ofString "map_table_b3") 2233) (Value.ref 92)), (DictEntry.mk (PyData.keyHash P (Str.ofString "Whitespace")) (Value.str (Str.ofString "Whitespace") 2335) (Value.ref 154)), (DictEntry.mk (PyData.keyHash P (Str.ofString "_law_prepared")) (Value.str (Str.ofString "_law_prepared") 2343) (Value.ref 163)), (DictEntry.mk (PyData.keyHash P (Str.ofString "_law_grown")) (Value.str (Str.ofString "_law_grown") 2353) (Value.ref 170)), (DictEntry.mk (PyData.keyHash P (Str.ofString "_law_read")) (Value.str (Str.ofString "_law_read") 2364) (Value.ref 177)), (DictEntry.mk (PyData.keyHash P (Str.ofString "law")) (Value.str (Str.ofString "law") 2370) (Value.ref 182))] 20) #[])
noncomputable def o12_9 : Params → Obj := fun P => (Obj.mk Value.none none (Data.fields #[(Value.int 1 0), (Value.int 0 0), (Value.ref 20), (Value.int 5 0), (Value.int 0 0), (Value.ref 27), (Value.int 17 0), (Value.int 0 0), (Value.ref 45), (Value.int 20 0), (Value.int 0 0), (Value.ref 91), (Value.int 26 0), (Value.int 0 0), (Value.ref 98), (Value.int 83 0), (Value.int 0 0), (Value.ref 162), (Value.int 87 0), (Value.int 0 0), (Value.ref 169), (Value.int 95 0), (Value.int 0 0), (Value.ref 176), (Value.int 111 0), (Value.int 0 0), (Value.ref 181)]) #[])
noncomputable def o178_0 : Params → Obj := fun P => (Obj.mk (Value.type "tuple") none (Data.seq #[] 0) #[])
noncomputable def o179_0 : Params → Obj := fun P => (Obj.mk Value.none none (Data.fields #[]) #[])
noncomputable def o180_0 : Params → Obj := fun P => (Obj.mk Value.none none (Data.func (FuncData.mk (Str.ofString "law") (Str.ofString "law") (fdef 14).1 (FuncBody.stmts (fdef 14).2.1) (fdef 14).2.2 0 [] Value.none Value.none Value.none Value.none none Value.none Value.none 0)) #[])
noncomputable def o181_0 : Params → Obj := fun P => (Obj.mk (Value.type "code") none (Data.fields #[(Value.str (Str.ofString "law") 2365), (Value.str (Str.ofString "law") 2366), (Value.str (Str.ofString "/claim/cut.py") 2367), (Value.int 111 0), (Value.int 1 0), (Value.int 0 0), (Value.int 0 0), (Value.int 3 0), (Value.ref 178), (Value.bool Bool.true), (Value.int 181 0), (Value.ref 179), Value.none, Value.none, Value.none, (Value.ref 180), (Value.int 2368 0), (Value.int 111 0), (Value.str (Str.ofString "/claim/cut.py") 2369)]) #[])
noncomputable def o182_0 : Params → Obj := fun P => (Obj.mk (Value.type "function") none (Data.func (FuncData.mk (Str.ofString "law") (Str.ofString "law") (fdef 14).1 (FuncBody.stmts (fdef 14).2.1) (fdef 14).2.2 3 [] Value.none Value.none Value.none (Value.str (Str.ofString "law_st0039_01") 2336) none (Value.ref 181) Value.none 0)) #[])
noncomputable def T_p14 : Params → BT := fun P => (.node (boot_o_0 P) (.node (boot_o_1 P) (.node (o3_14 P) (.node (boot_o_7 P) (.node (o15_0 P) (.node (o31_0 P) (.node (o63_0 P) (.node (o127_0 P) .nil .nil) .nil) (.node (o95_0 P) (.node (o159_0 P) .nil .nil) .nil)) (.node (o47_0 P) (.node (o79_0 P) (.node (o143_0 P) .nil .nil) .nil) (.node (o111_0 P) (.node (o175_0 P) .nil .nil) .nil))) (.node (o23_0 P) (.node (o39_0 P) (.node (o71_0 P) (.node (o135_0 P) .nil .nil) .nil) (.node (o103_0 P) (.node (o167_0 P) .nil .nil) .nil)) (.node (o55_0 P) (.node (o87_0 P) (.node (o151_0 P) .nil .nil) .nil) (.node (o119_0 P) .nil .nil)))) (.node (o11_0 P) (.node (o19_0 P) (.node (o35_0 P) (.node (o67_0 P) (.node (o131_0 P) .nil .nil) .nil) (.node (o99_0 P) (.node (o163_0 P) .nil .nil) .nil)) (.node (o51_0 P) (.node (o83_0 P) (.node (o147_0 P) .nil .nil) .nil) (.node (o115_0 P) (.node (o179_0 P) .nil .nil) .nil))) (.node (o27_0 P) (.node (o43_0 P) (.node (o75_0 P) (.node (o139_0 P) .nil .nil) .nil) (.node (o107_0 P) (.node (o171_0 P) .nil .nil) .nil)) (.node (o59_0 P) (.node (o91_0 P) (.node (o155_0 P) .nil .nil) .nil) (.node (o123_0 P) .nil .nil))))) (.node (boot_o_5 P) (.node (boot_o_9 P) (.node (o17_0 P) (.node (o33_0 P) (.node (o65_0 P) (.node (o129_0 P) .nil .nil) .nil) (.node (o97_0 P) (.node (o161_0 P) .nil .nil) .nil)) (.node (o49_0 P) (.node (o81_0 P) (.node (o145_0 P) .nil .nil) .nil) (.node (o113_0 P) (.node (o177_0 P) .nil .nil) .nil))) (.node (o25_0 P) (.node (o41_0 P) (.node (o73_0 P) (.node (o137_0 P) .nil .nil) .nil) (.node (o105_0 P) (.node (o169_0 P) .nil .nil) .nil)) (.node (o57_0 P) (.node (o89_0 P) (.node (o153_0 P) .nil .nil) .nil) (.node (o121_0 P) .nil .nil)))) (.node (o13_0 P) (.node (o21_0 P) (.node (o37_0 P) (.node (o69_0 P) (.node (o133_0 P) .nil .nil) .nil) (.node (o101_0 P) (.node (o165_0 P) .nil .nil) .nil)) (.node (o53_0 P) (.node (o85_0 P) (.node (o149_0 P) .nil .nil) .nil) (.node (o117_0 P) (.node (o181_0 P) .nil .nil) .nil))) (.node (o29_0 P) (.node (o45_0 P) (.node (o77_0 P) (.node (o141_0 P) .nil .nil) .nil) (.node (o109_0 P) (.node (o173_0 P) .nil .nil) .nil)) (.node (o61_0 P) (.node (o93_0 P) (.node (o157_0 P) .nil .nil) .nil) (.node (o125_0 P) .nil .nil)))))) (.node (boot_o_2 P) (.node (boot_o_4 P) (.node (boot_o_8 P) (.node (o16_0 P) (.node (o32_0 P) (.node (o64_0 P) (.node (o128_0 P) .nil .nil) .nil) (.node (o96_0 P) (.node (o160_0 P) .nil .nil) .nil)) (.node (o48_0 P) (.node (o80_0 P) (.node (o144_0 P) .nil .nil) .nil) (.node (o112_0 P) (.node (o176_0 P) .nil .nil) .nil))) (.node (o24_0 P) (.node (o40_0 P) (.node (o72_0 P) (.node (o136_0 P) .nil .nil) .nil) (.node (o104_0 P) (.node (o168_0 P) .nil .nil) .nil)) (.node (o56_0 P) (.node (o88_0 P) (.node (o152_0 P) .nil .nil) .nil) (.node (o120_0 P) .nil .nil)))) (.node (o12_9 P) (.node (o20_0 P) (.node (o36_0 P) (.node (o68_0 P) (.node (o132_0 P) .nil .nil) .nil) (.node (o100_0 P) (.node (o164_0 P) .nil .nil) .nil)) (.node (o52_0 P) (.node (o84_0 P) (.node (o148_0 P) .nil .nil) .nil) (.node (o116_0 P) (.node (o180_0 P) .nil .nil) .nil))) (.node (o28_0 P) (.node (o44_0 P) (.node (o76_0 P) (.node (o140_0 P) .nil .nil) .nil) (.node (o108_0 P) (.node (o172_0 P) .nil .nil) .nil)) (.node (o60_0 P) (.node (o92_0 P) (.node (o156_0 P) .nil .nil) .nil) (.node (o124_0 P) .nil .nil))))) (.node (boot_o_6 P) (.node (boot_o_10 P) (.node (o18_0 P) (.node (o34_0 P) (.node (o66_0 P) (.node (o130_0 P) .nil .nil) .nil) (.node (o98_0 P) (.node (o162_0 P) .nil .nil) .nil)) (.node (o50_0 P) (.node (o82_0 P) (.node (o146_0 P) .nil .nil) .nil) (.node (o114_0 P) (.node (o178_0 P) .nil .nil) .nil))) (.node (o26_0 P) (.node (o42_0 P) (.node (o74_0 P) (.node (o138_0 P) .nil .nil) .nil) (.node (o106_0 P) (.node (o170_0 P) .nil .nil) .nil)) (.node (o58_0 P) (.node (o90_0 P) (.node (o154_0 P) .nil .nil) .nil) (.node (o122_0 P) .nil .nil)))) (.node (o14_0 P) (.node (o22_0 P) (.node (o38_0 P) (.node (o70_0 P) (.node (o134_0 P) .nil .nil) .nil) (.node (o102_0 P) (.node (o166_0 P) .nil .nil) .nil)) (.node (o54_0 P) (.node (o86_0 P) (.node (o150_0 P) .nil .nil) .nil) (.node (o118_0 P) (.node (o182_0 P) .nil .nil) .nil))) (.node (o30_0 P) (.node (o46_0 P) (.node (o78_0 P) (.node (o142_0 P) .nil .nil) .nil) (.node (o110_0 P) (.node (o174_0 P) .nil .nil) .nil)) (.node (o62_0 P) (.node (o94_0 P) (.node (o158_0 P) .nil .nil) .nil) (.node (o126_0 P) .nil .nil)))))))
noncomputable def S_p14 (w : World) (os : OsState) : SharedT := ⟨T_p14 w.params, nat_lit 183, theLife, #[], theDrawn, nat_lit 2371, os⟩
noncomputable def T_fin : Params → BT := fun P => (.node (boot_o_0 P) (.node (boot_o_1 P) (.node (o3_14 P) (.node (boot_o_7 P) (.node (o15_0 P) (.node (o31_0 P) (.node (o63_0 P) (.node (o127_0 P) .nil .nil) .nil) (.node (o95_0 P) (.node (o159_0 P) .nil .nil) .nil)) (.node (o47_0 P) (.node (o79_0 P) (.node (o143_0 P) .nil .nil) .nil) (.node (o111_0 P) (.node (o175_0 P) .nil .nil) .nil))) (.node (o23_0 P) (.node (o39_0 P) (.node (o71_0 P) (.node (o135_0 P) .nil .nil) .nil) (.node (o103_0 P) (.node (o167_0 P) .nil .nil) .nil)) (.node (o55_0 P) (.node (o87_0 P) (.node (o151_0 P) .nil .nil) .nil) (.node (o119_0 P) .nil .nil)))) (.node (o11_0 P) (.node (o19_0 P) (.node (o35_0 P) (.node (o67_0 P) (.node (o131_0 P) .nil .nil) .nil) (.node (o99_0 P) (.node (o163_0 P) .nil .nil) .nil)) (.node (o51_0 P) (.node (o83_0 P) (.node (o147_0 P) .nil .nil) .nil) (.node (o115_0 P) (.node (o179_0 P) .nil .nil) .nil))) (.node (o27_0 P) (.node (o43_0 P) (.node (o75_0 P) (.node (o139_0 P) .nil .nil) .nil) (.node (o107_0 P) (.node (o171_0 P) .nil .nil) .nil)) (.node (o59_0 P) (.node (o91_0 P) (.node (o155_0 P) .nil .nil) .nil) (.node (o123_0 P) .nil .nil))))) (.node (boot_o_5 P) (.node (boot_o_9 P) (.node (o17_0 P) (.node (o33_0 P) (.node (o65_0 P) (.node (o129_0 P) .nil .nil) .nil) (.node (o97_0 P) (.node (o161_0 P) .nil .nil) .nil)) (.node (o49_0 P) (.node (o81_0 P) (.node (o145_0 P) .nil .nil) .nil) (.node (o113_0 P) (.node (o177_0 P) .nil .nil) .nil))) (.node (o25_0 P) (.node (o41_0 P) (.node (o73_0 P) (.node (o137_0 P) .nil .nil) .nil) (.node (o105_0 P) (.node (o169_0 P) .nil .nil) .nil)) (.node (o57_0 P) (.node (o89_0 P) (.node (o153_0 P) .nil .nil) .nil) (.node (o121_0 P) .nil .nil)))) (.node (o13_0 P) (.node (o21_0 P) (.node (o37_0 P) (.node (o69_0 P) (.node (o133_0 P) .nil .nil) .nil) (.node (o101_0 P) (.node (o165_0 P) .nil .nil) .nil)) (.node (o53_0 P) (.node (o85_0 P) (.node (o149_0 P) .nil .nil) .nil) (.node (o117_0 P) (.node (o181_0 P) .nil .nil) .nil))) (.node (o29_0 P) (.node (o45_0 P) (.node (o77_0 P) (.node (o141_0 P) .nil .nil) .nil) (.node (o109_0 P) (.node (o173_0 P) .nil .nil) .nil)) (.node (o61_0 P) (.node (o93_0 P) (.node (o157_0 P) .nil .nil) .nil) (.node (o125_0 P) .nil .nil)))))) (.node (boot_o_2 P) (.node (boot_o_4 P) (.node (boot_o_8 P) (.node (o16_0 P) (.node (o32_0 P) (.node (o64_0 P) (.node (o128_0 P) .nil .nil) .nil) (.node (o96_0 P) (.node (o160_0 P) .nil .nil) .nil)) (.node (o48_0 P) (.node (o80_0 P) (.node (o144_0 P) .nil .nil) .nil) (.node (o112_0 P) (.node (o176_0 P) .nil .nil) .nil))) (.node (o24_0 P) (.node (o40_0 P) (.node (o72_0 P) (.node (o136_0 P) .nil .nil) .nil) (.node (o104_0 P) (.node (o168_0 P) .nil .nil) .nil)) (.node (o56_0 P) (.node (o88_0 P) (.node (o152_0 P) .nil .nil) .nil) (.node (o120_0 P) .nil .nil)))) (.node (o12_9 P) (.node (o20_0 P) (.node (o36_0 P) (.node (o68_0 P) (.node (o132_0 P) .nil .nil) .nil) (.node (o100_0 P) (.node (o164_0 P) .nil .nil) .nil)) (.node (o52_0 P) (.node (o84_0 P) (.node (o148_0 P) .nil .nil) .nil) (.node (o116_0 P) (.node (o180_0 P) .nil .nil) .nil))) (.node (o28_0 P) (.node (o44_0 P) (.node (o76_0 P) (.node (o140_0 P) .nil .nil) .nil) (.node (o108_0 P) (.node (o172_0 P) .nil .nil) .nil)) (.node (o60_0 P) (.node (o92_0 P) (.node (o156_0 P) .nil .nil) .nil) (.node (o124_0 P) .nil .nil))))) (.node (boot_o_6 P) (.node (boot_o_10 P) (.node (o18_0 P) (.node (o34_0 P) (.node (o66_0 P) (.node (o130_0 P) .nil .nil) .nil) (.node (o98_0 P) (.node (o162_0 P) .nil .nil) .nil)) (.node (o50_0 P) (.node (o82_0 P) (.node (o146_0 P) .nil .nil) .nil) (.node (o114_0 P) (.node (o178_0 P) .nil .nil) .nil))) (.node (o26_0 P) (.node (o42_0 P) (.node (o74_0 P) (.node (o138_0 P) .nil .nil) .nil) (.node (o106_0 P) (.node (o170_0 P) .nil .nil) .nil)) (.node (o58_0 P) (.node (o90_0 P) (.node (o154_0 P) .nil .nil) .nil) (.node (o122_0 P) .nil .nil)))) (.node (o14_0 P) (.node (o22_0 P) (.node (o38_0 P) (.node (o70_0 P) (.node (o134_0 P) .nil .nil) .nil) (.node (o102_0 P) (.node (o166_0 P) .nil .nil) .nil)) (.node (o54_0 P) (.node (o86_0 P) (.node (o150_0 P) .nil .nil) .nil) (.node (o118_0 P) (.node (o182_0 P) .nil .nil) .nil))) (.node (o30_0 P) (.node (o46_0 P) (.node (o78_0 P) (.node (o142_0 P) .nil .nil) .nil) (.node (o110_0 P) (.node (o174_0 P) .nil .nil) .nil)) (.node (o62_0 P) (.node (o94_0 P) (.node (o158_0 P) .nil .nil) .nil) (.node (o126_0 P) .nil .nil)))))))
noncomputable def S_fin (w : World) (os : OsState) : SharedT := ⟨T_fin w.params, nat_lit 183, theLife, #[], theDrawn, nat_lit 2371, os⟩
end Mine
end
end
section
set_option Elab.async false
set_option maxRecDepth 100000
set_option maxHeartbeats 4000000
open PySem PySem.W PyProof.Rows
namespace Mine
noncomputable def go (w : World) : Nat → SharedT → Thread → Option (SharedT × Thread) := segGoT treeTable prog w (nat_lit 11) annE (nat_lit 1)
noncomputable def Runs {α : Type} (w : World) (lv : List Value → List Value) (x : Sem α) (s : SharedT) (n : Nat) (p p' : Pos) (a : α) (s' : SharedT) : Prop :=
  ∀ (K : α → Sem Fin) (H : Value → Sem Fin) (gd : Bool → Bool), go w n s ⟨x.wrap K H gd lv, cE, p, tB⟩ = some (s', ⟨K a, cE, p', tB⟩)
theorem go_trans {w : World} : ∀ {n m : Nat} {s s' : SharedT} {t t' : Thread} {r : Option (SharedT × Thread)}, go w n s t = some (s', t') → go w m s' t' = r → go w (n + m) s t = r
  | 0, m, s, s', t, t', r, h, k => by
    unfold go segGoT at h
    cases h
    rw [Nat.zero_add]; exact k
  | n + 1, m, s, s', t, t', r, h, k => by
    rw [show n + 1 + m = (n + m) + 1 by omega]
    unfold go segGoT at h ⊢
    cases he : endAt 1 t with
    | some x => rw [he] at h; cases h
    | none =>
      rw [he] at h
      dsimp only at h ⊢
      cases hk : stepOk 11 annE t with
      | false => rw [hk] at h; cases h
      | true =>
        rw [hk] at h
        dsimp only at h ⊢
        cases hs : stepT (denote treeTable) prog w s t with
        | none => rw [hs] at h; cases h
        | some r' =>
          obtain ⟨s₂, t₂⟩ := r'
          rw [hs] at h
          exact go_trans (n := n) (m := m) h k
theorem Runs.pure {α : Type} {w : World} {lv : List Value → List Value} {a : α} {s : SharedT} {p : Pos} : Runs w lv (Sem.pure a) s 0 p p a s := fun _ _ _ => rfl
theorem Runs.bind {α β : Type} {w : World} {lv : List Value → List Value} {x : Sem α} {f : α → Sem β} {s s' s'' : SharedT} {n m : Nat} {p p' p'' : Pos} {a : α} {b : β}
    (hx : Runs w lv x s n p p' a s') (hf : Runs w lv (f a) s' m p' p'' b s'') : Runs w lv (x.bind f) s (n + m) p p'' b s'' := fun K H gd => by
  have e : (x.bind f).wrap K H gd lv = x.wrap (fun a => (f a).wrap K H gd lv) H gd lv := by
    rw [Sem.bind_eq_wrap, Sem.wrap_wrap]
    rfl
  rw [e]
  exact go_trans (hx _ _ _) (hf K H gd)
theorem go_load {w : World} {T : BT} {n : Nat} {toks : Nat} {os : OsState} {a : Addr} {q : Option Value} {k : Obj → Sem Fin} {p : Pos} {o : Obj} {i : Nat}
    (hn : Nat.blt a n = true) (hT : T.get a = some o) (ha : alive o = some o) :
    go w (i + 1) ⟨T, n, theLife, #[], theDrawn, toks, os⟩ ⟨.load a q k, cE, p, tB⟩ = go w i ⟨T, n, theLife, #[], theDrawn, toks, os⟩ ⟨k o, cE, p, tB⟩ := by
  unfold go
  rw [segGoT]
  have e1 : endAt 1 ⟨.load a q k, cE, p, tB⟩ = none := rfl
  have e2 : stepOk 11 annE ⟨.load a q k, cE, p, tB⟩ = true := rfl
  rw [e1, e2]
  simp only [stepT, hn, hT, ha]
theorem go_update {w : World} {T : BT} {n : Nat} {toks : Nat} {os : OsState} {a : Addr} {q : Option Value} {f : Obj → Obj} {k : Unit → Sem Fin} {p : Pos} {o : Obj} {i : Nat}
    (h11 : Nat.ble 11 a = true) (hn : Nat.blt a n = true) (hT : T.get a = some o) (ha : alive o = some o) :
    go w (i + 1) ⟨T, n, theLife, #[], theDrawn, toks, os⟩ ⟨.update a q f k, cE, p, tB⟩ = go w i ⟨T.set a f, n, theLife, #[], theDrawn, toks, os⟩ ⟨k (), cE, p, tB⟩ := by
  unfold go
  rw [segGoT]
  have e1 : endAt 1 ⟨.update a q f k, cE, p, tB⟩ = none := rfl
  have e2 : stepOk 11 annE ⟨.update a q f k, cE, p, tB⟩ = true := by
    show (true && (Nat.ble 11 a || _ || _ || _)) = true
    rw [h11]; rfl
  rw [e1, e2]
  simp only [stepT, hn, hT, ha]
end Mine
end
section
set_option Elab.async false
set_option maxRecDepth 100000
set_option maxHeartbeats 4000000
open PySem PySem.W PyProof.Rows
namespace Mine
noncomputable abbrev objD (l : List DictEntry) : Obj := Obj.mk (Value.type "dict") none (Data.dict l.toArray l.length) #[]
section
variable {w : World} {lv : List Value → List Value} {T : BT} {n toks : Nat} {os : OsState} {p : Pos} {a : Addr} {l : List DictEntry} {q : Option Value}
theorem runs_loadPart {o : Obj} (hn : Nat.blt a n = true) (hT : T.get a = some o) (ha : alive o = some o) : Runs w lv (loadPart a q) ⟨T, n, theLife, #[], theDrawn, toks, os⟩ 1 p p o ⟨T, n, theLife, #[], theDrawn, toks, os⟩ :=
  fun K H gd => (go_load (i := 0) (k := fun x => (Sem.pure x).wrap K H gd lv) hn hT ha).trans rfl
theorem runs_entries (hn : Nat.blt a n = true) (hT : T.get a = some (objD l)) : Runs w lv (dictEntries a q) ⟨T, n, theLife, #[], theDrawn, toks, os⟩ 1 p p l.toArray ⟨T, n, theLife, #[], theDrawn, toks, os⟩ :=
  (runs_loadPart hn hT rfl).bind (m := 0) Runs.pure
theorem runs_epoch (hn : Nat.blt a n = true) (hT : T.get a = some (objD l)) : Runs w lv (dictEpoch a q) ⟨T, n, theLife, #[], theDrawn, toks, os⟩ 1 p p l.length ⟨T, n, theLife, #[], theDrawn, toks, os⟩ :=
  (runs_loadPart hn hT rfl).bind (m := 0) Runs.pure
theorem runs_find {k : Int} {t : Tok} {h : Int} (hn : Nat.blt a n = true) (hT : T.get a = some (objD l)) (hh : ∀ e ∈ l, e.hash ≠ h) : Runs w lv (dictFind a (.int k t) h) ⟨T, n, theLife, #[], theDrawn, toks, os⟩ 1 p p none ⟨T, n, theLife, #[], theDrawn, toks, os⟩ := by
  have hp : placesWithHash l.toArray.size (fun i => l.toArray[i]?.map (·.hash)) h = [] := by
    unfold placesWithHash
    rw [List.filter_eq_nil_iff]
    intro i hi
    simp only [List.getElem?_toArray, beq_iff_eq]
    intro q
    obtain ⟨e, he, hq⟩ := Option.map_eq_some_iff.mp q
    exact hh e (List.mem_of_getElem? he) hq
  unfold dictFind
  show Runs w lv (Sem.bind (dictEntries a _) _) _ _ _ _ _ _
  refine (runs_entries hn hT).bind (m := 0) ?_
  dsimp only
  rw [hp]
  exact Runs.pure
end
end Mine
end
section
set_option Elab.async false
set_option maxRecDepth 100000
set_option maxHeartbeats 4000000
open PySem PySem.W PyProof.Rows
namespace Mine
theorem objD_push (l : List DictEntry) (e : DictEntry) : Obj.mapDictKeys (·.push e) (objD l) = objD (l ++ [e]) := by
  show Obj.mk _ _ (Data.dict (l.toArray.push e) (l.length + 1)) _ = Obj.mk _ _ (Data.dict (l ++ [e]).toArray (l ++ [e]).length) _
  rw [List.push_toArray, List.length_append]
  rfl
section
variable {w : World} {lv : List Value → List Value} {T : Obj → BT} {n toks : Nat} {os : OsState} {p : Pos} {a : Addr} {l : List DictEntry} {q : Option Value}
theorem runs_put {k : Int} {t : Tok} {h : Int} {v : Value} (h11 : Nat.ble 11 a = true) (hn : Nat.blt a n = true) (hT : ∀ X, (T X).get a = some X) (hS : ∀ X f, (T X).set a f = T (f X)) (hh : ∀ e ∈ l, e.hash ≠ h) (hl : l.length < 1000) :
    Runs w lv (dictPut a h (.int k t) v) ⟨T (objD l), n, theLife, #[], theDrawn, toks, os⟩ 4 p p () ⟨T (objD (l ++ [⟨h, .int k t, v⟩])), n, theLife, #[], theDrawn, toks, os⟩ := by
  unfold dictPut
  refine Runs.bind (n := 1) (m := 3) (runs_find hn (hT _) hh) ?_
  dsimp only
  unfold updateDictKeys
  refine Runs.bind (n := 1) (m := 2) (runs_loadPart hn (hT _) rfl) ?_
  dsimp only
  refine Runs.bind (n := 1) (m := 1) (a := ()) (s' := ⟨T (objD (l ++ [⟨h, .int k t, v⟩])), n, theLife, #[], theDrawn, toks, os⟩) (p' := p) ?_ ?_
  · intro K H gd
    refine (go_update (i := 0) (k := fun x => (Sem.pure x).wrap K H gd lv) h11 hn (hT _) rfl).trans ?_
    rw [hS, objD_push]
    rfl
  · unfold lookBehind
    refine Runs.bind (n := 1) (m := 0) (runs_loadPart hn (hT _) rfl) ?_
    have e : (objD (l ++ [⟨h, .int k t, v⟩])).data.pastItsLine = none := by
      have h2 : ¬ ((l ++ [(⟨h, .int k t, v⟩ : DictEntry)]).toArray.size > sizeLine + 1) := by
        rw [List.size_toArray, List.length_append, PySem.sizeLine_eq]
        simp only [List.length_cons, List.length_nil]
        omega
      show (if _ > _ then _ else _) = _
      exact if_neg h2
    rw [e]
    exact Runs.pure
end
end Mine
end
section
set_option Elab.async false
set_option maxRecDepth 100000
set_option maxHeartbeats 4000000
open PySem PySem.W PyProof.Rows
namespace Mine
theorem Runs.keep {α : Type} {w : World} {lv : List Value → List Value} {x : Sem α} {vs : List Value} {s s' : SharedT} {n : Nat} {p p' : Pos} {a : α}
    (h : Runs w (fun l => lv (vs ++ l)) x s n p p' a s') : Runs w lv (x.keep vs) s n p p' a s' := fun K H gd => by
  rw [Sem.keep_eq_wrap, Sem.wrap_wrap]
  exact h K H gd
theorem Runs.onRaise {α : Type} {w : World} {lv : List Value → List Value} {x : Sem α} {g : Value → Sem Unit} {s s' : SharedT} {n : Nat} {p p' : Pos} {a : α}
    (h : Runs w lv x s n p p' a s') : Runs w lv (x.onRaise g) s n p p' a s' := fun K H gd => by
  rw [Sem.onRaise_eq_wrap, Sem.wrap_wrap]
  exact h K _ gd
theorem runs_for {w : World} {lv : List Value → List Value} {f : Nat → PUnit → Sem (ForInStep PUnit)} {S : Nat → SharedT} {c : Nat} {p : Pos} : ∀ (len i : Nat) {s : SharedT}, (∀ j, i ≤ j → j < i + len → Runs w lv (f j ⟨⟩) (S j) c p p (.yield ⟨⟩) (S (j + 1))) → s = S i →
    Runs w lv (forIn (List.range' i len) PUnit.unit f) s (c * len) p p PUnit.unit (S (i + len))
  | 0, i, s, _, e => by subst e; exact Runs.pure
  | len + 1, i, s, h, e => by
    subst e
    rw [List.range'_succ, List.forIn_cons, show c * (len + 1) = c + c * len by rw [Nat.mul_succ, Nat.add_comm]]
    refine Runs.bind (h i (Nat.le_refl _) (by omega)) ?_
    have := runs_for (S := S) (f := f) (c := c) (p := p) (w := w) (lv := lv) len (i + 1) (s := S (i + 1)) (fun j h1 h2 => h j (by omega) (by omega)) rfl
    rw [show i + (len + 1) = i + 1 + len by omega]
    exact this
theorem he'' {e : DictEntry} {k v : Value} (h1 : e.key = k) (h2 : e.val = v) : e = ⟨e.hash, k, v⟩ := by
  cases e; cases h1; cases h2; rfl
section
variable {w : World} {lv : List Value → List Value} {T : Obj → BT} {n toks : Nat} {os : OsState} {p : Pos} {d a : Addr} {l sub : List DictEntry} {q : Option Value}
theorem merge_plain (h11 : Nat.ble 11 d = true) (hn : Nat.blt d n = true) (hna : Nat.blt a n = true) (hT : ∀ X, (T X).get d = some X) (hS : ∀ X f, (T X).set d f = T (f X)) (hA : ∀ X, (T X).get a = some (objD sub))
    (hsys : (a == sysModules) = false) (hne : l ≠ []) (hk : ∀ e ∈ sub, ∃ k t x u, e = ⟨e.hash, .int k t, .str x u⟩) (hd : (l ++ sub).Pairwise (fun e e' => e.hash ≠ e'.hash)) (hl : (l ++ sub).length < 1000)
    (c1 c2 : Nat) (hI : ∀ (lv : List Value → List Value) (X : Obj), Runs w lv (isInstance (.ref a) (.type "dict")) ⟨T X, n, theLife, #[], theDrawn, toks, os⟩ c1 p p true ⟨T X, n, theLife, #[], theDrawn, toks, os⟩)
    (hSp : ∀ (lv : List Value → List Value) (X : Obj), Runs w lv (specialOf (.ref a) "__iter__") ⟨T X, n, theLife, #[], theDrawn, toks, os⟩ c2 p p (some (.builtin "dict.__iter__")) ⟨T X, n, theLife, #[], theDrawn, toks, os⟩) :
    Runs w lv (mergeMapping d (.ref a) false) ⟨T (objD l), n, theLife, #[], theDrawn, toks, os⟩ (c1 + (c2 + (0 + (1 + (1 + (1 + (6 * sub.length + 0))))))) p p () ⟨T (objD (l ++ sub)), n, theLife, #[], theDrawn, toks, os⟩ := by
  unfold mergeMapping
  refine Runs.bind (hI _ _) ?_
  rw [if_pos rfl]
  refine Runs.bind (hSp _ _) ?_
  refine Runs.bind Runs.pure ?_
  have hb : (some (Value.builtin "dict.__iter__") == some (Value.builtin "dict.__iter__")) = true := by decide +kernel
  rw [hb]
  dsimp only
  rw [hsys, if_neg Bool.false_ne_true]
  refine Runs.bind (runs_entries hn (hT _)) ?_
  have he : l.toArray.isEmpty = false := by
    cases l with
    | nil => exact absurd rfl hne
    | cons _ _ => rfl
  rw [he, if_neg Bool.false_ne_true]
  refine Runs.bind (runs_entries hna (hA _)) ?_
  refine Runs.bind (runs_epoch hna (hA _)) ?_
  refine Runs.bind (n := 6 * sub.length) (m := 0) (a := PUnit.unit) ?_ Runs.pure
  rw [List.size_toArray, List.range_eq_range']
  have hfin : (⟨T (objD (l ++ sub)), n, theLife, #[], theDrawn, toks, os⟩ : SharedT) = ⟨T (objD (l ++ sub.take (0 + sub.length))), n, theLife, #[], theDrawn, toks, os⟩ := by
    rw [Nat.zero_add, List.take_length]
  rw [hfin]
  refine runs_for (S := fun j => ⟨T (objD (l ++ sub.take j)), n, theLife, #[], theDrawn, toks, os⟩) (c := 6) sub.length 0 ?_ (by show _ = (⟨T (objD (l ++ sub.take 0)), n, theLife, #[], theDrawn, toks, os⟩ : SharedT); rw [List.take_zero, List.append_nil])
  intro j _ hj
  rw [Nat.zero_add] at hj
  obtain ⟨k, t, x, u, he'⟩ := hk sub[j] (List.getElem_mem hj)
  refine Runs.bind (n := 1) (m := 5) (runs_entries hna (hA _)) ?_
  have hg : sub.toArray[j]? = some sub[j] := by rw [List.getElem?_toArray, List.getElem?_eq_getElem hj]
  rw [hg]
  dsimp only
  rw [if_neg Bool.false_ne_true]
  have hkey : sub[j].key = .int k t := by rw [he']
  have hval : sub[j].val = .str x u := by rw [he']
  rw [hkey, hval]
  have hnew : l ++ sub.take (j + 1) = (l ++ sub.take j) ++ [(⟨sub[j].hash, .int k t, .str x u⟩ : DictEntry)] := by
    rw [List.append_assoc, ← he'' hkey hval, List.take_append_getElem hj]
  rw [hnew]
  refine Runs.bind (n := 4) (m := 1) (runs_put h11 hn hT hS ?_ ?_) ?_
  · have hsplit : l ++ sub = (l ++ sub.take j) ++ sub.drop j := by rw [List.append_assoc, List.take_append_drop]
    rw [hsplit, List.pairwise_append] at hd
    intro e hm
    refine hd.2.2 e hm sub[j] ?_
    rw [List.drop_eq_getElem_cons hj]
    exact .head _
  · simp only [List.length_append, List.length_take] at hl ⊢
    omega
  · refine Runs.bind (n := 1) (m := 0) (runs_epoch hna (hA _)) ?_
    have hb2 : (sub.length != sub.length) = false := by simp
    rw [hb2, if_neg Bool.false_ne_true]
    exact Runs.pure
end
end Mine
end
section
set_option Elab.async false
set_option linter.unusedVariables false
set_option maxRecDepth 100000
set_option maxHeartbeats 4000000
open PySem PySem.W PyProof.Rows
noncomputable section
namespace Mine
noncomputable def TD_1 (P : Params) (X : Obj) : BT := (.node (boot_o_0 P) (.node (boot_o_1 P) (.node (o3_5 P) (.node (boot_o_7 P) (.node (o15_0 P) (.node (o31_0 P) .nil .nil) (.node X .nil .nil)) (.node (o23_0 P) (.node (o39_0 P) .nil .nil) .nil)) (.node (o11_0 P) (.node (o19_0 P) (.node (o35_0 P) .nil .nil) .nil) (.node (o27_0 P) (.node (o43_0 P) .nil .nil) .nil))) (.node (boot_o_5 P) (.node (boot_o_9 P) (.node (o17_0 P) (.node (o33_0 P) .nil .nil) .nil) (.node (o25_0 P) (.node (o41_0 P) .nil .nil) .nil)) (.node (o13_0 P) (.node (o21_0 P) (.node (o37_0 P) .nil .nil) .nil) (.node (o29_0 P) (.node (o45_0 P) .nil .nil) .nil)))) (.node (boot_o_2 P) (.node (boot_o_4 P) (.node (boot_o_8 P) (.node (o16_0 P) (.node (o32_0 P) .nil .nil) .nil) (.node (o24_0 P) (.node (o40_0 P) .nil .nil) .nil)) (.node (o12_3 P) (.node (o20_0 P) (.node (o36_0 P) .nil .nil) .nil) (.node (o28_0 P) (.node (o44_0 P) .nil .nil) .nil))) (.node (boot_o_6 P) (.node (boot_o_10 P) (.node (o18_0 P) (.node (o34_0 P) .nil .nil) .nil) (.node (o26_0 P) (.node (o42_0 P) .nil .nil) .nil)) (.node (o14_0 P) (.node (o22_0 P) (.node (o38_0 P) .nil .nil) .nil) (.node (o30_0 P) (.node (o46_0 P) .nil .nil) .nil)))))
noncomputable def TD_2 (P : Params) (X : Obj) : BT := (.node (boot_o_0 P) (.node (boot_o_1 P) (.node (o3_5 P) (.node (boot_o_7 P) (.node (o15_0 P) (.node (o31_0 P) .nil .nil) (.node X .nil .nil)) (.node (o23_0 P) (.node (o39_0 P) .nil .nil) .nil)) (.node (o11_0 P) (.node (o19_0 P) (.node (o35_0 P) .nil .nil) .nil) (.node (o27_0 P) (.node (o43_0 P) .nil .nil) .nil))) (.node (boot_o_5 P) (.node (boot_o_9 P) (.node (o17_0 P) (.node (o33_0 P) .nil .nil) .nil) (.node (o25_0 P) (.node (o41_0 P) .nil .nil) .nil)) (.node (o13_0 P) (.node (o21_0 P) (.node (o37_0 P) .nil .nil) .nil) (.node (o29_0 P) (.node (o45_0 P) .nil .nil) .nil)))) (.node (boot_o_2 P) (.node (boot_o_4 P) (.node (boot_o_8 P) (.node (o16_0 P) (.node (o32_0 P) .nil .nil) (.node (b3sub 1) .nil .nil)) (.node (o24_0 P) (.node (o40_0 P) .nil .nil) .nil)) (.node (o12_3 P) (.node (o20_0 P) (.node (o36_0 P) .nil .nil) .nil) (.node (o28_0 P) (.node (o44_0 P) .nil .nil) .nil))) (.node (boot_o_6 P) (.node (boot_o_10 P) (.node (o18_0 P) (.node (o34_0 P) .nil .nil) .nil) (.node (o26_0 P) (.node (o42_0 P) .nil .nil) .nil)) (.node (o14_0 P) (.node (o22_0 P) (.node (o38_0 P) .nil .nil) .nil) (.node (o30_0 P) (.node (o46_0 P) .nil .nil) .nil)))))
noncomputable def TD_3 (P : Params) (X : Obj) : BT := (.node (boot_o_0 P) (.node (boot_o_1 P) (.node (o3_5 P) (.node (boot_o_7 P) (.node (o15_0 P) (.node (o31_0 P) .nil .nil) (.node X .nil .nil)) (.node (o23_0 P) (.node (o39_0 P) .nil .nil) .nil)) (.node (o11_0 P) (.node (o19_0 P) (.node (o35_0 P) .nil .nil) .nil) (.node (o27_0 P) (.node (o43_0 P) .nil .nil) .nil))) (.node (boot_o_5 P) (.node (boot_o_9 P) (.node (o17_0 P) (.node (o33_0 P) .nil .nil) (.node (b3sub 2) .nil .nil)) (.node (o25_0 P) (.node (o41_0 P) .nil .nil) .nil)) (.node (o13_0 P) (.node (o21_0 P) (.node (o37_0 P) .nil .nil) .nil) (.node (o29_0 P) (.node (o45_0 P) .nil .nil) .nil)))) (.node (boot_o_2 P) (.node (boot_o_4 P) (.node (boot_o_8 P) (.node (o16_0 P) (.node (o32_0 P) .nil .nil) (.node (b3sub 1) .nil .nil)) (.node (o24_0 P) (.node (o40_0 P) .nil .nil) .nil)) (.node (o12_3 P) (.node (o20_0 P) (.node (o36_0 P) .nil .nil) .nil) (.node (o28_0 P) (.node (o44_0 P) .nil .nil) .nil))) (.node (boot_o_6 P) (.node (boot_o_10 P) (.node (o18_0 P) (.node (o34_0 P) .nil .nil) .nil) (.node (o26_0 P) (.node (o42_0 P) .nil .nil) .nil)) (.node (o14_0 P) (.node (o22_0 P) (.node (o38_0 P) .nil .nil) .nil) (.node (o30_0 P) (.node (o46_0 P) .nil .nil) .nil)))))
noncomputable def TD_4 (P : Params) (X : Obj) : BT := (.node (boot_o_0 P) (.node (boot_o_1 P) (.node (o3_5 P) (.node (boot_o_7 P) (.node (o15_0 P) (.node (o31_0 P) .nil .nil) (.node X .nil .nil)) (.node (o23_0 P) (.node (o39_0 P) .nil .nil) .nil)) (.node (o11_0 P) (.node (o19_0 P) (.node (o35_0 P) .nil .nil) .nil) (.node (o27_0 P) (.node (o43_0 P) .nil .nil) .nil))) (.node (boot_o_5 P) (.node (boot_o_9 P) (.node (o17_0 P) (.node (o33_0 P) .nil .nil) (.node (b3sub 2) .nil .nil)) (.node (o25_0 P) (.node (o41_0 P) .nil .nil) .nil)) (.node (o13_0 P) (.node (o21_0 P) (.node (o37_0 P) .nil .nil) .nil) (.node (o29_0 P) (.node (o45_0 P) .nil .nil) .nil)))) (.node (boot_o_2 P) (.node (boot_o_4 P) (.node (boot_o_8 P) (.node (o16_0 P) (.node (o32_0 P) .nil .nil) (.node (b3sub 1) .nil .nil)) (.node (o24_0 P) (.node (o40_0 P) .nil .nil) .nil)) (.node (o12_3 P) (.node (o20_0 P) (.node (o36_0 P) .nil .nil) .nil) (.node (o28_0 P) (.node (o44_0 P) .nil .nil) .nil))) (.node (boot_o_6 P) (.node (boot_o_10 P) (.node (o18_0 P) (.node (o34_0 P) .nil .nil) (.node (b3sub 3) .nil .nil)) (.node (o26_0 P) (.node (o42_0 P) .nil .nil) .nil)) (.node (o14_0 P) (.node (o22_0 P) (.node (o38_0 P) .nil .nil) .nil) (.node (o30_0 P) (.node (o46_0 P) .nil .nil) .nil)))))
noncomputable def TD_5 (P : Params) (X : Obj) : BT := (.node (boot_o_0 P) (.node (boot_o_1 P) (.node (o3_5 P) (.node (boot_o_7 P) (.node (o15_0 P) (.node (o31_0 P) .nil .nil) (.node X .nil .nil)) (.node (o23_0 P) (.node (o39_0 P) .nil .nil) .nil)) (.node (o11_0 P) (.node (o19_0 P) (.node (o35_0 P) .nil .nil) (.node (b3sub 4) .nil .nil)) (.node (o27_0 P) (.node (o43_0 P) .nil .nil) .nil))) (.node (boot_o_5 P) (.node (boot_o_9 P) (.node (o17_0 P) (.node (o33_0 P) .nil .nil) (.node (b3sub 2) .nil .nil)) (.node (o25_0 P) (.node (o41_0 P) .nil .nil) .nil)) (.node (o13_0 P) (.node (o21_0 P) (.node (o37_0 P) .nil .nil) .nil) (.node (o29_0 P) (.node (o45_0 P) .nil .nil) .nil)))) (.node (boot_o_2 P) (.node (boot_o_4 P) (.node (boot_o_8 P) (.node (o16_0 P) (.node (o32_0 P) .nil .nil) (.node (b3sub 1) .nil .nil)) (.node (o24_0 P) (.node (o40_0 P) .nil .nil) .nil)) (.node (o12_3 P) (.node (o20_0 P) (.node (o36_0 P) .nil .nil) .nil) (.node (o28_0 P) (.node (o44_0 P) .nil .nil) .nil))) (.node (boot_o_6 P) (.node (boot_o_10 P) (.node (o18_0 P) (.node (o34_0 P) .nil .nil) (.node (b3sub 3) .nil .nil)) (.node (o26_0 P) (.node (o42_0 P) .nil .nil) .nil)) (.node (o14_0 P) (.node (o22_0 P) (.node (o38_0 P) .nil .nil) .nil) (.node (o30_0 P) (.node (o46_0 P) .nil .nil) .nil)))))
noncomputable def TD_6 (P : Params) (X : Obj) : BT := (.node (boot_o_0 P) (.node (boot_o_1 P) (.node (o3_5 P) (.node (boot_o_7 P) (.node (o15_0 P) (.node (o31_0 P) .nil .nil) (.node X .nil .nil)) (.node (o23_0 P) (.node (o39_0 P) .nil .nil) .nil)) (.node (o11_0 P) (.node (o19_0 P) (.node (o35_0 P) .nil .nil) (.node (b3sub 4) .nil .nil)) (.node (o27_0 P) (.node (o43_0 P) .nil .nil) .nil))) (.node (boot_o_5 P) (.node (boot_o_9 P) (.node (o17_0 P) (.node (o33_0 P) .nil .nil) (.node (b3sub 2) .nil .nil)) (.node (o25_0 P) (.node (o41_0 P) .nil .nil) .nil)) (.node (o13_0 P) (.node (o21_0 P) (.node (o37_0 P) .nil .nil) .nil) (.node (o29_0 P) (.node (o45_0 P) .nil .nil) .nil)))) (.node (boot_o_2 P) (.node (boot_o_4 P) (.node (boot_o_8 P) (.node (o16_0 P) (.node (o32_0 P) .nil .nil) (.node (b3sub 1) .nil .nil)) (.node (o24_0 P) (.node (o40_0 P) .nil .nil) .nil)) (.node (o12_3 P) (.node (o20_0 P) (.node (o36_0 P) .nil .nil) (.node (b3sub 5) .nil .nil)) (.node (o28_0 P) (.node (o44_0 P) .nil .nil) .nil))) (.node (boot_o_6 P) (.node (boot_o_10 P) (.node (o18_0 P) (.node (o34_0 P) .nil .nil) (.node (b3sub 3) .nil .nil)) (.node (o26_0 P) (.node (o42_0 P) .nil .nil) .nil)) (.node (o14_0 P) (.node (o22_0 P) (.node (o38_0 P) .nil .nil) .nil) (.node (o30_0 P) (.node (o46_0 P) .nil .nil) .nil)))))
noncomputable def TD_7 (P : Params) (X : Obj) : BT := (.node (boot_o_0 P) (.node (boot_o_1 P) (.node (o3_5 P) (.node (boot_o_7 P) (.node (o15_0 P) (.node (o31_0 P) .nil .nil) (.node X .nil .nil)) (.node (o23_0 P) (.node (o39_0 P) .nil .nil) .nil)) (.node (o11_0 P) (.node (o19_0 P) (.node (o35_0 P) .nil .nil) (.node (b3sub 4) .nil .nil)) (.node (o27_0 P) (.node (o43_0 P) .nil .nil) .nil))) (.node (boot_o_5 P) (.node (boot_o_9 P) (.node (o17_0 P) (.node (o33_0 P) .nil .nil) (.node (b3sub 2) .nil .nil)) (.node (o25_0 P) (.node (o41_0 P) .nil .nil) .nil)) (.node (o13_0 P) (.node (o21_0 P) (.node (o37_0 P) .nil .nil) (.node (b3sub 6) .nil .nil)) (.node (o29_0 P) (.node (o45_0 P) .nil .nil) .nil)))) (.node (boot_o_2 P) (.node (boot_o_4 P) (.node (boot_o_8 P) (.node (o16_0 P) (.node (o32_0 P) .nil .nil) (.node (b3sub 1) .nil .nil)) (.node (o24_0 P) (.node (o40_0 P) .nil .nil) .nil)) (.node (o12_3 P) (.node (o20_0 P) (.node (o36_0 P) .nil .nil) (.node (b3sub 5) .nil .nil)) (.node (o28_0 P) (.node (o44_0 P) .nil .nil) .nil))) (.node (boot_o_6 P) (.node (boot_o_10 P) (.node (o18_0 P) (.node (o34_0 P) .nil .nil) (.node (b3sub 3) .nil .nil)) (.node (o26_0 P) (.node (o42_0 P) .nil .nil) .nil)) (.node (o14_0 P) (.node (o22_0 P) (.node (o38_0 P) .nil .nil) .nil) (.node (o30_0 P) (.node (o46_0 P) .nil .nil) .nil)))))
noncomputable def TD_8 (P : Params) (X : Obj) : BT := (.node (boot_o_0 P) (.node (boot_o_1 P) (.node (o3_5 P) (.node (boot_o_7 P) (.node (o15_0 P) (.node (o31_0 P) .nil .nil) (.node X .nil .nil)) (.node (o23_0 P) (.node (o39_0 P) .nil .nil) .nil)) (.node (o11_0 P) (.node (o19_0 P) (.node (o35_0 P) .nil .nil) (.node (b3sub 4) .nil .nil)) (.node (o27_0 P) (.node (o43_0 P) .nil .nil) .nil))) (.node (boot_o_5 P) (.node (boot_o_9 P) (.node (o17_0 P) (.node (o33_0 P) .nil .nil) (.node (b3sub 2) .nil .nil)) (.node (o25_0 P) (.node (o41_0 P) .nil .nil) .nil)) (.node (o13_0 P) (.node (o21_0 P) (.node (o37_0 P) .nil .nil) (.node (b3sub 6) .nil .nil)) (.node (o29_0 P) (.node (o45_0 P) .nil .nil) .nil)))) (.node (boot_o_2 P) (.node (boot_o_4 P) (.node (boot_o_8 P) (.node (o16_0 P) (.node (o32_0 P) .nil .nil) (.node (b3sub 1) .nil .nil)) (.node (o24_0 P) (.node (o40_0 P) .nil .nil) .nil)) (.node (o12_3 P) (.node (o20_0 P) (.node (o36_0 P) .nil .nil) (.node (b3sub 5) .nil .nil)) (.node (o28_0 P) (.node (o44_0 P) .nil .nil) .nil))) (.node (boot_o_6 P) (.node (boot_o_10 P) (.node (o18_0 P) (.node (o34_0 P) .nil .nil) (.node (b3sub 3) .nil .nil)) (.node (o26_0 P) (.node (o42_0 P) .nil .nil) .nil)) (.node (o14_0 P) (.node (o22_0 P) (.node (o38_0 P) .nil .nil) (.node (b3sub 7) .nil .nil)) (.node (o30_0 P) (.node (o46_0 P) .nil .nil) .nil)))))
noncomputable def TD_9 (P : Params) (X : Obj) : BT := (.node (boot_o_0 P) (.node (boot_o_1 P) (.node (o3_5 P) (.node (boot_o_7 P) (.node (o15_0 P) (.node (o31_0 P) .nil .nil) (.node X .nil .nil)) (.node (o23_0 P) (.node (o39_0 P) .nil .nil) (.node (b3sub 8) .nil .nil))) (.node (o11_0 P) (.node (o19_0 P) (.node (o35_0 P) .nil .nil) (.node (b3sub 4) .nil .nil)) (.node (o27_0 P) (.node (o43_0 P) .nil .nil) .nil))) (.node (boot_o_5 P) (.node (boot_o_9 P) (.node (o17_0 P) (.node (o33_0 P) .nil .nil) (.node (b3sub 2) .nil .nil)) (.node (o25_0 P) (.node (o41_0 P) .nil .nil) .nil)) (.node (o13_0 P) (.node (o21_0 P) (.node (o37_0 P) .nil .nil) (.node (b3sub 6) .nil .nil)) (.node (o29_0 P) (.node (o45_0 P) .nil .nil) .nil)))) (.node (boot_o_2 P) (.node (boot_o_4 P) (.node (boot_o_8 P) (.node (o16_0 P) (.node (o32_0 P) .nil .nil) (.node (b3sub 1) .nil .nil)) (.node (o24_0 P) (.node (o40_0 P) .nil .nil) .nil)) (.node (o12_3 P) (.node (o20_0 P) (.node (o36_0 P) .nil .nil) (.node (b3sub 5) .nil .nil)) (.node (o28_0 P) (.node (o44_0 P) .nil .nil) .nil))) (.node (boot_o_6 P) (.node (boot_o_10 P) (.node (o18_0 P) (.node (o34_0 P) .nil .nil) (.node (b3sub 3) .nil .nil)) (.node (o26_0 P) (.node (o42_0 P) .nil .nil) .nil)) (.node (o14_0 P) (.node (o22_0 P) (.node (o38_0 P) .nil .nil) (.node (b3sub 7) .nil .nil)) (.node (o30_0 P) (.node (o46_0 P) .nil .nil) .nil)))))
noncomputable def TD_10 (P : Params) (X : Obj) : BT := (.node (boot_o_0 P) (.node (boot_o_1 P) (.node (o3_5 P) (.node (boot_o_7 P) (.node (o15_0 P) (.node (o31_0 P) .nil .nil) (.node X .nil .nil)) (.node (o23_0 P) (.node (o39_0 P) .nil .nil) (.node (b3sub 8) .nil .nil))) (.node (o11_0 P) (.node (o19_0 P) (.node (o35_0 P) .nil .nil) (.node (b3sub 4) .nil .nil)) (.node (o27_0 P) (.node (o43_0 P) .nil .nil) .nil))) (.node (boot_o_5 P) (.node (boot_o_9 P) (.node (o17_0 P) (.node (o33_0 P) .nil .nil) (.node (b3sub 2) .nil .nil)) (.node (o25_0 P) (.node (o41_0 P) .nil .nil) .nil)) (.node (o13_0 P) (.node (o21_0 P) (.node (o37_0 P) .nil .nil) (.node (b3sub 6) .nil .nil)) (.node (o29_0 P) (.node (o45_0 P) .nil .nil) .nil)))) (.node (boot_o_2 P) (.node (boot_o_4 P) (.node (boot_o_8 P) (.node (o16_0 P) (.node (o32_0 P) .nil .nil) (.node (b3sub 1) .nil .nil)) (.node (o24_0 P) (.node (o40_0 P) .nil .nil) (.node (b3sub 9) .nil .nil))) (.node (o12_3 P) (.node (o20_0 P) (.node (o36_0 P) .nil .nil) (.node (b3sub 5) .nil .nil)) (.node (o28_0 P) (.node (o44_0 P) .nil .nil) .nil))) (.node (boot_o_6 P) (.node (boot_o_10 P) (.node (o18_0 P) (.node (o34_0 P) .nil .nil) (.node (b3sub 3) .nil .nil)) (.node (o26_0 P) (.node (o42_0 P) .nil .nil) .nil)) (.node (o14_0 P) (.node (o22_0 P) (.node (o38_0 P) .nil .nil) (.node (b3sub 7) .nil .nil)) (.node (o30_0 P) (.node (o46_0 P) .nil .nil) .nil)))))
noncomputable def TD_11 (P : Params) (X : Obj) : BT := (.node (boot_o_0 P) (.node (boot_o_1 P) (.node (o3_5 P) (.node (boot_o_7 P) (.node (o15_0 P) (.node (o31_0 P) .nil .nil) (.node X .nil .nil)) (.node (o23_0 P) (.node (o39_0 P) .nil .nil) (.node (b3sub 8) .nil .nil))) (.node (o11_0 P) (.node (o19_0 P) (.node (o35_0 P) .nil .nil) (.node (b3sub 4) .nil .nil)) (.node (o27_0 P) (.node (o43_0 P) .nil .nil) .nil))) (.node (boot_o_5 P) (.node (boot_o_9 P) (.node (o17_0 P) (.node (o33_0 P) .nil .nil) (.node (b3sub 2) .nil .nil)) (.node (o25_0 P) (.node (o41_0 P) .nil .nil) (.node (b3sub 10) .nil .nil))) (.node (o13_0 P) (.node (o21_0 P) (.node (o37_0 P) .nil .nil) (.node (b3sub 6) .nil .nil)) (.node (o29_0 P) (.node (o45_0 P) .nil .nil) .nil)))) (.node (boot_o_2 P) (.node (boot_o_4 P) (.node (boot_o_8 P) (.node (o16_0 P) (.node (o32_0 P) .nil .nil) (.node (b3sub 1) .nil .nil)) (.node (o24_0 P) (.node (o40_0 P) .nil .nil) (.node (b3sub 9) .nil .nil))) (.node (o12_3 P) (.node (o20_0 P) (.node (o36_0 P) .nil .nil) (.node (b3sub 5) .nil .nil)) (.node (o28_0 P) (.node (o44_0 P) .nil .nil) .nil))) (.node (boot_o_6 P) (.node (boot_o_10 P) (.node (o18_0 P) (.node (o34_0 P) .nil .nil) (.node (b3sub 3) .nil .nil)) (.node (o26_0 P) (.node (o42_0 P) .nil .nil) .nil)) (.node (o14_0 P) (.node (o22_0 P) (.node (o38_0 P) .nil .nil) (.node (b3sub 7) .nil .nil)) (.node (o30_0 P) (.node (o46_0 P) .nil .nil) .nil)))))
noncomputable def TD_12 (P : Params) (X : Obj) : BT := (.node (boot_o_0 P) (.node (boot_o_1 P) (.node (o3_5 P) (.node (boot_o_7 P) (.node (o15_0 P) (.node (o31_0 P) .nil .nil) (.node X .nil .nil)) (.node (o23_0 P) (.node (o39_0 P) .nil .nil) (.node (b3sub 8) .nil .nil))) (.node (o11_0 P) (.node (o19_0 P) (.node (o35_0 P) .nil .nil) (.node (b3sub 4) .nil .nil)) (.node (o27_0 P) (.node (o43_0 P) .nil .nil) .nil))) (.node (boot_o_5 P) (.node (boot_o_9 P) (.node (o17_0 P) (.node (o33_0 P) .nil .nil) (.node (b3sub 2) .nil .nil)) (.node (o25_0 P) (.node (o41_0 P) .nil .nil) (.node (b3sub 10) .nil .nil))) (.node (o13_0 P) (.node (o21_0 P) (.node (o37_0 P) .nil .nil) (.node (b3sub 6) .nil .nil)) (.node (o29_0 P) (.node (o45_0 P) .nil .nil) .nil)))) (.node (boot_o_2 P) (.node (boot_o_4 P) (.node (boot_o_8 P) (.node (o16_0 P) (.node (o32_0 P) .nil .nil) (.node (b3sub 1) .nil .nil)) (.node (o24_0 P) (.node (o40_0 P) .nil .nil) (.node (b3sub 9) .nil .nil))) (.node (o12_3 P) (.node (o20_0 P) (.node (o36_0 P) .nil .nil) (.node (b3sub 5) .nil .nil)) (.node (o28_0 P) (.node (o44_0 P) .nil .nil) .nil))) (.node (boot_o_6 P) (.node (boot_o_10 P) (.node (o18_0 P) (.node (o34_0 P) .nil .nil) (.node (b3sub 3) .nil .nil)) (.node (o26_0 P) (.node (o42_0 P) .nil .nil) (.node (b3sub 11) .nil .nil))) (.node (o14_0 P) (.node (o22_0 P) (.node (o38_0 P) .nil .nil) (.node (b3sub 7) .nil .nil)) (.node (o30_0 P) (.node (o46_0 P) .nil .nil) .nil)))))
noncomputable def TD_13 (P : Params) (X : Obj) : BT := (.node (boot_o_0 P) (.node (boot_o_1 P) (.node (o3_5 P) (.node (boot_o_7 P) (.node (o15_0 P) (.node (o31_0 P) .nil .nil) (.node X .nil .nil)) (.node (o23_0 P) (.node (o39_0 P) .nil .nil) (.node (b3sub 8) .nil .nil))) (.node (o11_0 P) (.node (o19_0 P) (.node (o35_0 P) .nil .nil) (.node (b3sub 4) .nil .nil)) (.node (o27_0 P) (.node (o43_0 P) .nil .nil) (.node (b3sub 12) .nil .nil)))) (.node (boot_o_5 P) (.node (boot_o_9 P) (.node (o17_0 P) (.node (o33_0 P) .nil .nil) (.node (b3sub 2) .nil .nil)) (.node (o25_0 P) (.node (o41_0 P) .nil .nil) (.node (b3sub 10) .nil .nil))) (.node (o13_0 P) (.node (o21_0 P) (.node (o37_0 P) .nil .nil) (.node (b3sub 6) .nil .nil)) (.node (o29_0 P) (.node (o45_0 P) .nil .nil) .nil)))) (.node (boot_o_2 P) (.node (boot_o_4 P) (.node (boot_o_8 P) (.node (o16_0 P) (.node (o32_0 P) .nil .nil) (.node (b3sub 1) .nil .nil)) (.node (o24_0 P) (.node (o40_0 P) .nil .nil) (.node (b3sub 9) .nil .nil))) (.node (o12_3 P) (.node (o20_0 P) (.node (o36_0 P) .nil .nil) (.node (b3sub 5) .nil .nil)) (.node (o28_0 P) (.node (o44_0 P) .nil .nil) .nil))) (.node (boot_o_6 P) (.node (boot_o_10 P) (.node (o18_0 P) (.node (o34_0 P) .nil .nil) (.node (b3sub 3) .nil .nil)) (.node (o26_0 P) (.node (o42_0 P) .nil .nil) (.node (b3sub 11) .nil .nil))) (.node (o14_0 P) (.node (o22_0 P) (.node (o38_0 P) .nil .nil) (.node (b3sub 7) .nil .nil)) (.node (o30_0 P) (.node (o46_0 P) .nil .nil) .nil)))))
noncomputable def TD_14 (P : Params) (X : Obj) : BT := (.node (boot_o_0 P) (.node (boot_o_1 P) (.node (o3_5 P) (.node (boot_o_7 P) (.node (o15_0 P) (.node (o31_0 P) .nil .nil) (.node X .nil .nil)) (.node (o23_0 P) (.node (o39_0 P) .nil .nil) (.node (b3sub 8) .nil .nil))) (.node (o11_0 P) (.node (o19_0 P) (.node (o35_0 P) .nil .nil) (.node (b3sub 4) .nil .nil)) (.node (o27_0 P) (.node (o43_0 P) .nil .nil) (.node (b3sub 12) .nil .nil)))) (.node (boot_o_5 P) (.node (boot_o_9 P) (.node (o17_0 P) (.node (o33_0 P) .nil .nil) (.node (b3sub 2) .nil .nil)) (.node (o25_0 P) (.node (o41_0 P) .nil .nil) (.node (b3sub 10) .nil .nil))) (.node (o13_0 P) (.node (o21_0 P) (.node (o37_0 P) .nil .nil) (.node (b3sub 6) .nil .nil)) (.node (o29_0 P) (.node (o45_0 P) .nil .nil) .nil)))) (.node (boot_o_2 P) (.node (boot_o_4 P) (.node (boot_o_8 P) (.node (o16_0 P) (.node (o32_0 P) .nil .nil) (.node (b3sub 1) .nil .nil)) (.node (o24_0 P) (.node (o40_0 P) .nil .nil) (.node (b3sub 9) .nil .nil))) (.node (o12_3 P) (.node (o20_0 P) (.node (o36_0 P) .nil .nil) (.node (b3sub 5) .nil .nil)) (.node (o28_0 P) (.node (o44_0 P) .nil .nil) (.node (b3sub 13) .nil .nil)))) (.node (boot_o_6 P) (.node (boot_o_10 P) (.node (o18_0 P) (.node (o34_0 P) .nil .nil) (.node (b3sub 3) .nil .nil)) (.node (o26_0 P) (.node (o42_0 P) .nil .nil) (.node (b3sub 11) .nil .nil))) (.node (o14_0 P) (.node (o22_0 P) (.node (o38_0 P) .nil .nil) (.node (b3sub 7) .nil .nil)) (.node (o30_0 P) (.node (o46_0 P) .nil .nil) .nil)))))
noncomputable def TD_15 (P : Params) (X : Obj) : BT := (.node (boot_o_0 P) (.node (boot_o_1 P) (.node (o3_5 P) (.node (boot_o_7 P) (.node (o15_0 P) (.node (o31_0 P) .nil .nil) (.node X .nil .nil)) (.node (o23_0 P) (.node (o39_0 P) .nil .nil) (.node (b3sub 8) .nil .nil))) (.node (o11_0 P) (.node (o19_0 P) (.node (o35_0 P) .nil .nil) (.node (b3sub 4) .nil .nil)) (.node (o27_0 P) (.node (o43_0 P) .nil .nil) (.node (b3sub 12) .nil .nil)))) (.node (boot_o_5 P) (.node (boot_o_9 P) (.node (o17_0 P) (.node (o33_0 P) .nil .nil) (.node (b3sub 2) .nil .nil)) (.node (o25_0 P) (.node (o41_0 P) .nil .nil) (.node (b3sub 10) .nil .nil))) (.node (o13_0 P) (.node (o21_0 P) (.node (o37_0 P) .nil .nil) (.node (b3sub 6) .nil .nil)) (.node (o29_0 P) (.node (o45_0 P) .nil .nil) (.node (b3sub 14) .nil .nil))))) (.node (boot_o_2 P) (.node (boot_o_4 P) (.node (boot_o_8 P) (.node (o16_0 P) (.node (o32_0 P) .nil .nil) (.node (b3sub 1) .nil .nil)) (.node (o24_0 P) (.node (o40_0 P) .nil .nil) (.node (b3sub 9) .nil .nil))) (.node (o12_3 P) (.node (o20_0 P) (.node (o36_0 P) .nil .nil) (.node (b3sub 5) .nil .nil)) (.node (o28_0 P) (.node (o44_0 P) .nil .nil) (.node (b3sub 13) .nil .nil)))) (.node (boot_o_6 P) (.node (boot_o_10 P) (.node (o18_0 P) (.node (o34_0 P) .nil .nil) (.node (b3sub 3) .nil .nil)) (.node (o26_0 P) (.node (o42_0 P) .nil .nil) (.node (b3sub 11) .nil .nil))) (.node (o14_0 P) (.node (o22_0 P) (.node (o38_0 P) .nil .nil) (.node (b3sub 7) .nil .nil)) (.node (o30_0 P) (.node (o46_0 P) .nil .nil) .nil)))))
noncomputable def TD_16 (P : Params) (X : Obj) : BT := (.node (boot_o_0 P) (.node (boot_o_1 P) (.node (o3_5 P) (.node (boot_o_7 P) (.node (o15_0 P) (.node (o31_0 P) .nil .nil) (.node X .nil .nil)) (.node (o23_0 P) (.node (o39_0 P) .nil .nil) (.node (b3sub 8) .nil .nil))) (.node (o11_0 P) (.node (o19_0 P) (.node (o35_0 P) .nil .nil) (.node (b3sub 4) .nil .nil)) (.node (o27_0 P) (.node (o43_0 P) .nil .nil) (.node (b3sub 12) .nil .nil)))) (.node (boot_o_5 P) (.node (boot_o_9 P) (.node (o17_0 P) (.node (o33_0 P) .nil .nil) (.node (b3sub 2) .nil .nil)) (.node (o25_0 P) (.node (o41_0 P) .nil .nil) (.node (b3sub 10) .nil .nil))) (.node (o13_0 P) (.node (o21_0 P) (.node (o37_0 P) .nil .nil) (.node (b3sub 6) .nil .nil)) (.node (o29_0 P) (.node (o45_0 P) .nil .nil) (.node (b3sub 14) .nil .nil))))) (.node (boot_o_2 P) (.node (boot_o_4 P) (.node (boot_o_8 P) (.node (o16_0 P) (.node (o32_0 P) .nil .nil) (.node (b3sub 1) .nil .nil)) (.node (o24_0 P) (.node (o40_0 P) .nil .nil) (.node (b3sub 9) .nil .nil))) (.node (o12_3 P) (.node (o20_0 P) (.node (o36_0 P) .nil .nil) (.node (b3sub 5) .nil .nil)) (.node (o28_0 P) (.node (o44_0 P) .nil .nil) (.node (b3sub 13) .nil .nil)))) (.node (boot_o_6 P) (.node (boot_o_10 P) (.node (o18_0 P) (.node (o34_0 P) .nil .nil) (.node (b3sub 3) .nil .nil)) (.node (o26_0 P) (.node (o42_0 P) .nil .nil) (.node (b3sub 11) .nil .nil))) (.node (o14_0 P) (.node (o22_0 P) (.node (o38_0 P) .nil .nil) (.node (b3sub 7) .nil .nil)) (.node (o30_0 P) (.node (o46_0 P) .nil .nil) (.node (b3sub 15) .nil .nil))))))
noncomputable def TD_17 (P : Params) (X : Obj) : BT := (.node (boot_o_0 P) (.node (boot_o_1 P) (.node (o3_5 P) (.node (boot_o_7 P) (.node (o15_0 P) (.node (o31_0 P) (.node (b3sub 16) .nil .nil) .nil) (.node X .nil .nil)) (.node (o23_0 P) (.node (o39_0 P) .nil .nil) (.node (b3sub 8) .nil .nil))) (.node (o11_0 P) (.node (o19_0 P) (.node (o35_0 P) .nil .nil) (.node (b3sub 4) .nil .nil)) (.node (o27_0 P) (.node (o43_0 P) .nil .nil) (.node (b3sub 12) .nil .nil)))) (.node (boot_o_5 P) (.node (boot_o_9 P) (.node (o17_0 P) (.node (o33_0 P) .nil .nil) (.node (b3sub 2) .nil .nil)) (.node (o25_0 P) (.node (o41_0 P) .nil .nil) (.node (b3sub 10) .nil .nil))) (.node (o13_0 P) (.node (o21_0 P) (.node (o37_0 P) .nil .nil) (.node (b3sub 6) .nil .nil)) (.node (o29_0 P) (.node (o45_0 P) .nil .nil) (.node (b3sub 14) .nil .nil))))) (.node (boot_o_2 P) (.node (boot_o_4 P) (.node (boot_o_8 P) (.node (o16_0 P) (.node (o32_0 P) .nil .nil) (.node (b3sub 1) .nil .nil)) (.node (o24_0 P) (.node (o40_0 P) .nil .nil) (.node (b3sub 9) .nil .nil))) (.node (o12_3 P) (.node (o20_0 P) (.node (o36_0 P) .nil .nil) (.node (b3sub 5) .nil .nil)) (.node (o28_0 P) (.node (o44_0 P) .nil .nil) (.node (b3sub 13) .nil .nil)))) (.node (boot_o_6 P) (.node (boot_o_10 P) (.node (o18_0 P) (.node (o34_0 P) .nil .nil) (.node (b3sub 3) .nil .nil)) (.node (o26_0 P) (.node (o42_0 P) .nil .nil) (.node (b3sub 11) .nil .nil))) (.node (o14_0 P) (.node (o22_0 P) (.node (o38_0 P) .nil .nil) (.node (b3sub 7) .nil .nil)) (.node (o30_0 P) (.node (o46_0 P) .nil .nil) (.node (b3sub 15) .nil .nil))))))
noncomputable def TD_18 (P : Params) (X : Obj) : BT := (.node (boot_o_0 P) (.node (boot_o_1 P) (.node (o3_5 P) (.node (boot_o_7 P) (.node (o15_0 P) (.node (o31_0 P) (.node (b3sub 16) .nil .nil) .nil) (.node X .nil .nil)) (.node (o23_0 P) (.node (o39_0 P) .nil .nil) (.node (b3sub 8) .nil .nil))) (.node (o11_0 P) (.node (o19_0 P) (.node (o35_0 P) .nil .nil) (.node (b3sub 4) .nil .nil)) (.node (o27_0 P) (.node (o43_0 P) .nil .nil) (.node (b3sub 12) .nil .nil)))) (.node (boot_o_5 P) (.node (boot_o_9 P) (.node (o17_0 P) (.node (o33_0 P) .nil .nil) (.node (b3sub 2) .nil .nil)) (.node (o25_0 P) (.node (o41_0 P) .nil .nil) (.node (b3sub 10) .nil .nil))) (.node (o13_0 P) (.node (o21_0 P) (.node (o37_0 P) .nil .nil) (.node (b3sub 6) .nil .nil)) (.node (o29_0 P) (.node (o45_0 P) .nil .nil) (.node (b3sub 14) .nil .nil))))) (.node (boot_o_2 P) (.node (boot_o_4 P) (.node (boot_o_8 P) (.node (o16_0 P) (.node (o32_0 P) (.node (b3sub 17) .nil .nil) .nil) (.node (b3sub 1) .nil .nil)) (.node (o24_0 P) (.node (o40_0 P) .nil .nil) (.node (b3sub 9) .nil .nil))) (.node (o12_3 P) (.node (o20_0 P) (.node (o36_0 P) .nil .nil) (.node (b3sub 5) .nil .nil)) (.node (o28_0 P) (.node (o44_0 P) .nil .nil) (.node (b3sub 13) .nil .nil)))) (.node (boot_o_6 P) (.node (boot_o_10 P) (.node (o18_0 P) (.node (o34_0 P) .nil .nil) (.node (b3sub 3) .nil .nil)) (.node (o26_0 P) (.node (o42_0 P) .nil .nil) (.node (b3sub 11) .nil .nil))) (.node (o14_0 P) (.node (o22_0 P) (.node (o38_0 P) .nil .nil) (.node (b3sub 7) .nil .nil)) (.node (o30_0 P) (.node (o46_0 P) .nil .nil) (.node (b3sub 15) .nil .nil))))))
noncomputable def TD_19 (P : Params) (X : Obj) : BT := (.node (boot_o_0 P) (.node (boot_o_1 P) (.node (o3_5 P) (.node (boot_o_7 P) (.node (o15_0 P) (.node (o31_0 P) (.node (b3sub 16) .nil .nil) .nil) (.node X .nil .nil)) (.node (o23_0 P) (.node (o39_0 P) .nil .nil) (.node (b3sub 8) .nil .nil))) (.node (o11_0 P) (.node (o19_0 P) (.node (o35_0 P) .nil .nil) (.node (b3sub 4) .nil .nil)) (.node (o27_0 P) (.node (o43_0 P) .nil .nil) (.node (b3sub 12) .nil .nil)))) (.node (boot_o_5 P) (.node (boot_o_9 P) (.node (o17_0 P) (.node (o33_0 P) (.node (b3sub 18) .nil .nil) .nil) (.node (b3sub 2) .nil .nil)) (.node (o25_0 P) (.node (o41_0 P) .nil .nil) (.node (b3sub 10) .nil .nil))) (.node (o13_0 P) (.node (o21_0 P) (.node (o37_0 P) .nil .nil) (.node (b3sub 6) .nil .nil)) (.node (o29_0 P) (.node (o45_0 P) .nil .nil) (.node (b3sub 14) .nil .nil))))) (.node (boot_o_2 P) (.node (boot_o_4 P) (.node (boot_o_8 P) (.node (o16_0 P) (.node (o32_0 P) (.node (b3sub 17) .nil .nil) .nil) (.node (b3sub 1) .nil .nil)) (.node (o24_0 P) (.node (o40_0 P) .nil .nil) (.node (b3sub 9) .nil .nil))) (.node (o12_3 P) (.node (o20_0 P) (.node (o36_0 P) .nil .nil) (.node (b3sub 5) .nil .nil)) (.node (o28_0 P) (.node (o44_0 P) .nil .nil) (.node (b3sub 13) .nil .nil)))) (.node (boot_o_6 P) (.node (boot_o_10 P) (.node (o18_0 P) (.node (o34_0 P) .nil .nil) (.node (b3sub 3) .nil .nil)) (.node (o26_0 P) (.node (o42_0 P) .nil .nil) (.node (b3sub 11) .nil .nil))) (.node (o14_0 P) (.node (o22_0 P) (.node (o38_0 P) .nil .nil) (.node (b3sub 7) .nil .nil)) (.node (o30_0 P) (.node (o46_0 P) .nil .nil) (.node (b3sub 15) .nil .nil))))))
noncomputable def TD_20 (P : Params) (X : Obj) : BT := (.node (boot_o_0 P) (.node (boot_o_1 P) (.node (o3_5 P) (.node (boot_o_7 P) (.node (o15_0 P) (.node (o31_0 P) (.node (b3sub 16) .nil .nil) .nil) (.node X .nil .nil)) (.node (o23_0 P) (.node (o39_0 P) .nil .nil) (.node (b3sub 8) .nil .nil))) (.node (o11_0 P) (.node (o19_0 P) (.node (o35_0 P) .nil .nil) (.node (b3sub 4) .nil .nil)) (.node (o27_0 P) (.node (o43_0 P) .nil .nil) (.node (b3sub 12) .nil .nil)))) (.node (boot_o_5 P) (.node (boot_o_9 P) (.node (o17_0 P) (.node (o33_0 P) (.node (b3sub 18) .nil .nil) .nil) (.node (b3sub 2) .nil .nil)) (.node (o25_0 P) (.node (o41_0 P) .nil .nil) (.node (b3sub 10) .nil .nil))) (.node (o13_0 P) (.node (o21_0 P) (.node (o37_0 P) .nil .nil) (.node (b3sub 6) .nil .nil)) (.node (o29_0 P) (.node (o45_0 P) .nil .nil) (.node (b3sub 14) .nil .nil))))) (.node (boot_o_2 P) (.node (boot_o_4 P) (.node (boot_o_8 P) (.node (o16_0 P) (.node (o32_0 P) (.node (b3sub 17) .nil .nil) .nil) (.node (b3sub 1) .nil .nil)) (.node (o24_0 P) (.node (o40_0 P) .nil .nil) (.node (b3sub 9) .nil .nil))) (.node (o12_3 P) (.node (o20_0 P) (.node (o36_0 P) .nil .nil) (.node (b3sub 5) .nil .nil)) (.node (o28_0 P) (.node (o44_0 P) .nil .nil) (.node (b3sub 13) .nil .nil)))) (.node (boot_o_6 P) (.node (boot_o_10 P) (.node (o18_0 P) (.node (o34_0 P) (.node (b3sub 19) .nil .nil) .nil) (.node (b3sub 3) .nil .nil)) (.node (o26_0 P) (.node (o42_0 P) .nil .nil) (.node (b3sub 11) .nil .nil))) (.node (o14_0 P) (.node (o22_0 P) (.node (o38_0 P) .nil .nil) (.node (b3sub 7) .nil .nil)) (.node (o30_0 P) (.node (o46_0 P) .nil .nil) (.node (b3sub 15) .nil .nil))))))
noncomputable def TD_21 (P : Params) (X : Obj) : BT := (.node (boot_o_0 P) (.node (boot_o_1 P) (.node (o3_5 P) (.node (boot_o_7 P) (.node (o15_0 P) (.node (o31_0 P) (.node (b3sub 16) .nil .nil) .nil) (.node X .nil .nil)) (.node (o23_0 P) (.node (o39_0 P) .nil .nil) (.node (b3sub 8) .nil .nil))) (.node (o11_0 P) (.node (o19_0 P) (.node (o35_0 P) (.node (b3sub 20) .nil .nil) .nil) (.node (b3sub 4) .nil .nil)) (.node (o27_0 P) (.node (o43_0 P) .nil .nil) (.node (b3sub 12) .nil .nil)))) (.node (boot_o_5 P) (.node (boot_o_9 P) (.node (o17_0 P) (.node (o33_0 P) (.node (b3sub 18) .nil .nil) .nil) (.node (b3sub 2) .nil .nil)) (.node (o25_0 P) (.node (o41_0 P) .nil .nil) (.node (b3sub 10) .nil .nil))) (.node (o13_0 P) (.node (o21_0 P) (.node (o37_0 P) .nil .nil) (.node (b3sub 6) .nil .nil)) (.node (o29_0 P) (.node (o45_0 P) .nil .nil) (.node (b3sub 14) .nil .nil))))) (.node (boot_o_2 P) (.node (boot_o_4 P) (.node (boot_o_8 P) (.node (o16_0 P) (.node (o32_0 P) (.node (b3sub 17) .nil .nil) .nil) (.node (b3sub 1) .nil .nil)) (.node (o24_0 P) (.node (o40_0 P) .nil .nil) (.node (b3sub 9) .nil .nil))) (.node (o12_3 P) (.node (o20_0 P) (.node (o36_0 P) .nil .nil) (.node (b3sub 5) .nil .nil)) (.node (o28_0 P) (.node (o44_0 P) .nil .nil) (.node (b3sub 13) .nil .nil)))) (.node (boot_o_6 P) (.node (boot_o_10 P) (.node (o18_0 P) (.node (o34_0 P) (.node (b3sub 19) .nil .nil) .nil) (.node (b3sub 3) .nil .nil)) (.node (o26_0 P) (.node (o42_0 P) .nil .nil) (.node (b3sub 11) .nil .nil))) (.node (o14_0 P) (.node (o22_0 P) (.node (o38_0 P) .nil .nil) (.node (b3sub 7) .nil .nil)) (.node (o30_0 P) (.node (o46_0 P) .nil .nil) (.node (b3sub 15) .nil .nil))))))
noncomputable def TD_22 (P : Params) (X : Obj) : BT := (.node (boot_o_0 P) (.node (boot_o_1 P) (.node (o3_5 P) (.node (boot_o_7 P) (.node (o15_0 P) (.node (o31_0 P) (.node (b3sub 16) .nil .nil) .nil) (.node X .nil .nil)) (.node (o23_0 P) (.node (o39_0 P) .nil .nil) (.node (b3sub 8) .nil .nil))) (.node (o11_0 P) (.node (o19_0 P) (.node (o35_0 P) (.node (b3sub 20) .nil .nil) .nil) (.node (b3sub 4) .nil .nil)) (.node (o27_0 P) (.node (o43_0 P) .nil .nil) (.node (b3sub 12) .nil .nil)))) (.node (boot_o_5 P) (.node (boot_o_9 P) (.node (o17_0 P) (.node (o33_0 P) (.node (b3sub 18) .nil .nil) .nil) (.node (b3sub 2) .nil .nil)) (.node (o25_0 P) (.node (o41_0 P) .nil .nil) (.node (b3sub 10) .nil .nil))) (.node (o13_0 P) (.node (o21_0 P) (.node (o37_0 P) .nil .nil) (.node (b3sub 6) .nil .nil)) (.node (o29_0 P) (.node (o45_0 P) .nil .nil) (.node (b3sub 14) .nil .nil))))) (.node (boot_o_2 P) (.node (boot_o_4 P) (.node (boot_o_8 P) (.node (o16_0 P) (.node (o32_0 P) (.node (b3sub 17) .nil .nil) .nil) (.node (b3sub 1) .nil .nil)) (.node (o24_0 P) (.node (o40_0 P) .nil .nil) (.node (b3sub 9) .nil .nil))) (.node (o12_3 P) (.node (o20_0 P) (.node (o36_0 P) (.node (b3sub 21) .nil .nil) .nil) (.node (b3sub 5) .nil .nil)) (.node (o28_0 P) (.node (o44_0 P) .nil .nil) (.node (b3sub 13) .nil .nil)))) (.node (boot_o_6 P) (.node (boot_o_10 P) (.node (o18_0 P) (.node (o34_0 P) (.node (b3sub 19) .nil .nil) .nil) (.node (b3sub 3) .nil .nil)) (.node (o26_0 P) (.node (o42_0 P) .nil .nil) (.node (b3sub 11) .nil .nil))) (.node (o14_0 P) (.node (o22_0 P) (.node (o38_0 P) .nil .nil) (.node (b3sub 7) .nil .nil)) (.node (o30_0 P) (.node (o46_0 P) .nil .nil) (.node (b3sub 15) .nil .nil))))))
noncomputable def TD_23 (P : Params) (X : Obj) : BT := (.node (boot_o_0 P) (.node (boot_o_1 P) (.node (o3_5 P) (.node (boot_o_7 P) (.node (o15_0 P) (.node (o31_0 P) (.node (b3sub 16) .nil .nil) .nil) (.node X .nil .nil)) (.node (o23_0 P) (.node (o39_0 P) .nil .nil) (.node (b3sub 8) .nil .nil))) (.node (o11_0 P) (.node (o19_0 P) (.node (o35_0 P) (.node (b3sub 20) .nil .nil) .nil) (.node (b3sub 4) .nil .nil)) (.node (o27_0 P) (.node (o43_0 P) .nil .nil) (.node (b3sub 12) .nil .nil)))) (.node (boot_o_5 P) (.node (boot_o_9 P) (.node (o17_0 P) (.node (o33_0 P) (.node (b3sub 18) .nil .nil) .nil) (.node (b3sub 2) .nil .nil)) (.node (o25_0 P) (.node (o41_0 P) .nil .nil) (.node (b3sub 10) .nil .nil))) (.node (o13_0 P) (.node (o21_0 P) (.node (o37_0 P) (.node (b3sub 22) .nil .nil) .nil) (.node (b3sub 6) .nil .nil)) (.node (o29_0 P) (.node (o45_0 P) .nil .nil) (.node (b3sub 14) .nil .nil))))) (.node (boot_o_2 P) (.node (boot_o_4 P) (.node (boot_o_8 P) (.node (o16_0 P) (.node (o32_0 P) (.node (b3sub 17) .nil .nil) .nil) (.node (b3sub 1) .nil .nil)) (.node (o24_0 P) (.node (o40_0 P) .nil .nil) (.node (b3sub 9) .nil .nil))) (.node (o12_3 P) (.node (o20_0 P) (.node (o36_0 P) (.node (b3sub 21) .nil .nil) .nil) (.node (b3sub 5) .nil .nil)) (.node (o28_0 P) (.node (o44_0 P) .nil .nil) (.node (b3sub 13) .nil .nil)))) (.node (boot_o_6 P) (.node (boot_o_10 P) (.node (o18_0 P) (.node (o34_0 P) (.node (b3sub 19) .nil .nil) .nil) (.node (b3sub 3) .nil .nil)) (.node (o26_0 P) (.node (o42_0 P) .nil .nil) (.node (b3sub 11) .nil .nil))) (.node (o14_0 P) (.node (o22_0 P) (.node (o38_0 P) .nil .nil) (.node (b3sub 7) .nil .nil)) (.node (o30_0 P) (.node (o46_0 P) .nil .nil) (.node (b3sub 15) .nil .nil))))))
noncomputable def TD_24 (P : Params) (X : Obj) : BT := (.node (boot_o_0 P) (.node (boot_o_1 P) (.node (o3_5 P) (.node (boot_o_7 P) (.node (o15_0 P) (.node (o31_0 P) (.node (b3sub 16) .nil .nil) .nil) (.node X .nil .nil)) (.node (o23_0 P) (.node (o39_0 P) .nil .nil) (.node (b3sub 8) .nil .nil))) (.node (o11_0 P) (.node (o19_0 P) (.node (o35_0 P) (.node (b3sub 20) .nil .nil) .nil) (.node (b3sub 4) .nil .nil)) (.node (o27_0 P) (.node (o43_0 P) .nil .nil) (.node (b3sub 12) .nil .nil)))) (.node (boot_o_5 P) (.node (boot_o_9 P) (.node (o17_0 P) (.node (o33_0 P) (.node (b3sub 18) .nil .nil) .nil) (.node (b3sub 2) .nil .nil)) (.node (o25_0 P) (.node (o41_0 P) .nil .nil) (.node (b3sub 10) .nil .nil))) (.node (o13_0 P) (.node (o21_0 P) (.node (o37_0 P) (.node (b3sub 22) .nil .nil) .nil) (.node (b3sub 6) .nil .nil)) (.node (o29_0 P) (.node (o45_0 P) .nil .nil) (.node (b3sub 14) .nil .nil))))) (.node (boot_o_2 P) (.node (boot_o_4 P) (.node (boot_o_8 P) (.node (o16_0 P) (.node (o32_0 P) (.node (b3sub 17) .nil .nil) .nil) (.node (b3sub 1) .nil .nil)) (.node (o24_0 P) (.node (o40_0 P) .nil .nil) (.node (b3sub 9) .nil .nil))) (.node (o12_3 P) (.node (o20_0 P) (.node (o36_0 P) (.node (b3sub 21) .nil .nil) .nil) (.node (b3sub 5) .nil .nil)) (.node (o28_0 P) (.node (o44_0 P) .nil .nil) (.node (b3sub 13) .nil .nil)))) (.node (boot_o_6 P) (.node (boot_o_10 P) (.node (o18_0 P) (.node (o34_0 P) (.node (b3sub 19) .nil .nil) .nil) (.node (b3sub 3) .nil .nil)) (.node (o26_0 P) (.node (o42_0 P) .nil .nil) (.node (b3sub 11) .nil .nil))) (.node (o14_0 P) (.node (o22_0 P) (.node (o38_0 P) (.node (b3sub 23) .nil .nil) .nil) (.node (b3sub 7) .nil .nil)) (.node (o30_0 P) (.node (o46_0 P) .nil .nil) (.node (b3sub 15) .nil .nil))))))
noncomputable def TD_25 (P : Params) (X : Obj) : BT := (.node (boot_o_0 P) (.node (boot_o_1 P) (.node (o3_5 P) (.node (boot_o_7 P) (.node (o15_0 P) (.node (o31_0 P) (.node (b3sub 16) .nil .nil) .nil) (.node X .nil .nil)) (.node (o23_0 P) (.node (o39_0 P) (.node (b3sub 24) .nil .nil) .nil) (.node (b3sub 8) .nil .nil))) (.node (o11_0 P) (.node (o19_0 P) (.node (o35_0 P) (.node (b3sub 20) .nil .nil) .nil) (.node (b3sub 4) .nil .nil)) (.node (o27_0 P) (.node (o43_0 P) .nil .nil) (.node (b3sub 12) .nil .nil)))) (.node (boot_o_5 P) (.node (boot_o_9 P) (.node (o17_0 P) (.node (o33_0 P) (.node (b3sub 18) .nil .nil) .nil) (.node (b3sub 2) .nil .nil)) (.node (o25_0 P) (.node (o41_0 P) .nil .nil) (.node (b3sub 10) .nil .nil))) (.node (o13_0 P) (.node (o21_0 P) (.node (o37_0 P) (.node (b3sub 22) .nil .nil) .nil) (.node (b3sub 6) .nil .nil)) (.node (o29_0 P) (.node (o45_0 P) .nil .nil) (.node (b3sub 14) .nil .nil))))) (.node (boot_o_2 P) (.node (boot_o_4 P) (.node (boot_o_8 P) (.node (o16_0 P) (.node (o32_0 P) (.node (b3sub 17) .nil .nil) .nil) (.node (b3sub 1) .nil .nil)) (.node (o24_0 P) (.node (o40_0 P) .nil .nil) (.node (b3sub 9) .nil .nil))) (.node (o12_3 P) (.node (o20_0 P) (.node (o36_0 P) (.node (b3sub 21) .nil .nil) .nil) (.node (b3sub 5) .nil .nil)) (.node (o28_0 P) (.node (o44_0 P) .nil .nil) (.node (b3sub 13) .nil .nil)))) (.node (boot_o_6 P) (.node (boot_o_10 P) (.node (o18_0 P) (.node (o34_0 P) (.node (b3sub 19) .nil .nil) .nil) (.node (b3sub 3) .nil .nil)) (.node (o26_0 P) (.node (o42_0 P) .nil .nil) (.node (b3sub 11) .nil .nil))) (.node (o14_0 P) (.node (o22_0 P) (.node (o38_0 P) (.node (b3sub 23) .nil .nil) .nil) (.node (b3sub 7) .nil .nil)) (.node (o30_0 P) (.node (o46_0 P) .nil .nil) (.node (b3sub 15) .nil .nil))))))
noncomputable def TD_26 (P : Params) (X : Obj) : BT := (.node (boot_o_0 P) (.node (boot_o_1 P) (.node (o3_5 P) (.node (boot_o_7 P) (.node (o15_0 P) (.node (o31_0 P) (.node (b3sub 16) .nil .nil) .nil) (.node X .nil .nil)) (.node (o23_0 P) (.node (o39_0 P) (.node (b3sub 24) .nil .nil) .nil) (.node (b3sub 8) .nil .nil))) (.node (o11_0 P) (.node (o19_0 P) (.node (o35_0 P) (.node (b3sub 20) .nil .nil) .nil) (.node (b3sub 4) .nil .nil)) (.node (o27_0 P) (.node (o43_0 P) .nil .nil) (.node (b3sub 12) .nil .nil)))) (.node (boot_o_5 P) (.node (boot_o_9 P) (.node (o17_0 P) (.node (o33_0 P) (.node (b3sub 18) .nil .nil) .nil) (.node (b3sub 2) .nil .nil)) (.node (o25_0 P) (.node (o41_0 P) .nil .nil) (.node (b3sub 10) .nil .nil))) (.node (o13_0 P) (.node (o21_0 P) (.node (o37_0 P) (.node (b3sub 22) .nil .nil) .nil) (.node (b3sub 6) .nil .nil)) (.node (o29_0 P) (.node (o45_0 P) .nil .nil) (.node (b3sub 14) .nil .nil))))) (.node (boot_o_2 P) (.node (boot_o_4 P) (.node (boot_o_8 P) (.node (o16_0 P) (.node (o32_0 P) (.node (b3sub 17) .nil .nil) .nil) (.node (b3sub 1) .nil .nil)) (.node (o24_0 P) (.node (o40_0 P) (.node (b3sub 25) .nil .nil) .nil) (.node (b3sub 9) .nil .nil))) (.node (o12_3 P) (.node (o20_0 P) (.node (o36_0 P) (.node (b3sub 21) .nil .nil) .nil) (.node (b3sub 5) .nil .nil)) (.node (o28_0 P) (.node (o44_0 P) .nil .nil) (.node (b3sub 13) .nil .nil)))) (.node (boot_o_6 P) (.node (boot_o_10 P) (.node (o18_0 P) (.node (o34_0 P) (.node (b3sub 19) .nil .nil) .nil) (.node (b3sub 3) .nil .nil)) (.node (o26_0 P) (.node (o42_0 P) .nil .nil) (.node (b3sub 11) .nil .nil))) (.node (o14_0 P) (.node (o22_0 P) (.node (o38_0 P) (.node (b3sub 23) .nil .nil) .nil) (.node (b3sub 7) .nil .nil)) (.node (o30_0 P) (.node (o46_0 P) .nil .nil) (.node (b3sub 15) .nil .nil))))))
noncomputable def TD_27 (P : Params) (X : Obj) : BT := (.node (boot_o_0 P) (.node (boot_o_1 P) (.node (o3_5 P) (.node (boot_o_7 P) (.node (o15_0 P) (.node (o31_0 P) (.node (b3sub 16) .nil .nil) .nil) (.node X .nil .nil)) (.node (o23_0 P) (.node (o39_0 P) (.node (b3sub 24) .nil .nil) .nil) (.node (b3sub 8) .nil .nil))) (.node (o11_0 P) (.node (o19_0 P) (.node (o35_0 P) (.node (b3sub 20) .nil .nil) .nil) (.node (b3sub 4) .nil .nil)) (.node (o27_0 P) (.node (o43_0 P) .nil .nil) (.node (b3sub 12) .nil .nil)))) (.node (boot_o_5 P) (.node (boot_o_9 P) (.node (o17_0 P) (.node (o33_0 P) (.node (b3sub 18) .nil .nil) .nil) (.node (b3sub 2) .nil .nil)) (.node (o25_0 P) (.node (o41_0 P) (.node (b3sub 26) .nil .nil) .nil) (.node (b3sub 10) .nil .nil))) (.node (o13_0 P) (.node (o21_0 P) (.node (o37_0 P) (.node (b3sub 22) .nil .nil) .nil) (.node (b3sub 6) .nil .nil)) (.node (o29_0 P) (.node (o45_0 P) .nil .nil) (.node (b3sub 14) .nil .nil))))) (.node (boot_o_2 P) (.node (boot_o_4 P) (.node (boot_o_8 P) (.node (o16_0 P) (.node (o32_0 P) (.node (b3sub 17) .nil .nil) .nil) (.node (b3sub 1) .nil .nil)) (.node (o24_0 P) (.node (o40_0 P) (.node (b3sub 25) .nil .nil) .nil) (.node (b3sub 9) .nil .nil))) (.node (o12_3 P) (.node (o20_0 P) (.node (o36_0 P) (.node (b3sub 21) .nil .nil) .nil) (.node (b3sub 5) .nil .nil)) (.node (o28_0 P) (.node (o44_0 P) .nil .nil) (.node (b3sub 13) .nil .nil)))) (.node (boot_o_6 P) (.node (boot_o_10 P) (.node (o18_0 P) (.node (o34_0 P) (.node (b3sub 19) .nil .nil) .nil) (.node (b3sub 3) .nil .nil)) (.node (o26_0 P) (.node (o42_0 P) .nil .nil) (.node (b3sub 11) .nil .nil))) (.node (o14_0 P) (.node (o22_0 P) (.node (o38_0 P) (.node (b3sub 23) .nil .nil) .nil) (.node (b3sub 7) .nil .nil)) (.node (o30_0 P) (.node (o46_0 P) .nil .nil) (.node (b3sub 15) .nil .nil))))))
noncomputable def TD_28 (P : Params) (X : Obj) : BT := (.node (boot_o_0 P) (.node (boot_o_1 P) (.node (o3_5 P) (.node (boot_o_7 P) (.node (o15_0 P) (.node (o31_0 P) (.node (b3sub 16) .nil .nil) .nil) (.node X .nil .nil)) (.node (o23_0 P) (.node (o39_0 P) (.node (b3sub 24) .nil .nil) .nil) (.node (b3sub 8) .nil .nil))) (.node (o11_0 P) (.node (o19_0 P) (.node (o35_0 P) (.node (b3sub 20) .nil .nil) .nil) (.node (b3sub 4) .nil .nil)) (.node (o27_0 P) (.node (o43_0 P) .nil .nil) (.node (b3sub 12) .nil .nil)))) (.node (boot_o_5 P) (.node (boot_o_9 P) (.node (o17_0 P) (.node (o33_0 P) (.node (b3sub 18) .nil .nil) .nil) (.node (b3sub 2) .nil .nil)) (.node (o25_0 P) (.node (o41_0 P) (.node (b3sub 26) .nil .nil) .nil) (.node (b3sub 10) .nil .nil))) (.node (o13_0 P) (.node (o21_0 P) (.node (o37_0 P) (.node (b3sub 22) .nil .nil) .nil) (.node (b3sub 6) .nil .nil)) (.node (o29_0 P) (.node (o45_0 P) .nil .nil) (.node (b3sub 14) .nil .nil))))) (.node (boot_o_2 P) (.node (boot_o_4 P) (.node (boot_o_8 P) (.node (o16_0 P) (.node (o32_0 P) (.node (b3sub 17) .nil .nil) .nil) (.node (b3sub 1) .nil .nil)) (.node (o24_0 P) (.node (o40_0 P) (.node (b3sub 25) .nil .nil) .nil) (.node (b3sub 9) .nil .nil))) (.node (o12_3 P) (.node (o20_0 P) (.node (o36_0 P) (.node (b3sub 21) .nil .nil) .nil) (.node (b3sub 5) .nil .nil)) (.node (o28_0 P) (.node (o44_0 P) .nil .nil) (.node (b3sub 13) .nil .nil)))) (.node (boot_o_6 P) (.node (boot_o_10 P) (.node (o18_0 P) (.node (o34_0 P) (.node (b3sub 19) .nil .nil) .nil) (.node (b3sub 3) .nil .nil)) (.node (o26_0 P) (.node (o42_0 P) (.node (b3sub 27) .nil .nil) .nil) (.node (b3sub 11) .nil .nil))) (.node (o14_0 P) (.node (o22_0 P) (.node (o38_0 P) (.node (b3sub 23) .nil .nil) .nil) (.node (b3sub 7) .nil .nil)) (.node (o30_0 P) (.node (o46_0 P) .nil .nil) (.node (b3sub 15) .nil .nil))))))
noncomputable def TD_29 (P : Params) (X : Obj) : BT := (.node (boot_o_0 P) (.node (boot_o_1 P) (.node (o3_5 P) (.node (boot_o_7 P) (.node (o15_0 P) (.node (o31_0 P) (.node (b3sub 16) .nil .nil) .nil) (.node X .nil .nil)) (.node (o23_0 P) (.node (o39_0 P) (.node (b3sub 24) .nil .nil) .nil) (.node (b3sub 8) .nil .nil))) (.node (o11_0 P) (.node (o19_0 P) (.node (o35_0 P) (.node (b3sub 20) .nil .nil) .nil) (.node (b3sub 4) .nil .nil)) (.node (o27_0 P) (.node (o43_0 P) (.node (b3sub 28) .nil .nil) .nil) (.node (b3sub 12) .nil .nil)))) (.node (boot_o_5 P) (.node (boot_o_9 P) (.node (o17_0 P) (.node (o33_0 P) (.node (b3sub 18) .nil .nil) .nil) (.node (b3sub 2) .nil .nil)) (.node (o25_0 P) (.node (o41_0 P) (.node (b3sub 26) .nil .nil) .nil) (.node (b3sub 10) .nil .nil))) (.node (o13_0 P) (.node (o21_0 P) (.node (o37_0 P) (.node (b3sub 22) .nil .nil) .nil) (.node (b3sub 6) .nil .nil)) (.node (o29_0 P) (.node (o45_0 P) .nil .nil) (.node (b3sub 14) .nil .nil))))) (.node (boot_o_2 P) (.node (boot_o_4 P) (.node (boot_o_8 P) (.node (o16_0 P) (.node (o32_0 P) (.node (b3sub 17) .nil .nil) .nil) (.node (b3sub 1) .nil .nil)) (.node (o24_0 P) (.node (o40_0 P) (.node (b3sub 25) .nil .nil) .nil) (.node (b3sub 9) .nil .nil))) (.node (o12_3 P) (.node (o20_0 P) (.node (o36_0 P) (.node (b3sub 21) .nil .nil) .nil) (.node (b3sub 5) .nil .nil)) (.node (o28_0 P) (.node (o44_0 P) .nil .nil) (.node (b3sub 13) .nil .nil)))) (.node (boot_o_6 P) (.node (boot_o_10 P) (.node (o18_0 P) (.node (o34_0 P) (.node (b3sub 19) .nil .nil) .nil) (.node (b3sub 3) .nil .nil)) (.node (o26_0 P) (.node (o42_0 P) (.node (b3sub 27) .nil .nil) .nil) (.node (b3sub 11) .nil .nil))) (.node (o14_0 P) (.node (o22_0 P) (.node (o38_0 P) (.node (b3sub 23) .nil .nil) .nil) (.node (b3sub 7) .nil .nil)) (.node (o30_0 P) (.node (o46_0 P) .nil .nil) (.node (b3sub 15) .nil .nil))))))
noncomputable def TD_30 (P : Params) (X : Obj) : BT := (.node (boot_o_0 P) (.node (boot_o_1 P) (.node (o3_5 P) (.node (boot_o_7 P) (.node (o15_0 P) (.node (o31_0 P) (.node (b3sub 16) .nil .nil) .nil) (.node X .nil .nil)) (.node (o23_0 P) (.node (o39_0 P) (.node (b3sub 24) .nil .nil) .nil) (.node (b3sub 8) .nil .nil))) (.node (o11_0 P) (.node (o19_0 P) (.node (o35_0 P) (.node (b3sub 20) .nil .nil) .nil) (.node (b3sub 4) .nil .nil)) (.node (o27_0 P) (.node (o43_0 P) (.node (b3sub 28) .nil .nil) .nil) (.node (b3sub 12) .nil .nil)))) (.node (boot_o_5 P) (.node (boot_o_9 P) (.node (o17_0 P) (.node (o33_0 P) (.node (b3sub 18) .nil .nil) .nil) (.node (b3sub 2) .nil .nil)) (.node (o25_0 P) (.node (o41_0 P) (.node (b3sub 26) .nil .nil) .nil) (.node (b3sub 10) .nil .nil))) (.node (o13_0 P) (.node (o21_0 P) (.node (o37_0 P) (.node (b3sub 22) .nil .nil) .nil) (.node (b3sub 6) .nil .nil)) (.node (o29_0 P) (.node (o45_0 P) .nil .nil) (.node (b3sub 14) .nil .nil))))) (.node (boot_o_2 P) (.node (boot_o_4 P) (.node (boot_o_8 P) (.node (o16_0 P) (.node (o32_0 P) (.node (b3sub 17) .nil .nil) .nil) (.node (b3sub 1) .nil .nil)) (.node (o24_0 P) (.node (o40_0 P) (.node (b3sub 25) .nil .nil) .nil) (.node (b3sub 9) .nil .nil))) (.node (o12_3 P) (.node (o20_0 P) (.node (o36_0 P) (.node (b3sub 21) .nil .nil) .nil) (.node (b3sub 5) .nil .nil)) (.node (o28_0 P) (.node (o44_0 P) (.node (b3sub 29) .nil .nil) .nil) (.node (b3sub 13) .nil .nil)))) (.node (boot_o_6 P) (.node (boot_o_10 P) (.node (o18_0 P) (.node (o34_0 P) (.node (b3sub 19) .nil .nil) .nil) (.node (b3sub 3) .nil .nil)) (.node (o26_0 P) (.node (o42_0 P) (.node (b3sub 27) .nil .nil) .nil) (.node (b3sub 11) .nil .nil))) (.node (o14_0 P) (.node (o22_0 P) (.node (o38_0 P) (.node (b3sub 23) .nil .nil) .nil) (.node (b3sub 7) .nil .nil)) (.node (o30_0 P) (.node (o46_0 P) .nil .nil) (.node (b3sub 15) .nil .nil))))))
noncomputable def TD_31 (P : Params) (X : Obj) : BT := (.node (boot_o_0 P) (.node (boot_o_1 P) (.node (o3_5 P) (.node (boot_o_7 P) (.node (o15_0 P) (.node (o31_0 P) (.node (b3sub 16) .nil .nil) .nil) (.node X .nil .nil)) (.node (o23_0 P) (.node (o39_0 P) (.node (b3sub 24) .nil .nil) .nil) (.node (b3sub 8) .nil .nil))) (.node (o11_0 P) (.node (o19_0 P) (.node (o35_0 P) (.node (b3sub 20) .nil .nil) .nil) (.node (b3sub 4) .nil .nil)) (.node (o27_0 P) (.node (o43_0 P) (.node (b3sub 28) .nil .nil) .nil) (.node (b3sub 12) .nil .nil)))) (.node (boot_o_5 P) (.node (boot_o_9 P) (.node (o17_0 P) (.node (o33_0 P) (.node (b3sub 18) .nil .nil) .nil) (.node (b3sub 2) .nil .nil)) (.node (o25_0 P) (.node (o41_0 P) (.node (b3sub 26) .nil .nil) .nil) (.node (b3sub 10) .nil .nil))) (.node (o13_0 P) (.node (o21_0 P) (.node (o37_0 P) (.node (b3sub 22) .nil .nil) .nil) (.node (b3sub 6) .nil .nil)) (.node (o29_0 P) (.node (o45_0 P) (.node (b3sub 30) .nil .nil) .nil) (.node (b3sub 14) .nil .nil))))) (.node (boot_o_2 P) (.node (boot_o_4 P) (.node (boot_o_8 P) (.node (o16_0 P) (.node (o32_0 P) (.node (b3sub 17) .nil .nil) .nil) (.node (b3sub 1) .nil .nil)) (.node (o24_0 P) (.node (o40_0 P) (.node (b3sub 25) .nil .nil) .nil) (.node (b3sub 9) .nil .nil))) (.node (o12_3 P) (.node (o20_0 P) (.node (o36_0 P) (.node (b3sub 21) .nil .nil) .nil) (.node (b3sub 5) .nil .nil)) (.node (o28_0 P) (.node (o44_0 P) (.node (b3sub 29) .nil .nil) .nil) (.node (b3sub 13) .nil .nil)))) (.node (boot_o_6 P) (.node (boot_o_10 P) (.node (o18_0 P) (.node (o34_0 P) (.node (b3sub 19) .nil .nil) .nil) (.node (b3sub 3) .nil .nil)) (.node (o26_0 P) (.node (o42_0 P) (.node (b3sub 27) .nil .nil) .nil) (.node (b3sub 11) .nil .nil))) (.node (o14_0 P) (.node (o22_0 P) (.node (o38_0 P) (.node (b3sub 23) .nil .nil) .nil) (.node (b3sub 7) .nil .nil)) (.node (o30_0 P) (.node (o46_0 P) .nil .nil) (.node (b3sub 15) .nil .nil))))))
noncomputable def TD_32 (P : Params) (X : Obj) : BT := (.node (boot_o_0 P) (.node (boot_o_1 P) (.node (o3_5 P) (.node (boot_o_7 P) (.node (o15_0 P) (.node (o31_0 P) (.node (b3sub 16) .nil .nil) .nil) (.node X .nil .nil)) (.node (o23_0 P) (.node (o39_0 P) (.node (b3sub 24) .nil .nil) .nil) (.node (b3sub 8) .nil .nil))) (.node (o11_0 P) (.node (o19_0 P) (.node (o35_0 P) (.node (b3sub 20) .nil .nil) .nil) (.node (b3sub 4) .nil .nil)) (.node (o27_0 P) (.node (o43_0 P) (.node (b3sub 28) .nil .nil) .nil) (.node (b3sub 12) .nil .nil)))) (.node (boot_o_5 P) (.node (boot_o_9 P) (.node (o17_0 P) (.node (o33_0 P) (.node (b3sub 18) .nil .nil) .nil) (.node (b3sub 2) .nil .nil)) (.node (o25_0 P) (.node (o41_0 P) (.node (b3sub 26) .nil .nil) .nil) (.node (b3sub 10) .nil .nil))) (.node (o13_0 P) (.node (o21_0 P) (.node (o37_0 P) (.node (b3sub 22) .nil .nil) .nil) (.node (b3sub 6) .nil .nil)) (.node (o29_0 P) (.node (o45_0 P) (.node (b3sub 30) .nil .nil) .nil) (.node (b3sub 14) .nil .nil))))) (.node (boot_o_2 P) (.node (boot_o_4 P) (.node (boot_o_8 P) (.node (o16_0 P) (.node (o32_0 P) (.node (b3sub 17) .nil .nil) .nil) (.node (b3sub 1) .nil .nil)) (.node (o24_0 P) (.node (o40_0 P) (.node (b3sub 25) .nil .nil) .nil) (.node (b3sub 9) .nil .nil))) (.node (o12_3 P) (.node (o20_0 P) (.node (o36_0 P) (.node (b3sub 21) .nil .nil) .nil) (.node (b3sub 5) .nil .nil)) (.node (o28_0 P) (.node (o44_0 P) (.node (b3sub 29) .nil .nil) .nil) (.node (b3sub 13) .nil .nil)))) (.node (boot_o_6 P) (.node (boot_o_10 P) (.node (o18_0 P) (.node (o34_0 P) (.node (b3sub 19) .nil .nil) .nil) (.node (b3sub 3) .nil .nil)) (.node (o26_0 P) (.node (o42_0 P) (.node (b3sub 27) .nil .nil) .nil) (.node (b3sub 11) .nil .nil))) (.node (o14_0 P) (.node (o22_0 P) (.node (o38_0 P) (.node (b3sub 23) .nil .nil) .nil) (.node (b3sub 7) .nil .nil)) (.node (o30_0 P) (.node (o46_0 P) (.node (b3sub 31) .nil .nil) .nil) (.node (b3sub 15) .nil .nil))))))
noncomputable def TD_33 (P : Params) (X : Obj) : BT := (.node (boot_o_0 P) (.node (boot_o_1 P) (.node (o3_5 P) (.node (boot_o_7 P) (.node (o15_0 P) (.node (o31_0 P) (.node (b3sub 16) .nil .nil) .nil) (.node X (.node (b3sub 32) .nil .nil) .nil)) (.node (o23_0 P) (.node (o39_0 P) (.node (b3sub 24) .nil .nil) .nil) (.node (b3sub 8) .nil .nil))) (.node (o11_0 P) (.node (o19_0 P) (.node (o35_0 P) (.node (b3sub 20) .nil .nil) .nil) (.node (b3sub 4) .nil .nil)) (.node (o27_0 P) (.node (o43_0 P) (.node (b3sub 28) .nil .nil) .nil) (.node (b3sub 12) .nil .nil)))) (.node (boot_o_5 P) (.node (boot_o_9 P) (.node (o17_0 P) (.node (o33_0 P) (.node (b3sub 18) .nil .nil) .nil) (.node (b3sub 2) .nil .nil)) (.node (o25_0 P) (.node (o41_0 P) (.node (b3sub 26) .nil .nil) .nil) (.node (b3sub 10) .nil .nil))) (.node (o13_0 P) (.node (o21_0 P) (.node (o37_0 P) (.node (b3sub 22) .nil .nil) .nil) (.node (b3sub 6) .nil .nil)) (.node (o29_0 P) (.node (o45_0 P) (.node (b3sub 30) .nil .nil) .nil) (.node (b3sub 14) .nil .nil))))) (.node (boot_o_2 P) (.node (boot_o_4 P) (.node (boot_o_8 P) (.node (o16_0 P) (.node (o32_0 P) (.node (b3sub 17) .nil .nil) .nil) (.node (b3sub 1) .nil .nil)) (.node (o24_0 P) (.node (o40_0 P) (.node (b3sub 25) .nil .nil) .nil) (.node (b3sub 9) .nil .nil))) (.node (o12_3 P) (.node (o20_0 P) (.node (o36_0 P) (.node (b3sub 21) .nil .nil) .nil) (.node (b3sub 5) .nil .nil)) (.node (o28_0 P) (.node (o44_0 P) (.node (b3sub 29) .nil .nil) .nil) (.node (b3sub 13) .nil .nil)))) (.node (boot_o_6 P) (.node (boot_o_10 P) (.node (o18_0 P) (.node (o34_0 P) (.node (b3sub 19) .nil .nil) .nil) (.node (b3sub 3) .nil .nil)) (.node (o26_0 P) (.node (o42_0 P) (.node (b3sub 27) .nil .nil) .nil) (.node (b3sub 11) .nil .nil))) (.node (o14_0 P) (.node (o22_0 P) (.node (o38_0 P) (.node (b3sub 23) .nil .nil) .nil) (.node (b3sub 7) .nil .nil)) (.node (o30_0 P) (.node (o46_0 P) (.node (b3sub 31) .nil .nil) .nil) (.node (b3sub 15) .nil .nil))))))
noncomputable def TD_34 (P : Params) (X : Obj) : BT := (.node (boot_o_0 P) (.node (boot_o_1 P) (.node (o3_5 P) (.node (boot_o_7 P) (.node (o15_0 P) (.node (o31_0 P) (.node (b3sub 16) .nil .nil) .nil) (.node X (.node (b3sub 32) .nil .nil) .nil)) (.node (o23_0 P) (.node (o39_0 P) (.node (b3sub 24) .nil .nil) .nil) (.node (b3sub 8) .nil .nil))) (.node (o11_0 P) (.node (o19_0 P) (.node (o35_0 P) (.node (b3sub 20) .nil .nil) .nil) (.node (b3sub 4) .nil .nil)) (.node (o27_0 P) (.node (o43_0 P) (.node (b3sub 28) .nil .nil) .nil) (.node (b3sub 12) .nil .nil)))) (.node (boot_o_5 P) (.node (boot_o_9 P) (.node (o17_0 P) (.node (o33_0 P) (.node (b3sub 18) .nil .nil) .nil) (.node (b3sub 2) .nil .nil)) (.node (o25_0 P) (.node (o41_0 P) (.node (b3sub 26) .nil .nil) .nil) (.node (b3sub 10) .nil .nil))) (.node (o13_0 P) (.node (o21_0 P) (.node (o37_0 P) (.node (b3sub 22) .nil .nil) .nil) (.node (b3sub 6) .nil .nil)) (.node (o29_0 P) (.node (o45_0 P) (.node (b3sub 30) .nil .nil) .nil) (.node (b3sub 14) .nil .nil))))) (.node (boot_o_2 P) (.node (boot_o_4 P) (.node (boot_o_8 P) (.node (o16_0 P) (.node (o32_0 P) (.node (b3sub 17) .nil .nil) .nil) (.node (b3sub 1) (.node (b3sub 33) .nil .nil) .nil)) (.node (o24_0 P) (.node (o40_0 P) (.node (b3sub 25) .nil .nil) .nil) (.node (b3sub 9) .nil .nil))) (.node (o12_3 P) (.node (o20_0 P) (.node (o36_0 P) (.node (b3sub 21) .nil .nil) .nil) (.node (b3sub 5) .nil .nil)) (.node (o28_0 P) (.node (o44_0 P) (.node (b3sub 29) .nil .nil) .nil) (.node (b3sub 13) .nil .nil)))) (.node (boot_o_6 P) (.node (boot_o_10 P) (.node (o18_0 P) (.node (o34_0 P) (.node (b3sub 19) .nil .nil) .nil) (.node (b3sub 3) .nil .nil)) (.node (o26_0 P) (.node (o42_0 P) (.node (b3sub 27) .nil .nil) .nil) (.node (b3sub 11) .nil .nil))) (.node (o14_0 P) (.node (o22_0 P) (.node (o38_0 P) (.node (b3sub 23) .nil .nil) .nil) (.node (b3sub 7) .nil .nil)) (.node (o30_0 P) (.node (o46_0 P) (.node (b3sub 31) .nil .nil) .nil) (.node (b3sub 15) .nil .nil))))))
noncomputable def TD_35 (P : Params) (X : Obj) : BT := (.node (boot_o_0 P) (.node (boot_o_1 P) (.node (o3_5 P) (.node (boot_o_7 P) (.node (o15_0 P) (.node (o31_0 P) (.node (b3sub 16) .nil .nil) .nil) (.node X (.node (b3sub 32) .nil .nil) .nil)) (.node (o23_0 P) (.node (o39_0 P) (.node (b3sub 24) .nil .nil) .nil) (.node (b3sub 8) .nil .nil))) (.node (o11_0 P) (.node (o19_0 P) (.node (o35_0 P) (.node (b3sub 20) .nil .nil) .nil) (.node (b3sub 4) .nil .nil)) (.node (o27_0 P) (.node (o43_0 P) (.node (b3sub 28) .nil .nil) .nil) (.node (b3sub 12) .nil .nil)))) (.node (boot_o_5 P) (.node (boot_o_9 P) (.node (o17_0 P) (.node (o33_0 P) (.node (b3sub 18) .nil .nil) .nil) (.node (b3sub 2) (.node (b3sub 34) .nil .nil) .nil)) (.node (o25_0 P) (.node (o41_0 P) (.node (b3sub 26) .nil .nil) .nil) (.node (b3sub 10) .nil .nil))) (.node (o13_0 P) (.node (o21_0 P) (.node (o37_0 P) (.node (b3sub 22) .nil .nil) .nil) (.node (b3sub 6) .nil .nil)) (.node (o29_0 P) (.node (o45_0 P) (.node (b3sub 30) .nil .nil) .nil) (.node (b3sub 14) .nil .nil))))) (.node (boot_o_2 P) (.node (boot_o_4 P) (.node (boot_o_8 P) (.node (o16_0 P) (.node (o32_0 P) (.node (b3sub 17) .nil .nil) .nil) (.node (b3sub 1) (.node (b3sub 33) .nil .nil) .nil)) (.node (o24_0 P) (.node (o40_0 P) (.node (b3sub 25) .nil .nil) .nil) (.node (b3sub 9) .nil .nil))) (.node (o12_3 P) (.node (o20_0 P) (.node (o36_0 P) (.node (b3sub 21) .nil .nil) .nil) (.node (b3sub 5) .nil .nil)) (.node (o28_0 P) (.node (o44_0 P) (.node (b3sub 29) .nil .nil) .nil) (.node (b3sub 13) .nil .nil)))) (.node (boot_o_6 P) (.node (boot_o_10 P) (.node (o18_0 P) (.node (o34_0 P) (.node (b3sub 19) .nil .nil) .nil) (.node (b3sub 3) .nil .nil)) (.node (o26_0 P) (.node (o42_0 P) (.node (b3sub 27) .nil .nil) .nil) (.node (b3sub 11) .nil .nil))) (.node (o14_0 P) (.node (o22_0 P) (.node (o38_0 P) (.node (b3sub 23) .nil .nil) .nil) (.node (b3sub 7) .nil .nil)) (.node (o30_0 P) (.node (o46_0 P) (.node (b3sub 31) .nil .nil) .nil) (.node (b3sub 15) .nil .nil))))))
noncomputable def TD_36 (P : Params) (X : Obj) : BT := (.node (boot_o_0 P) (.node (boot_o_1 P) (.node (o3_5 P) (.node (boot_o_7 P) (.node (o15_0 P) (.node (o31_0 P) (.node (b3sub 16) .nil .nil) .nil) (.node X (.node (b3sub 32) .nil .nil) .nil)) (.node (o23_0 P) (.node (o39_0 P) (.node (b3sub 24) .nil .nil) .nil) (.node (b3sub 8) .nil .nil))) (.node (o11_0 P) (.node (o19_0 P) (.node (o35_0 P) (.node (b3sub 20) .nil .nil) .nil) (.node (b3sub 4) .nil .nil)) (.node (o27_0 P) (.node (o43_0 P) (.node (b3sub 28) .nil .nil) .nil) (.node (b3sub 12) .nil .nil)))) (.node (boot_o_5 P) (.node (boot_o_9 P) (.node (o17_0 P) (.node (o33_0 P) (.node (b3sub 18) .nil .nil) .nil) (.node (b3sub 2) (.node (b3sub 34) .nil .nil) .nil)) (.node (o25_0 P) (.node (o41_0 P) (.node (b3sub 26) .nil .nil) .nil) (.node (b3sub 10) .nil .nil))) (.node (o13_0 P) (.node (o21_0 P) (.node (o37_0 P) (.node (b3sub 22) .nil .nil) .nil) (.node (b3sub 6) .nil .nil)) (.node (o29_0 P) (.node (o45_0 P) (.node (b3sub 30) .nil .nil) .nil) (.node (b3sub 14) .nil .nil))))) (.node (boot_o_2 P) (.node (boot_o_4 P) (.node (boot_o_8 P) (.node (o16_0 P) (.node (o32_0 P) (.node (b3sub 17) .nil .nil) .nil) (.node (b3sub 1) (.node (b3sub 33) .nil .nil) .nil)) (.node (o24_0 P) (.node (o40_0 P) (.node (b3sub 25) .nil .nil) .nil) (.node (b3sub 9) .nil .nil))) (.node (o12_3 P) (.node (o20_0 P) (.node (o36_0 P) (.node (b3sub 21) .nil .nil) .nil) (.node (b3sub 5) .nil .nil)) (.node (o28_0 P) (.node (o44_0 P) (.node (b3sub 29) .nil .nil) .nil) (.node (b3sub 13) .nil .nil)))) (.node (boot_o_6 P) (.node (boot_o_10 P) (.node (o18_0 P) (.node (o34_0 P) (.node (b3sub 19) .nil .nil) .nil) (.node (b3sub 3) (.node (b3sub 35) .nil .nil) .nil)) (.node (o26_0 P) (.node (o42_0 P) (.node (b3sub 27) .nil .nil) .nil) (.node (b3sub 11) .nil .nil))) (.node (o14_0 P) (.node (o22_0 P) (.node (o38_0 P) (.node (b3sub 23) .nil .nil) .nil) (.node (b3sub 7) .nil .nil)) (.node (o30_0 P) (.node (o46_0 P) (.node (b3sub 31) .nil .nil) .nil) (.node (b3sub 15) .nil .nil))))))
noncomputable def TD_37 (P : Params) (X : Obj) : BT := (.node (boot_o_0 P) (.node (boot_o_1 P) (.node (o3_5 P) (.node (boot_o_7 P) (.node (o15_0 P) (.node (o31_0 P) (.node (b3sub 16) .nil .nil) .nil) (.node X (.node (b3sub 32) .nil .nil) .nil)) (.node (o23_0 P) (.node (o39_0 P) (.node (b3sub 24) .nil .nil) .nil) (.node (b3sub 8) .nil .nil))) (.node (o11_0 P) (.node (o19_0 P) (.node (o35_0 P) (.node (b3sub 20) .nil .nil) .nil) (.node (b3sub 4) (.node (b3sub 36) .nil .nil) .nil)) (.node (o27_0 P) (.node (o43_0 P) (.node (b3sub 28) .nil .nil) .nil) (.node (b3sub 12) .nil .nil)))) (.node (boot_o_5 P) (.node (boot_o_9 P) (.node (o17_0 P) (.node (o33_0 P) (.node (b3sub 18) .nil .nil) .nil) (.node (b3sub 2) (.node (b3sub 34) .nil .nil) .nil)) (.node (o25_0 P) (.node (o41_0 P) (.node (b3sub 26) .nil .nil) .nil) (.node (b3sub 10) .nil .nil))) (.node (o13_0 P) (.node (o21_0 P) (.node (o37_0 P) (.node (b3sub 22) .nil .nil) .nil) (.node (b3sub 6) .nil .nil)) (.node (o29_0 P) (.node (o45_0 P) (.node (b3sub 30) .nil .nil) .nil) (.node (b3sub 14) .nil .nil))))) (.node (boot_o_2 P) (.node (boot_o_4 P) (.node (boot_o_8 P) (.node (o16_0 P) (.node (o32_0 P) (.node (b3sub 17) .nil .nil) .nil) (.node (b3sub 1) (.node (b3sub 33) .nil .nil) .nil)) (.node (o24_0 P) (.node (o40_0 P) (.node (b3sub 25) .nil .nil) .nil) (.node (b3sub 9) .nil .nil))) (.node (o12_3 P) (.node (o20_0 P) (.node (o36_0 P) (.node (b3sub 21) .nil .nil) .nil) (.node (b3sub 5) .nil .nil)) (.node (o28_0 P) (.node (o44_0 P) (.node (b3sub 29) .nil .nil) .nil) (.node (b3sub 13) .nil .nil)))) (.node (boot_o_6 P) (.node (boot_o_10 P) (.node (o18_0 P) (.node (o34_0 P) (.node (b3sub 19) .nil .nil) .nil) (.node (b3sub 3) (.node (b3sub 35) .nil .nil) .nil)) (.node (o26_0 P) (.node (o42_0 P) (.node (b3sub 27) .nil .nil) .nil) (.node (b3sub 11) .nil .nil))) (.node (o14_0 P) (.node (o22_0 P) (.node (o38_0 P) (.node (b3sub 23) .nil .nil) .nil) (.node (b3sub 7) .nil .nil)) (.node (o30_0 P) (.node (o46_0 P) (.node (b3sub 31) .nil .nil) .nil) (.node (b3sub 15) .nil .nil))))))
noncomputable def TD_38 (P : Params) (X : Obj) : BT := (.node (boot_o_0 P) (.node (boot_o_1 P) (.node (o3_5 P) (.node (boot_o_7 P) (.node (o15_0 P) (.node (o31_0 P) (.node (b3sub 16) .nil .nil) .nil) (.node X (.node (b3sub 32) .nil .nil) .nil)) (.node (o23_0 P) (.node (o39_0 P) (.node (b3sub 24) .nil .nil) .nil) (.node (b3sub 8) .nil .nil))) (.node (o11_0 P) (.node (o19_0 P) (.node (o35_0 P) (.node (b3sub 20) .nil .nil) .nil) (.node (b3sub 4) (.node (b3sub 36) .nil .nil) .nil)) (.node (o27_0 P) (.node (o43_0 P) (.node (b3sub 28) .nil .nil) .nil) (.node (b3sub 12) .nil .nil)))) (.node (boot_o_5 P) (.node (boot_o_9 P) (.node (o17_0 P) (.node (o33_0 P) (.node (b3sub 18) .nil .nil) .nil) (.node (b3sub 2) (.node (b3sub 34) .nil .nil) .nil)) (.node (o25_0 P) (.node (o41_0 P) (.node (b3sub 26) .nil .nil) .nil) (.node (b3sub 10) .nil .nil))) (.node (o13_0 P) (.node (o21_0 P) (.node (o37_0 P) (.node (b3sub 22) .nil .nil) .nil) (.node (b3sub 6) .nil .nil)) (.node (o29_0 P) (.node (o45_0 P) (.node (b3sub 30) .nil .nil) .nil) (.node (b3sub 14) .nil .nil))))) (.node (boot_o_2 P) (.node (boot_o_4 P) (.node (boot_o_8 P) (.node (o16_0 P) (.node (o32_0 P) (.node (b3sub 17) .nil .nil) .nil) (.node (b3sub 1) (.node (b3sub 33) .nil .nil) .nil)) (.node (o24_0 P) (.node (o40_0 P) (.node (b3sub 25) .nil .nil) .nil) (.node (b3sub 9) .nil .nil))) (.node (o12_3 P) (.node (o20_0 P) (.node (o36_0 P) (.node (b3sub 21) .nil .nil) .nil) (.node (b3sub 5) (.node (b3sub 37) .nil .nil) .nil)) (.node (o28_0 P) (.node (o44_0 P) (.node (b3sub 29) .nil .nil) .nil) (.node (b3sub 13) .nil .nil)))) (.node (boot_o_6 P) (.node (boot_o_10 P) (.node (o18_0 P) (.node (o34_0 P) (.node (b3sub 19) .nil .nil) .nil) (.node (b3sub 3) (.node (b3sub 35) .nil .nil) .nil)) (.node (o26_0 P) (.node (o42_0 P) (.node (b3sub 27) .nil .nil) .nil) (.node (b3sub 11) .nil .nil))) (.node (o14_0 P) (.node (o22_0 P) (.node (o38_0 P) (.node (b3sub 23) .nil .nil) .nil) (.node (b3sub 7) .nil .nil)) (.node (o30_0 P) (.node (o46_0 P) (.node (b3sub 31) .nil .nil) .nil) (.node (b3sub 15) .nil .nil))))))
noncomputable def TD_39 (P : Params) (X : Obj) : BT := (.node (boot_o_0 P) (.node (boot_o_1 P) (.node (o3_5 P) (.node (boot_o_7 P) (.node (o15_0 P) (.node (o31_0 P) (.node (b3sub 16) .nil .nil) .nil) (.node X (.node (b3sub 32) .nil .nil) .nil)) (.node (o23_0 P) (.node (o39_0 P) (.node (b3sub 24) .nil .nil) .nil) (.node (b3sub 8) .nil .nil))) (.node (o11_0 P) (.node (o19_0 P) (.node (o35_0 P) (.node (b3sub 20) .nil .nil) .nil) (.node (b3sub 4) (.node (b3sub 36) .nil .nil) .nil)) (.node (o27_0 P) (.node (o43_0 P) (.node (b3sub 28) .nil .nil) .nil) (.node (b3sub 12) .nil .nil)))) (.node (boot_o_5 P) (.node (boot_o_9 P) (.node (o17_0 P) (.node (o33_0 P) (.node (b3sub 18) .nil .nil) .nil) (.node (b3sub 2) (.node (b3sub 34) .nil .nil) .nil)) (.node (o25_0 P) (.node (o41_0 P) (.node (b3sub 26) .nil .nil) .nil) (.node (b3sub 10) .nil .nil))) (.node (o13_0 P) (.node (o21_0 P) (.node (o37_0 P) (.node (b3sub 22) .nil .nil) .nil) (.node (b3sub 6) (.node (b3sub 38) .nil .nil) .nil)) (.node (o29_0 P) (.node (o45_0 P) (.node (b3sub 30) .nil .nil) .nil) (.node (b3sub 14) .nil .nil))))) (.node (boot_o_2 P) (.node (boot_o_4 P) (.node (boot_o_8 P) (.node (o16_0 P) (.node (o32_0 P) (.node (b3sub 17) .nil .nil) .nil) (.node (b3sub 1) (.node (b3sub 33) .nil .nil) .nil)) (.node (o24_0 P) (.node (o40_0 P) (.node (b3sub 25) .nil .nil) .nil) (.node (b3sub 9) .nil .nil))) (.node (o12_3 P) (.node (o20_0 P) (.node (o36_0 P) (.node (b3sub 21) .nil .nil) .nil) (.node (b3sub 5) (.node (b3sub 37) .nil .nil) .nil)) (.node (o28_0 P) (.node (o44_0 P) (.node (b3sub 29) .nil .nil) .nil) (.node (b3sub 13) .nil .nil)))) (.node (boot_o_6 P) (.node (boot_o_10 P) (.node (o18_0 P) (.node (o34_0 P) (.node (b3sub 19) .nil .nil) .nil) (.node (b3sub 3) (.node (b3sub 35) .nil .nil) .nil)) (.node (o26_0 P) (.node (o42_0 P) (.node (b3sub 27) .nil .nil) .nil) (.node (b3sub 11) .nil .nil))) (.node (o14_0 P) (.node (o22_0 P) (.node (o38_0 P) (.node (b3sub 23) .nil .nil) .nil) (.node (b3sub 7) .nil .nil)) (.node (o30_0 P) (.node (o46_0 P) (.node (b3sub 31) .nil .nil) .nil) (.node (b3sub 15) .nil .nil))))))
noncomputable def TD (j : Nat) (P : Params) (X : Obj) : BT := match j with
  | 1 => TD_1 P X
  | 2 => TD_2 P X
  | 3 => TD_3 P X
  | 4 => TD_4 P X
  | 5 => TD_5 P X
  | 6 => TD_6 P X
  | 7 => TD_7 P X
  | 8 => TD_8 P X
  | 9 => TD_9 P X
  | 10 => TD_10 P X
  | 11 => TD_11 P X
  | 12 => TD_12 P X
  | 13 => TD_13 P X
  | 14 => TD_14 P X
  | 15 => TD_15 P X
  | 16 => TD_16 P X
  | 17 => TD_17 P X
  | 18 => TD_18 P X
  | 19 => TD_19 P X
  | 20 => TD_20 P X
  | 21 => TD_21 P X
  | 22 => TD_22 P X
  | 23 => TD_23 P X
  | 24 => TD_24 P X
  | 25 => TD_25 P X
  | 26 => TD_26 P X
  | 27 => TD_27 P X
  | 28 => TD_28 P X
  | 29 => TD_29 P X
  | 30 => TD_30 P X
  | 31 => TD_31 P X
  | 32 => TD_32 P X
  | 33 => TD_33 P X
  | 34 => TD_34 P X
  | 35 => TD_35 P X
  | 36 => TD_36 P X
  | 37 => TD_37 P X
  | 38 => TD_38 P X
  | 39 => TD_39 P X
  | _ => .nil
noncomputable def dStm : Stmt := (bod.getD 6 default)
noncomputable def dParts : List (Option PySem.Expr) × List PySem.Expr × Pos := match dStm with
  | .Assign _ (.Dict ks vs pos) _ => (ks, vs, pos)
  | _ => ([], [], default)
noncomputable def dPos : Pos := dParts.2.2
noncomputable def keyEv : List (Sem Value) := dParts.1.filterMap fun k => k.map fun k => eval k env
noncomputable def valEv : List (Sem Value) := dParts.2.1.map fun v => (eval v env).bind fun x => (standAt dPos).bind fun _ => .pure x
noncomputable def pairs : List (Sem Value × Sem Value) := keyEv.zip valEv
noncomputable def grp (j : Nat) : List (Sem Value × Sem Value) := (pairs.drop (17 * j)).take 17
end Mine
end
end
section
set_option Elab.async false
set_option linter.unusedVariables false
set_option maxRecDepth 100000
set_option maxHeartbeats 0
open PySem PySem.W PyProof.Rows
noncomputable section
namespace Mine
noncomputable def run0 (w : World) (os : OsState) := segRunT treeTable prog w (nat_lit 11) annE (nat_lit 1) (nat_lit 30) (S_block w os) (piecesOf (stm (nat_lit 0)) env cE ⟨0, 0, 0, 0⟩ tB)
noncomputable def res0 (w : World) (os : OsState) : Option (Flow × SharedT × Code × Pos) := some (.next, S_p0 w os, cE, ⟨1, 0, 3, 12⟩)
theorem piece0 : ∀ (w : World), run0 w = res0 w := fun w => by
  unfold run0 piecesOf
  rw [PySem.W.Fast.te10110043849684766642, PySem.W.Fast.te14364793385576792824, PySem.W.Fast.te12563942051412417395]
  kernel_rfl
noncomputable def run1 (w : World) (os : OsState) := segRunT treeTable prog w (nat_lit 11) annE (nat_lit 1) (nat_lit 10) (S_p0 w os) (piecesOf (stm (nat_lit 1)) env cE ⟨1, 0, 3, 12⟩ tB)
noncomputable def res1 (w : World) (os : OsState) : Option (Flow × SharedT × Code × Pos) := some (.next, S_p1 w os, cE, ⟨4, 0, 4, 8⟩)
theorem piece1 : ∀ (w : World), run1 w = res1 w := fun w => by
  unfold run1 piecesOf
  rw [PySem.W.Fast.te10110043849684766642, PySem.W.Fast.te14364793385576792824, PySem.W.Fast.te12563942051412417395]
  kernel_rfl
noncomputable def run2 (w : World) (os : OsState) := segRunT treeTable prog w (nat_lit 11) annE (nat_lit 1) (nat_lit 33) (S_p1 w os) (piecesOf (stm (nat_lit 2)) env cE ⟨4, 0, 4, 8⟩ tB)
noncomputable def res2 (w : World) (os : OsState) : Option (Flow × SharedT × Code × Pos) := some (.next, S_p2 w os, cE, ⟨5, 0, 14, 27⟩)
theorem piece2 : ∀ (w : World), run2 w = res2 w := fun w => by
  unfold run2 piecesOf
  rw [PySem.W.Fast.te10110043849684766642, PySem.W.Fast.te14364793385576792824, PySem.W.Fast.te12563942051412417395]
  kernel_rfl
noncomputable def run3 (w : World) (os : OsState) := segRunT treeTable prog w (nat_lit 11) annE (nat_lit 1) (nat_lit 10) (S_p2 w os) (piecesOf (stm (nat_lit 3)) env cE ⟨5, 0, 14, 27⟩ tB)
noncomputable def res3 (w : World) (os : OsState) : Option (Flow × SharedT × Code × Pos) := some (.next, S_p3 w os, cE, ⟨15, 0, 15, 8⟩)
theorem piece3 : ∀ (w : World), run3 w = res3 w := fun w => by
  unfold run3 piecesOf
  rw [PySem.W.Fast.te10110043849684766642, PySem.W.Fast.te14364793385576792824, PySem.W.Fast.te12563942051412417395]
  kernel_rfl
noncomputable def run5 (w : World) (os : OsState) := segRunT treeTable prog w (nat_lit 11) annE (nat_lit 1) (nat_lit 30) (S_p4 w os) (piecesOf (stm (nat_lit 5)) env cE ⟨16, 0, 16, 6⟩ tB)
noncomputable def res5 (w : World) (os : OsState) : Option (Flow × SharedT × Code × Pos) := some (.next, S_p5 w os, cE, ⟨17, 0, 18, 30⟩)
theorem piece5 : ∀ (w : World), run5 w = res5 w := fun w => by
  unfold run5 piecesOf
  rw [PySem.W.Fast.te10110043849684766642, PySem.W.Fast.te14364793385576792824, PySem.W.Fast.te12563942051412417395]
  kernel_rfl
noncomputable def run7 (w : World) (os : OsState) := segRunT treeTable prog w (nat_lit 11) annE (nat_lit 1) (nat_lit 31) (S_p6 w os) (piecesOf (stm (nat_lit 7)) env cE ⟨19, 0, 19, 13⟩ tB)
noncomputable def res7 (w : World) (os : OsState) : Option (Flow × SharedT × Code × Pos) := some (.next, S_p7 w os, cE, ⟨20, 0, 24, 23⟩)
theorem piece7 : ∀ (w : World), run7 w = res7 w := fun w => by
  unfold run7 piecesOf
  rw [PySem.W.Fast.te10110043849684766642, PySem.W.Fast.te14364793385576792824, PySem.W.Fast.te12563942051412417395]
  kernel_rfl
noncomputable def run8 (w : World) (os : OsState) := segRunT treeTable prog w (nat_lit 11) annE (nat_lit 1) (nat_lit 10) (S_p7 w os) (piecesOf (stm (nat_lit 8)) env cE ⟨20, 0, 24, 23⟩ tB)
noncomputable def res8 (w : World) (os : OsState) : Option (Flow × SharedT × Code × Pos) := some (.next, S_p8 w os, cE, ⟨25, 0, 25, 8⟩)
theorem piece8 : ∀ (w : World), run8 w = res8 w := fun w => by
  unfold run8 piecesOf
  rw [PySem.W.Fast.te10110043849684766642, PySem.W.Fast.te14364793385576792824, PySem.W.Fast.te12563942051412417395]
  kernel_rfl
noncomputable def run10 (w : World) (os : OsState) := segRunT treeTable prog w (nat_lit 11) annE (nat_lit 1) (nat_lit 10) (S_p9 w os) (piecesOf (stm (nat_lit 10)) env cE ⟨26, 0, 81, 16⟩ tB)
noncomputable def res10 (w : World) (os : OsState) : Option (Flow × SharedT × Code × Pos) := some (.next, S_p10 w os, cE, ⟨82, 0, 82, 8⟩)
theorem piece10 : ∀ (w : World), run10 w = res10 w := fun w => by
  unfold run10 piecesOf
  rw [PySem.W.Fast.te10110043849684766642, PySem.W.Fast.te14364793385576792824, PySem.W.Fast.te12563942051412417395]
  kernel_rfl
noncomputable def run11 (w : World) (os : OsState) := segRunT treeTable prog w (nat_lit 11) annE (nat_lit 1) (nat_lit 27) (S_p10 w os) (piecesOf (stm (nat_lit 11)) env cE ⟨82, 0, 82, 8⟩ tB)
noncomputable def res11 (w : World) (os : OsState) : Option (Flow × SharedT × Code × Pos) := some (.next, S_p11 w os, cE, ⟨83, 0, 86, 87⟩)
theorem piece11 : ∀ (w : World), run11 w = res11 w := fun w => by
  unfold run11 piecesOf
  rw [PySem.W.Fast.te10110043849684766642, PySem.W.Fast.te14364793385576792824, PySem.W.Fast.te12563942051412417395]
  kernel_rfl
noncomputable def run12 (w : World) (os : OsState) := segRunT treeTable prog w (nat_lit 11) annE (nat_lit 1) (nat_lit 33) (S_p11 w os) (piecesOf (stm (nat_lit 12)) env cE ⟨83, 0, 86, 87⟩ tB)
noncomputable def res12 (w : World) (os : OsState) : Option (Flow × SharedT × Code × Pos) := some (.next, S_p12 w os, cE, ⟨87, 0, 94, 17⟩)
theorem piece12 : ∀ (w : World), run12 w = res12 w := fun w => by
  unfold run12 piecesOf
  rw [PySem.W.Fast.te10110043849684766642, PySem.W.Fast.te14364793385576792824, PySem.W.Fast.te12563942051412417395]
  kernel_rfl
noncomputable def run13 (w : World) (os : OsState) := segRunT treeTable prog w (nat_lit 11) annE (nat_lit 1) (nat_lit 34) (S_p12 w os) (piecesOf (stm (nat_lit 13)) env cE ⟨87, 0, 94, 17⟩ tB)
noncomputable def res13 (w : World) (os : OsState) : Option (Flow × SharedT × Code × Pos) := some (.next, S_p13 w os, cE, ⟨95, 0, 110, 25⟩)
theorem piece13 : ∀ (w : World), run13 w = res13 w := fun w => by
  unfold run13 piecesOf
  rw [PySem.W.Fast.te10110043849684766642, PySem.W.Fast.te14364793385576792824, PySem.W.Fast.te12563942051412417395]
  kernel_rfl
noncomputable def run14 (w : World) (os : OsState) := segRunT treeTable prog w (nat_lit 11) annE (nat_lit 1) (nat_lit 27) (S_p13 w os) (piecesOf (stm (nat_lit 14)) env cE ⟨95, 0, 110, 25⟩ tB)
noncomputable def res14 (w : World) (os : OsState) : Option (Flow × SharedT × Code × Pos) := some (.next, S_p14 w os, cE, ⟨111, 0, 134, 62⟩)
theorem piece14 : ∀ (w : World), run14 w = res14 w := fun w => by
  unfold run14 piecesOf
  rw [PySem.W.Fast.te10110043849684766642, PySem.W.Fast.te14364793385576792824, PySem.W.Fast.te12563942051412417395]
  kernel_rfl
end Mine
end
end
section
set_option Elab.async false
set_option linter.unusedVariables false
set_option maxRecDepth 100000
set_option maxHeartbeats 0
open PySem PySem.W PyProof.Rows
noncomputable section
namespace Mine
noncomputable def run4 (w : World) (os : OsState) := segRunT treeTable prog w (nat_lit 11) annE (nat_lit 1) (nat_lit 999) (S_p3 w os) (piecesOf (stm (nat_lit 4)) env cE ⟨15, 0, 15, 8⟩ tB)
noncomputable def res4 (w : World) (os : OsState) : Option (Flow × SharedT × Code × Pos) := some (.next, S_p4 w os, cE, ⟨16, 0, 16, 6⟩)
theorem piece4_false_false : ∀ (w : World), run4 ((w.withFollow "special-get-raises" false).withFollow "set-order" false) = res4 ((w.withFollow "special-get-raises" false).withFollow "set-order" false) := fun w => by
  unfold run4 piecesOf
  rw [PySem.W.Fast.te10110043849684766642, PySem.W.Fast.te14364793385576792824, PySem.W.Fast.te12563942051412417395]
  kernel_rfl
theorem piece4_false_true : ∀ (w : World), run4 ((w.withFollow "special-get-raises" true).withFollow "set-order" false) = res4 ((w.withFollow "special-get-raises" true).withFollow "set-order" false) := fun w => by
  unfold run4 piecesOf
  rw [PySem.W.Fast.te10110043849684766642, PySem.W.Fast.te14364793385576792824, PySem.W.Fast.te12563942051412417395]
  kernel_rfl
theorem piece4_true_false : ∀ (w : World), run4 ((w.withFollow "special-get-raises" false).withFollow "set-order" true) = res4 ((w.withFollow "special-get-raises" false).withFollow "set-order" true) := fun w => by
  unfold run4 piecesOf
  rw [PySem.W.Fast.te10110043849684766642, PySem.W.Fast.te14364793385576792824, PySem.W.Fast.te12563942051412417395]
  kernel_rfl
theorem piece4_true_true : ∀ (w : World), run4 ((w.withFollow "special-get-raises" true).withFollow "set-order" true) = res4 ((w.withFollow "special-get-raises" true).withFollow "set-order" true) := fun w => by
  unfold run4 piecesOf
  rw [PySem.W.Fast.te10110043849684766642, PySem.W.Fast.te14364793385576792824, PySem.W.Fast.te12563942051412417395]
  kernel_rfl
theorem piece4_false : ∀ (w : World), run4 (w.withFollow "set-order" false) = res4 (w.withFollow "set-order" false) := byRow2 "special-get-raises" (P := fun w => run4 (w.withFollow "set-order" false) = res4 (w.withFollow "set-order" false)) piece4_false_false piece4_false_true
theorem piece4_true : ∀ (w : World), run4 (w.withFollow "set-order" true) = res4 (w.withFollow "set-order" true) := byRow2 "special-get-raises" (P := fun w => run4 (w.withFollow "set-order" true) = res4 (w.withFollow "set-order" true)) piece4_true_false piece4_true_true
theorem piece4 : ∀ (w : World), run4 w = res4 w := byRow2 "set-order" (P := fun w => run4 w = res4 w) piece4_false piece4_true
end Mine
end
end
section
set_option Elab.async false
set_option linter.unusedVariables false
set_option maxRecDepth 100000
set_option maxHeartbeats 0
open PySem PySem.W PyProof.Rows
noncomputable section
namespace Mine
noncomputable def run9 (w : World) (os : OsState) := segRunT treeTable prog w (nat_lit 11) annE (nat_lit 1) (nat_lit 493) (S_p8 w os) (piecesOf (stm (nat_lit 9)) env cE ⟨25, 0, 25, 8⟩ tB)
noncomputable def res9 (w : World) (os : OsState) : Option (Flow × SharedT × Code × Pos) := some (.next, S_p9 w os, cE, ⟨26, 0, 81, 16⟩)
theorem piece9_false : ∀ (w : World), run9 (w.withFollow "special-get-raises" false) = res9 (w.withFollow "special-get-raises" false) := fun w => by
  unfold run9 piecesOf
  rw [PySem.W.Fast.te10110043849684766642, PySem.W.Fast.te14364793385576792824, PySem.W.Fast.te12563942051412417395]
  kernel_rfl
theorem piece9_true : ∀ (w : World), run9 (w.withFollow "special-get-raises" true) = res9 (w.withFollow "special-get-raises" true) := fun w => by
  unfold run9 piecesOf
  rw [PySem.W.Fast.te10110043849684766642, PySem.W.Fast.te14364793385576792824, PySem.W.Fast.te12563942051412417395]
  kernel_rfl
theorem piece9 : ∀ (w : World), run9 w = res9 w := byRow2 "special-get-raises" (P := fun w => run9 w = res9 w) piece9_false piece9_true
end Mine
end
end
section
set_option Elab.async false
set_option linter.unusedVariables false
set_option maxRecDepth 100000
set_option maxHeartbeats 0
open PySem PySem.W PyProof.Rows
noncomputable section
namespace Mine
noncomputable def runSub (j st tk : Nat) (w : World) (os : OsState) (lv : List Value → List Value) (K : Addr → Sem PySem.Fin) (H : Value → Sem PySem.Fin) (gd : Bool → Bool) (X : Obj) := segGoT treeTable prog w (nat_lit 11) annE (nat_lit 1) st ⟨TD j w.params X, 47 + j, theLife, #[], theDrawn, tk, os⟩ ⟨(holding [.ref 47] (subDict (grp j))).wrap K H gd lv, cE, dPos, tB⟩
noncomputable def resSub (j n tk a : Nat) (w : World) (os : OsState) (K : Addr → Sem PySem.Fin) (X : Obj) : Option (SharedT × Thread) := some (⟨TD j w.params X, n, theLife, #[], theDrawn, tk, os⟩, ⟨K a, cE, dPos, tB⟩)
theorem sub1_false : ∀ (w : World) os lv K H gd X, runSub (nat_lit 1) (nat_lit 223) (nat_lit 326) (w.withFollow "special-get-raises" false) os lv K H gd X = resSub (nat_lit 2) (nat_lit 49) (nat_lit 377) (nat_lit 48) (w.withFollow "special-get-raises" false) os K X := fun _ _ _ _ _ _ _ => by
  unfold runSub
  rw [PySem.W.Fast.te10295753902157049106, PySem.W.Fast.te14364793385576792824, PySem.W.Fast.te17359229931016689406, PySem.W.Fast.te11913375310210876947]
  kernel_rfl
theorem sub1_true : ∀ (w : World) os lv K H gd X, runSub (nat_lit 1) (nat_lit 223) (nat_lit 326) (w.withFollow "special-get-raises" true) os lv K H gd X = resSub (nat_lit 2) (nat_lit 49) (nat_lit 377) (nat_lit 48) (w.withFollow "special-get-raises" true) os K X := fun _ _ _ _ _ _ _ => by
  unfold runSub
  rw [PySem.W.Fast.te10295753902157049106, PySem.W.Fast.te14364793385576792824, PySem.W.Fast.te17359229931016689406, PySem.W.Fast.te11913375310210876947]
  kernel_rfl
theorem sub2_false : ∀ (w : World) os lv K H gd X, runSub (nat_lit 2) (nat_lit 223) (nat_lit 377) (w.withFollow "special-get-raises" false) os lv K H gd X = resSub (nat_lit 3) (nat_lit 50) (nat_lit 428) (nat_lit 49) (w.withFollow "special-get-raises" false) os K X := fun _ _ _ _ _ _ _ => by
  unfold runSub
  rw [PySem.W.Fast.te10295753902157049106, PySem.W.Fast.te14364793385576792824, PySem.W.Fast.te17359229931016689406, PySem.W.Fast.te11913375310210876947]
  kernel_rfl
theorem sub2_true : ∀ (w : World) os lv K H gd X, runSub (nat_lit 2) (nat_lit 223) (nat_lit 377) (w.withFollow "special-get-raises" true) os lv K H gd X = resSub (nat_lit 3) (nat_lit 50) (nat_lit 428) (nat_lit 49) (w.withFollow "special-get-raises" true) os K X := fun _ _ _ _ _ _ _ => by
  unfold runSub
  rw [PySem.W.Fast.te10295753902157049106, PySem.W.Fast.te14364793385576792824, PySem.W.Fast.te17359229931016689406, PySem.W.Fast.te11913375310210876947]
  kernel_rfl
theorem sub3_false : ∀ (w : World) os lv K H gd X, runSub (nat_lit 3) (nat_lit 223) (nat_lit 428) (w.withFollow "special-get-raises" false) os lv K H gd X = resSub (nat_lit 4) (nat_lit 51) (nat_lit 479) (nat_lit 50) (w.withFollow "special-get-raises" false) os K X := fun _ _ _ _ _ _ _ => by
  unfold runSub
  rw [PySem.W.Fast.te10295753902157049106, PySem.W.Fast.te14364793385576792824, PySem.W.Fast.te17359229931016689406, PySem.W.Fast.te11913375310210876947]
  kernel_rfl
theorem sub3_true : ∀ (w : World) os lv K H gd X, runSub (nat_lit 3) (nat_lit 223) (nat_lit 428) (w.withFollow "special-get-raises" true) os lv K H gd X = resSub (nat_lit 4) (nat_lit 51) (nat_lit 479) (nat_lit 50) (w.withFollow "special-get-raises" true) os K X := fun _ _ _ _ _ _ _ => by
  unfold runSub
  rw [PySem.W.Fast.te10295753902157049106, PySem.W.Fast.te14364793385576792824, PySem.W.Fast.te17359229931016689406, PySem.W.Fast.te11913375310210876947]
  kernel_rfl
theorem sub4_false : ∀ (w : World) os lv K H gd X, runSub (nat_lit 4) (nat_lit 223) (nat_lit 479) (w.withFollow "special-get-raises" false) os lv K H gd X = resSub (nat_lit 5) (nat_lit 52) (nat_lit 530) (nat_lit 51) (w.withFollow "special-get-raises" false) os K X := fun _ _ _ _ _ _ _ => by
  unfold runSub
  rw [PySem.W.Fast.te10295753902157049106, PySem.W.Fast.te14364793385576792824, PySem.W.Fast.te17359229931016689406, PySem.W.Fast.te11913375310210876947]
  kernel_rfl
theorem sub4_true : ∀ (w : World) os lv K H gd X, runSub (nat_lit 4) (nat_lit 223) (nat_lit 479) (w.withFollow "special-get-raises" true) os lv K H gd X = resSub (nat_lit 5) (nat_lit 52) (nat_lit 530) (nat_lit 51) (w.withFollow "special-get-raises" true) os K X := fun _ _ _ _ _ _ _ => by
  unfold runSub
  rw [PySem.W.Fast.te10295753902157049106, PySem.W.Fast.te14364793385576792824, PySem.W.Fast.te17359229931016689406, PySem.W.Fast.te11913375310210876947]
  kernel_rfl
theorem sub5_false : ∀ (w : World) os lv K H gd X, runSub (nat_lit 5) (nat_lit 223) (nat_lit 530) (w.withFollow "special-get-raises" false) os lv K H gd X = resSub (nat_lit 6) (nat_lit 53) (nat_lit 581) (nat_lit 52) (w.withFollow "special-get-raises" false) os K X := fun _ _ _ _ _ _ _ => by
  unfold runSub
  rw [PySem.W.Fast.te10295753902157049106, PySem.W.Fast.te14364793385576792824, PySem.W.Fast.te17359229931016689406, PySem.W.Fast.te11913375310210876947]
  kernel_rfl
theorem sub5_true : ∀ (w : World) os lv K H gd X, runSub (nat_lit 5) (nat_lit 223) (nat_lit 530) (w.withFollow "special-get-raises" true) os lv K H gd X = resSub (nat_lit 6) (nat_lit 53) (nat_lit 581) (nat_lit 52) (w.withFollow "special-get-raises" true) os K X := fun _ _ _ _ _ _ _ => by
  unfold runSub
  rw [PySem.W.Fast.te10295753902157049106, PySem.W.Fast.te14364793385576792824, PySem.W.Fast.te17359229931016689406, PySem.W.Fast.te11913375310210876947]
  kernel_rfl
theorem sub6_false : ∀ (w : World) os lv K H gd X, runSub (nat_lit 6) (nat_lit 223) (nat_lit 581) (w.withFollow "special-get-raises" false) os lv K H gd X = resSub (nat_lit 7) (nat_lit 54) (nat_lit 632) (nat_lit 53) (w.withFollow "special-get-raises" false) os K X := fun _ _ _ _ _ _ _ => by
  unfold runSub
  rw [PySem.W.Fast.te10295753902157049106, PySem.W.Fast.te14364793385576792824, PySem.W.Fast.te17359229931016689406, PySem.W.Fast.te11913375310210876947]
  kernel_rfl
theorem sub6_true : ∀ (w : World) os lv K H gd X, runSub (nat_lit 6) (nat_lit 223) (nat_lit 581) (w.withFollow "special-get-raises" true) os lv K H gd X = resSub (nat_lit 7) (nat_lit 54) (nat_lit 632) (nat_lit 53) (w.withFollow "special-get-raises" true) os K X := fun _ _ _ _ _ _ _ => by
  unfold runSub
  rw [PySem.W.Fast.te10295753902157049106, PySem.W.Fast.te14364793385576792824, PySem.W.Fast.te17359229931016689406, PySem.W.Fast.te11913375310210876947]
  kernel_rfl
theorem sub7_false : ∀ (w : World) os lv K H gd X, runSub (nat_lit 7) (nat_lit 223) (nat_lit 632) (w.withFollow "special-get-raises" false) os lv K H gd X = resSub (nat_lit 8) (nat_lit 55) (nat_lit 683) (nat_lit 54) (w.withFollow "special-get-raises" false) os K X := fun _ _ _ _ _ _ _ => by
  unfold runSub
  rw [PySem.W.Fast.te10295753902157049106, PySem.W.Fast.te14364793385576792824, PySem.W.Fast.te17359229931016689406, PySem.W.Fast.te11913375310210876947]
  kernel_rfl
theorem sub7_true : ∀ (w : World) os lv K H gd X, runSub (nat_lit 7) (nat_lit 223) (nat_lit 632) (w.withFollow "special-get-raises" true) os lv K H gd X = resSub (nat_lit 8) (nat_lit 55) (nat_lit 683) (nat_lit 54) (w.withFollow "special-get-raises" true) os K X := fun _ _ _ _ _ _ _ => by
  unfold runSub
  rw [PySem.W.Fast.te10295753902157049106, PySem.W.Fast.te14364793385576792824, PySem.W.Fast.te17359229931016689406, PySem.W.Fast.te11913375310210876947]
  kernel_rfl
theorem sub8_false : ∀ (w : World) os lv K H gd X, runSub (nat_lit 8) (nat_lit 223) (nat_lit 683) (w.withFollow "special-get-raises" false) os lv K H gd X = resSub (nat_lit 9) (nat_lit 56) (nat_lit 734) (nat_lit 55) (w.withFollow "special-get-raises" false) os K X := fun _ _ _ _ _ _ _ => by
  unfold runSub
  rw [PySem.W.Fast.te10295753902157049106, PySem.W.Fast.te14364793385576792824, PySem.W.Fast.te17359229931016689406, PySem.W.Fast.te11913375310210876947]
  kernel_rfl
theorem sub8_true : ∀ (w : World) os lv K H gd X, runSub (nat_lit 8) (nat_lit 223) (nat_lit 683) (w.withFollow "special-get-raises" true) os lv K H gd X = resSub (nat_lit 9) (nat_lit 56) (nat_lit 734) (nat_lit 55) (w.withFollow "special-get-raises" true) os K X := fun _ _ _ _ _ _ _ => by
  unfold runSub
  rw [PySem.W.Fast.te10295753902157049106, PySem.W.Fast.te14364793385576792824, PySem.W.Fast.te17359229931016689406, PySem.W.Fast.te11913375310210876947]
  kernel_rfl
theorem sub9_false : ∀ (w : World) os lv K H gd X, runSub (nat_lit 9) (nat_lit 223) (nat_lit 734) (w.withFollow "special-get-raises" false) os lv K H gd X = resSub (nat_lit 10) (nat_lit 57) (nat_lit 785) (nat_lit 56) (w.withFollow "special-get-raises" false) os K X := fun _ _ _ _ _ _ _ => by
  unfold runSub
  rw [PySem.W.Fast.te10295753902157049106, PySem.W.Fast.te14364793385576792824, PySem.W.Fast.te17359229931016689406, PySem.W.Fast.te11913375310210876947]
  kernel_rfl
theorem sub9_true : ∀ (w : World) os lv K H gd X, runSub (nat_lit 9) (nat_lit 223) (nat_lit 734) (w.withFollow "special-get-raises" true) os lv K H gd X = resSub (nat_lit 10) (nat_lit 57) (nat_lit 785) (nat_lit 56) (w.withFollow "special-get-raises" true) os K X := fun _ _ _ _ _ _ _ => by
  unfold runSub
  rw [PySem.W.Fast.te10295753902157049106, PySem.W.Fast.te14364793385576792824, PySem.W.Fast.te17359229931016689406, PySem.W.Fast.te11913375310210876947]
  kernel_rfl
theorem sub10_false : ∀ (w : World) os lv K H gd X, runSub (nat_lit 10) (nat_lit 223) (nat_lit 785) (w.withFollow "special-get-raises" false) os lv K H gd X = resSub (nat_lit 11) (nat_lit 58) (nat_lit 836) (nat_lit 57) (w.withFollow "special-get-raises" false) os K X := fun _ _ _ _ _ _ _ => by
  unfold runSub
  rw [PySem.W.Fast.te10295753902157049106, PySem.W.Fast.te14364793385576792824, PySem.W.Fast.te17359229931016689406, PySem.W.Fast.te11913375310210876947]
  kernel_rfl
theorem sub10_true : ∀ (w : World) os lv K H gd X, runSub (nat_lit 10) (nat_lit 223) (nat_lit 785) (w.withFollow "special-get-raises" true) os lv K H gd X = resSub (nat_lit 11) (nat_lit 58) (nat_lit 836) (nat_lit 57) (w.withFollow "special-get-raises" true) os K X := fun _ _ _ _ _ _ _ => by
  unfold runSub
  rw [PySem.W.Fast.te10295753902157049106, PySem.W.Fast.te14364793385576792824, PySem.W.Fast.te17359229931016689406, PySem.W.Fast.te11913375310210876947]
  kernel_rfl
theorem sub11_false : ∀ (w : World) os lv K H gd X, runSub (nat_lit 11) (nat_lit 223) (nat_lit 836) (w.withFollow "special-get-raises" false) os lv K H gd X = resSub (nat_lit 12) (nat_lit 59) (nat_lit 887) (nat_lit 58) (w.withFollow "special-get-raises" false) os K X := fun _ _ _ _ _ _ _ => by
  unfold runSub
  rw [PySem.W.Fast.te10295753902157049106, PySem.W.Fast.te14364793385576792824, PySem.W.Fast.te17359229931016689406, PySem.W.Fast.te11913375310210876947]
  kernel_rfl
theorem sub11_true : ∀ (w : World) os lv K H gd X, runSub (nat_lit 11) (nat_lit 223) (nat_lit 836) (w.withFollow "special-get-raises" true) os lv K H gd X = resSub (nat_lit 12) (nat_lit 59) (nat_lit 887) (nat_lit 58) (w.withFollow "special-get-raises" true) os K X := fun _ _ _ _ _ _ _ => by
  unfold runSub
  rw [PySem.W.Fast.te10295753902157049106, PySem.W.Fast.te14364793385576792824, PySem.W.Fast.te17359229931016689406, PySem.W.Fast.te11913375310210876947]
  kernel_rfl
theorem sub12_false : ∀ (w : World) os lv K H gd X, runSub (nat_lit 12) (nat_lit 223) (nat_lit 887) (w.withFollow "special-get-raises" false) os lv K H gd X = resSub (nat_lit 13) (nat_lit 60) (nat_lit 938) (nat_lit 59) (w.withFollow "special-get-raises" false) os K X := fun _ _ _ _ _ _ _ => by
  unfold runSub
  rw [PySem.W.Fast.te10295753902157049106, PySem.W.Fast.te14364793385576792824, PySem.W.Fast.te17359229931016689406, PySem.W.Fast.te11913375310210876947]
  kernel_rfl
theorem sub12_true : ∀ (w : World) os lv K H gd X, runSub (nat_lit 12) (nat_lit 223) (nat_lit 887) (w.withFollow "special-get-raises" true) os lv K H gd X = resSub (nat_lit 13) (nat_lit 60) (nat_lit 938) (nat_lit 59) (w.withFollow "special-get-raises" true) os K X := fun _ _ _ _ _ _ _ => by
  unfold runSub
  rw [PySem.W.Fast.te10295753902157049106, PySem.W.Fast.te14364793385576792824, PySem.W.Fast.te17359229931016689406, PySem.W.Fast.te11913375310210876947]
  kernel_rfl
theorem sub13_false : ∀ (w : World) os lv K H gd X, runSub (nat_lit 13) (nat_lit 223) (nat_lit 938) (w.withFollow "special-get-raises" false) os lv K H gd X = resSub (nat_lit 14) (nat_lit 61) (nat_lit 989) (nat_lit 60) (w.withFollow "special-get-raises" false) os K X := fun _ _ _ _ _ _ _ => by
  unfold runSub
  rw [PySem.W.Fast.te10295753902157049106, PySem.W.Fast.te14364793385576792824, PySem.W.Fast.te17359229931016689406, PySem.W.Fast.te11913375310210876947]
  kernel_rfl
theorem sub13_true : ∀ (w : World) os lv K H gd X, runSub (nat_lit 13) (nat_lit 223) (nat_lit 938) (w.withFollow "special-get-raises" true) os lv K H gd X = resSub (nat_lit 14) (nat_lit 61) (nat_lit 989) (nat_lit 60) (w.withFollow "special-get-raises" true) os K X := fun _ _ _ _ _ _ _ => by
  unfold runSub
  rw [PySem.W.Fast.te10295753902157049106, PySem.W.Fast.te14364793385576792824, PySem.W.Fast.te17359229931016689406, PySem.W.Fast.te11913375310210876947]
  kernel_rfl
theorem sub14_false : ∀ (w : World) os lv K H gd X, runSub (nat_lit 14) (nat_lit 223) (nat_lit 989) (w.withFollow "special-get-raises" false) os lv K H gd X = resSub (nat_lit 15) (nat_lit 62) (nat_lit 1040) (nat_lit 61) (w.withFollow "special-get-raises" false) os K X := fun _ _ _ _ _ _ _ => by
  unfold runSub
  rw [PySem.W.Fast.te10295753902157049106, PySem.W.Fast.te14364793385576792824, PySem.W.Fast.te17359229931016689406, PySem.W.Fast.te11913375310210876947]
  kernel_rfl
theorem sub14_true : ∀ (w : World) os lv K H gd X, runSub (nat_lit 14) (nat_lit 223) (nat_lit 989) (w.withFollow "special-get-raises" true) os lv K H gd X = resSub (nat_lit 15) (nat_lit 62) (nat_lit 1040) (nat_lit 61) (w.withFollow "special-get-raises" true) os K X := fun _ _ _ _ _ _ _ => by
  unfold runSub
  rw [PySem.W.Fast.te10295753902157049106, PySem.W.Fast.te14364793385576792824, PySem.W.Fast.te17359229931016689406, PySem.W.Fast.te11913375310210876947]
  kernel_rfl
theorem sub15_false : ∀ (w : World) os lv K H gd X, runSub (nat_lit 15) (nat_lit 223) (nat_lit 1040) (w.withFollow "special-get-raises" false) os lv K H gd X = resSub (nat_lit 16) (nat_lit 63) (nat_lit 1091) (nat_lit 62) (w.withFollow "special-get-raises" false) os K X := fun _ _ _ _ _ _ _ => by
  unfold runSub
  rw [PySem.W.Fast.te10295753902157049106, PySem.W.Fast.te14364793385576792824, PySem.W.Fast.te17359229931016689406, PySem.W.Fast.te11913375310210876947]
  kernel_rfl
theorem sub15_true : ∀ (w : World) os lv K H gd X, runSub (nat_lit 15) (nat_lit 223) (nat_lit 1040) (w.withFollow "special-get-raises" true) os lv K H gd X = resSub (nat_lit 16) (nat_lit 63) (nat_lit 1091) (nat_lit 62) (w.withFollow "special-get-raises" true) os K X := fun _ _ _ _ _ _ _ => by
  unfold runSub
  rw [PySem.W.Fast.te10295753902157049106, PySem.W.Fast.te14364793385576792824, PySem.W.Fast.te17359229931016689406, PySem.W.Fast.te11913375310210876947]
  kernel_rfl
theorem sub16_false : ∀ (w : World) os lv K H gd X, runSub (nat_lit 16) (nat_lit 223) (nat_lit 1091) (w.withFollow "special-get-raises" false) os lv K H gd X = resSub (nat_lit 17) (nat_lit 64) (nat_lit 1142) (nat_lit 63) (w.withFollow "special-get-raises" false) os K X := fun _ _ _ _ _ _ _ => by
  unfold runSub
  rw [PySem.W.Fast.te10295753902157049106, PySem.W.Fast.te14364793385576792824, PySem.W.Fast.te17359229931016689406, PySem.W.Fast.te11913375310210876947]
  kernel_rfl
theorem sub16_true : ∀ (w : World) os lv K H gd X, runSub (nat_lit 16) (nat_lit 223) (nat_lit 1091) (w.withFollow "special-get-raises" true) os lv K H gd X = resSub (nat_lit 17) (nat_lit 64) (nat_lit 1142) (nat_lit 63) (w.withFollow "special-get-raises" true) os K X := fun _ _ _ _ _ _ _ => by
  unfold runSub
  rw [PySem.W.Fast.te10295753902157049106, PySem.W.Fast.te14364793385576792824, PySem.W.Fast.te17359229931016689406, PySem.W.Fast.te11913375310210876947]
  kernel_rfl
theorem sub17_false : ∀ (w : World) os lv K H gd X, runSub (nat_lit 17) (nat_lit 223) (nat_lit 1142) (w.withFollow "special-get-raises" false) os lv K H gd X = resSub (nat_lit 18) (nat_lit 65) (nat_lit 1193) (nat_lit 64) (w.withFollow "special-get-raises" false) os K X := fun _ _ _ _ _ _ _ => by
  unfold runSub
  rw [PySem.W.Fast.te10295753902157049106, PySem.W.Fast.te14364793385576792824, PySem.W.Fast.te17359229931016689406, PySem.W.Fast.te11913375310210876947]
  kernel_rfl
theorem sub17_true : ∀ (w : World) os lv K H gd X, runSub (nat_lit 17) (nat_lit 223) (nat_lit 1142) (w.withFollow "special-get-raises" true) os lv K H gd X = resSub (nat_lit 18) (nat_lit 65) (nat_lit 1193) (nat_lit 64) (w.withFollow "special-get-raises" true) os K X := fun _ _ _ _ _ _ _ => by
  unfold runSub
  rw [PySem.W.Fast.te10295753902157049106, PySem.W.Fast.te14364793385576792824, PySem.W.Fast.te17359229931016689406, PySem.W.Fast.te11913375310210876947]
  kernel_rfl
theorem sub18_false : ∀ (w : World) os lv K H gd X, runSub (nat_lit 18) (nat_lit 223) (nat_lit 1193) (w.withFollow "special-get-raises" false) os lv K H gd X = resSub (nat_lit 19) (nat_lit 66) (nat_lit 1244) (nat_lit 65) (w.withFollow "special-get-raises" false) os K X := fun _ _ _ _ _ _ _ => by
  unfold runSub
  rw [PySem.W.Fast.te10295753902157049106, PySem.W.Fast.te14364793385576792824, PySem.W.Fast.te17359229931016689406, PySem.W.Fast.te11913375310210876947]
  kernel_rfl
theorem sub18_true : ∀ (w : World) os lv K H gd X, runSub (nat_lit 18) (nat_lit 223) (nat_lit 1193) (w.withFollow "special-get-raises" true) os lv K H gd X = resSub (nat_lit 19) (nat_lit 66) (nat_lit 1244) (nat_lit 65) (w.withFollow "special-get-raises" true) os K X := fun _ _ _ _ _ _ _ => by
  unfold runSub
  rw [PySem.W.Fast.te10295753902157049106, PySem.W.Fast.te14364793385576792824, PySem.W.Fast.te17359229931016689406, PySem.W.Fast.te11913375310210876947]
  kernel_rfl
theorem sub19_false : ∀ (w : World) os lv K H gd X, runSub (nat_lit 19) (nat_lit 223) (nat_lit 1244) (w.withFollow "special-get-raises" false) os lv K H gd X = resSub (nat_lit 20) (nat_lit 67) (nat_lit 1295) (nat_lit 66) (w.withFollow "special-get-raises" false) os K X := fun _ _ _ _ _ _ _ => by
  unfold runSub
  rw [PySem.W.Fast.te10295753902157049106, PySem.W.Fast.te14364793385576792824, PySem.W.Fast.te17359229931016689406, PySem.W.Fast.te11913375310210876947]
  kernel_rfl
theorem sub19_true : ∀ (w : World) os lv K H gd X, runSub (nat_lit 19) (nat_lit 223) (nat_lit 1244) (w.withFollow "special-get-raises" true) os lv K H gd X = resSub (nat_lit 20) (nat_lit 67) (nat_lit 1295) (nat_lit 66) (w.withFollow "special-get-raises" true) os K X := fun _ _ _ _ _ _ _ => by
  unfold runSub
  rw [PySem.W.Fast.te10295753902157049106, PySem.W.Fast.te14364793385576792824, PySem.W.Fast.te17359229931016689406, PySem.W.Fast.te11913375310210876947]
  kernel_rfl
theorem sub20_false : ∀ (w : World) os lv K H gd X, runSub (nat_lit 20) (nat_lit 223) (nat_lit 1295) (w.withFollow "special-get-raises" false) os lv K H gd X = resSub (nat_lit 21) (nat_lit 68) (nat_lit 1346) (nat_lit 67) (w.withFollow "special-get-raises" false) os K X := fun _ _ _ _ _ _ _ => by
  unfold runSub
  rw [PySem.W.Fast.te10295753902157049106, PySem.W.Fast.te14364793385576792824, PySem.W.Fast.te17359229931016689406, PySem.W.Fast.te11913375310210876947]
  kernel_rfl
theorem sub20_true : ∀ (w : World) os lv K H gd X, runSub (nat_lit 20) (nat_lit 223) (nat_lit 1295) (w.withFollow "special-get-raises" true) os lv K H gd X = resSub (nat_lit 21) (nat_lit 68) (nat_lit 1346) (nat_lit 67) (w.withFollow "special-get-raises" true) os K X := fun _ _ _ _ _ _ _ => by
  unfold runSub
  rw [PySem.W.Fast.te10295753902157049106, PySem.W.Fast.te14364793385576792824, PySem.W.Fast.te17359229931016689406, PySem.W.Fast.te11913375310210876947]
  kernel_rfl
theorem sub21_false : ∀ (w : World) os lv K H gd X, runSub (nat_lit 21) (nat_lit 223) (nat_lit 1346) (w.withFollow "special-get-raises" false) os lv K H gd X = resSub (nat_lit 22) (nat_lit 69) (nat_lit 1397) (nat_lit 68) (w.withFollow "special-get-raises" false) os K X := fun _ _ _ _ _ _ _ => by
  unfold runSub
  rw [PySem.W.Fast.te10295753902157049106, PySem.W.Fast.te14364793385576792824, PySem.W.Fast.te17359229931016689406, PySem.W.Fast.te11913375310210876947]
  kernel_rfl
theorem sub21_true : ∀ (w : World) os lv K H gd X, runSub (nat_lit 21) (nat_lit 223) (nat_lit 1346) (w.withFollow "special-get-raises" true) os lv K H gd X = resSub (nat_lit 22) (nat_lit 69) (nat_lit 1397) (nat_lit 68) (w.withFollow "special-get-raises" true) os K X := fun _ _ _ _ _ _ _ => by
  unfold runSub
  rw [PySem.W.Fast.te10295753902157049106, PySem.W.Fast.te14364793385576792824, PySem.W.Fast.te17359229931016689406, PySem.W.Fast.te11913375310210876947]
  kernel_rfl
theorem sub22_false : ∀ (w : World) os lv K H gd X, runSub (nat_lit 22) (nat_lit 223) (nat_lit 1397) (w.withFollow "special-get-raises" false) os lv K H gd X = resSub (nat_lit 23) (nat_lit 70) (nat_lit 1448) (nat_lit 69) (w.withFollow "special-get-raises" false) os K X := fun _ _ _ _ _ _ _ => by
  unfold runSub
  rw [PySem.W.Fast.te10295753902157049106, PySem.W.Fast.te14364793385576792824, PySem.W.Fast.te17359229931016689406, PySem.W.Fast.te11913375310210876947]
  kernel_rfl
theorem sub22_true : ∀ (w : World) os lv K H gd X, runSub (nat_lit 22) (nat_lit 223) (nat_lit 1397) (w.withFollow "special-get-raises" true) os lv K H gd X = resSub (nat_lit 23) (nat_lit 70) (nat_lit 1448) (nat_lit 69) (w.withFollow "special-get-raises" true) os K X := fun _ _ _ _ _ _ _ => by
  unfold runSub
  rw [PySem.W.Fast.te10295753902157049106, PySem.W.Fast.te14364793385576792824, PySem.W.Fast.te17359229931016689406, PySem.W.Fast.te11913375310210876947]
  kernel_rfl
theorem sub23_false : ∀ (w : World) os lv K H gd X, runSub (nat_lit 23) (nat_lit 223) (nat_lit 1448) (w.withFollow "special-get-raises" false) os lv K H gd X = resSub (nat_lit 24) (nat_lit 71) (nat_lit 1499) (nat_lit 70) (w.withFollow "special-get-raises" false) os K X := fun _ _ _ _ _ _ _ => by
  unfold runSub
  rw [PySem.W.Fast.te10295753902157049106, PySem.W.Fast.te14364793385576792824, PySem.W.Fast.te17359229931016689406, PySem.W.Fast.te11913375310210876947]
  kernel_rfl
theorem sub23_true : ∀ (w : World) os lv K H gd X, runSub (nat_lit 23) (nat_lit 223) (nat_lit 1448) (w.withFollow "special-get-raises" true) os lv K H gd X = resSub (nat_lit 24) (nat_lit 71) (nat_lit 1499) (nat_lit 70) (w.withFollow "special-get-raises" true) os K X := fun _ _ _ _ _ _ _ => by
  unfold runSub
  rw [PySem.W.Fast.te10295753902157049106, PySem.W.Fast.te14364793385576792824, PySem.W.Fast.te17359229931016689406, PySem.W.Fast.te11913375310210876947]
  kernel_rfl
theorem sub24_false : ∀ (w : World) os lv K H gd X, runSub (nat_lit 24) (nat_lit 223) (nat_lit 1499) (w.withFollow "special-get-raises" false) os lv K H gd X = resSub (nat_lit 25) (nat_lit 72) (nat_lit 1550) (nat_lit 71) (w.withFollow "special-get-raises" false) os K X := fun _ _ _ _ _ _ _ => by
  unfold runSub
  rw [PySem.W.Fast.te10295753902157049106, PySem.W.Fast.te14364793385576792824, PySem.W.Fast.te17359229931016689406, PySem.W.Fast.te11913375310210876947]
  kernel_rfl
theorem sub24_true : ∀ (w : World) os lv K H gd X, runSub (nat_lit 24) (nat_lit 223) (nat_lit 1499) (w.withFollow "special-get-raises" true) os lv K H gd X = resSub (nat_lit 25) (nat_lit 72) (nat_lit 1550) (nat_lit 71) (w.withFollow "special-get-raises" true) os K X := fun _ _ _ _ _ _ _ => by
  unfold runSub
  rw [PySem.W.Fast.te10295753902157049106, PySem.W.Fast.te14364793385576792824, PySem.W.Fast.te17359229931016689406, PySem.W.Fast.te11913375310210876947]
  kernel_rfl
theorem sub25_false : ∀ (w : World) os lv K H gd X, runSub (nat_lit 25) (nat_lit 223) (nat_lit 1550) (w.withFollow "special-get-raises" false) os lv K H gd X = resSub (nat_lit 26) (nat_lit 73) (nat_lit 1601) (nat_lit 72) (w.withFollow "special-get-raises" false) os K X := fun _ _ _ _ _ _ _ => by
  unfold runSub
  rw [PySem.W.Fast.te10295753902157049106, PySem.W.Fast.te14364793385576792824, PySem.W.Fast.te17359229931016689406, PySem.W.Fast.te11913375310210876947]
  kernel_rfl
theorem sub25_true : ∀ (w : World) os lv K H gd X, runSub (nat_lit 25) (nat_lit 223) (nat_lit 1550) (w.withFollow "special-get-raises" true) os lv K H gd X = resSub (nat_lit 26) (nat_lit 73) (nat_lit 1601) (nat_lit 72) (w.withFollow "special-get-raises" true) os K X := fun _ _ _ _ _ _ _ => by
  unfold runSub
  rw [PySem.W.Fast.te10295753902157049106, PySem.W.Fast.te14364793385576792824, PySem.W.Fast.te17359229931016689406, PySem.W.Fast.te11913375310210876947]
  kernel_rfl
theorem sub26_false : ∀ (w : World) os lv K H gd X, runSub (nat_lit 26) (nat_lit 223) (nat_lit 1601) (w.withFollow "special-get-raises" false) os lv K H gd X = resSub (nat_lit 27) (nat_lit 74) (nat_lit 1652) (nat_lit 73) (w.withFollow "special-get-raises" false) os K X := fun _ _ _ _ _ _ _ => by
  unfold runSub
  rw [PySem.W.Fast.te10295753902157049106, PySem.W.Fast.te14364793385576792824, PySem.W.Fast.te17359229931016689406, PySem.W.Fast.te11913375310210876947]
  kernel_rfl
theorem sub26_true : ∀ (w : World) os lv K H gd X, runSub (nat_lit 26) (nat_lit 223) (nat_lit 1601) (w.withFollow "special-get-raises" true) os lv K H gd X = resSub (nat_lit 27) (nat_lit 74) (nat_lit 1652) (nat_lit 73) (w.withFollow "special-get-raises" true) os K X := fun _ _ _ _ _ _ _ => by
  unfold runSub
  rw [PySem.W.Fast.te10295753902157049106, PySem.W.Fast.te14364793385576792824, PySem.W.Fast.te17359229931016689406, PySem.W.Fast.te11913375310210876947]
  kernel_rfl
theorem sub27_false : ∀ (w : World) os lv K H gd X, runSub (nat_lit 27) (nat_lit 223) (nat_lit 1652) (w.withFollow "special-get-raises" false) os lv K H gd X = resSub (nat_lit 28) (nat_lit 75) (nat_lit 1703) (nat_lit 74) (w.withFollow "special-get-raises" false) os K X := fun _ _ _ _ _ _ _ => by
  unfold runSub
  rw [PySem.W.Fast.te10295753902157049106, PySem.W.Fast.te14364793385576792824, PySem.W.Fast.te17359229931016689406, PySem.W.Fast.te11913375310210876947]
  kernel_rfl
theorem sub27_true : ∀ (w : World) os lv K H gd X, runSub (nat_lit 27) (nat_lit 223) (nat_lit 1652) (w.withFollow "special-get-raises" true) os lv K H gd X = resSub (nat_lit 28) (nat_lit 75) (nat_lit 1703) (nat_lit 74) (w.withFollow "special-get-raises" true) os K X := fun _ _ _ _ _ _ _ => by
  unfold runSub
  rw [PySem.W.Fast.te10295753902157049106, PySem.W.Fast.te14364793385576792824, PySem.W.Fast.te17359229931016689406, PySem.W.Fast.te11913375310210876947]
  kernel_rfl
theorem sub28_false : ∀ (w : World) os lv K H gd X, runSub (nat_lit 28) (nat_lit 223) (nat_lit 1703) (w.withFollow "special-get-raises" false) os lv K H gd X = resSub (nat_lit 29) (nat_lit 76) (nat_lit 1754) (nat_lit 75) (w.withFollow "special-get-raises" false) os K X := fun _ _ _ _ _ _ _ => by
  unfold runSub
  rw [PySem.W.Fast.te10295753902157049106, PySem.W.Fast.te14364793385576792824, PySem.W.Fast.te17359229931016689406, PySem.W.Fast.te11913375310210876947]
  kernel_rfl
theorem sub28_true : ∀ (w : World) os lv K H gd X, runSub (nat_lit 28) (nat_lit 223) (nat_lit 1703) (w.withFollow "special-get-raises" true) os lv K H gd X = resSub (nat_lit 29) (nat_lit 76) (nat_lit 1754) (nat_lit 75) (w.withFollow "special-get-raises" true) os K X := fun _ _ _ _ _ _ _ => by
  unfold runSub
  rw [PySem.W.Fast.te10295753902157049106, PySem.W.Fast.te14364793385576792824, PySem.W.Fast.te17359229931016689406, PySem.W.Fast.te11913375310210876947]
  kernel_rfl
theorem sub29_false : ∀ (w : World) os lv K H gd X, runSub (nat_lit 29) (nat_lit 223) (nat_lit 1754) (w.withFollow "special-get-raises" false) os lv K H gd X = resSub (nat_lit 30) (nat_lit 77) (nat_lit 1805) (nat_lit 76) (w.withFollow "special-get-raises" false) os K X := fun _ _ _ _ _ _ _ => by
  unfold runSub
  rw [PySem.W.Fast.te10295753902157049106, PySem.W.Fast.te14364793385576792824, PySem.W.Fast.te17359229931016689406, PySem.W.Fast.te11913375310210876947]
  kernel_rfl
theorem sub29_true : ∀ (w : World) os lv K H gd X, runSub (nat_lit 29) (nat_lit 223) (nat_lit 1754) (w.withFollow "special-get-raises" true) os lv K H gd X = resSub (nat_lit 30) (nat_lit 77) (nat_lit 1805) (nat_lit 76) (w.withFollow "special-get-raises" true) os K X := fun _ _ _ _ _ _ _ => by
  unfold runSub
  rw [PySem.W.Fast.te10295753902157049106, PySem.W.Fast.te14364793385576792824, PySem.W.Fast.te17359229931016689406, PySem.W.Fast.te11913375310210876947]
  kernel_rfl
theorem sub30_false : ∀ (w : World) os lv K H gd X, runSub (nat_lit 30) (nat_lit 223) (nat_lit 1805) (w.withFollow "special-get-raises" false) os lv K H gd X = resSub (nat_lit 31) (nat_lit 78) (nat_lit 1856) (nat_lit 77) (w.withFollow "special-get-raises" false) os K X := fun _ _ _ _ _ _ _ => by
  unfold runSub
  rw [PySem.W.Fast.te10295753902157049106, PySem.W.Fast.te14364793385576792824, PySem.W.Fast.te17359229931016689406, PySem.W.Fast.te11913375310210876947]
  kernel_rfl
theorem sub30_true : ∀ (w : World) os lv K H gd X, runSub (nat_lit 30) (nat_lit 223) (nat_lit 1805) (w.withFollow "special-get-raises" true) os lv K H gd X = resSub (nat_lit 31) (nat_lit 78) (nat_lit 1856) (nat_lit 77) (w.withFollow "special-get-raises" true) os K X := fun _ _ _ _ _ _ _ => by
  unfold runSub
  rw [PySem.W.Fast.te10295753902157049106, PySem.W.Fast.te14364793385576792824, PySem.W.Fast.te17359229931016689406, PySem.W.Fast.te11913375310210876947]
  kernel_rfl
theorem sub31_false : ∀ (w : World) os lv K H gd X, runSub (nat_lit 31) (nat_lit 223) (nat_lit 1856) (w.withFollow "special-get-raises" false) os lv K H gd X = resSub (nat_lit 32) (nat_lit 79) (nat_lit 1907) (nat_lit 78) (w.withFollow "special-get-raises" false) os K X := fun _ _ _ _ _ _ _ => by
  unfold runSub
  rw [PySem.W.Fast.te10295753902157049106, PySem.W.Fast.te14364793385576792824, PySem.W.Fast.te17359229931016689406, PySem.W.Fast.te11913375310210876947]
  kernel_rfl
theorem sub31_true : ∀ (w : World) os lv K H gd X, runSub (nat_lit 31) (nat_lit 223) (nat_lit 1856) (w.withFollow "special-get-raises" true) os lv K H gd X = resSub (nat_lit 32) (nat_lit 79) (nat_lit 1907) (nat_lit 78) (w.withFollow "special-get-raises" true) os K X := fun _ _ _ _ _ _ _ => by
  unfold runSub
  rw [PySem.W.Fast.te10295753902157049106, PySem.W.Fast.te14364793385576792824, PySem.W.Fast.te17359229931016689406, PySem.W.Fast.te11913375310210876947]
  kernel_rfl
theorem sub32_false : ∀ (w : World) os lv K H gd X, runSub (nat_lit 32) (nat_lit 223) (nat_lit 1907) (w.withFollow "special-get-raises" false) os lv K H gd X = resSub (nat_lit 33) (nat_lit 80) (nat_lit 1958) (nat_lit 79) (w.withFollow "special-get-raises" false) os K X := fun _ _ _ _ _ _ _ => by
  unfold runSub
  rw [PySem.W.Fast.te10295753902157049106, PySem.W.Fast.te14364793385576792824, PySem.W.Fast.te17359229931016689406, PySem.W.Fast.te11913375310210876947]
  kernel_rfl
theorem sub32_true : ∀ (w : World) os lv K H gd X, runSub (nat_lit 32) (nat_lit 223) (nat_lit 1907) (w.withFollow "special-get-raises" true) os lv K H gd X = resSub (nat_lit 33) (nat_lit 80) (nat_lit 1958) (nat_lit 79) (w.withFollow "special-get-raises" true) os K X := fun _ _ _ _ _ _ _ => by
  unfold runSub
  rw [PySem.W.Fast.te10295753902157049106, PySem.W.Fast.te14364793385576792824, PySem.W.Fast.te17359229931016689406, PySem.W.Fast.te11913375310210876947]
  kernel_rfl
theorem sub33_false : ∀ (w : World) os lv K H gd X, runSub (nat_lit 33) (nat_lit 223) (nat_lit 1958) (w.withFollow "special-get-raises" false) os lv K H gd X = resSub (nat_lit 34) (nat_lit 81) (nat_lit 2009) (nat_lit 80) (w.withFollow "special-get-raises" false) os K X := fun _ _ _ _ _ _ _ => by
  unfold runSub
  rw [PySem.W.Fast.te10295753902157049106, PySem.W.Fast.te14364793385576792824, PySem.W.Fast.te17359229931016689406, PySem.W.Fast.te11913375310210876947]
  kernel_rfl
theorem sub33_true : ∀ (w : World) os lv K H gd X, runSub (nat_lit 33) (nat_lit 223) (nat_lit 1958) (w.withFollow "special-get-raises" true) os lv K H gd X = resSub (nat_lit 34) (nat_lit 81) (nat_lit 2009) (nat_lit 80) (w.withFollow "special-get-raises" true) os K X := fun _ _ _ _ _ _ _ => by
  unfold runSub
  rw [PySem.W.Fast.te10295753902157049106, PySem.W.Fast.te14364793385576792824, PySem.W.Fast.te17359229931016689406, PySem.W.Fast.te11913375310210876947]
  kernel_rfl
theorem sub34_false : ∀ (w : World) os lv K H gd X, runSub (nat_lit 34) (nat_lit 223) (nat_lit 2009) (w.withFollow "special-get-raises" false) os lv K H gd X = resSub (nat_lit 35) (nat_lit 82) (nat_lit 2060) (nat_lit 81) (w.withFollow "special-get-raises" false) os K X := fun _ _ _ _ _ _ _ => by
  unfold runSub
  rw [PySem.W.Fast.te10295753902157049106, PySem.W.Fast.te14364793385576792824, PySem.W.Fast.te17359229931016689406, PySem.W.Fast.te11913375310210876947]
  kernel_rfl
theorem sub34_true : ∀ (w : World) os lv K H gd X, runSub (nat_lit 34) (nat_lit 223) (nat_lit 2009) (w.withFollow "special-get-raises" true) os lv K H gd X = resSub (nat_lit 35) (nat_lit 82) (nat_lit 2060) (nat_lit 81) (w.withFollow "special-get-raises" true) os K X := fun _ _ _ _ _ _ _ => by
  unfold runSub
  rw [PySem.W.Fast.te10295753902157049106, PySem.W.Fast.te14364793385576792824, PySem.W.Fast.te17359229931016689406, PySem.W.Fast.te11913375310210876947]
  kernel_rfl
theorem sub35_false : ∀ (w : World) os lv K H gd X, runSub (nat_lit 35) (nat_lit 223) (nat_lit 2060) (w.withFollow "special-get-raises" false) os lv K H gd X = resSub (nat_lit 36) (nat_lit 83) (nat_lit 2111) (nat_lit 82) (w.withFollow "special-get-raises" false) os K X := fun _ _ _ _ _ _ _ => by
  unfold runSub
  rw [PySem.W.Fast.te10295753902157049106, PySem.W.Fast.te14364793385576792824, PySem.W.Fast.te17359229931016689406, PySem.W.Fast.te11913375310210876947]
  kernel_rfl
theorem sub35_true : ∀ (w : World) os lv K H gd X, runSub (nat_lit 35) (nat_lit 223) (nat_lit 2060) (w.withFollow "special-get-raises" true) os lv K H gd X = resSub (nat_lit 36) (nat_lit 83) (nat_lit 2111) (nat_lit 82) (w.withFollow "special-get-raises" true) os K X := fun _ _ _ _ _ _ _ => by
  unfold runSub
  rw [PySem.W.Fast.te10295753902157049106, PySem.W.Fast.te14364793385576792824, PySem.W.Fast.te17359229931016689406, PySem.W.Fast.te11913375310210876947]
  kernel_rfl
theorem sub36_false : ∀ (w : World) os lv K H gd X, runSub (nat_lit 36) (nat_lit 223) (nat_lit 2111) (w.withFollow "special-get-raises" false) os lv K H gd X = resSub (nat_lit 37) (nat_lit 84) (nat_lit 2162) (nat_lit 83) (w.withFollow "special-get-raises" false) os K X := fun _ _ _ _ _ _ _ => by
  unfold runSub
  rw [PySem.W.Fast.te10295753902157049106, PySem.W.Fast.te14364793385576792824, PySem.W.Fast.te17359229931016689406, PySem.W.Fast.te11913375310210876947]
  kernel_rfl
theorem sub36_true : ∀ (w : World) os lv K H gd X, runSub (nat_lit 36) (nat_lit 223) (nat_lit 2111) (w.withFollow "special-get-raises" true) os lv K H gd X = resSub (nat_lit 37) (nat_lit 84) (nat_lit 2162) (nat_lit 83) (w.withFollow "special-get-raises" true) os K X := fun _ _ _ _ _ _ _ => by
  unfold runSub
  rw [PySem.W.Fast.te10295753902157049106, PySem.W.Fast.te14364793385576792824, PySem.W.Fast.te17359229931016689406, PySem.W.Fast.te11913375310210876947]
  kernel_rfl
theorem sub37_false : ∀ (w : World) os lv K H gd X, runSub (nat_lit 37) (nat_lit 223) (nat_lit 2162) (w.withFollow "special-get-raises" false) os lv K H gd X = resSub (nat_lit 38) (nat_lit 85) (nat_lit 2213) (nat_lit 84) (w.withFollow "special-get-raises" false) os K X := fun _ _ _ _ _ _ _ => by
  unfold runSub
  rw [PySem.W.Fast.te10295753902157049106, PySem.W.Fast.te14364793385576792824, PySem.W.Fast.te17359229931016689406, PySem.W.Fast.te11913375310210876947]
  kernel_rfl
theorem sub37_true : ∀ (w : World) os lv K H gd X, runSub (nat_lit 37) (nat_lit 223) (nat_lit 2162) (w.withFollow "special-get-raises" true) os lv K H gd X = resSub (nat_lit 38) (nat_lit 85) (nat_lit 2213) (nat_lit 84) (w.withFollow "special-get-raises" true) os K X := fun _ _ _ _ _ _ _ => by
  unfold runSub
  rw [PySem.W.Fast.te10295753902157049106, PySem.W.Fast.te14364793385576792824, PySem.W.Fast.te17359229931016689406, PySem.W.Fast.te11913375310210876947]
  kernel_rfl
theorem sub38_false : ∀ (w : World) os lv K H gd X, runSub (nat_lit 38) (nat_lit 53) (nat_lit 2213) (w.withFollow "special-get-raises" false) os lv K H gd X = resSub (nat_lit 39) (nat_lit 86) (nat_lit 2225) (nat_lit 85) (w.withFollow "special-get-raises" false) os K X := fun _ _ _ _ _ _ _ => by
  unfold runSub
  rw [PySem.W.Fast.te10295753902157049106, PySem.W.Fast.te14364793385576792824, PySem.W.Fast.te17359229931016689406, PySem.W.Fast.te11913375310210876947]
  kernel_rfl
theorem sub38_true : ∀ (w : World) os lv K H gd X, runSub (nat_lit 38) (nat_lit 53) (nat_lit 2213) (w.withFollow "special-get-raises" true) os lv K H gd X = resSub (nat_lit 39) (nat_lit 86) (nat_lit 2225) (nat_lit 85) (w.withFollow "special-get-raises" true) os K X := fun _ _ _ _ _ _ _ => by
  unfold runSub
  rw [PySem.W.Fast.te10295753902157049106, PySem.W.Fast.te14364793385576792824, PySem.W.Fast.te17359229931016689406, PySem.W.Fast.te11913375310210876947]
  kernel_rfl
end Mine
end
end
section
set_option Elab.async false
set_option linter.unusedVariables false
set_option maxRecDepth 100000
set_option maxHeartbeats 0
open PySem PySem.W PyProof.Rows
noncomputable section
namespace Mine
noncomputable def runFirst (w : World) (os : OsState) (lv : List Value → List Value) (K : Addr → Sem PySem.Fin) (H : Value → Sem PySem.Fin) (gd : Bool → Bool) := segGoT treeTable prog w (nat_lit 11) annE (nat_lit 1) (nat_lit 223) (S_p5 w os) ⟨(subDict (grp (nat_lit 0))).wrap K H gd lv, cE, dPos, tB⟩
noncomputable def resFirst (w : World) (os : OsState) (K : Addr → Sem PySem.Fin) : Option (SharedT × Thread) := some (⟨TD (nat_lit 1) w.params (b3sub (nat_lit 0)), (nat_lit 48), theLife, #[], theDrawn, (nat_lit 326), os⟩, ⟨K (nat_lit 47), cE, dPos, tB⟩)
theorem first_false : ∀ (w : World) os lv K H gd, runFirst (w.withFollow "special-get-raises" false) os lv K H gd = resFirst (w.withFollow "special-get-raises" false) os K := fun _ _ _ _ _ _ => by
  unfold runFirst
  rw [PySem.W.Fast.te10295753902157049106, PySem.W.Fast.te14364793385576792824, PySem.W.Fast.te11913375310210876947]
  kernel_rfl
theorem first_true : ∀ (w : World) os lv K H gd, runFirst (w.withFollow "special-get-raises" true) os lv K H gd = resFirst (w.withFollow "special-get-raises" true) os K := fun _ _ _ _ _ _ => by
  unfold runFirst
  rw [PySem.W.Fast.te10295753902157049106, PySem.W.Fast.te14364793385576792824, PySem.W.Fast.te11913375310210876947]
  kernel_rfl
end Mine
end
end
section
set_option Elab.async false
set_option maxRecDepth 100000
set_option maxHeartbeats 4000000
open PySem PySem.W PyProof.Rows
namespace Mine
section
variable {w : World} {lv : List Value → List Value} {T : BT} {n toks : Nat} {os : OsState} {p : Pos} {a : Addr} {sub : List DictEntry}
theorem type_dict (hn : Nat.blt a n = true) (hT : T.get a = some (objD sub)) : Runs w lv (typeOf (.ref a)) ⟨T, n, theLife, #[], theDrawn, toks, os⟩ 1 p p (.type "dict") ⟨T, n, theLife, #[], theDrawn, toks, os⟩ := by
  unfold typeOf
  exact Runs.bind (n := 1) (m := 0) (runs_loadPart hn hT rfl) Runs.pure
theorem is_dict (hn : Nat.blt a n = true) (hT : T.get a = some (objD sub)) : Runs w lv (isInstance (.ref a) (.type "dict")) ⟨T, n, theLife, #[], theDrawn, toks, os⟩ 1 p p true ⟨T, n, theLife, #[], theDrawn, toks, os⟩ := by
  unfold isInstance
  refine Runs.bind (n := 1) (m := 0) (type_dict hn hT) ?_
  have e : isSubtype (.type "dict") (.type "dict") = Sem.pure true := by rw [isSubtype_type]; kernel_rfl
  rw [e]
  exact Runs.pure
theorem sp_iter (hn : Nat.blt a n = true) (hT : T.get a = some (objD sub)) : Runs w lv (specialOf (.ref a) "__iter__") ⟨T, n, theLife, #[], theDrawn, toks, os⟩ 1 p p (some (.builtin "dict.__iter__")) ⟨T, n, theLife, #[], theDrawn, toks, os⟩ := by
  unfold specialOf
  refine Runs.bind (n := 1) (m := 0) (type_dict hn hT) ?_
  have e : typeLookup (.type "dict") "__iter__" = Sem.pure (some (.builtin "dict.__iter__")) := F.slot_dict_iter.lookup
  rw [e]
  exact Runs.pure
end
end Mine
end
section
set_option Elab.async false
set_option maxRecDepth 100000
set_option maxHeartbeats 4000000
open PySem PySem.W PyProof.Rows
namespace Mine
noncomputable def hnd (d : Addr) (x : Value) : Sem Unit := (holding [.ref d, x] (runValue (.builtin "proto.let_go" {}))).bind fun _ => Sem.pure ()
noncomputable def FL (run : List (Sem Value × Sem Value)) : Option Addr → Sem (Option Addr)
  | none => (subDict run).bind fun d => .pure (some d)
  | some d => (holding [.ref d] (subDict run)).bind fun sub => ((holding [.ref d, .ref sub] (mergeMapping d (.ref sub) false)).onRaise (hnd d)).bind fun _ => .pure (some d)
abbrev asItem (x : Sem Value × Sem Value) : Option (Sem Value) × Sem Value := (some x.1, x.2)
abbrev DSt := Option Addr × List (Sem Value × Sem Value)
noncomputable def Body (f : Option (Sem Value) × Sem Value → DSt → Sem (ForInStep DSt)) : Prop :=
  ∀ x m r, f (asItem x) (m, r) = if (r ++ [x]).length == 17 then (FL (r ++ [x]) m).bind (fun m => Sem.pure (.yield (m, []))) else Sem.pure (.yield (m, r ++ [x]))
section
variable {w : World} {lv : List Value → List Value} {f : Option (Sem Value) × Sem Value → DSt → Sem (ForInStep DSt)} (hf : Body f) {s s' s'' : SharedT} {p : Pos} {c c' : Nat} {b : DSt}
include hf
theorem loop17 : ∀ (g : List (Sem Value × Sem Value)) (r : List (Sem Value × Sem Value)) {rest : List (Option (Sem Value) × Sem Value)} {m m' : Option Addr}, g ≠ [] → r.length + g.length = 17 →
    Runs w lv (FL (r ++ g) m) s c p p m' s' → Runs w lv (forIn rest (m', []) f) s' c' p p b s'' → Runs w lv (forIn (g.map asItem ++ rest) (m, r) f) s (c + c') p p b s''
  | [], _, _, _, _, h, _, _, _ => absurd rfl h
  | [x], r, rest, m, m', _, hl, hF, hR => by
    rw [List.map_cons, List.map_nil, List.cons_append, List.nil_append, List.forIn_cons]
    have e : ((r ++ [x]).length == 17) = true := by
      rw [List.length_append]; exact beq_iff_eq.mpr hl
    rw [hf, e, if_pos rfl]
    have h1 : Runs w lv ((FL (r ++ [x]) m).bind fun m => Sem.pure (ForInStep.yield ((m, []) : DSt))) s c p p (ForInStep.yield ((m', []) : DSt)) s' := Runs.bind (n := c) (m := 0) hF Runs.pure
    exact Runs.bind h1 hR
  | x :: y :: g, r, rest, m, m', _, hl, hF, hR => by
    rw [List.map_cons, List.cons_append, List.forIn_cons]
    have e : ((r ++ [x]).length == 17) = false := by
      rw [List.length_append]
      simp only [List.length_cons, List.length_nil] at hl ⊢
      rw [beq_eq_false_iff_ne]
      omega
    rw [hf, e, if_neg Bool.false_ne_true]
    have := loop17 (y :: g) (r ++ [x]) (rest := rest) (m := m) (m' := m') (List.cons_ne_nil _ _) (by rw [List.length_append]; simp only [List.length_cons, List.length_nil] at hl ⊢; omega) (by rw [List.append_assoc]; exact hF) hR
    have q := Runs.bind (n := 0) (m := c + c') (f := fun st => match st with | .done b => Sem.pure b | .yield b => forIn ((y :: g).map asItem ++ rest) b f) (w := w) (lv := lv) (p := p) (s := s) (Runs.pure (a := (ForInStep.yield (m, r ++ [x]) : ForInStep DSt))) this
    rw [Nat.zero_add] at q
    exact q
theorem loopEnd : ∀ (g : List (Sem Value × Sem Value)) (r : List (Sem Value × Sem Value)) {m : Option Addr}, r.length + g.length < 17 →
    Runs w lv (forIn (g.map asItem) (m, r) f) s 0 p p (m, r ++ g) s
  | [], r, m, _ => by
    rw [List.append_nil]
    exact Runs.pure
  | x :: g, r, m, hl => by
    rw [List.map_cons, List.forIn_cons]
    have e : ((r ++ [x]).length == 17) = false := by
      rw [List.length_append]
      simp only [List.length_cons, List.length_nil] at hl ⊢
      rw [beq_eq_false_iff_ne]
      omega
    rw [hf, e, if_neg Bool.false_ne_true]
    have := loopEnd g (r ++ [x]) (m := m) (by rw [List.length_append]; simp only [List.length_cons, List.length_nil] at hl ⊢; omega)
    rw [List.append_assoc] at this
    exact Runs.bind (n := 0) (m := 0) (Runs.pure (a := (ForInStep.yield (m, r ++ [x]) : ForInStep DSt))) this
end
theorem dd_runs {gs : List (Sem Value × Sem Value)} {w : World} {lv : List Value → List Value} {s s' s'' : SharedT} {n n' : Nat} {p : Pos} {d : Addr} {m : Option Addr} {run : List (Sem Value × Sem Value)}
    (hl : ∀ f, Body f → Runs w lv (forIn (gs.map asItem) ((none, []) : DSt) f) s n p p (m, run) s') (hne : run ≠ []) (hF : Runs w lv (FL run m) s' n' p p (some d) s'') : Runs w lv (dictDisplay (gs.map asItem)) s (n + n') p p (.ref d) s'' := by
  unfold dictDisplay
  dsimp only
  refine Runs.bind (hl _ ?_) ?_
  · intro x m r
    have e : (r ++ [x]).isEmpty = false := by cases r <;> rfl
    dsimp only
    cases m <;> (dsimp only [FL]; rw [e]; rfl)
  · dsimp only
    have e : run.isEmpty = false := by
      cases run with
      | nil => exact absurd rfl hne
      | cons _ _ => rfl
    rw [e, if_neg Bool.false_ne_true]
    cases m with
    | none => exact Runs.bind (n := n') (m := 0) hF Runs.pure
    | some d' => exact Runs.bind (n := n') (m := 0) hF Runs.pure
end Mine
end
section
set_option Elab.async false
set_option linter.unusedVariables false
set_option maxRecDepth 100000
set_option maxHeartbeats 0
open PySem PySem.W PyProof.Rows
namespace Mine
theorem td_get : ∀ j, 2 ≤ j → j ≤ 39 → ∀ (P : Params) (X : Obj), (TD j P X).get 47 = some X := by
  intro j h1 h2 P X
  match j with
  | 0 => omega
  | 1 => omega
  | 2 => kernel_rfl
  | 3 => kernel_rfl
  | 4 => kernel_rfl
  | 5 => kernel_rfl
  | 6 => kernel_rfl
  | 7 => kernel_rfl
  | 8 => kernel_rfl
  | 9 => kernel_rfl
  | 10 => kernel_rfl
  | 11 => kernel_rfl
  | 12 => kernel_rfl
  | 13 => kernel_rfl
  | 14 => kernel_rfl
  | 15 => kernel_rfl
  | 16 => kernel_rfl
  | 17 => kernel_rfl
  | 18 => kernel_rfl
  | 19 => kernel_rfl
  | 20 => kernel_rfl
  | 21 => kernel_rfl
  | 22 => kernel_rfl
  | 23 => kernel_rfl
  | 24 => kernel_rfl
  | 25 => kernel_rfl
  | 26 => kernel_rfl
  | 27 => kernel_rfl
  | 28 => kernel_rfl
  | 29 => kernel_rfl
  | 30 => kernel_rfl
  | 31 => kernel_rfl
  | 32 => kernel_rfl
  | 33 => kernel_rfl
  | 34 => kernel_rfl
  | 35 => kernel_rfl
  | 36 => kernel_rfl
  | 37 => kernel_rfl
  | 38 => kernel_rfl
  | 39 => kernel_rfl
  | j + 40 => omega
theorem td_set : ∀ j, 2 ≤ j → j ≤ 39 → ∀ (P : Params) (X : Obj) (f : Obj → Obj), (TD j P X).set 47 f = TD j P (f X) := by
  intro j h1 h2 P X f
  match j with
  | 0 => omega
  | 1 => omega
  | 2 => kernel_rfl
  | 3 => kernel_rfl
  | 4 => kernel_rfl
  | 5 => kernel_rfl
  | 6 => kernel_rfl
  | 7 => kernel_rfl
  | 8 => kernel_rfl
  | 9 => kernel_rfl
  | 10 => kernel_rfl
  | 11 => kernel_rfl
  | 12 => kernel_rfl
  | 13 => kernel_rfl
  | 14 => kernel_rfl
  | 15 => kernel_rfl
  | 16 => kernel_rfl
  | 17 => kernel_rfl
  | 18 => kernel_rfl
  | 19 => kernel_rfl
  | 20 => kernel_rfl
  | 21 => kernel_rfl
  | 22 => kernel_rfl
  | 23 => kernel_rfl
  | 24 => kernel_rfl
  | 25 => kernel_rfl
  | 26 => kernel_rfl
  | 27 => kernel_rfl
  | 28 => kernel_rfl
  | 29 => kernel_rfl
  | 30 => kernel_rfl
  | 31 => kernel_rfl
  | 32 => kernel_rfl
  | 33 => kernel_rfl
  | 34 => kernel_rfl
  | 35 => kernel_rfl
  | 36 => kernel_rfl
  | 37 => kernel_rfl
  | 38 => kernel_rfl
  | 39 => kernel_rfl
  | j + 40 => omega
theorem td_sub : ∀ j, 1 ≤ j → j ≤ 38 → ∀ (P : Params) (X : Obj), (TD (j + 1) P X).get (47 + j) = some (objD (b3grp j)) := by
  intro j h1 h2 P X
  match j with
  | 0 => omega
  | 1 => kernel_rfl
  | 2 => kernel_rfl
  | 3 => kernel_rfl
  | 4 => kernel_rfl
  | 5 => kernel_rfl
  | 6 => kernel_rfl
  | 7 => kernel_rfl
  | 8 => kernel_rfl
  | 9 => kernel_rfl
  | 10 => kernel_rfl
  | 11 => kernel_rfl
  | 12 => kernel_rfl
  | 13 => kernel_rfl
  | 14 => kernel_rfl
  | 15 => kernel_rfl
  | 16 => kernel_rfl
  | 17 => kernel_rfl
  | 18 => kernel_rfl
  | 19 => kernel_rfl
  | 20 => kernel_rfl
  | 21 => kernel_rfl
  | 22 => kernel_rfl
  | 23 => kernel_rfl
  | 24 => kernel_rfl
  | 25 => kernel_rfl
  | 26 => kernel_rfl
  | 27 => kernel_rfl
  | 28 => kernel_rfl
  | 29 => kernel_rfl
  | 30 => kernel_rfl
  | 31 => kernel_rfl
  | 32 => kernel_rfl
  | 33 => kernel_rfl
  | 34 => kernel_rfl
  | 35 => kernel_rfl
  | 36 => kernel_rfl
  | 37 => kernel_rfl
  | 38 => kernel_rfl
  | j + 39 => omega
theorem subAll_false : ∀ j, 1 ≤ j → j ≤ 37 → ∀ (w : World) os lv K H gd X, runSub j 223 (326 + 51 * (j - 1)) (w.withFollow "special-get-raises" false) os lv K H gd X = resSub (j + 1) (48 + j) (326 + 51 * j) (47 + j) (w.withFollow "special-get-raises" false) os K X := by
  intro j h1 h2
  match j with
  | 0 => omega
  | 1 => exact sub1_false
  | 2 => exact sub2_false
  | 3 => exact sub3_false
  | 4 => exact sub4_false
  | 5 => exact sub5_false
  | 6 => exact sub6_false
  | 7 => exact sub7_false
  | 8 => exact sub8_false
  | 9 => exact sub9_false
  | 10 => exact sub10_false
  | 11 => exact sub11_false
  | 12 => exact sub12_false
  | 13 => exact sub13_false
  | 14 => exact sub14_false
  | 15 => exact sub15_false
  | 16 => exact sub16_false
  | 17 => exact sub17_false
  | 18 => exact sub18_false
  | 19 => exact sub19_false
  | 20 => exact sub20_false
  | 21 => exact sub21_false
  | 22 => exact sub22_false
  | 23 => exact sub23_false
  | 24 => exact sub24_false
  | 25 => exact sub25_false
  | 26 => exact sub26_false
  | 27 => exact sub27_false
  | 28 => exact sub28_false
  | 29 => exact sub29_false
  | 30 => exact sub30_false
  | 31 => exact sub31_false
  | 32 => exact sub32_false
  | 33 => exact sub33_false
  | 34 => exact sub34_false
  | 35 => exact sub35_false
  | 36 => exact sub36_false
  | 37 => exact sub37_false
  | j + 38 => omega
theorem subAll_true : ∀ j, 1 ≤ j → j ≤ 37 → ∀ (w : World) os lv K H gd X, runSub j 223 (326 + 51 * (j - 1)) (w.withFollow "special-get-raises" true) os lv K H gd X = resSub (j + 1) (48 + j) (326 + 51 * j) (47 + j) (w.withFollow "special-get-raises" true) os K X := by
  intro j h1 h2
  match j with
  | 0 => omega
  | 1 => exact sub1_true
  | 2 => exact sub2_true
  | 3 => exact sub3_true
  | 4 => exact sub4_true
  | 5 => exact sub5_true
  | 6 => exact sub6_true
  | 7 => exact sub7_true
  | 8 => exact sub8_true
  | 9 => exact sub9_true
  | 10 => exact sub10_true
  | 11 => exact sub11_true
  | 12 => exact sub12_true
  | 13 => exact sub13_true
  | 14 => exact sub14_true
  | 15 => exact sub15_true
  | 16 => exact sub16_true
  | 17 => exact sub17_true
  | 18 => exact sub18_true
  | 19 => exact sub19_true
  | 20 => exact sub20_true
  | 21 => exact sub21_true
  | 22 => exact sub22_true
  | 23 => exact sub23_true
  | 24 => exact sub24_true
  | 25 => exact sub25_true
  | 26 => exact sub26_true
  | 27 => exact sub27_true
  | 28 => exact sub28_true
  | 29 => exact sub29_true
  | 30 => exact sub30_true
  | 31 => exact sub31_true
  | 32 => exact sub32_true
  | 33 => exact sub33_true
  | 34 => exact sub34_true
  | 35 => exact sub35_true
  | 36 => exact sub36_true
  | 37 => exact sub37_true
  | j + 38 => omega
noncomputable def incr : List Int → Bool
  | a :: b :: r => decide (a < b) && incr (b :: r)
  | _ => true
theorem incr_lt : ∀ (a : Int) (l : List Int), incr (a :: l) = true → ∀ x ∈ l, a < x
  | _, [], _ => fun x hx => absurd hx (List.not_mem_nil)
  | a, b :: r, h => by
    unfold incr at h
    rw [Bool.and_eq_true] at h
    have hab := of_decide_eq_true h.1
    intro x hx
    rcases List.mem_cons.mp hx with rfl | hx
    · exact hab
    · exact Int.lt_trans hab (incr_lt b r h.2 x hx)
theorem incr_pairwise : ∀ (l : List DictEntry), incr (l.map (·.hash)) = true → l.Pairwise (fun e e' => e.hash ≠ e'.hash)
  | [], _ => List.Pairwise.nil
  | e :: r, h => by
    refine List.Pairwise.cons ?_ (incr_pairwise r ?_)
    · intro e' he'
      have q : e.hash < e'.hash := incr_lt _ _ h e'.hash (List.mem_map.mpr ⟨e', he', rfl⟩)
      exact Int.ne_of_lt q
    · cases r with
      | nil => rfl
      | cons b r =>
        unfold incr at h
        rw [List.map_cons, List.map_cons] at h
        simp only [Bool.and_eq_true] at h
        exact h.2
theorem b3_len : b3entries.length = 650 := by kernel_rfl
theorem b3_pw : b3entries.Pairwise (fun e e' => e.hash ≠ e'.hash) := incr_pairwise _ (by kernel_rfl)
theorem b3from_form : ∀ (i : Nat) (l : List (Int × Str)), ∀ e ∈ b3from i l, ∃ k t x u, e = ⟨e.hash, .int k t, .str x u⟩
  | _, [], _, h => absurd h List.not_mem_nil
  | i, (k, v) :: r, e, h => by
    rcases List.mem_cons.mp h with rfl | h
    · exact ⟨_, _, _, _, rfl⟩
    · exact b3from_form (i + 1) r e h
theorem pairs_len : pairs.length = 650 := by kernel_rfl
end Mine
end
section
set_option Elab.async false
set_option maxRecDepth 100000
set_option maxHeartbeats 400000
open PySem PySem.W PyProof.Rows
namespace Mine
noncomputable def dTgt : Str × Pos × Pos := match dStm with
  | .Assign [.Name x np] _ p2 => (x, np, p2)
  | _ => (Str.empty, default, default)
theorem stm6 : stm 6 = [.Assign [.Name dTgt.1 dTgt.2.1] (.Dict dParts.1 dParts.2.1 dPos) dTgt.2.2] := by kernel_rfl
theorem items6 : (evalEachOpt dParts.1 env).zip ((evalEach dParts.2.1 env).map fun v => do let x ← v; standAt dPos; pure x) = pairs.map asItem := by kernel_rfl
theorem runs_at {w : World} {lv : List Value → List Value} {s : SharedT} {p q : Pos} : Runs w lv (standAt q) s 1 p q () s := fun K H gd => by
  obtain ⟨T, n, life, gens, drawn, toks, os⟩ := s
  rfl
theorem runs_assign {x : Str} {np p2 dp : Pos} {ks : List (Option PySem.Expr)} {vs : List PySem.Expr} {w : World} {lv : List Value → List Value} {s s' s'' : SharedT} {n m : Nat} {p p' : Pos} {v : Value} {its : List (Option (Sem Value) × Sem Value)}
    (hi : (evalEachOpt ks env).zip ((evalEach vs env).map fun v => do let x ← v; standAt dp; pure x) = its)
    (hd : Runs w lv (dictDisplay its) s n dp dp v s')
    (ha : Runs w lv (assignStores env v none (List.map (fun x => x.snd) (assignEach [PySem.Expr.Name x np] env))) s' m dp p' .next s'') :
    Runs w lv (execs [.Assign [.Name x np] (.Dict ks vs dp) p2] env) s ((1 + (0 + ((1 + n) + (0 + m)))) + 0) p p' .next s'' := by
  unfold execs exec
  refine Runs.bind (a := Flow.next) (p' := p') (s' := s'') ?_ ?_
  · refine Runs.bind runs_at ?_
    refine Runs.bind (a := false) (p' := p2) (s' := s) ?_ ?_
    · exact Runs.pure
    · rw [if_neg Bool.false_ne_true]
      refine Runs.bind (a := v) (p' := dp) (s' := s') ?_ ?_
      · unfold eval
        rw [hi]
        exact Runs.bind runs_at hd
      · exact Runs.bind (a := none) (p' := dp) (s' := s') Runs.pure ha
  · unfold execs
    exact Runs.pure
end Mine
end
section
set_option Elab.async false
set_option linter.unusedVariables false
set_option maxRecDepth 100000
set_option maxHeartbeats 4000000
open PySem PySem.W PyProof.Rows
namespace Mine
theorem blt_of {a n : Nat} (h : a < n) : Nat.blt a n = true := Nat.ble_eq_true_of_le h
theorem subAll (b : Bool) : ∀ j, 1 ≤ j → j ≤ 37 → ∀ (w : World) os lv K H gd X, runSub j 223 (326 + 51 * (j - 1)) (w.withFollow "special-get-raises" b) os lv K H gd X = resSub (j + 1) (48 + j) (326 + 51 * j) (47 + j) (w.withFollow "special-get-raises" b) os K X := by
  cases b
  · exact subAll_false
  · exact subAll_true
noncomputable def St (j : Nat) (w : World) (os : OsState) : SharedT := ⟨TD j w.params (objD (b3entries.take (17 * j))), 47 + j, theLife, #[], theDrawn, 326 + 51 * (j - 1), os⟩
theorem take_grp (j : Nat) : b3entries.take (17 * j) ++ b3grp j = b3entries.take (17 * (j + 1)) := by
  rw [Nat.mul_succ, List.take_add]
  rfl
theorem FL_of {w : World} {lv : List Value → List Value} {os : OsState} {j st tk : Nat} (h1 : 1 ≤ j) (h2 : j ≤ 38)
    (h : ∀ lv, Runs w lv (holding [.ref 47] (subDict (grp j))) (St j w os) st dPos dPos (47 + j) ⟨TD (j + 1) w.params (objD (b3entries.take (17 * j))), 48 + j, theLife, #[], theDrawn, tk, os⟩) :
    Runs w lv (FL (grp j) (some 47)) (St j w os) (st + ((1 + (1 + (0 + (1 + (1 + (1 + (6 * (b3grp j).length + 0))))))) + 0)) dPos dPos (some 47) ⟨TD (j + 1) w.params (objD (b3entries.take (17 * (j + 1)))), 48 + j, theLife, #[], theDrawn, tk, os⟩ := by
  have hm : ∀ lv, Runs w lv (mergeMapping 47 (.ref (47 + j)) false) ⟨TD (j + 1) w.params (objD (b3entries.take (17 * j))), 48 + j, theLife, #[], theDrawn, tk, os⟩ (1 + (1 + (0 + (1 + (1 + (1 + (6 * (b3grp j).length + 0))))))) dPos dPos () ⟨TD (j + 1) w.params (objD (b3entries.take (17 * (j + 1)))), 48 + j, theLife, #[], theDrawn, tk, os⟩ := by
    intro lv
    rw [← take_grp j]
    have hA : ∀ X, (TD (j + 1) w.params X).get (47 + j) = some (objD (b3grp j)) := fun X => td_sub j h1 h2 _ X
    refine merge_plain (T := fun X => TD (j + 1) w.params X) rfl (blt_of (by omega)) (blt_of (by omega)) (fun X => td_get (j + 1) (by omega) (by omega) _ X) (fun X f => td_set (j + 1) (by omega) (by omega) _ X f) hA ?_ ?_ ?_ ?_ ?_ 1 1 (fun lv X => is_dict (blt_of (by omega)) (hA X)) (fun lv X => sp_iter (blt_of (by omega)) (hA X))
    · rw [beq_eq_false_iff_ne]
      intro e
      have e2 : sysModules < 47 := by decide
      exact absurd e (Nat.ne_of_gt (Nat.lt_of_lt_of_le e2 (Nat.le_add_right 47 j)))
    · intro e
      have := congrArg List.length e
      rw [List.length_take, b3_len] at this
      simp only [List.length_nil] at this
      omega
    · intro e he
      exact b3from_form 0 b3src e (List.mem_of_mem_drop (List.mem_of_mem_take he))
    · rw [take_grp j]
      exact b3_pw.sublist (List.take_sublist _ _)
    · rw [take_grp j, List.length_take, b3_len]
      omega
  have hk : ∀ lv, Runs w lv ((holding [.ref 47, .ref (47 + j)] (mergeMapping 47 (.ref (47 + j)) false)).onRaise (hnd 47)) ⟨TD (j + 1) w.params (objD (b3entries.take (17 * j))), 48 + j, theLife, #[], theDrawn, tk, os⟩ (1 + (1 + (0 + (1 + (1 + (1 + (6 * (b3grp j).length + 0))))))) dPos dPos () ⟨TD (j + 1) w.params (objD (b3entries.take (17 * (j + 1)))), 48 + j, theLife, #[], theDrawn, tk, os⟩ := fun lv => Runs.onRaise (Runs.keep (vs := [.ref 47, .ref (47 + j)]) (hm _))
  exact Runs.bind (h lv) (Runs.bind (hk lv) Runs.pure)
theorem grp_len (j : Nat) (h : j ≤ 37) : (b3grp j).length = 17 := by
  unfold b3grp
  rw [List.length_take, List.length_drop, b3_len]
  omega
theorem FL_step (b : Bool) {j : Nat} (h1 : 1 ≤ j) (h2 : j ≤ 37) (w : World) (os : OsState) (lv : List Value → List Value) :
    Runs (w.withFollow "special-get-raises" b) lv (FL (grp j) (some 47)) (St j (w.withFollow "special-get-raises" b) os) 330 dPos dPos (some 47) (St (j + 1) (w.withFollow "special-get-raises" b) os) := by
  have h := FL_of (lv := lv) (tk := 326 + 51 * j) h1 (by omega) (fun lv K H gd => subAll b j h1 h2 w os lv K H gd _)
  rw [grp_len j h2] at h
  have e : St (j + 1) (w.withFollow "special-get-raises" b) os = ⟨TD (j + 1) (w.withFollow "special-get-raises" b).params (objD (b3entries.take (17 * (j + 1)))), 48 + j, theLife, #[], theDrawn, 326 + 51 * j, os⟩ := by
    unfold St
    rw [show 47 + (j + 1) = 48 + j by omega]
    rfl
  rw [e]
  exact h
theorem FL_first (b : Bool) (w : World) (os : OsState) (lv : List Value → List Value) :
    Runs (w.withFollow "special-get-raises" b) lv (FL (grp 0) none) (S_p5 (w.withFollow "special-get-raises" b) os) (223 + 0) dPos dPos (some 47) (St 1 (w.withFollow "special-get-raises" b) os) := by
  have h : Runs (w.withFollow "special-get-raises" b) lv (subDict (grp 0)) (S_p5 (w.withFollow "special-get-raises" b) os) 223 dPos dPos 47 (St 1 (w.withFollow "special-get-raises" b) os) := fun K H gd => by
    cases b
    · exact first_false w os lv K H gd
    · exact first_true w os lv K H gd
  exact Runs.bind h Runs.pure
theorem loopAll (b : Bool) (w : World) (os : OsState) (lv : List Value → List Value) (f : Option (Sem Value) × Sem Value → DSt → Sem (ForInStep DSt)) (hf : Body f) : ∀ i, i ≤ 37 →
    Runs (w.withFollow "special-get-raises" b) lv (forIn ((pairs.drop (17 * (38 - i))).map asItem) ((some 47, []) : DSt) f) (St (38 - i) (w.withFollow "special-get-raises" b) os) (330 * i) dPos dPos (some 47, grp 38) (St 38 (w.withFollow "special-get-raises" b) os)
  | 0, _ => by
    have e : pairs.drop (17 * (38 - 0)) = grp 38 := by
      unfold grp
      rw [List.take_of_length_le (by rw [List.length_drop, pairs_len]; omega)]
    rw [e]
    exact loopEnd hf (grp 38) [] (by unfold grp; rw [List.length_take, List.length_drop, pairs_len]; simp)
  | i + 1, hi => by
    have hj : 38 - i = (38 - (i + 1)) + 1 := by omega
    have e : pairs.drop (17 * (38 - (i + 1))) = grp (38 - (i + 1)) ++ pairs.drop (17 * (38 - i)) := by
      rw [hj, Nat.mul_succ, ← List.drop_drop]
      exact (List.take_append_drop 17 _).symm
    rw [e, List.map_append, show 330 * (i + 1) = 330 + 330 * i by omega]
    have ih := loopAll b w os lv f hf i (by omega)
    have hs := FL_step b (j := 38 - (i + 1)) (by omega) (by omega) w os lv
    rw [← hj] at hs
    have hl : (grp (38 - (i + 1))).length = 17 := by
      unfold grp
      rw [List.length_take, List.length_drop, pairs_len]
      omega
    refine loop17 hf (grp (38 - (i + 1))) [] ?_ ?_ hs ih
    · intro q
      rw [q] at hl
      cases hl
    · rw [hl]; rfl
end Mine
end
section
set_option Elab.async false
set_option linter.unusedVariables false
set_option maxRecDepth 100000
set_option maxHeartbeats 0
open PySem PySem.W PyProof.Rows
noncomputable section
namespace Mine
noncomputable def H_pre : Params → Heap := fun P => ⟨List.toArray (boot_o_0 P :: boot_o_1 P :: boot_o_2 P :: boot_o_3 P :: boot_o_4 P :: boot_o_5 P :: boot_o_6 P :: boot_o_7 P :: boot_o_8 P :: boot_o_9 P :: boot_o_10 P :: o11_0 P :: o12_0 P :: o13_0 P :: o14_0 P :: []), theLife⟩
noncomputable def H_fin : Params → Heap := fun P => ⟨List.toArray (boot_o_0 P :: boot_o_1 P :: boot_o_2 P :: o3_14 P :: boot_o_4 P :: boot_o_5 P :: boot_o_6 P :: boot_o_7 P :: boot_o_8 P :: boot_o_9 P :: boot_o_10 P :: o11_0 P :: o12_9 P :: o13_0 P :: o14_0 P :: o15_0 P :: o16_0 P :: o17_0 P :: o18_0 P :: o19_0 P :: o20_0 P :: o21_0 P :: o22_0 P :: o23_0 P :: o24_0 P :: o25_0 P :: o26_0 P :: o27_0 P :: o28_0 P :: o29_0 P :: o30_0 P :: o31_0 P :: o32_0 P :: o33_0 P :: o34_0 P :: o35_0 P :: o36_0 P :: o37_0 P :: o38_0 P :: o39_0 P :: o40_0 P :: o41_0 P :: o42_0 P :: o43_0 P :: o44_0 P :: o45_0 P :: o46_0 P :: o47_0 P :: o48_0 P :: o49_0 P :: o50_0 P :: o51_0 P :: o52_0 P :: o53_0 P :: o54_0 P :: o55_0 P :: o56_0 P :: o57_0 P :: o58_0 P :: o59_0 P :: o60_0 P :: o61_0 P :: o62_0 P :: o63_0 P :: o64_0 P :: o65_0 P :: o66_0 P :: o67_0 P :: o68_0 P :: o69_0 P :: o70_0 P :: o71_0 P :: o72_0 P :: o73_0 P :: o74_0 P :: o75_0 P :: o76_0 P :: o77_0 P :: o78_0 P :: o79_0 P :: o80_0 P :: o81_0 P :: o82_0 P :: o83_0 P :: o84_0 P :: o85_0 P :: o86_0 P :: o87_0 P :: o88_0 P :: o89_0 P :: o90_0 P :: o91_0 P :: o92_0 P :: o93_0 P :: o94_0 P :: o95_0 P :: o96_0 P :: o97_0 P :: o98_0 P :: o99_0 P :: o100_0 P :: o101_0 P :: o102_0 P :: o103_0 P :: o104_0 P :: o105_0 P :: o106_0 P :: o107_0 P :: o108_0 P :: o109_0 P :: o110_0 P :: o111_0 P :: o112_0 P :: o113_0 P :: o114_0 P :: o115_0 P :: o116_0 P :: o117_0 P :: o118_0 P :: o119_0 P :: o120_0 P :: o121_0 P :: o122_0 P :: o123_0 P :: o124_0 P :: o125_0 P :: o126_0 P :: o127_0 P :: o128_0 P :: o129_0 P :: o130_0 P :: o131_0 P :: o132_0 P :: o133_0 P :: o134_0 P :: o135_0 P :: o136_0 P :: o137_0 P :: o138_0 P :: o139_0 P :: o140_0 P :: o141_0 P :: o142_0 P :: o143_0 P :: o144_0 P :: o145_0 P :: o146_0 P :: o147_0 P :: o148_0 P :: o149_0 P :: o150_0 P :: o151_0 P :: o152_0 P :: o153_0 P :: o154_0 P :: o155_0 P :: o156_0 P :: o157_0 P :: o158_0 P :: o159_0 P :: o160_0 P :: o161_0 P :: o162_0 P :: o163_0 P :: o164_0 P :: o165_0 P :: o166_0 P :: o167_0 P :: o168_0 P :: o169_0 P :: o170_0 P :: o171_0 P :: o172_0 P :: o173_0 P :: o174_0 P :: o175_0 P :: o176_0 P :: o177_0 P :: o178_0 P :: o179_0 P :: o180_0 P :: o181_0 P :: o182_0 P :: []), theLife⟩
noncomputable def sBoot (w : World) (os : OsState) : Shared := ⟨boot_heap w.params, #[], boot_drawn, boot_toks, os⟩
noncomputable def sPre (w : World) (os : OsState) : Shared := ⟨H_pre w.params, #[], theDrawn, nat_lit 187, os⟩
noncomputable def sFin (w : World) (os : OsState) : Shared := ⟨H_fin w.params, #[], theDrawn, nat_lit 2371, os⟩
noncomputable def runPre (w : World) (os : OsState) := topGo treeTable prog w (nat_lit 11) annE (nat_lit 12) (sBoot w os) (topStub prog)
noncomputable def resPre (w : World) (os : OsState) : Option (Shared × Thread) := some (sPre w os, ⟨denote treeTable cE, cE, ⟨0, 0, 0, 0⟩, tB⟩)
theorem pre_eq : ∀ (w : World), runPre w = resPre w := fun w => by
  unfold runPre resPre
  rw [PySem.W.Fast.te15667345088766844465, PySem.W.Fast.te14364793385576792824, PySem.W.Fast.te11892475500146522536]
  kernel_rfl
noncomputable def runBlk (w : World) (os : OsState) := segRun treeTable prog w (nat_lit 11) annE (nat_lit 1) (nat_lit 1) (sPre w os) (blockOf bod env cE ⟨0, 0, 0, 0⟩ tB)
noncomputable def resBlk (w : World) (os : OsState) : Option (Flow × Shared × Code × Pos) := some (.next, (S_block w os).abs, cE, ⟨0, 0, 0, 0⟩)
theorem blk_eq : ∀ (w : World), runBlk w = resBlk w := fun w => by
  unfold runBlk resBlk
  rw [PySem.W.Fast.te14374325043358763698, PySem.W.Fast.te14364793385576792824]
  kernel_rfl
noncomputable def runFin (w : World) (os : OsState) := topRun treeTable prog w (nat_lit 11) annE (nat_lit 2) (S_p14 w os).abs ⟨doneF .next, cE, ⟨111, 0, 134, 62⟩, tB⟩
noncomputable def resFin (w : World) (os : OsState) : Option Shared := some (sFin w os)
theorem fin_eq : ∀ (w : World), runFin w = resFin w := fun w => by
  unfold runFin resFin
  rw [PySem.W.Fast.te14082659384304107361, PySem.W.Fast.te14364793385576792824]
  kernel_rfl
end Mine
end
end
section
set_option Elab.async false
set_option linter.unusedVariables false
set_option maxRecDepth 100000
set_option maxHeartbeats 0
open PySem PySem.W PyProof.Rows
namespace Mine
noncomputable def runPost (w : World) (os : OsState) (lv : List Value → List Value) (K : Flow → Sem PySem.Fin) (H : Value → Sem PySem.Fin) (gd : Bool → Bool) := segGoT treeTable prog w (nat_lit 11) annE (nat_lit 1) (nat_lit 7) ⟨TD (nat_lit 39) w.params (objD b3entries), (nat_lit 86), theLife, #[], theDrawn, (nat_lit 2225), os⟩ ⟨(assignStores env (.ref (nat_lit 47)) none (List.map (fun x => x.snd) (assignEach [PySem.Expr.Name dTgt.1 dTgt.2.1] env))).wrap K H gd lv, cE, dPos, tB⟩
noncomputable def resPost (w : World) (os : OsState) (K : Flow → Sem PySem.Fin) : Option (SharedT × Thread) := some (S_p6 w os, ⟨K .next, cE, ⟨19, 0, 19, 13⟩, tB⟩)
theorem post_eq : ∀ (w : World) os lv K H gd, runPost w os lv K H gd = resPost w os K := fun w os lv K H gd => by
  unfold runPost
  rw [PySem.W.Fast.te10295753902157049106, PySem.W.Fast.te14364793385576792824, PySem.W.Fast.te2470068587113613483, PySem.W.Fast.te15628205474173192105]
  kernel_rfl
end Mine
end
section
set_option Elab.async false
set_option linter.unusedVariables false
set_option maxRecDepth 100000
set_option maxHeartbeats 0
open PySem PySem.W PyProof.Rows
namespace Mine

theorem take_all : b3entries.take (17 * (38 + 1)) = b3entries := List.take_of_length_le (by rw [b3_len]; omega)
theorem FL_last (b : Bool) (w : World) (os : OsState) (lv : List Value → List Value) :
    Runs (w.withFollow "special-get-raises" b) lv (FL (grp 38) (some 47)) (St 38 (w.withFollow "special-get-raises" b) os) 82 dPos dPos (some 47) ⟨TD 39 (w.withFollow "special-get-raises" b).params (objD b3entries), 86, theLife, #[], theDrawn, 2225, os⟩ := by
  have h := FL_of (w := w.withFollow "special-get-raises" b) (os := os) (lv := lv) (j := 38) (st := 53) (tk := 2225) (by omega) (by omega) (fun lv K H gd => by
    cases b
    · exact sub38_false w os lv K H gd _
    · exact sub38_true w os lv K H gd _)
  have e : (b3grp 38).length = 4 := by
    unfold b3grp
    rw [List.length_take, List.length_drop, b3_len]
    rfl
  rw [e, take_all] at h
  exact h
theorem dd_all (b : Bool) (w : World) (os : OsState) (lv : List Value → List Value) :
    Runs (w.withFollow "special-get-raises" b) lv (dictDisplay (pairs.map asItem)) (S_p5 (w.withFollow "special-get-raises" b) os) (((223 + 0) + 330 * 37) + 82) dPos dPos (.ref 47) ⟨TD 39 (w.withFollow "special-get-raises" b).params (objD b3entries), 86, theLife, #[], theDrawn, 2225, os⟩ := by
  refine dd_runs (m := some 47) (run := grp 38) ?_ ?_ (FL_last b w os lv)
  · intro f hf
    have e : pairs = grp 0 ++ pairs.drop (17 * (38 - 37)) := (List.take_append_drop 17 pairs).symm
    have hl : (grp 0).length = 17 := by
      unfold grp
      rw [List.length_take, List.length_drop, pairs_len]
      omega
    have h1 := loopAll b w os lv f hf 37 (Nat.le_refl _)
    have h0 : Runs (w.withFollow "special-get-raises" b) lv (FL ([] ++ grp 0) none) (S_p5 (w.withFollow "special-get-raises" b) os) (223 + 0) dPos dPos (some 47) (St (38 - 37) (w.withFollow "special-get-raises" b) os) := FL_first b w os lv
    have := loop17 hf (grp 0) [] (by intro q; rw [q] at hl; cases hl) (by rw [hl]; rfl) h0 h1
    rw [← List.map_append, ← e] at this
    exact this
  · intro q
    have hl : (grp 38).length = 4 := by
      unfold grp
      rw [List.length_take, List.length_drop, pairs_len]
      rfl
    rw [q] at hl
    cases hl
end Mine
end
section
set_option Elab.async false
set_option linter.unusedVariables false
set_option maxRecDepth 100000
set_option maxHeartbeats 0
open PySem PySem.W PyProof.Rows
namespace Mine
theorem ex6 (b : Bool) (w : World) (os : OsState) (lv : List Value → List Value) : Runs (w.withFollow "special-get-raises" b) lv (execs (stm 6) env) (S_p5 (w.withFollow "special-get-raises" b) os) 12524 ⟨17, 0, 18, 30⟩ ⟨19, 0, 19, 13⟩ .next (S_p6 (w.withFollow "special-get-raises" b) os) := by
  rw [stm6]
  have hp : Runs (w.withFollow "special-get-raises" b) lv (assignStores env (.ref 47) none (List.map (fun x => x.snd) (assignEach [PySem.Expr.Name dTgt.1 dTgt.2.1] env))) ⟨TD 39 (w.withFollow "special-get-raises" b).params (objD b3entries), 86, theLife, #[], theDrawn, 2225, os⟩ 7 dPos ⟨19, 0, 19, 13⟩ .next (S_p6 (w.withFollow "special-get-raises" b) os) := fun K H gd => post_eq _ os lv K H gd
  have r := runs_assign (p := ⟨17, 0, 18, 30⟩) (p2 := dTgt.2.2) items6 (dd_all b w os lv) hp
  have e : (1 + (0 + ((1 + (((223 + 0) + 330 * 37) + 82)) + (0 + 7)))) + 0 = 12524 := by decide
  rw [e] at r
  exact r
end Mine
end
section
set_option Elab.async false
set_option linter.unusedVariables false
set_option maxRecDepth 100000
set_option maxHeartbeats 0
open PySem PySem.W PyProof.Rows
namespace Mine
theorem seg_done {tb : String → Option Builtin} {p : Program} {w : World} {n₀ : Nat} {ann : Option Value} {s : Shared} {c : Code} {pos : Pos} : segRun tb p w n₀ ann 1 1 s ⟨doneF .next, c, pos, tB⟩ = some (.next, s, c, pos) := rfl
theorem piece6b (b : Bool) (w : World) (os : OsState) : segRun treeTable prog (w.withFollow "special-get-raises" b) 11 annE 1 (12524 + 1) (S_p5 (w.withFollow "special-get-raises" b) os).abs (piecesOf (stm 6) env cE ⟨17, 0, 18, 30⟩ tB) = some (.next, (S_p6 (w.withFollow "special-get-raises" b) os).abs, cE, ⟨19, 0, 19, 13⟩) :=
  by
  have h := ex6 b w os id doneF deadEnd id
  unfold go at h
  exact seg_go (n := 12524) (N := 1) (segGo_of h) seg_done
theorem piece6 : ∀ (w : World) (os : OsState), segRun treeTable prog w 11 annE 1 (12524 + 1) (S_p5 w os).abs (piecesOf (stm 6) env cE ⟨17, 0, 18, 30⟩ tB) = some (.next, (S_p6 w os).abs, cE, ⟨19, 0, 19, 13⟩) :=
  byRow2 "special-get-raises" (P := fun w => ∀ (os : OsState), segRun treeTable prog w 11 annE 1 (12524 + 1) (S_p5 w os).abs (piecesOf (stm 6) env cE ⟨17, 0, 18, 30⟩ tB) = some (.next, (S_p6 w os).abs, cE, ⟨19, 0, 19, 13⟩)) (piece6b false) (piece6b true)
end Mine
end
section
set_option Elab.async false
set_option linter.unusedVariables false
set_option maxRecDepth 100000
set_option maxHeartbeats 0
open PySem PySem.W PyProof.Rows
namespace Mine
theorem rest15 (w : World) (os : OsState) : topRun treeTable prog w 11 annE 2 (S_p14 w os).abs (restOf [] env cE ⟨111, 0, 134, 62⟩ tB) = some (sFin w os) := congrFun (fin_eq w) os
theorem rest14 (w : World) (os : OsState) : topRun treeTable prog w 11 annE ((27) + (2)) (S_p13 w os).abs (restOf (stm 14 ++ ([])) env cE ⟨95, 0, 110, 25⟩ tB) = some (sFin w os) := piece_app (q := ⟨0, 0, 0, 0⟩) (segRun_of (congrFun (piece14 w) os)) (rest15 w os)
theorem rest13 (w : World) (os : OsState) : topRun treeTable prog w 11 annE ((34) + ((27) + (2))) (S_p12 w os).abs (restOf (stm 13 ++ (stm 14 ++ ([]))) env cE ⟨87, 0, 94, 17⟩ tB) = some (sFin w os) := piece_app (q := ⟨0, 0, 0, 0⟩) (segRun_of (congrFun (piece13 w) os)) (rest14 w os)
theorem rest12 (w : World) (os : OsState) : topRun treeTable prog w 11 annE ((33) + ((34) + ((27) + (2)))) (S_p11 w os).abs (restOf (stm 12 ++ (stm 13 ++ (stm 14 ++ ([])))) env cE ⟨83, 0, 86, 87⟩ tB) = some (sFin w os) := piece_app (q := ⟨0, 0, 0, 0⟩) (segRun_of (congrFun (piece12 w) os)) (rest13 w os)
theorem rest11 (w : World) (os : OsState) : topRun treeTable prog w 11 annE ((27) + ((33) + ((34) + ((27) + (2))))) (S_p10 w os).abs (restOf (stm 11 ++ (stm 12 ++ (stm 13 ++ (stm 14 ++ ([]))))) env cE ⟨82, 0, 82, 8⟩ tB) = some (sFin w os) := piece_app (q := ⟨0, 0, 0, 0⟩) (segRun_of (congrFun (piece11 w) os)) (rest12 w os)
theorem rest10 (w : World) (os : OsState) : topRun treeTable prog w 11 annE ((10) + ((27) + ((33) + ((34) + ((27) + (2)))))) (S_p9 w os).abs (restOf (stm 10 ++ (stm 11 ++ (stm 12 ++ (stm 13 ++ (stm 14 ++ ([])))))) env cE ⟨26, 0, 81, 16⟩ tB) = some (sFin w os) := piece_app (q := ⟨0, 0, 0, 0⟩) (segRun_of (congrFun (piece10 w) os)) (rest11 w os)
theorem rest9 (w : World) (os : OsState) : topRun treeTable prog w 11 annE ((493) + ((10) + ((27) + ((33) + ((34) + ((27) + (2))))))) (S_p8 w os).abs (restOf (stm 9 ++ (stm 10 ++ (stm 11 ++ (stm 12 ++ (stm 13 ++ (stm 14 ++ ([]))))))) env cE ⟨25, 0, 25, 8⟩ tB) = some (sFin w os) := piece_app (q := ⟨0, 0, 0, 0⟩) (segRun_of (congrFun (piece9 w) os)) (rest10 w os)
theorem rest8 (w : World) (os : OsState) : topRun treeTable prog w 11 annE ((10) + ((493) + ((10) + ((27) + ((33) + ((34) + ((27) + (2)))))))) (S_p7 w os).abs (restOf (stm 8 ++ (stm 9 ++ (stm 10 ++ (stm 11 ++ (stm 12 ++ (stm 13 ++ (stm 14 ++ ([])))))))) env cE ⟨20, 0, 24, 23⟩ tB) = some (sFin w os) := piece_app (q := ⟨0, 0, 0, 0⟩) (segRun_of (congrFun (piece8 w) os)) (rest9 w os)
theorem rest7 (w : World) (os : OsState) : topRun treeTable prog w 11 annE ((31) + ((10) + ((493) + ((10) + ((27) + ((33) + ((34) + ((27) + (2))))))))) (S_p6 w os).abs (restOf (stm 7 ++ (stm 8 ++ (stm 9 ++ (stm 10 ++ (stm 11 ++ (stm 12 ++ (stm 13 ++ (stm 14 ++ ([]))))))))) env cE ⟨19, 0, 19, 13⟩ tB) = some (sFin w os) := piece_app (q := ⟨0, 0, 0, 0⟩) (segRun_of (congrFun (piece7 w) os)) (rest8 w os)
theorem rest6 (w : World) (os : OsState) : topRun treeTable prog w 11 annE ((12524 + 1) + ((31) + ((10) + ((493) + ((10) + ((27) + ((33) + ((34) + ((27) + (2)))))))))) (S_p5 w os).abs (restOf (stm 6 ++ (stm 7 ++ (stm 8 ++ (stm 9 ++ (stm 10 ++ (stm 11 ++ (stm 12 ++ (stm 13 ++ (stm 14 ++ ([])))))))))) env cE ⟨17, 0, 18, 30⟩ tB) = some (sFin w os) := piece_app (q := ⟨0, 0, 0, 0⟩) (piece6 w os) (rest7 w os)
theorem rest5 (w : World) (os : OsState) : topRun treeTable prog w 11 annE ((30) + ((12524 + 1) + ((31) + ((10) + ((493) + ((10) + ((27) + ((33) + ((34) + ((27) + (2))))))))))) (S_p4 w os).abs (restOf (stm 5 ++ (stm 6 ++ (stm 7 ++ (stm 8 ++ (stm 9 ++ (stm 10 ++ (stm 11 ++ (stm 12 ++ (stm 13 ++ (stm 14 ++ ([]))))))))))) env cE ⟨16, 0, 16, 6⟩ tB) = some (sFin w os) := piece_app (q := ⟨0, 0, 0, 0⟩) (segRun_of (congrFun (piece5 w) os)) (rest6 w os)
theorem rest4 (w : World) (os : OsState) : topRun treeTable prog w 11 annE ((999) + ((30) + ((12524 + 1) + ((31) + ((10) + ((493) + ((10) + ((27) + ((33) + ((34) + ((27) + (2)))))))))))) (S_p3 w os).abs (restOf (stm 4 ++ (stm 5 ++ (stm 6 ++ (stm 7 ++ (stm 8 ++ (stm 9 ++ (stm 10 ++ (stm 11 ++ (stm 12 ++ (stm 13 ++ (stm 14 ++ ([])))))))))))) env cE ⟨15, 0, 15, 8⟩ tB) = some (sFin w os) := piece_app (q := ⟨0, 0, 0, 0⟩) (segRun_of (congrFun (piece4 w) os)) (rest5 w os)
theorem rest3 (w : World) (os : OsState) : topRun treeTable prog w 11 annE ((10) + ((999) + ((30) + ((12524 + 1) + ((31) + ((10) + ((493) + ((10) + ((27) + ((33) + ((34) + ((27) + (2))))))))))))) (S_p2 w os).abs (restOf (stm 3 ++ (stm 4 ++ (stm 5 ++ (stm 6 ++ (stm 7 ++ (stm 8 ++ (stm 9 ++ (stm 10 ++ (stm 11 ++ (stm 12 ++ (stm 13 ++ (stm 14 ++ ([]))))))))))))) env cE ⟨5, 0, 14, 27⟩ tB) = some (sFin w os) := piece_app (q := ⟨0, 0, 0, 0⟩) (segRun_of (congrFun (piece3 w) os)) (rest4 w os)
theorem rest2 (w : World) (os : OsState) : topRun treeTable prog w 11 annE ((33) + ((10) + ((999) + ((30) + ((12524 + 1) + ((31) + ((10) + ((493) + ((10) + ((27) + ((33) + ((34) + ((27) + (2)))))))))))))) (S_p1 w os).abs (restOf (stm 2 ++ (stm 3 ++ (stm 4 ++ (stm 5 ++ (stm 6 ++ (stm 7 ++ (stm 8 ++ (stm 9 ++ (stm 10 ++ (stm 11 ++ (stm 12 ++ (stm 13 ++ (stm 14 ++ ([])))))))))))))) env cE ⟨4, 0, 4, 8⟩ tB) = some (sFin w os) := piece_app (q := ⟨0, 0, 0, 0⟩) (segRun_of (congrFun (piece2 w) os)) (rest3 w os)
theorem rest1 (w : World) (os : OsState) : topRun treeTable prog w 11 annE ((10) + ((33) + ((10) + ((999) + ((30) + ((12524 + 1) + ((31) + ((10) + ((493) + ((10) + ((27) + ((33) + ((34) + ((27) + (2))))))))))))))) (S_p0 w os).abs (restOf (stm 1 ++ (stm 2 ++ (stm 3 ++ (stm 4 ++ (stm 5 ++ (stm 6 ++ (stm 7 ++ (stm 8 ++ (stm 9 ++ (stm 10 ++ (stm 11 ++ (stm 12 ++ (stm 13 ++ (stm 14 ++ ([]))))))))))))))) env cE ⟨1, 0, 3, 12⟩ tB) = some (sFin w os) := piece_app (q := ⟨0, 0, 0, 0⟩) (segRun_of (congrFun (piece1 w) os)) (rest2 w os)
theorem rest0 (w : World) (os : OsState) : topRun treeTable prog w 11 annE ((30) + ((10) + ((33) + ((10) + ((999) + ((30) + ((12524 + 1) + ((31) + ((10) + ((493) + ((10) + ((27) + ((33) + ((34) + ((27) + (2)))))))))))))))) (S_block w os).abs (restOf (stm 0 ++ (stm 1 ++ (stm 2 ++ (stm 3 ++ (stm 4 ++ (stm 5 ++ (stm 6 ++ (stm 7 ++ (stm 8 ++ (stm 9 ++ (stm 10 ++ (stm 11 ++ (stm 12 ++ (stm 13 ++ (stm 14 ++ ([])))))))))))))))) env cE ⟨0, 0, 0, 0⟩ tB) = some (sFin w os) := piece_app (q := ⟨0, 0, 0, 0⟩) (segRun_of (congrFun (piece0 w) os)) (rest1 w os)
theorem bod_eq : bod = stm 0 ++ (stm 1 ++ (stm 2 ++ (stm 3 ++ (stm 4 ++ (stm 5 ++ (stm 6 ++ (stm 7 ++ (stm 8 ++ (stm 9 ++ (stm 10 ++ (stm 11 ++ (stm 12 ++ (stm 13 ++ (stm 14 ++ ([]))))))))))))))) := by kernel_rfl
theorem rest_bod (w : World) (os : OsState) : topRun treeTable prog w 11 annE ((30) + ((10) + ((33) + ((10) + ((999) + ((30) + ((12524 + 1) + ((31) + ((10) + ((493) + ((10) + ((27) + ((33) + ((34) + ((27) + (2)))))))))))))))) (S_block w os).abs (restOf bod env cE ⟨0, 0, 0, 0⟩ tB) = some (sFin w os) :=
  (congrArg (fun l => topRun treeTable prog w 11 annE ((30) + ((10) + ((33) + ((10) + ((999) + ((30) + ((12524 + 1) + ((31) + ((10) + ((493) + ((10) + ((27) + ((33) + ((34) + ((27) + (2)))))))))))))))) (S_block w os).abs (restOf l env cE ⟨0, 0, 0, 0⟩ tB)) bod_eq).trans (rest0 w os)
theorem head_blk (w : World) (os : OsState) : topRun treeTable prog w 11 annE (1 + ((30) + ((10) + ((33) + ((10) + ((999) + ((30) + ((12524 + 1) + ((31) + ((10) + ((493) + ((10) + ((27) + ((33) + ((34) + ((27) + (2))))))))))))))))) (sPre w os) ⟨denote treeTable (.body bod env), cE, ⟨0, 0, 0, 0⟩, tB⟩ = some (sFin w os) := piece_block (q := ⟨0, 0, 0, 0⟩) (congrFun (blk_eq w) os) (rest_bod w os)
theorem head_run (w : World) (os : OsState) : topRun treeTable prog w 11 annE (12 + (1 + ((30) + ((10) + ((33) + ((10) + ((999) + ((30) + ((12524 + 1) + ((31) + ((10) + ((493) + ((10) + ((27) + ((33) + ((34) + ((27) + (2)))))))))))))))))) (sBoot w os) (topStub prog) = some (sFin w os) := go_top (congrFun (pre_eq w) os) (head_blk w os)
end Mine
end
section
set_option Elab.async false
set_option linter.unusedVariables false
set_option maxRecDepth 100000
set_option maxHeartbeats 0
open PySem PySem.W PyProof.Rows
namespace Mine
noncomputable abbrev hk := kHook heapK heapAt heapK_at
noncomputable def lse3 : List Str := [Str.ofString "b1_set", Str.ofString "b3_exceptions", Str.ofString "Whitespace"]
noncomputable def Xt0 (s : Shared) : Bool := xlAt Mine.top [] s && recOk (RowW.records (OpenRow.toRowW (OpenLaw.row PySem.Challenge.rw_st0039_01))) s
noncomputable def sF (w : World) (os : OsState) : Shared := ⟨H_fin w.params, #[], theDrawn, nat_lit 2371, os⟩
noncomputable def lkA (w : World) (os : OsState) : Bool := staticsOk (importedModules prog.main.body) (boot_heap w.params) (H_fin w.params) && namesBound prog (H_fin w.params) && gensDone (sF w os) && laidKept (boot_heap w.params) (H_fin w.params)
theorem lkA_eq : ∀ w os, lkA w os = true := fun w os => by
  unfold lkA
  kernel_rfl
noncomputable def lkPK (w : World) (os : OsState) : Bool := (sF w os).heap.keysOk (looseW Mine.top lse3) ((recsOf Mine.top).map (·.name)) ((litsOf Mine.top).map (·.1)) ((clssOf Mine.top (looseW Mine.top lse3)).map (·.name))
theorem lkPK_eq : ∀ w os, lkPK w os = true := fun w os => by
  unfold lkPK
  rw [PySem.W.Fast.te10880121769531294198]
  kernel_rfl
noncomputable def lkPA (w : World) (os : OsState) : Bool := (sF w os).heap.accountedOkI (importedModules prog.main.body)
theorem lkPA_eq : ∀ w os, lkPA w os = true := fun w os => by
  unfold lkPA
  rw [PySem.W.Fast.te14722251495701143533]
  kernel_rfl
noncomputable def lkPX (w : World) (os : OsState) : Bool := Xt0 (sF w os)
theorem lkPX_eq : ∀ w os, lkPX w os = true := fun w os => by
  unfold lkPX
  kernel_rfl
noncomputable def lkPN (w : World) (os : OsState) : Bool := ((sF w os).heap.isNs mainGlobals && (sF w os).heap.isNs builtinsNs)
theorem lkPN_eq : ∀ w os, lkPN w os = true := fun w os => by
  unfold lkPN
  kernel_rfl
noncomputable def b3nm : Str := Str.ofString "b3_exceptions"
noncomputable def tabD : List (PyData × PyData) := (tabIntOf Mine.top b3nm).getD []
noncomputable def incrK : List (PyData × PyData) → Bool
  | [] => true
  | (.int a, _) :: r => (match r with
    | [] => true
    | (.int b, _) :: _ => decide (a < b)
    | _ => false) && incrK r
  | _ => false
theorem incrK_no : ∀ (r : List (PyData × PyData)) (a : Int), incrK r = true → (match r with
    | [] => true
    | (.int b, _) :: _ => decide (a < b)
    | _ => false) = true → hasIntKey a r = false
  | [], _, _, _ => rfl
  | (.int b, v) :: r, a, h, hab => by
    have hlt : a < b := of_decide_eq_true hab
    unfold incrK at h
    rw [Bool.and_eq_true] at h
    unfold hasIntKey
    rw [Bool.or_eq_false_iff]
    refine ⟨beq_eq_false_iff_ne.mpr (fun e => by omega), incrK_no r a h.2 ?_⟩
    cases r with
    | nil => rfl
    | cons x r =>
      obtain ⟨k, v'⟩ := x
      have h1 := h.1
      cases k <;> first | (simp only at h1 ⊢; have := of_decide_eq_true h1; exact decide_eq_true (by omega)) | (exact h1)
theorem apart_of_incr : ∀ (D : List (PyData × PyData)), incrK D = true → keysApartInt D = true
  | [], _ => rfl
  | (k, v) :: r, h => by
    cases k with
    | int a =>
      unfold incrK at h
      rw [Bool.and_eq_true] at h
      unfold keysApartInt
      rw [Bool.and_eq_true]
      refine ⟨?_, apart_of_incr r h.2⟩
      rw [incrK_no r a h.2 h.1]
      rfl
    | _ => exact absurd h (by unfold incrK; exact Bool.false_ne_true)
theorem tab_apart : keysApartInt tabD = true := apart_of_incr _ (by kernel_rfl)
theorem tab_names : valNames Mine.top = [Str.ofString "b1_set", b3nm] := by kernel_rfl
theorem tab_is : tabIntOf Mine.top b3nm = some tabD := by kernel_rfl
theorem lkT_eq (w : World) : tablesOk Mine.top (H_fin w.params) = true := by
  unfold tablesOk
  rw [tab_names]
  show (_ && (_ && true)) = true
  refine Bool.and_eq_true_iff.mpr ⟨by kernel_rfl, Bool.and_eq_true_iff.mpr ⟨?_, rfl⟩⟩
  have h1 : tupIntsOf Mine.top b3nm = none := by kernel_rfl
  have h2 : tupStrsOf Mine.top b3nm = none := by kernel_rfl
  dsimp only
  rw [h1, h2, tab_is]
  show (true && true && (H_fin w.params).tabIntOk b3nm tabD) = true
  unfold Heap.tabIntOk
  have hn : (H_fin w.params).nsMap mainGlobals b3nm = some (.ref 47) := by kernel_rfl
  rw [hn]
  have hg : (H_fin w.params).get? 47 = some (Obj.mk (Value.type "dict") none (Data.dict (List.toArray b3entries) 650) #[]) := by kernel_rfl
  dsimp only
  rw [hg]
  dsimp only
  rw [tab_apart]
  kernel_rfl
noncomputable def lkB2 (w : World) (os : OsState) := (openSeen Mine.top lse3 (importedModules prog.main.body) Xt0 true (sF w os)).2.2.1
noncomputable def lkG2 := (openGood Mine.top lse3).2.2.1
theorem lkB2_eq : ∀ w os, lkB2 w os = lkG2 := fun w os => by
  have n := lkPN_eq w os
  unfold lkPN at n
  rw [Bool.and_eq_true] at n
  show ((((((lkPK w os && lkPA w os) && (sF w os).heap.isNs mainGlobals) && (sF w os).heap.isNs builtinsNs) && tablesOk Mine.top (H_fin w.params)) && lkPX w os) && ((sF w os).gens.size == 0)) = true
  rw [lkPK_eq, lkPA_eq, lkT_eq, lkPX_eq, n.1, n.2]
  kernel_rfl
noncomputable def lkB0 (w : World) (os : OsState) := (openSeen Mine.top lse3 (importedModules prog.main.body) Xt0 true (sF w os)).1
noncomputable def lkG0 := (openGood Mine.top lse3).1
theorem lkB0_eq : ∀ w os, lkB0 w os = lkG0 := fun w os => by
  unfold lkB0
  rw [PySem.W.Fast.te4187177175401517315]
  kernel_rfl
noncomputable def lkB1 (w : World) (os : OsState) := (openSeen Mine.top lse3 (importedModules prog.main.body) Xt0 true (sF w os)).2.1
noncomputable def lkG1 := (openGood Mine.top lse3).2.1
theorem lkB1_eq : ∀ w os, lkB1 w os = lkG1 := fun w os => by
  unfold lkB1
  rw [PySem.W.Fast.te4187177175401517315]
  kernel_rfl
noncomputable def lkB3 (w : World) (os : OsState) := (openSeen Mine.top lse3 (importedModules prog.main.body) Xt0 true (sF w os)).2.2.2.1
noncomputable def lkG3 := (openGood Mine.top lse3).2.2.2.1
theorem lkB3_eq : ∀ w os, lkB3 w os = lkG3 := fun w os => by
  unfold lkB3
  rw [PySem.W.Fast.te4187177175401517315]
  kernel_rfl
noncomputable def lkB4 (w : World) (os : OsState) := (openSeen Mine.top lse3 (importedModules prog.main.body) Xt0 true (sF w os)).2.2.2.2.1
noncomputable def lkG4 := (openGood Mine.top lse3).2.2.2.2.1
theorem lkB4_eq : ∀ w os, lkB4 w os = lkG4 := fun w os => by
  unfold lkB4
  rw [PySem.W.Fast.te4187177175401517315]
  kernel_rfl
noncomputable def lkB5 (w : World) (os : OsState) := (openSeen Mine.top lse3 (importedModules prog.main.body) Xt0 true (sF w os)).2.2.2.2.2.1
noncomputable def lkG5 := (openGood Mine.top lse3).2.2.2.2.2.1
theorem lkB5_eq : ∀ w os, lkB5 w os = lkG5 := fun w os => by
  unfold lkB5
  rw [PySem.W.Fast.te4187177175401517315]
  kernel_rfl
noncomputable def lkB6 (w : World) (os : OsState) := (openSeen Mine.top lse3 (importedModules prog.main.body) Xt0 true (sF w os)).2.2.2.2.2.2.1
noncomputable def lkG6 := (openGood Mine.top lse3).2.2.2.2.2.2.1
theorem lkB6_eq : ∀ w os, lkB6 w os = lkG6 := fun w os => by
  unfold lkB6
  rw [PySem.W.Fast.te4187177175401517315]
  kernel_rfl
noncomputable def lkB7 (w : World) (os : OsState) := (openSeen Mine.top lse3 (importedModules prog.main.body) Xt0 true (sF w os)).2.2.2.2.2.2.2.1
noncomputable def lkG7 := (openGood Mine.top lse3).2.2.2.2.2.2.2.1
theorem lkB7_eq : ∀ w os, lkB7 w os = lkG7 := fun w os => by
  unfold lkB7
  rw [PySem.W.Fast.te4187177175401517315]
  kernel_rfl
noncomputable def lkB8 (w : World) (os : OsState) := (openSeen Mine.top lse3 (importedModules prog.main.body) Xt0 true (sF w os)).2.2.2.2.2.2.2.2
noncomputable def lkG8 := (openGood Mine.top lse3).2.2.2.2.2.2.2.2
theorem lkB8_eq : ∀ w os, lkB8 w os = lkG8 := fun w os => by
  unfold lkB8
  rw [PySem.W.Fast.te4187177175401517315]
  kernel_rfl
noncomputable def lkB (w : World) (os : OsState) := openSeen Mine.top lse3 (importedModules prog.main.body) Xt0 true (sF w os)
noncomputable def lkBg := openGood Mine.top lse3
theorem lkB_eq : ∀ w os, lkB w os = lkBg := fun w os => Prod.ext (lkB0_eq w os) (Prod.ext (lkB1_eq w os) (Prod.ext (lkB2_eq w os) (Prod.ext (lkB3_eq w os) (Prod.ext (lkB4_eq w os) (Prod.ext (lkB5_eq w os) (Prod.ext (lkB6_eq w os) (Prod.ext (lkB7_eq w os) (lkB8_eq w os))))))))
noncomputable def lkC (w : World) (os : OsState) := Hook.obs hk (sF w os)
noncomputable def lkCg (w : World) := Hook.val hk w
theorem lkC_eq : ∀ w os, lkC w os = lkCg w := fun w os => by
  kernel_rfl
theorem head_open : ∀ w : World, (fencedOpening treeTable prog w 40000).map (fun s => (s.heap, s.gens, s.drawn, s.toks)) = some (boot_heap w.params, Array.mk [], boot_drawn, boot_toks) := boot_open (by kernel_rfl) (by decide) (fun s => rfl)
theorem head_size : ∀ w : World, ((boot_heap w.params).isNs mainGlobals && (#[] : Array GenState).size == 0, (boot_heap w.params).objs.size, (boot_heap w.params).nsMap mainGlobals "__annotations__") = (true, 11, annE) := fun w => by kernel_rfl
theorem head_left : LeftO prog Mine.top [Str.ofString "b1_set", Str.ofString "b3_exceptions", Str.ofString "Whitespace"] (fun s => xlAt Mine.top [] s && recOk (RowW.records (OpenRow.toRowW (OpenLaw.row PySem.Challenge.rw_st0039_01))) s) (Hook.obs hk) (Hook.val hk) 40000 true := by
  refine LeftO.of_pieces (H₀ := boot_heap) (H₁ := H_fin) (gs₀ := Array.mk []) (gs₁ := #[]) (d₀ := boot_drawn) (d₁ := theDrawn) (k₀ := boot_toks) (k₁ := nat_lit 2371) (m₀ := 11) (ann := annE) head_open head_size head_run (by decide) ?_
  intro w
  funext os
  exact looks_pair (lkA_eq w os) (looks_pair (lkB_eq w os) (lkC_eq w os))
end Mine
end
section
set_option maxHeartbeats 0
set_option maxRecDepth 100000
open PySem PySem.W PyProof.Rows PySem.Calls PyProof PySem.Challenge
theorem PySem.Challenge.cw_st0039_01_holds : PySem.Challenge.rw_st0039_01.Holds := by
  w_on; o_law
  refine holds_open (q := Mine.top) (loose := [Str.ofString "b1_set", Str.ofString "b3_exceptions", Str.ofString "Whitespace"]) (Xt := fun s => xlAt Mine.top [] s && recOk (RowW.records (OpenRow.toRowW (OpenLaw.row rw_st0039_01))) s) (XP := XL Mine.top []) (Yf := Hook.obs Mine.hk) (Ya := Hook.val Mine.hk) (YP := Hook.says Mine.hk) (N := 40000) ?hl (Hook.of Mine.hk) (Hook.keeps Mine.hk) (fun s e => xl_of s (Bool.and_eq_true_iff.mp e).1) XL.keeps (by rfl) (by rfl) (by rfl) (fun s e => recFacts_of (Bool.and_eq_true_iff.mp e).2) (by rfl) (by first | assumption | decide +kernel) (by decide +kernel) ⟨rfl, rfl, rfl, rfl, rfl, by decide +kernel⟩ ?hw ?hc
  case hl => exact Mine.head_left
  case hw => w_witness2
  case hc =>
    k_go0
    all_goals try k_fold
    refine' Mine.law_body _ _ _ _ _ _ _ _ _ _ _ _ _ _ _ _ _ ?zE ?zK0 ?zF ?zN ?zd4 ?zd3 ?zd2 ?zd1 ?zK ?zT ?zcd ?zL ?zI ?zn ?zlay ?zret
    (case zN => ((with_reducible rename News _ _ _ _ => n0); (have q9 := n0); exact q9))
    (case zd4 => assumption)
    (case zd3 => assumption)
    (case zd2 => assumption)
    (case zd1 => assumption)
    (case zK0 => assumption)
    (case zK => assumption)
    (case zT => assumption)
    (case zcd => assumption)
    (case zI => assumption)
    (case zL => assumption)
    (case zlay => assumption)
    (case zF => assumption)
    (case zE => passes_own)
    (case zn => omega)
    (case zret => (intro h' tk' m' f9; (show GoodW _ _ _ _ _ _ _); (try dsimp only); first | wrow_close | (k_end; wrow_close)))
end
