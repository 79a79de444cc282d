import PyProof.Rows.All
import Wide.All
import OpenK.AllK
import Wide.FinOn
import Lean
import PySem.Challenge.RW_rw0097_01
section
open PySem PySem.W PyProof.Rows
set_option Elab.async false
set_option maxRecDepth 100000
namespace Mine
/-- what the top's statement i defines -/
noncomputable def partsAt (i : Nat) : Option (Str × Arguments × List Stmt × Scope) := match PySem.Challenge.pw_rw0097_01.main.body[i]? with
  | some (PySem.Stmt.FunctionDef n a b _ _ _ sc _ _ _) => some (n, a, b, sc)
  | _ => none
noncomputable abbrev fnP {i : Nat} {n : Str} {a : Arguments} {b : List Stmt} {sc : Scope} (_ : partsAt i = some (n, a, b, sc)) (pm cd : Value) : FuncData := fnOf n n a b sc .none .none .none pm none cd .none
/-- the pairs of the top's one long dict display -/
noncomputable def litPairs : List (Option PySem.Expr) → List PySem.Expr → List (Int × Str)
  | some (PySem.Expr.Constant (PySem.Const.int i) _ _) :: ks, PySem.Expr.Constant (PySem.Const.str s) _ _ :: vs => (i, s) :: litPairs ks vs
  | _, _ => []
noncomputable def b3Pairs : List (Int × Str) := match PySem.Challenge.pw_rw0097_01.main.body[9]? with
  | some (PySem.Stmt.Assign _ (PySem.Expr.Dict ks vs _) _) => litPairs ks vs
  | _ => []
/-- the entries, with the numbers of the objects: chunks of 17, the last one of 4 -/
noncomputable def entsFrom : Nat → List (Int × Str) → List DictEntry
  | _, [] => []
  | i, (k, s) :: r => (let t := if i < 646 then 323 + 3 * i else 2261 + 2 * (i - 646)
      ⟨k, .int k t, .str s (t + 1)⟩) :: entsFrom (i + 1) r
noncomputable def b3Ent : List DictEntry := entsFrom 0 b3Pairs
noncomputable def K : Params → Frag := fun P =>
  (nat_lit 2, (⟨.none, none, (.dict #[] 0), #[]⟩ : Obj)) ::
  (nat_lit 3, (⟨(.type "dict"), none, (.dict [⟨PyData.keyHash P (Str.ofString "__name__"), (.str (Str.ofString "__name__") 165), (.str (Str.ofString "law_rw0097_01") 2282)⟩, ⟨PyData.keyHash P (Str.ofString "__doc__"), (.str (Str.ofString "__doc__") 166), .none⟩, ⟨PyData.keyHash P (Str.ofString "__package__"), (.str (Str.ofString "__package__") 167), .none⟩, ⟨PyData.keyHash P (Str.ofString "__loader__"), (.str (Str.ofString "__loader__") 168), (.builtin "__main__.__loader__#opaque")⟩, ⟨PyData.keyHash P (Str.ofString "__spec__"), (.str (Str.ofString "__spec__") 169), .none⟩, ⟨PyData.keyHash P (Str.ofString "__annotations__"), (.str (Str.ofString "__annotations__") 170), (.ref 6)⟩, ⟨PyData.keyHash P (Str.ofString "__builtins__"), (.str (Str.ofString "__builtins__") 171), (.ref 4)⟩, ⟨PyData.keyHash P (Str.ofString "__file__"), (.str (Str.ofString "__file__") 173), (.str (Str.ofString "/claim/cut.py") 172)⟩, ⟨PyData.keyHash P (Str.ofString "__cached__"), (.str (Str.ofString "__cached__") 174), .none⟩, ⟨PyData.keyHash P (Str.ofString "COMPILER_FLAG_NAMES"), (.str (Str.ofString "COMPILER_FLAG_NAMES") 219), (.ref 15)⟩, ⟨PyData.keyHash P (Str.ofString "pretty_flags"), (.str (Str.ofString "pretty_flags") 229), (.ref 22)⟩, ⟨PyData.keyHash P (Str.ofString "_int2digits"), (.str (Str.ofString "_int2digits") 242), (.ref 29)⟩, ⟨PyData.keyHash P (Str.ofString "_digits2int"), (.str (Str.ofString "_digits2int") 253), (.ref 36)⟩, ⟨PyData.keyHash P (Str.ofString "b1_set"), (.str (Str.ofString "b1_set") 315), (.ref 44)⟩, ⟨PyData.keyHash P (Str.ofString "in_table_b1"), (.str (Str.ofString "in_table_b1") 322), (.ref 54)⟩, ⟨PyData.keyHash P (Str.ofString "b3_exceptions"), (.str (Str.ofString "b3_exceptions") 2273), (.ref 55)⟩, ⟨PyData.keyHash P (Str.ofString "map_table_b3"), (.str (Str.ofString "map_table_b3") 2281), (.ref 100)⟩, ⟨PyData.keyHash P (Str.ofString "_law_hidden"), (.str (Str.ofString "_law_hidden") 2289), (.ref 107)⟩, ⟨PyData.keyHash P (Str.ofString "_law_gaps"), (.str (Str.ofString "_law_gaps") 2295), (.ref 114)⟩, ⟨PyData.keyHash P (Str.ofString "_law_drawn"), (.str (Str.ofString "_law_drawn") 2301), (.ref 119)⟩, ⟨PyData.keyHash P (Str.ofString "_law_own"), (.str (Str.ofString "_law_own") 2312), (.ref 126)⟩, ⟨PyData.keyHash P (Str.ofString "_law_typed"), (.str (Str.ofString "_law_typed") 2328), (.ref 133)⟩, ⟨PyData.keyHash P (Str.ofString "_law_number"), (.str (Str.ofString "_law_number") 2334), (.ref 138)⟩, ⟨PyData.keyHash P (Str.ofString "law"), (.str (Str.ofString "law") 2340), (.ref 143)⟩].toArray 24), #[]⟩ : Obj)) ::
  (nat_lit 6, (⟨(.type "dict"), none, (.dict #[] 0), #[]⟩ : Obj)) ::
  (nat_lit 15, (⟨(.type "dict"), none, (.dict [⟨1, (.int (1) 189), (.str (Str.ofString "OPTIMIZED") 190)⟩, ⟨2, (.int (2) 191), (.str (Str.ofString "NEWLOCALS") 192)⟩, ⟨4, (.int (4) 193), (.str (Str.ofString "VARARGS") 194)⟩, ⟨8, (.int (8) 195), (.str (Str.ofString "VARKEYWORDS") 196)⟩, ⟨16, (.int (16) 197), (.str (Str.ofString "NESTED") 198)⟩, ⟨32, (.int (32) 199), (.str (Str.ofString "GENERATOR") 200)⟩, ⟨64, (.int (64) 201), (.str (Str.ofString "NOFREE") 202)⟩, ⟨128, (.int (128) 203), (.str (Str.ofString "COROUTINE") 204)⟩, ⟨256, (.int (256) 205), (.str (Str.ofString "ITERABLE_COROUTINE") 206)⟩, ⟨512, (.int (512) 207), (.str (Str.ofString "ASYNC_GENERATOR") 208)⟩].toArray 10), #[]⟩ : Obj)) ::
  (nat_lit 16, (⟨(.type "tuple"), none, (.seq #[] 0), #[]⟩ : Obj)) ::
  (nat_lit 18, (⟨(.type "tuple"), none, (.seq [(.str (Str.ofString "flags") 223), (.str (Str.ofString "names") 224), (.str (Str.ofString "i") 225), (.str (Str.ofString "flag") 226)].toArray 0), #[]⟩ : Obj)) ::
  (nat_lit 19, (⟨(.type "tuple"), none, (.seq #[] 0), #[]⟩ : Obj)) ::
  (nat_lit 21, (⟨(.type "code"), none, (.fields [(.str (Str.ofString "pretty_flags") 220), (.str (Str.ofString "pretty_flags") 221), (.str (Str.ofString "/claim/cut.py") 222), (.int (3) 0), (.int (1) 0), (.int (0) 0), (.int (0) 0), (.int (3) 0), (.ref 16), (.bool true), (.int (181) 0), (.ref 17), .none, (.ref 18), (.ref 19), (.ref 20), (.int (227) 0), (.int (3) 0), (.str (Str.ofString "/claim/cut.py") 228)].toArray), #[]⟩ : Obj)) ::
  (nat_lit 22, (⟨(.type "function"), none, (.func (fnP (i := 2) rfl (.str (Str.ofString "cpy313.dis") 187) (.ref 21))), #[]⟩ : Obj)) ::
  (nat_lit 23, (⟨(.type "tuple"), none, (.seq #[] 0), #[]⟩ : Obj)) ::
  (nat_lit 25, (⟨(.type "tuple"), none, (.seq [(.str (Str.ofString "a") 235), (.str (Str.ofString "n") 236)].toArray 0), #[]⟩ : Obj)) ::
  (nat_lit 26, (⟨(.type "tuple"), none, (.seq [(.str (Str.ofString "n") 237), (.str (Str.ofString "a_digits") 238), (.str (Str.ofString "inner") 239)].toArray 0), #[]⟩ : Obj)) ::
  (nat_lit 28, (⟨(.type "code"), none, (.fields [(.str (Str.ofString "_int2digits") 232), (.str (Str.ofString "_int2digits") 233), (.str (Str.ofString "/claim/cut.py") 234), (.int (16) 0), (.int (2) 0), (.int (0) 0), (.int (0) 0), (.int (3) 0), (.ref 23), (.bool true), (.int (181) 0), (.ref 24), .none, (.ref 25), (.ref 26), (.ref 27), (.int (240) 0), (.int (16) 0), (.str (Str.ofString "/claim/cut.py") 241)].toArray), #[]⟩ : Obj)) ::
  (nat_lit 29, (⟨(.type "function"), none, (.func (fnP (i := 4) rfl (.str (Str.ofString "cpy313._pylong") 230) (.ref 28))), #[]⟩ : Obj)) ::
  (nat_lit 30, (⟨(.type "tuple"), none, (.seq #[] 0), #[]⟩ : Obj)) ::
  (nat_lit 32, (⟨(.type "tuple"), none, (.seq [(.str (Str.ofString "digits") 246), (.str (Str.ofString "n") 247)].toArray 0), #[]⟩ : Obj)) ::
  (nat_lit 33, (⟨(.type "tuple"), none, (.seq [(.str (Str.ofString "digits") 248), (.str (Str.ofString "n") 249), (.str (Str.ofString "inner") 250)].toArray 0), #[]⟩ : Obj)) ::
  (nat_lit 35, (⟨(.type "code"), none, (.fields [(.str (Str.ofString "_digits2int") 243), (.str (Str.ofString "_digits2int") 244), (.str (Str.ofString "/claim/cut.py") 245), (.int (32) 0), (.int (2) 0), (.int (0) 0), (.int (0) 0), (.int (3) 0), (.ref 30), (.bool true), (.int (181) 0), (.ref 31), .none, (.ref 32), (.ref 33), (.ref 34), (.int (251) 0), (.int (32) 0), (.str (Str.ofString "/claim/cut.py") 252)].toArray), #[]⟩ : Obj)) ::
  (nat_lit 36, (⟨(.type "function"), none, (.func (fnP (i := 5) rfl (.str (Str.ofString "cpy313._pylong") 230) (.ref 35))), #[]⟩ : Obj)) ::
  (nat_lit 44, (⟨(.type "set"), none, (.set [(65024, (.int (65024) 272)), (65025, (.int (65025) 273)), (65026, (.int (65026) 274)), (65027, (.int (65027) 275)), (65028, (.int (65028) 276)), (65029, (.int (65029) 277)), (6150, (.int (6150) 258)), (65030, (.int (65030) 278)), (65031, (.int (65031) 279)), (65032, (.int (65032) 280)), (65033, (.int (65033) 281)), (6155, (.int (6155) 259)), (6156, (.int (6156) 260)), (6157, (.int (6157) 261)), (8203, (.int (8203) 262)), (8204, (.int (8204) 263)), (8205, (.int (8205) 264)), (65034, (.int (65034) 282)), (65035, (.int (65035) 283)), (65036, (.int (65036) 284)), (65037, (.int (65037) 285)), (65038, (.int (65038) 286)), (65039, (.int (65039) 287)), (173, (.int (173) 256)), (847, (.int (847) 257)), (8288, (.int (8288) 265)), (65279, (.int (65279) 266))].toArray 29 ⟨127, [0, 1, 2, 3, 4, 5, 6, 7, 8, 9, 10, 11, 12, 13, 14, 15, 16, 17, 18, 19, 20, 21, 22, 45, 79, 96, 127].toArray, #[], 0, !P.followText "set-order", 2, true⟩), #[]⟩ : Obj)) ::
  (nat_lit 48, (⟨(.type "tuple"), none, (.seq #[] 0), #[]⟩ : Obj)) ::
  (nat_lit 50, (⟨(.type "tuple"), none, (.seq [(.str (Str.ofString "code") 319)].toArray 0), #[]⟩ : Obj)) ::
  (nat_lit 51, (⟨(.type "tuple"), none, (.seq #[] 0), #[]⟩ : Obj)) ::
  (nat_lit 53, (⟨(.type "code"), none, (.fields [(.str (Str.ofString "in_table_b1") 316), (.str (Str.ofString "in_table_b1") 317), (.str (Str.ofString "/claim/cut.py") 318), (.int (43) 0), (.int (1) 0), (.int (0) 0), (.int (0) 0), (.int (3) 0), (.ref 48), (.bool true), (.int (181) 0), (.ref 49), .none, (.ref 50), (.ref 51), (.ref 52), (.int (320) 0), (.int (43) 0), (.str (Str.ofString "/claim/cut.py") 321)].toArray), #[]⟩ : Obj)) ::
  (nat_lit 54, (⟨(.type "function"), none, (.func (fnP (i := 8) rfl (.str (Str.ofString "cpy313.stringprep") 254) (.ref 53))), #[]⟩ : Obj)) ::
  (nat_lit 55, (⟨(.type "dict"), none, (.dict b3Ent.toArray 650), #[]⟩ : Obj)) ::
  (nat_lit 94, (⟨(.type "tuple"), none, (.seq #[] 0), #[]⟩ : Obj)) ::
  (nat_lit 96, (⟨(.type "tuple"), none, (.seq [(.str (Str.ofString "code") 2277), (.str (Str.ofString "r") 2278)].toArray 0), #[]⟩ : Obj)) ::
  (nat_lit 97, (⟨(.type "tuple"), none, (.seq #[] 0), #[]⟩ : Obj)) ::
  (nat_lit 99, (⟨(.type "code"), none, (.fields [(.str (Str.ofString "map_table_b3") 2274), (.str (Str.ofString "map_table_b3") 2275), (.str (Str.ofString "/claim/cut.py") 2276), (.int (46) 0), (.int (1) 0), (.int (0) 0), (.int (0) 0), (.int (3) 0), (.ref 94), (.bool true), (.int (181) 0), (.ref 95), .none, (.ref 96), (.ref 97), (.ref 98), (.int (2279) 0), (.int (46) 0), (.str (Str.ofString "/claim/cut.py") 2280)].toArray), #[]⟩ : Obj)) ::
  (nat_lit 100, (⟨(.type "function"), none, (.func (fnP (i := 10) rfl (.str (Str.ofString "cpy313.stringprep") 254) (.ref 99))), #[]⟩ : Obj)) ::
  (nat_lit 101, (⟨(.type "tuple"), none, (.seq #[] 0), #[]⟩ : Obj)) ::
  (nat_lit 103, (⟨(.type "tuple"), none, (.seq #[] 0), #[]⟩ : Obj)) ::
  (nat_lit 104, (⟨(.type "tuple"), none, (.seq #[] 0), #[]⟩ : Obj)) ::
  (nat_lit 106, (⟨(.type "code"), none, (.fields [(.str (Str.ofString "_law_hidden") 2284), (.str (Str.ofString "_law_hidden") 2285), (.str (Str.ofString "/claim/cut.py") 2286), (.int (52) 0), (.int (0) 0), (.int (0) 0), (.int (0) 0), (.int (3) 0), (.ref 101), (.bool true), (.int (181) 0), (.ref 102), .none, (.ref 103), (.ref 104), (.ref 105), (.int (2287) 0), (.int (52) 0), (.str (Str.ofString "/claim/cut.py") 2288)].toArray), #[]⟩ : Obj)) ::
  (nat_lit 107, (⟨(.type "function"), none, (.func (fnP (i := 12) rfl (.str (Str.ofString "law_rw0097_01") 2282) (.ref 106))), #[]⟩ : Obj)) ::
  (nat_lit 108, (⟨(.type "tuple"), none, (.seq #[] 0), #[]⟩ : Obj)) ::
  (nat_lit 110, (⟨(.type "tuple"), none, (.seq #[] 0), #[]⟩ : Obj)) ::
  (nat_lit 111, (⟨(.type "tuple"), none, (.seq #[] 0), #[]⟩ : Obj)) ::
  (nat_lit 113, (⟨(.type "code"), none, (.fields [(.str (Str.ofString "_law_gaps") 2290), (.str (Str.ofString "_law_gaps") 2291), (.str (Str.ofString "/claim/cut.py") 2292), (.int (54) 0), (.int (0) 0), (.int (0) 0), (.int (0) 0), (.int (3) 0), (.ref 108), (.bool true), (.int (181) 0), (.ref 109), .none, (.ref 110), (.ref 111), (.ref 112), (.int (2293) 0), (.int (54) 0), (.str (Str.ofString "/claim/cut.py") 2294)].toArray), #[]⟩ : Obj)) ::
  (nat_lit 114, (⟨(.type "function"), none, (.func (fnP (i := 13) rfl (.str (Str.ofString "law_rw0097_01") 2282) (.ref 113))), #[]⟩ : Obj)) ::
  (nat_lit 115, (⟨(.type "tuple"), none, (.seq #[] 0), #[]⟩ : Obj)) ::
  (nat_lit 118, (⟨(.type "code"), none, (.fields [(.str (Str.ofString "_law_drawn") 2296), (.str (Str.ofString "_law_drawn") 2297), (.str (Str.ofString "/claim/cut.py") 2298), (.int (56) 0), (.int (1) 0), (.int (0) 0), (.int (0) 0), (.int (3) 0), (.ref 115), (.bool true), (.int (181) 0), (.ref 116), .none, .none, .none, (.ref 117), (.int (2299) 0), (.int (56) 0), (.str (Str.ofString "/claim/cut.py") 2300)].toArray), #[]⟩ : Obj)) ::
  (nat_lit 119, (⟨(.type "function"), none, (.func (fnP (i := 14) rfl (.str (Str.ofString "law_rw0097_01") 2282) (.ref 118))), #[]⟩ : Obj)) ::
  (nat_lit 120, (⟨(.type "tuple"), none, (.seq #[] 0), #[]⟩ : Obj)) ::
  (nat_lit 122, (⟨(.type "tuple"), none, (.seq [(.str (Str.ofString "flag") 2305), (.str (Str.ofString "names") 2306), (.str (Str.ofString "k") 2307), (.str (Str.ofString "rest") 2308), (.str (Str.ofString "figures") 2309)].toArray 0), #[]⟩ : Obj)) ::
  (nat_lit 123, (⟨(.type "tuple"), none, (.seq #[] 0), #[]⟩ : Obj)) ::
  (nat_lit 125, (⟨(.type "code"), none, (.fields [(.str (Str.ofString "_law_own") 2302), (.str (Str.ofString "_law_own") 2303), (.str (Str.ofString "/claim/cut.py") 2304), (.int (67) 0), (.int (1) 0), (.int (0) 0), (.int (0) 0), (.int (3) 0), (.ref 120), (.bool true), (.int (181) 0), (.ref 121), .none, (.ref 122), (.ref 123), (.ref 124), (.int (2310) 0), (.int (67) 0), (.str (Str.ofString "/claim/cut.py") 2311)].toArray), #[]⟩ : Obj)) ::
  (nat_lit 126, (⟨(.type "function"), none, (.func (fnP (i := 15) rfl (.str (Str.ofString "law_rw0097_01") 2282) (.ref 125))), #[]⟩ : Obj)) ::
  (nat_lit 127, (⟨(.type "tuple"), none, (.seq #[] 0), #[]⟩ : Obj)) ::
  (nat_lit 129, (⟨(.type "tuple"), none, (.seq [(.str (Str.ofString "report") 2316), (.str (Str.ofString "turn") 2317), (.str (Str.ofString "hidden") 2318), (.str (Str.ofString "gaps") 2319), (.str (Str.ofString "text") 2320), (.str (Str.ofString "k") 2321), (.str (Str.ofString "sign") 2322), (.str (Str.ofString "place") 2323), (.str (Str.ofString "face") 2324), (.str (Str.ofString "code") 2325)].toArray 0), #[]⟩ : Obj)) ::
  (nat_lit 130, (⟨(.type "tuple"), none, (.seq #[] 0), #[]⟩ : Obj)) ::
  (nat_lit 132, (⟨(.type "code"), none, (.fields [(.str (Str.ofString "_law_typed") 2313), (.str (Str.ofString "_law_typed") 2314), (.str (Str.ofString "/claim/cut.py") 2315), (.int (79) 0), (.int (4) 0), (.int (0) 0), (.int (0) 0), (.int (3) 0), (.ref 127), (.bool true), (.int (181) 0), (.ref 128), .none, (.ref 129), (.ref 130), (.ref 131), (.int (2326) 0), (.int (79) 0), (.str (Str.ofString "/claim/cut.py") 2327)].toArray), #[]⟩ : Obj)) ::
  (nat_lit 133, (⟨(.type "function"), none, (.func (fnP (i := 16) rfl (.str (Str.ofString "law_rw0097_01") 2282) (.ref 132))), #[]⟩ : Obj)) ::
  (nat_lit 134, (⟨(.type "tuple"), none, (.seq #[] 0), #[]⟩ : Obj)) ::
  (nat_lit 137, (⟨(.type "code"), none, (.fields [(.str (Str.ofString "_law_number") 2329), (.str (Str.ofString "_law_number") 2330), (.str (Str.ofString "/claim/cut.py") 2331), (.int (92) 0), (.int (2) 0), (.int (0) 0), (.int (0) 0), (.int (3) 0), (.ref 134), (.bool true), (.int (181) 0), (.ref 135), .none, .none, .none, (.ref 136), (.int (2332) 0), (.int (92) 0), (.str (Str.ofString "/claim/cut.py") 2333)].toArray), #[]⟩ : Obj)) ::
  (nat_lit 138, (⟨(.type "function"), none, (.func (fnP (i := 17) rfl (.str (Str.ofString "law_rw0097_01") 2282) (.ref 137))), #[]⟩ : Obj)) ::
  (nat_lit 139, (⟨(.type "tuple"), none, (.seq #[] 0), #[]⟩ : Obj)) ::
  (nat_lit 142, (⟨(.type "code"), none, (.fields [(.str (Str.ofString "law") 2335), (.str (Str.ofString "law") 2336), (.str (Str.ofString "/claim/cut.py") 2337), (.int (94) 0), (.int (1) 0), (.int (0) 0), (.int (0) 0), (.int (3) 0), (.ref 139), (.bool true), (.int (181) 0), (.ref 140), .none, .none, .none, (.ref 141), (.int (2338) 0), (.int (94) 0), (.str (Str.ofString "/claim/cut.py") 2339)].toArray), #[]⟩ : Obj)) ::
  (nat_lit 143, (⟨(.type "function"), none, (.func (fnP (i := 18) rfl (.str (Str.ofString "law_rw0097_01") 2282) (.ref 142))), #[]⟩ : Obj)) :: []
noncomputable def keepIx : List Nat := [1, 2, 4, 5, 7, 8, 9, 10, 12, 13, 14, 15, 16, 17, 18]
noncomputable def bodyQ : { b : List Stmt // (keepIx.filterMap fun i => PySem.Challenge.pw_rw0097_01.main.body[i]?) = b } := ⟨_, rfl⟩
noncomputable def q : Program := { PySem.Challenge.pw_rw0097_01 with main := { PySem.Challenge.pw_rw0097_01.main with body := bodyQ.1 } }
noncomputable def loose : List Str := [Str.ofString "COMPILER_FLAG_NAMES", Str.ofString "b1_set", Str.ofString "b3_exceptions"]
noncomputable def asK : List Addr := [2, 3, 6, 15, 16, 18, 19, 21, 22, 23, 25, 26, 28, 29, 30, 32, 33, 35, 36, 44, 48, 50, 51, 53, 54, 55, 94, 96, 97, 99, 100, 101, 103, 104, 106, 107, 108, 110, 111, 113, 114, 115, 118, 119, 120, 122, 123, 125, 126, 127, 129, 130, 132, 133, 134, 137, 138, 139, 142, 143]
end Mine
end
section
open PySem PySem.W PyProof.Rows
set_option Elab.async false
set_option maxRecDepth 100000
set_option maxHeartbeats 0
namespace Mine
noncomputable abbrev P0 : Program := PySem.Challenge.pw_rw0097_01
noncomputable def b1Z : List Int := [65024, 65025, 65026, 65027, 65028, 65029, 6150, 65030, 65031, 65032, 65033, 6155, 6156, 6157, 8203, 8204, 8205, 65034, 65035, 65036, 65037, 65038, 65039, 173, 847, 8288, 65279]
noncomputable def inB1 (i : Int) : Bool := b1Z.contains i
noncomputable def objAt (P : Params) (a : Nat) : Obj := ((K P).lookup a).getD ⟨.none, none, .plain, #[]⟩
theorem getK {w : World} {h : Heap} (X : (K w.params).In h) (a : Nat) (e : ((K w.params).lookup a).isSome = true) : h.get? a = some (objAt w.params a) := by
  obtain ⟨o, ho⟩ := Option.isSome_iff_exists.mp e
  rw [X a o ho]
  unfold objAt
  rw [ho]; rfl
/-- what a set's items say, of any written set of ints -/
noncomputable def goodSet (es : List (Int × Value)) (zs : List Int) : Bool := (es.zip zs).all (fun p => match p.1.2 with | .int k _ => k == p.2 && p.1.1 == hashInt k | _ => false) && es.length == zs.length
theorem goodSet_elems {prog : Program} {w : World} : ∀ {es : List (Int × Value)} {zs : List Int}, goodSet es zs = true → ElemsOf (intKind prog w) es ∧ ∀ k, zs.contains k = true ↔ ∃ e ∈ es, (intKind prog w).is k e.2 = true
  | [], [], _ => ⟨fun e he => (nomatch he), fun k => by simp⟩
  | [], _ :: _, h => by simp [goodSet] at h
  | _ :: _, [], h => by simp [goodSet] at h
  | (hh, v) :: es, z :: zs, h => by
    simp only [goodSet, List.zip_cons_cons, List.all_cons, Bool.and_eq_true, List.length_cons, beq_iff_eq] at h
    obtain ⟨⟨h1, h2⟩, h3⟩ := h
    cases v with
    | int k t =>
      simp only [Bool.and_eq_true, beq_iff_eq] at h1
      obtain ⟨rfl, rfl⟩ := h1
      have ih := goodSet_elems (prog := prog) (w := w) (es := es) (zs := zs) (by simp only [goodSet, Bool.and_eq_true, beq_iff_eq]; exact ⟨h2, by omega⟩)
      refine ⟨fun e he => ?_, fun y => ?_⟩
      · cases he with
        | head => exact ⟨⟨k, intKind_is prog w k t, rfl⟩, rfl⟩
        | tail _ he => exact ih.1 e he
      · rw [List.contains_cons, Bool.or_eq_true, ih.2 y]
        constructor
        · rintro (q | ⟨e, he, q⟩)
          · exact ⟨_, .head _, by rw [beq_iff_eq.mp q]; exact intKind_is prog w k t⟩
          · exact ⟨e, .tail _ he, q⟩
        · rintro ⟨e, he, q⟩
          cases he with
          | head => exact .inl (beq_iff_eq.mpr ((intKind prog w).inj _ _ _ q (intKind_is prog w k t)))
          | tail _ he => exact .inr ⟨e, he, q⟩
    | _ => cases h1
noncomputable def setItems : Data → List (Int × Value)
  | .set es _ _ => es.toList
  | _ => []
theorem b1_set {prog : Program} {w : World} {h : Heap} (X : (K w.params).In h) : h.SetOf (intKind prog w) 44 inB1 27 := by
  have g := goodSet_elems (prog := prog) (w := w) (es := setItems (objAt w.params 44).data) (zs := b1Z) (by kernel_rfl)
  exact ⟨objAt w.params 44, _, _, _, getK X 44 (by kernel_rfl), ⟨rfl, rfl, rfl⟩, rfl, g.1, g.2, by decide, by kernel_rfl, rfl⟩
/-- the long table -/
noncomputable def b3F (k : Int) : Option Str := (b3Pairs.find? fun p => p.1 == k).map (·.2)
theorem ents_find : ∀ (l : List (Int × Str)) (i : Nat) (k : Int), match (l.find? fun p => p.1 == k) with
    | some p => ∃ t, (entsFrom i l).find? (fun e => Value.isInt k e.key) = some ⟨p.1, .int p.1 t, .str p.2 (t + 1)⟩
    | none => (entsFrom i l).find? (fun e => Value.isInt k e.key) = none
  | [], _, _ => rfl
  | (z, s) :: r, i, k => by
    simp only [entsFrom, List.find?_cons]
    have e : Value.isInt k (Value.int z (if i < 646 then 323 + 3 * i else 2261 + 2 * (i - 646))) = (z == k) := by
      simp only [Value.isInt]
    rw [e]
    cases hz : (z == k) with
    | true => exact ⟨_, rfl⟩
    | false => exact ents_find r (i + 1) k
noncomputable def hashesOk (l : List (Int × Str)) : Bool := l.all fun p => hashInt p.1 == p.1
theorem ents_keys {prog : Program} {w : World} : ∀ (l : List (Int × Str)) (i : Nat), hashesOk l = true → ∀ e ∈ entsFrom i l, ∃ k, (intKind prog w).is k e.key = true ∧ e.hash = (intKind prog w).hash k
  | [], _, _, e, he => (nomatch he)
  | (z, s) :: r, i, h, e, he => by
    simp only [hashesOk, List.all_cons, Bool.and_eq_true, beq_iff_eq] at h
    simp only [entsFrom] at he
    cases he with
    | head => exact ⟨z, intKind_is prog w z _, h.1.symm⟩
    | tail _ he => exact ents_keys r (i + 1) h.2 e he
noncomputable def b3Find (k : Int) : Option Value := findBy Value.isInt b3Ent.toArray k
theorem b3Find_eq (k : Int) : match b3F k with
    | some s => ∃ t, b3Find k = some (.str s t)
    | none => b3Find k = none := by
  unfold b3F b3Find findBy
  rw [List.find?_toArray]
  have := ents_find b3Pairs 0 k
  cases hq : b3Pairs.find? fun p => p.1 == k with
  | some p => rw [hq] at this; obtain ⟨t, e⟩ := this; exact ⟨t + 1, by unfold b3Ent; rw [e]; rfl⟩
  | none => rw [hq] at this; show Option.map _ _ = none; unfold b3Ent; rw [this]; rfl
theorem b3_map {prog : Program} {w : World} {h : Heap} (X : (K w.params).In h) : h.MapOf (intKind prog w) 55 b3Find := by
  refine ⟨objAt w.params 55, _, _, getK X 55 (by kernel_rfl), ⟨rfl, rfl, rfl⟩, rfl, ?_, fun k => rfl⟩
  intro e he
  exact ents_keys b3Pairs 0 (by decide +kernel) e (List.mem_toArray.mp he)
section
variable {prog : Program} {w : World} {A : Around} {E : Value → Shared → Prop} {s : Shared}
theorem dget1 {d : Addr} {f : Int → Option Value} {k : Int} {t : Tok} {Q : Value → Shared → Prop} (hm : s.heap.MapOf (intKind prog w) d f) (lo : (d == sysModules) = false) (h : Q ((f k).getD .none) { s with toks := s.toks + 1 }) :
    wpAny (model prog w) A (call (.builtin "dict.get") [.ref d, .int k t]) Q E s :=
  call_meetsIn PySem.F.slot_dict_get hm.typeIs PySem.F.entry_dict_get (PySem.F.args_dict_get_2 _ _) (meets_dict_get (knd := intKind prog w) (d := d) (intKind_is prog w k t) lo) ⟨_, hm, h⟩
theorem dget2 {d : Addr} {f : Int → Option Value} {k : Int} {t : Tok} {v : Value} {Q : Value → Shared → Prop} (hm : s.heap.MapOf (intKind prog w) d f) (lo : (d == sysModules) = false) (h : Q ((f k).getD v) { s with toks := s.toks + 1 }) :
    wpAny (model prog w) A (call (.builtin "dict.get") [.ref d, .int k t, v]) Q E s :=
  call_meetsIn PySem.F.slot_dict_get hm.typeIs PySem.F.entry_dict_get (PySem.F.args_dict_get_3 _ _ _) (meets_dict_get_default (intKind prog w) d (intKind_is prog w k t) lo v) ⟨_, hm, h⟩
theorem dgetM {d : Addr} {f : Int → Option Value} {pl : Sem Bool} {Q : Value × List Value → Shared → Prop} (hm : s.heap.MapOf (intKind prog w) d f) (h : Q (.builtin "dict.get", [.ref d]) s) :
    wpAny (model prog w) A (getMethod (.ref d) "get" pl) Q E s := getMethod_builtin hm.typeIs PySem.F.plainAttrs_dict PySem.F.slot_dict_get PySem.F.type_dict_get hm.noDict h
end
end Mine
end
section
open PySem PySem.W PyProof.Rows
set_option Elab.async false
set_option maxRecDepth 100000
set_option maxHeartbeats 0
namespace Mine
/-- nothing is raised -/
noncomputable abbrev NoE : Value → Shared → Prop := fun _ _ => False
/-- a turn's end: the loop's state goes on, or the loop is left -/
noncomputable def TurnEnd (h₀ : Heap) (L I : Addr) (J : (Str → Option Value) → List (Addr × Obj) → Prop) (oI : Obj) (s₁ : Shared) (Q : Flow → Shared → Prop) : Flow → Shared → Prop
  | .ret v, s₂ => Q (.ret v) s₂
  | .brk, s₂ => Q .next s₂
  | _, s₂ => ∃ h tk m news, s₂ = { s₁ with heap := h, toks := tk } ∧ Fr h₀ L h m ∧ News h₀ L h ((I, oI) :: news) ∧ (∀ p ∈ news, p.1 ≠ I) ∧ J m news
theorem turn_next {h₀ : Heap} {L I : Addr} {J : (Str → Option Value) → List (Addr × Obj) → Prop} {oI : Obj} {s₁ : Shared} {Q : Flow → Shared → Prop} {h : Heap} {tk : Nat} {m : Str → Option Value} {news : List (Addr × Obj)}
    (F : Fr h₀ L h m) (N : News h₀ L h ((I, oI) :: news)) (nI : ∀ p ∈ news, p.1 ≠ I) (j : J m news) : TurnEnd h₀ L I J oI s₁ Q .next { s₁ with heap := h, toks := tk } := ⟨h, tk, m, news, rfl, F, N, nI, j⟩
section
variable {prog : Program} {w : World} {A : Around} {s : Shared} {env : Env} {h₀ : Heap} {x : Str} {px : Pos} {body orelse : List Stmt} {Q : Flow → Shared → Prop} {E : Value → Shared → Prop}
theorem noted_false {α : Type} {t : Sem α} {R : α → Shared → Prop} {E' : Value → Shared → Prop} (h : wpAny (model prog w) A t R NoE s) : wpAny (model prog w) A t R E' s :=
  wpAny_mono h (fun _ _ y => y) fun _ _ y => y.elim
theorem loop_walk {I : Addr} {n : Nat} {P : Nat → Value → Prop} {St : Nat → Heap → Prop} {m : Str → Option Value} {news : List (Addr × Obj)} {oI : Obj} (W : Walks prog w A I [I] [I] n P St) (hx : env.kindOf x = some .local)
    (hp : (env.scope.kind == .class || (env.scope.kind == .module && env.locals != env.globals)) = false)
    (alive : ∀ i h, St i h → ∃ o, h.get? I = some o) (hst : St 0 s.heap) (F : Fr h₀ env.locals s.heap m) (N : News h₀ env.locals s.heap ((I, oI) :: news)) (nI : ∀ p ∈ news, p.1 ≠ I)
    (J : Nat → (Str → Option Value) → List (Addr × Obj) → Prop) (h0 : J 0 m news)
    (turn : ∀ i v m₁ news₁ h tk oI, i < n → P i v → J i m₁ news₁ → Fr h₀ env.locals h (fun y => if y = x then some v else m₁ y) → News h₀ env.locals h ((I, oI) :: news₁) → (∀ p ∈ news₁, p.1 ≠ I) →
      wpAny (model prog w) A (execs body env) (TurnEnd h₀ env.locals I (J (i + 1)) oI { s with heap := h, toks := tk } Q) NoE { s with heap := h, toks := tk })
    (done : ∀ m' news' h tk, J n m' news' → Fr h₀ env.locals h m' → News h₀ env.locals h news' → wpAny (model prog w) A (execs orelse env) Q NoE { s with heap := h, toks := tk }) :
    codeAny (model prog w) A (.forLoop (.Name x px) (.ref I) body orelse env) (fun r s' => match r with | .ok f => Q f s' | .error _ => False) s := by
  have hIL : I ≠ env.locals := (N _ (.head _)).2.1
  have hI0 : h₀.get? I = none := (N _ (.head _)).2.2
  have old : ∀ b o, h₀.get? b = some o → b ≠ I := fun b o e q => by rw [q, hI0] at e; cases e
  refine codeAny_forLoop (fun k s' => ∃ h' tk m' news' i, s' = { s with heap := h', toks := tk } ∧ St i h' ∧ (∃ o, h'.get? I = some o) ∧ Fr h₀ env.locals h' m' ∧ News h₀ env.locals h' news' ∧ (∀ p ∈ news', p.1 ≠ I) ∧ J i m' news' ∧ i ≤ n ∧ k = n + 1 - i) ?_ (n + 1)
    ⟨s.heap, s.toks, m, news, 0, rfl, hst, ⟨oI, (N _ (.head _)).1⟩, F, fun p hp => N p (.tail _ hp), nI, h0, Nat.zero_le _, rfl⟩
  rintro k s' ⟨h', tk, m', news', i, rfl, hst', ⟨oI', hI'⟩, F', N', nI', hJ, hi, rfl⟩
  have next : ∀ h₁ : Heap, (∀ b o, b ∉ [I] → h'.get? b = some o → h₁.get? b = some o) → Fr h₀ env.locals h₁ m' ∧ News h₀ env.locals h₁ news' := fun h₁ hk =>
    ⟨⟨F'.ns.at' fun o e => hk _ o (by simpa using Ne.symm hIL) e, fun b o e => hk b o (by simpa using old b o e) (F'.keep b o e), F'.above⟩, fun p hp => ⟨hk _ _ (by simpa using nI' p hp) (N' p hp).1, (N' p hp).2⟩⟩
  by_cases hlt : i < n
  · refine W.item i _ _ _ hlt hst' fun v h₁ tk₁ hP hst₁ hk => ?_
    obtain ⟨F₁, N₁⟩ := next h₁ hk
    refine wpAny_assign_Name (wpAny_storeName_local hx F₁.ns (fun h₂ hn₂ hs₂ => ?_) hp)
    have F₂ := F₁.set hn₂ hs₂
    have N₂ := N₁.set hs₂
    have hst₂ : St (i + 1) h₂ := W.frame _ _ _ hst₁ fun b hb o e => (hs₂.2 b (by rw [List.mem_singleton.mp hb]; exact hIL)).trans e
    obtain ⟨oJ, hJ2⟩ := alive _ _ hst₂
    have N₃ : News h₀ env.locals h₂ ((I, oJ) :: news') := fun p hp => by
      rcases List.mem_cons.mp hp with rfl | hp
      · exact ⟨hJ2, hIL, hI0⟩
      · exact N₂ p hp
    refine wpAny_mono (turn i v m' news' h₂ (tk₁ + 1) oJ hlt hP hJ F₂ N₃ nI') (fun f s₃ h₃ => ?_) fun _ _ y => y.elim
    have goes : (∃ h tk' m'' news'', s₃ = { s with heap := h, toks := tk' } ∧ Fr h₀ env.locals h m'' ∧ News h₀ env.locals h ((I, oJ) :: news'') ∧ (∀ p ∈ news'', p.1 ≠ I) ∧ J (i + 1) m'' news'') →
        ∃ k', k' < n + 1 - i ∧ ∃ h' tk m' news' i', s₃ = { s with heap := h', toks := tk } ∧ St i' h' ∧ (∃ o, h'.get? I = some o) ∧ Fr h₀ env.locals h' m' ∧ News h₀ env.locals h' news' ∧ (∀ p ∈ news', p.1 ≠ I) ∧ J i' m' news' ∧ i' ≤ n ∧ k' = n + 1 - i' := by
      rintro ⟨h₄, tk₄, m₄, news₄, rfl, F₄, N₄, nI₄, J₄⟩
      refine ⟨n + 1 - (i + 1), by omega, h₄, tk₄, m₄, news₄, i + 1, rfl, W.frame _ _ _ hst₂ fun b hb o e => ?_, ⟨oJ, (N₄ _ (.head _)).1⟩, F₄, fun p hp => N₄ p (.tail _ hp), nI₄, J₄, hlt, rfl⟩
      rw [List.mem_singleton.mp hb] at e ⊢
      rw [hJ2] at e
      cases e
      exact (N₄ _ (.head _)).1
    cases f with
    | ret v => exact h₃
    | brk => exact h₃
    | cont => exact goes h₃
    | next => exact goes h₃
  · have hin : i = n := by omega
    subst hin
    refine W.done _ _ _ hst' fun h₁ tk₁ hk => ?_
    obtain ⟨F₁, N₁⟩ := next h₁ hk
    exact wpAny_mono (done m' news' h₁ tk₁ hJ F₁ N₁) (fun _ _ y => y) fun _ _ y => y.elim
/-- a for over what is walked: its head's value is at hand -/
theorem for_rule {iter : PySem.Expr} {pos : Pos} (hs : ∀ x, foldedSetIterable iter env x = pure x)
    (h : wpAny (model prog w) A (eval iter env) (fun xv s₁ => wpAny (model prog w) A (pyIter xv) (fun it s₂ => codeAny (model prog w) A (.forLoop (.Name x px) it body orelse env) (fun r s' => match r with | .ok f => Q f s' | .error _ => False) s₂) NoE s₁) NoE s) :
    wpAny (model prog w) A (exec (.For (.Name x px) iter body orelse pos) env) Q NoE s :=
  wpAny_For (wpAny_mono h (fun _ _ h₁ => wpAny_mono h₁ (fun _ _ h₂ => codeAny_mono h₂ fun r _ y => by cases r with | ok f => exact y | error e => exact y.elim) fun _ _ y => y) fun _ _ y => y) hs
theorem range_alive {I : Addr} {a : Int} {n : Nat} : ∀ (i : Nat) (h : Heap), IsRangeIter h I (a + (i : Nat) * 1) ((n : Int) - (i : Nat)) 1 → ∃ o, h.get? I = some o := fun _ _ st => ⟨_, st⟩
theorem range_loop {L : Addr} {r : Addr} {a b : Int} {t u v : Tok} {n : Nat} {m : Str → Option Value} {news : List (Addr × Obj)} (hr : IsRange s.heap r a b 1 t u v) (hsm : Builtin.Range.small a b 1 = true) (hn : Builtin.Range.rangeSize a b 1 = ((n : Nat) : Int))
    (hh : A.handled = none) (hx : env.kindOf x = some .local) (hp : (env.scope.kind == .class || (env.scope.kind == .module && env.locals != env.globals)) = false)
    (F : Fr h₀ L s.heap m) (N : News h₀ L s.heap news)
    (J : Nat → (Str → Option Value) → List (Addr × Obj) → Prop) (h0 : J 0 m news)
    (turn : ∀ i t m₁ news₁ h tk I oI, i < n → J i m₁ news₁ → Fr h₀ L h (fun y => if y = x then some (.int (a + (i : Nat)) t) else m₁ y) → News h₀ L h ((I, oI) :: news₁) → (∀ p ∈ news₁, p.1 ≠ I) →
      wpAny (model prog w) A (execs body env) (TurnEnd h₀ L I (J (i + 1)) oI { s with heap := h, toks := tk } Q) NoE { s with heap := h, toks := tk })
    (done : ∀ m' news' h tk, J n m' news' → Fr h₀ L h m' → News h₀ L h news' → wpAny (model prog w) A (execs orelse env) Q NoE { s with heap := h, toks := tk }) (hL : env.locals = L := by rfl) :
    wpAny (model prog w) A (pyIter (.ref r)) (fun it s₂ => codeAny (model prog w) A (.forLoop (.Name x px) it body orelse env) (fun r s' => match r with | .ok f => Q f s' | .error _ => False) s₂) NoE s := by
  subst hL
  refine wpAny_pyIter_range hr hsm ?_
  refine loop_walk (LCg.range_walks (I := s.heap.objs.size) hh a n) hx hp range_alive ?_ (F.push _) (News.push F N _) (fun p hp => Nat.ne_of_lt (Heap.lt_size (N p hp).1)) J h0 ?_ done
  · show Heap.get? _ _ = _
    rw [hn]
    simpa using Heap.get?_push_size _ rfl
  · rintro i v m₁ news₁ h tk oI hi ⟨t, rfl⟩ hJ F₁ N₁ nI
    exact turn i t m₁ news₁ h tk _ oI hi hJ F₁ N₁ nI
/-- a while's turn's end -/
noncomputable def WhileEnd (h₀ : Heap) (L : Addr) (J : Nat → (Str → Option Value) → List (Addr × Obj) → Prop) (k : Nat) (s₁ : Shared) (Q : Flow → Shared → Prop) : Flow → Shared → Prop
  | .ret v, s₂ => Q (.ret v) s₂
  | .brk, s₂ => Q .next s₂
  | _, s₂ => ∃ k' h tk m news, k' < k ∧ s₂ = { s₁ with heap := h, toks := tk } ∧ Fr h₀ L h m ∧ News h₀ L h news ∧ J k' m news
theorem while_next {h₀ : Heap} {L : Addr} {J : Nat → (Str → Option Value) → List (Addr × Obj) → Prop} {k k' : Nat} {s₁ : Shared} {Q : Flow → Shared → Prop} {h : Heap} {tk : Nat} {m : Str → Option Value} {news : List (Addr × Obj)}
    (F : Fr h₀ L h m) (N : News h₀ L h news) (hk : k' < k) (j : J k' m news) : WhileEnd h₀ L J k s₁ Q .next { s₁ with heap := h, toks := tk } := ⟨k', h, tk, m, news, hk, rfl, F, N, j⟩
theorem while_rule {test : PySem.Expr} {pos : Pos} {L : Addr} {m : Str → Option Value} {news : List (Addr × Obj)} (F : Fr h₀ L s.heap m) (N : News h₀ L s.heap news)
    (J : Nat → (Str → Option Value) → List (Addr × Obj) → Prop) (k₀ : Nat) (h0 : J k₀ m news)
    (turn : ∀ k m₁ news₁ h tk, J k m₁ news₁ → Fr h₀ L h m₁ → News h₀ L h news₁ →
      wpAny (model prog w) A (isTrue test env (eval test env)) (fun b s₂ => if b = true then wpAny (model prog w) A (execs body env) (WhileEnd h₀ L J k { s with heap := h, toks := tk } Q) NoE s₂ else wpAny (model prog w) A (execs orelse env) Q NoE s₂) NoE { s with heap := h, toks := tk }) :
    wpAny (model prog w) A (exec (.While test body orelse pos) env) Q NoE s := by
  refine wpAny_While (codeAny_mono (R := fun r s' => match r with | .ok f => Q f s' | .error _ => False) ?_ fun r _ y => by cases r with | ok f => exact y | error e => exact y.elim)
  refine codeAny_whileLoop (fun k s' => ∃ h tk m₁ news₁, s' = { s with heap := h, toks := tk } ∧ Fr h₀ L h m₁ ∧ News h₀ L h news₁ ∧ J k m₁ news₁) ?_ k₀ ⟨_, _, m, news, rfl, F, N, h0⟩
  rintro k s' ⟨h, tk, m₁, news₁, rfl, F₁, N₁, hJ⟩
  refine wpAny_mono (turn k m₁ news₁ h tk hJ F₁ N₁) (fun b s₂ y => ?_) fun _ _ y => y.elim
  cases b with
  | true =>
    simp only [if_true] at y ⊢
    refine wpAny_mono y (fun f s₃ z => ?_) fun _ _ z => z.elim
    cases f with
    | ret v => exact z
    | brk => exact z
    | next => obtain ⟨k', h', tk', m', news', hk, rfl, F', N', hJ'⟩ := z; exact ⟨k', hk, h', tk', m', news', rfl, F', N', hJ'⟩
    | cont => obtain ⟨k', h', tk', m', news', hk, rfl, F', N', hJ'⟩ := z; exact ⟨k', hk, h', tk', m', news', rfl, F', N', hJ'⟩
  | false =>
    simp only [Bool.false_eq_true, if_false] at y ⊢
    exact wpAny_mono y (fun _ _ z => z) fun _ _ z => z.elim
/-- where the walk is to rest -/
noncomputable def Rest (P : Prop) : Prop := P
theorem rest_here {P : Prop} (h : Rest P) : P := h
theorem rest_on {P : Prop} (h : P) : Rest P := h
theorem noE {α : Type} {M : Model} {A : Around} {t : Sem α} {Q : α → Shared → Prop} {E : Value → Shared → Prop} {s : Shared} (h : wpAny M A t Q NoE s) : wpAny M A t Q E s := wpAny_mono h (fun _ _ y => y) fun _ _ y => y.elim
end
theorem frIn1 {h₀ h : Heap} {L : Addr} {m : Str → Option Value} {z x0 : Str} {u v0 : Value} (F : Fr h₀ L h (fun y => if y = z then some u else m y)) (e0 : m x0 = some v0) : Fr h₀ L h (fun y => if y = z then some u else if y = x0 then some v0 else m y) := by
  have : (fun y => if y = z then some u else if y = x0 then some v0 else m y) = fun y => if y = z then some u else m y := by
    funext y
    repeat' (split <;> try simp_all)
  rw [this]; exact F
theorem frOf1 {h₀ h : Heap} {L : Addr} {m : Str → Option Value} {x0 : Str} {v0 : Value} (F : Fr h₀ L h m) (e0 : m x0 = some v0) : Fr h₀ L h (fun y => if y = x0 then some v0 else m y) := by
  have : (fun y => if y = x0 then some v0 else m y) = m := by
    funext y
    repeat' (split <;> try simp_all)
  rw [this]; exact F
theorem frIn2 {h₀ h : Heap} {L : Addr} {m : Str → Option Value} {z x0 x1 : Str} {u v0 v1 : Value} (F : Fr h₀ L h (fun y => if y = z then some u else m y)) (e0 : m x0 = some v0) (e1 : m x1 = some v1) : Fr h₀ L h (fun y => if y = z then some u else if y = x0 then some v0 else if y = x1 then some v1 else m y) := by
  have : (fun y => if y = z then some u else if y = x0 then some v0 else if y = x1 then some v1 else m y) = fun y => if y = z then some u else m y := by
    funext y
    repeat' (split <;> try simp_all)
  rw [this]; exact F
theorem frOf2 {h₀ h : Heap} {L : Addr} {m : Str → Option Value} {x0 x1 : Str} {v0 v1 : Value} (F : Fr h₀ L h m) (e0 : m x0 = some v0) (e1 : m x1 = some v1) : Fr h₀ L h (fun y => if y = x0 then some v0 else if y = x1 then some v1 else m y) := by
  have : (fun y => if y = x0 then some v0 else if y = x1 then some v1 else m y) = m := by
    funext y
    repeat' (split <;> try simp_all)
  rw [this]; exact F
theorem frIn3 {h₀ h : Heap} {L : Addr} {m : Str → Option Value} {z x0 x1 x2 : Str} {u v0 v1 v2 : Value} (F : Fr h₀ L h (fun y => if y = z then some u else m y)) (e0 : m x0 = some v0) (e1 : m x1 = some v1) (e2 : m x2 = some v2) : Fr h₀ L h (fun y => if y = z then some u else if y = x0 then some v0 else if y = x1 then some v1 else if y = x2 then some v2 else m y) := by
  have : (fun y => if y = z then some u else if y = x0 then some v0 else if y = x1 then some v1 else if y = x2 then some v2 else m y) = fun y => if y = z then some u else m y := by
    funext y
    repeat' (split <;> try simp_all)
  rw [this]; exact F
theorem frOf3 {h₀ h : Heap} {L : Addr} {m : Str → Option Value} {x0 x1 x2 : Str} {v0 v1 v2 : Value} (F : Fr h₀ L h m) (e0 : m x0 = some v0) (e1 : m x1 = some v1) (e2 : m x2 = some v2) : Fr h₀ L h (fun y => if y = x0 then some v0 else if y = x1 then some v1 else if y = x2 then some v2 else m y) := by
  have : (fun y => if y = x0 then some v0 else if y = x1 then some v1 else if y = x2 then some v2 else m y) = m := by
    funext y
    repeat' (split <;> try simp_all)
  rw [this]; exact F
theorem frIn4 {h₀ h : Heap} {L : Addr} {m : Str → Option Value} {z x0 x1 x2 x3 : Str} {u v0 v1 v2 v3 : Value} (F : Fr h₀ L h (fun y => if y = z then some u else m y)) (e0 : m x0 = some v0) (e1 : m x1 = some v1) (e2 : m x2 = some v2) (e3 : m x3 = some v3) : Fr h₀ L h (fun y => if y = z then some u else if y = x0 then some v0 else if y = x1 then some v1 else if y = x2 then some v2 else if y = x3 then some v3 else m y) := by
  have : (fun y => if y = z then some u else if y = x0 then some v0 else if y = x1 then some v1 else if y = x2 then some v2 else if y = x3 then some v3 else m y) = fun y => if y = z then some u else m y := by
    funext y
    repeat' (split <;> try simp_all)
  rw [this]; exact F
theorem frOf4 {h₀ h : Heap} {L : Addr} {m : Str → Option Value} {x0 x1 x2 x3 : Str} {v0 v1 v2 v3 : Value} (F : Fr h₀ L h m) (e0 : m x0 = some v0) (e1 : m x1 = some v1) (e2 : m x2 = some v2) (e3 : m x3 = some v3) : Fr h₀ L h (fun y => if y = x0 then some v0 else if y = x1 then some v1 else if y = x2 then some v2 else if y = x3 then some v3 else m y) := by
  have : (fun y => if y = x0 then some v0 else if y = x1 then some v1 else if y = x2 then some v2 else if y = x3 then some v3 else m y) = m := by
    funext y
    repeat' (split <;> try simp_all)
  rw [this]; exact F
theorem strs_snoc {y : Str} {t : Tok} : ∀ {vs : List Value} {ys : List Str}, StrsAre vs ys → StrsAre (vs ++ [.str y t]) (ys ++ [y])
  | _, _, .nil => .cons y t .nil
  | _, _, .cons z u r => .cons z u (strs_snoc r)
theorem sum_bound {l : List Str} {b : Nat} (h : ∀ x ∈ l, x.length ≤ b) : (l.map (·.length)).sum ≤ l.length * b := by
  induction l with
  | nil => simp
  | cons x r ih =>
    simp only [List.map_cons, List.sum_cons, List.length_cons]
    have := h x (.head _)
    have := ih fun y hy => h y (.tail _ hy)
    rw [Nat.add_mul]; omega
theorem join_led {prog : Program} {w : World} {A : Around} {E : Value → Shared → Prop} {s : Shared} {h₀ : Heap} {L D : Addr} {news : List (Addr × Obj)} {its : Array Value} {k : Nat} {ys : List Str} {x : Str} {t : Tok} {Q : Value → Shared → Prop}
    (N : News h₀ L s.heap news) (hm : (D, W.listOf its k) ∈ news) (hi : StrsAre its.toList ys) (hsep : x.length ≤ 64) (hok : (ys.map (·.length)).sum + ys.length * 64 ≤ 16777216)
    (h : ∀ t' k, Q (.str (Txt.join x ys) t') { s with toks := k }) : wpAny (model prog w) A (call (.builtin "str.join") [.str x t, .ref D]) Q E s :=
  join_listC (N.isList hm) hi hsep hok (fun t' k => h t' k)
theorem hret_eqS {Q : Value → Shared → Prop} {h₀ : Heap} {L : Addr} {m : Str → Option Value} {news : List (Addr × Obj)} {s : Shared} {x y : Str} {t : Tok} {h' : Heap} {tk' : Nat} (hret : ∀ (t : Tok) (h' : Heap) (tk' : Nat), Fr h₀ L h' m → News h₀ L h' news → Q (.str x t) { s with heap := h', toks := tk' }) (e : x = y) (F : Fr h₀ L h' m) (N : News h₀ L h' news) : Q (.str y t) { s with heap := h', toks := tk' } := by subst e; exact hret t h' tk' F N
theorem hret_eqI {Q : Value → Shared → Prop} {h₀ : Heap} {L : Addr} {m : Str → Option Value} {news : List (Addr × Obj)} {s : Shared} {x y : Int} {t : Tok} {h' : Heap} {tk' : Nat} (hret : ∀ (t : Tok) (h' : Heap) (tk' : Nat), Fr h₀ L h' m → News h₀ L h' news → Q (.int x t) { s with heap := h', toks := tk' }) (e : x = y) (F : Fr h₀ L h' m) (N : News h₀ L h' news) : Q (.int y t) { s with heap := h', toks := tk' } := by subst e; exact hret t h' tk' F N
end Mine
end
section
open PySem PySem.W PyProof.Rows
set_option Elab.async false
set_option maxRecDepth 100000
set_option maxHeartbeats 0
namespace Mine
section
variable {prog : Program} {w : World} {A : Around} {s : Shared} {env : Env} {h₀ : Heap} {x : Str} {px : Pos} {body orelse : List Stmt} {Q : Flow → Shared → Prop} {E : Value → Shared → Prop}
theorem loop_walkL {I ax : Addr} {oA : Obj} {n : Nat} {P : Nat → Value → Prop} {St : Nat → Heap → Prop} {m : Str → Option Value} {news : List (Addr × Obj)} {oI : Obj} (W : Walks prog w A I [I, ax] [I] n P St) (hx : env.kindOf x = some .local)
    (hp : (env.scope.kind == .class || (env.scope.kind == .module && env.locals != env.globals)) = false)
    (alive : ∀ i h, St i h → ∃ o, h.get? I = some o) (hst : St 0 s.heap) (F : Fr h₀ env.locals s.heap m) (N : News h₀ env.locals s.heap ((I, oI) :: news)) (nI : ∀ p ∈ news, p.1 ≠ I)
    (J : Nat → (Str → Option Value) → List (Addr × Obj) → Prop) (h0 : J 0 m news) (hJA : ∀ i m' news', J i m' news' → (ax, oA) ∈ news')
    (turn : ∀ i v m₁ news₁ h tk oI, i < n → P i v → J i m₁ news₁ → Fr h₀ env.locals h (fun y => if y = x then some v else m₁ y) → News h₀ env.locals h ((I, oI) :: news₁) → (∀ p ∈ news₁, p.1 ≠ I) →
      wpAny (model prog w) A (execs body env) (TurnEnd h₀ env.locals I (J (i + 1)) oI { s with heap := h, toks := tk } Q) NoE { s with heap := h, toks := tk })
    (done : ∀ m' news' h tk, J n m' news' → Fr h₀ env.locals h m' → News h₀ env.locals h news' → wpAny (model prog w) A (execs orelse env) Q NoE { s with heap := h, toks := tk }) :
    codeAny (model prog w) A (.forLoop (.Name x px) (.ref I) body orelse env) (fun r s' => match r with | .ok f => Q f s' | .error _ => False) s := by
  have hIL : I ≠ env.locals := (N _ (.head _)).2.1
  have hI0 : h₀.get? I = none := (N _ (.head _)).2.2
  have old : ∀ b o, h₀.get? b = some o → b ≠ I := fun b o e q => by rw [q, hI0] at e; cases e
  refine codeAny_forLoop (fun k s' => ∃ h' tk m' news' i, s' = { s with heap := h', toks := tk } ∧ St i h' ∧ (∃ o, h'.get? I = some o) ∧ Fr h₀ env.locals h' m' ∧ News h₀ env.locals h' news' ∧ (∀ p ∈ news', p.1 ≠ I) ∧ J i m' news' ∧ i ≤ n ∧ k = n + 1 - i) ?_ (n + 1)
    ⟨s.heap, s.toks, m, news, 0, rfl, hst, ⟨oI, (N _ (.head _)).1⟩, F, fun p hp => N p (.tail _ hp), nI, h0, Nat.zero_le _, rfl⟩
  rintro k s' ⟨h', tk, m', news', i, rfl, hst', ⟨oI', hI'⟩, F', N', nI', hJ, hi, rfl⟩
  have next : ∀ h₁ : Heap, (∀ b o, b ∉ [I] → h'.get? b = some o → h₁.get? b = some o) → Fr h₀ env.locals h₁ m' ∧ News h₀ env.locals h₁ news' := fun h₁ hk =>
    ⟨⟨F'.ns.at' fun o e => hk _ o (by simpa using Ne.symm hIL) e, fun b o e => hk b o (by simpa using old b o e) (F'.keep b o e), F'.above⟩, fun p hp => ⟨hk _ _ (by simpa using nI' p hp) (N' p hp).1, (N' p hp).2⟩⟩
  by_cases hlt : i < n
  · refine W.item i _ _ _ hlt hst' fun v h₁ tk₁ hP hst₁ hk => ?_
    obtain ⟨F₁, N₁⟩ := next h₁ hk
    refine wpAny_assign_Name (wpAny_storeName_local hx F₁.ns (fun h₂ hn₂ hs₂ => ?_) hp)
    have F₂ := F₁.set hn₂ hs₂
    have N₂ := N₁.set hs₂
    have hst₂ : St (i + 1) h₂ := W.frame _ _ _ hst₁ fun b hb o e => (hs₂.2 b (by
      rcases List.mem_cons.mp hb with rfl | hb
      · exact hIL
      · rw [List.mem_singleton.mp hb]; exact (N₁ _ (hJA _ _ _ hJ)).2.1)).trans e
    obtain ⟨oJ, hJ2⟩ := alive _ _ hst₂
    have N₃ : News h₀ env.locals h₂ ((I, oJ) :: news') := fun p hp => by
      rcases List.mem_cons.mp hp with rfl | hp
      · exact ⟨hJ2, hIL, hI0⟩
      · exact N₂ p hp
    refine wpAny_mono (turn i v m' news' h₂ (tk₁ + 1) oJ hlt hP hJ F₂ N₃ nI') (fun f s₃ h₃ => ?_) fun _ _ y => y.elim
    have goes : (∃ h tk' m'' news'', s₃ = { s with heap := h, toks := tk' } ∧ Fr h₀ env.locals h m'' ∧ News h₀ env.locals h ((I, oJ) :: news'') ∧ (∀ p ∈ news'', p.1 ≠ I) ∧ J (i + 1) m'' news'') →
        ∃ k', k' < n + 1 - i ∧ ∃ h' tk m' news' i', s₃ = { s with heap := h', toks := tk } ∧ St i' h' ∧ (∃ o, h'.get? I = some o) ∧ Fr h₀ env.locals h' m' ∧ News h₀ env.locals h' news' ∧ (∀ p ∈ news', p.1 ≠ I) ∧ J i' m' news' ∧ i' ≤ n ∧ k' = n + 1 - i' := by
      rintro ⟨h₄, tk₄, m₄, news₄, rfl, F₄, N₄, nI₄, J₄⟩
      refine ⟨n + 1 - (i + 1), by omega, h₄, tk₄, m₄, news₄, i + 1, rfl, W.frame _ _ _ hst₂ fun b hb o e => ?_, ⟨oJ, (N₄ _ (.head _)).1⟩, F₄, fun p hp => N₄ p (.tail _ hp), nI₄, J₄, hlt, rfl⟩
      rcases List.mem_cons.mp hb with rfl | hb
      · rw [hJ2] at e
        cases e
        exact (N₄ _ (.head _)).1
      · rw [List.mem_singleton.mp hb] at e ⊢
        have e5 := (N₂ _ (hJA _ _ _ hJ)).1
        have e6 := (N₄ _ (.tail _ (hJA _ _ _ J₄))).1
        rw [e5] at e
        cases e
        exact e6
    cases f with
    | ret v => exact h₃
    | brk => exact h₃
    | cont => exact goes h₃
    | next => exact goes h₃
  · have hin : i = n := by omega
    subst hin
    refine W.done _ _ _ hst' fun h₁ tk₁ hk => ?_
    obtain ⟨F₁, N₁⟩ := next h₁ hk
    exact wpAny_mono (done m' news' h₁ tk₁ hJ F₁ N₁) (fun _ _ y => y) fun _ _ y => y.elim
theorem list_loop {L D : Addr} {its : Array Value} {c : Nat} {m : Str → Option Value} {news : List (Addr × Obj)} (hm : (D, W.listOf its c) ∈ news)
    (hh : A.handled = none) (hx : env.kindOf x = some .local) (hp : (env.scope.kind == .class || (env.scope.kind == .module && env.locals != env.globals)) = false)
    (F : Fr h₀ L s.heap m) (N : News h₀ L s.heap news)
    (J : Nat → (Str → Option Value) → List (Addr × Obj) → Prop) (h0 : J 0 m news) (hJA : ∀ i m' news', J i m' news' → (D, W.listOf its c) ∈ news')
    (turn : ∀ i v m₁ news₁ h tk I oI, i < its.size → its[i]? = some v → J i m₁ news₁ → Fr h₀ L h (fun y => if y = x then some v else m₁ y) → News h₀ L h ((I, oI) :: news₁) → (∀ p ∈ news₁, p.1 ≠ I) →
      wpAny (model prog w) A (execs body env) (TurnEnd h₀ L I (J (i + 1)) oI { s with heap := h, toks := tk } Q) NoE { s with heap := h, toks := tk })
    (done : ∀ m' news' h tk, J its.size m' news' → Fr h₀ L h m' → News h₀ L h news' → wpAny (model prog w) A (execs orelse env) Q NoE { s with heap := h, toks := tk }) (hL : env.locals = L := by rfl) :
    wpAny (model prog w) A (pyIter (.ref D)) (fun it s₂ => codeAny (model prog w) A (.forLoop (.Name x px) it body orelse env) (fun r s' => match r with | .ok f => Q f s' | .error _ => False) s₂) NoE s := by
  subst hL
  have hl := N.isList hm
  have hlt : D < s.heap.objs.size := Heap.lt_size (N _ hm).1
  refine wpAny_pyIter_list hl ?_
  refine loop_walkL (Walks.list hh s.heap.objs.size D (Nat.ne_of_lt hlt) its) hx hp (fun i h st => by obtain ⟨o, e, _⟩ := st.1; exact ⟨o, e⟩) ⟨⟨_, Heap.get?_push_size _ rfl, rfl, rfl⟩, hl.push _⟩ (F.push _) (News.push F N _) (fun p hp => Nat.ne_of_lt (Heap.lt_size (N p hp).1)) J h0 hJA ?_ done
  intro i v m₁ news₁ h tk oI hi hv hJ F₁ N₁ nI
  exact turn i v m₁ news₁ h tk _ oI hi hv hJ F₁ N₁ nI
end
end Mine
end
section
open PySem PySem.W PyProof.Rows
set_option Elab.async false
set_option maxRecDepth 100000
set_option maxHeartbeats 0
namespace Mine
section
variable {prog : Program} {w : World} {A : Around} {s : Shared} {env : Env} {h₀ : Heap} {x : Str} {px : Pos} {body orelse : List Stmt} {Q : Flow → Shared → Prop} {E : Value → Shared → Prop}
/-- a loop whose target is stored by the turn itself -/
theorem loop_walkC {I : Addr} {n : Nat} {P : Nat → Value → Prop} {St : Nat → Heap → Prop} {m : Str → Option Value} {news : List (Addr × Obj)} {oI : Obj} (W : Walks prog w A I [I] [I] n P St)
    (alive : ∀ i h, St i h → ∃ o, h.get? I = some o) (hst : St 0 s.heap) (F : Fr h₀ env.locals s.heap m) (N : News h₀ env.locals s.heap ((I, oI) :: news)) (nI : ∀ p ∈ news, p.1 ≠ I)
    (J : Nat → (Str → Option Value) → List (Addr × Obj) → Prop) (h0 : J 0 m news)
    (turn : ∀ i v m₁ news₁ h tk oI, i < n → P i v → J i m₁ news₁ → Fr h₀ env.locals h m₁ → News h₀ env.locals h ((I, oI) :: news₁) → (∀ p ∈ news₁, p.1 ≠ I) →
      wpAny (model prog w) A (assign (.Name x px) env v) (fun _ s₂ => wpAny (model prog w) A (execs body env) (TurnEnd h₀ env.locals I (J (i + 1)) oI { s with heap := h, toks := tk } Q) NoE s₂) NoE { s with heap := h, toks := tk })
    (done : ∀ m' news' h tk, J n m' news' → Fr h₀ env.locals h m' → News h₀ env.locals h news' → wpAny (model prog w) A (execs orelse env) Q NoE { s with heap := h, toks := tk }) :
    codeAny (model prog w) A (.forLoop (.Name x px) (.ref I) body orelse env) (fun r s' => match r with | .ok f => Q f s' | .error _ => False) s := by
  have hIL : I ≠ env.locals := (N _ (.head _)).2.1
  have hI0 : h₀.get? I = none := (N _ (.head _)).2.2
  have old : ∀ b o, h₀.get? b = some o → b ≠ I := fun b o e q => by rw [q, hI0] at e; cases e
  refine codeAny_forLoop (fun k s' => ∃ h' tk m' news' i, s' = { s with heap := h', toks := tk } ∧ St i h' ∧ (∃ o, h'.get? I = some o) ∧ Fr h₀ env.locals h' m' ∧ News h₀ env.locals h' news' ∧ (∀ p ∈ news', p.1 ≠ I) ∧ J i m' news' ∧ i ≤ n ∧ k = n + 1 - i) ?_ (n + 1)
    ⟨s.heap, s.toks, m, news, 0, rfl, hst, ⟨oI, (N _ (.head _)).1⟩, F, fun p hp => N p (.tail _ hp), nI, h0, Nat.zero_le _, rfl⟩
  rintro k s' ⟨h', tk, m', news', i, rfl, hst', ⟨oI', hI'⟩, F', N', nI', hJ, hi, rfl⟩
  have next : ∀ h₁ : Heap, (∀ b o, b ∉ [I] → h'.get? b = some o → h₁.get? b = some o) → Fr h₀ env.locals h₁ m' ∧ News h₀ env.locals h₁ news' := fun h₁ hk =>
    ⟨⟨F'.ns.at' fun o e => hk _ o (by simpa using Ne.symm hIL) e, fun b o e => hk b o (by simpa using old b o e) (F'.keep b o e), F'.above⟩, fun p hp => ⟨hk _ _ (by simpa using nI' p hp) (N' p hp).1, (N' p hp).2⟩⟩
  by_cases hlt : i < n
  · refine W.item i _ _ _ hlt hst' fun v h₁ tk₁ hP hst₁ hk => ?_
    obtain ⟨F₁, N₁⟩ := next h₁ hk
    obtain ⟨oJ, hJ2⟩ := alive _ _ hst₁
    have N₃ : News h₀ env.locals h₁ ((I, oJ) :: news') := fun p hp => by
      rcases List.mem_cons.mp hp with rfl | hp
      · exact ⟨hJ2, hIL, hI0⟩
      · exact N₁ p hp
    refine wpAny_mono (turn i v m' news' h₁ tk₁ oJ hlt hP hJ F₁ N₃ nI') (fun u s₂ h₂ => wpAny_mono h₂ (fun f s₃ h₃ => ?_) fun _ _ y => y.elim) fun _ _ y => y.elim
    have goes : (∃ h tk' m'' news'', s₃ = { s with heap := h, toks := tk' } ∧ Fr h₀ env.locals h m'' ∧ News h₀ env.locals h ((I, oJ) :: news'') ∧ (∀ p ∈ news'', p.1 ≠ I) ∧ J (i + 1) m'' news'') →
        ∃ k', k' < n + 1 - i ∧ ∃ h' tk m' news' i', s₃ = { s with heap := h', toks := tk } ∧ St i' h' ∧ (∃ o, h'.get? I = some o) ∧ Fr h₀ env.locals h' m' ∧ News h₀ env.locals h' news' ∧ (∀ p ∈ news', p.1 ≠ I) ∧ J i' m' news' ∧ i' ≤ n ∧ k' = n + 1 - i' := by
      rintro ⟨h₄, tk₄, m₄, news₄, rfl, F₄, N₄, nI₄, J₄⟩
      refine ⟨n + 1 - (i + 1), by omega, h₄, tk₄, m₄, news₄, i + 1, rfl, W.frame _ _ _ hst₁ fun b hb o e => ?_, ⟨oJ, (N₄ _ (.head _)).1⟩, F₄, fun p hp => N₄ p (.tail _ hp), nI₄, J₄, hlt, rfl⟩
      rw [List.mem_singleton.mp hb] at e ⊢
      rw [hJ2] at e
      cases e
      exact (N₄ _ (.head _)).1
    cases f with
    | ret v => exact h₃
    | brk => exact h₃
    | cont => exact goes h₃
    | next => exact goes h₃
  · have hin : i = n := by omega
    subst hin
    refine W.done _ _ _ hst' fun h₁ tk₁ hk => ?_
    obtain ⟨F₁, N₁⟩ := next h₁ hk
    exact wpAny_mono (done m' news' h₁ tk₁ hJ F₁ N₁) (fun _ _ y => y) fun _ _ y => y.elim
theorem range_loopC {L : Addr} {r : Addr} {a b : Int} {t u v : Tok} {n : Nat} {m : Str → Option Value} {news : List (Addr × Obj)} (hr : IsRange s.heap r a b 1 t u v) (hsm : Builtin.Range.small a b 1 = true) (hn : Builtin.Range.rangeSize a b 1 = ((n : Nat) : Int))
    (hh : A.handled = none) (F : Fr h₀ L s.heap m) (N : News h₀ L s.heap news)
    (J : Nat → (Str → Option Value) → List (Addr × Obj) → Prop) (h0 : J 0 m news)
    (turn : ∀ i t m₁ news₁ h tk I oI, i < n → J i m₁ news₁ → Fr h₀ L h m₁ → News h₀ L h ((I, oI) :: news₁) → (∀ p ∈ news₁, p.1 ≠ I) →
      wpAny (model prog w) A (assign (.Name x px) env (.int (a + (i : Nat)) t)) (fun _ s₂ => wpAny (model prog w) A (execs body env) (TurnEnd h₀ L I (J (i + 1)) oI { s with heap := h, toks := tk } Q) NoE s₂) NoE { s with heap := h, toks := tk })
    (done : ∀ m' news' h tk, J n m' news' → Fr h₀ L h m' → News h₀ L h news' → wpAny (model prog w) A (execs orelse env) Q NoE { s with heap := h, toks := tk }) (hL : env.locals = L := by rfl) :
    wpAny (model prog w) A (pyIter (.ref r)) (fun it s₂ => codeAny (model prog w) A (.forLoop (.Name x px) it body orelse env) (fun r s' => match r with | .ok f => Q f s' | .error _ => False) s₂) NoE s := by
  subst hL
  refine wpAny_pyIter_range hr hsm ?_
  refine loop_walkC (LCg.range_walks (I := s.heap.objs.size) hh a n) range_alive ?_ (F.push _) (News.push F N _) (fun p hp => Nat.ne_of_lt (Heap.lt_size (N p hp).1)) J h0 ?_ done
  · show Heap.get? _ _ = _
    rw [hn]
    simpa using Heap.get?_push_size _ rfl
  · rintro i v m₁ news₁ h tk oI hi ⟨t, rfl⟩ hJ F₁ N₁ nI
    exact turn i t m₁ news₁ h tk _ oI hi hJ F₁ N₁ nI
end
end Mine
end
section
open PySem PySem.W PyProof.Rows PySem.Calls
set_option Elab.async false
set_option maxRecDepth 100000
set_option maxHeartbeats 0
namespace Mine
section
variable {M : Model} {A : Around} {E : Value → Shared → Prop} {s : Shared}
/-- an item of a value that goes behind it -/
theorem tmp_ops {value slice : PySem.Expr} {o i : Value} {T id : String} {ops : List Value} {prog : Program} {w : World} {Q : Value → Shared → Prop} (hT : s.TypeIs o T)
    (hl : typeLookup (.type T) "__getitem__" = pure (some (.builtin id))) (h : wpAny (model prog w) A (getItem o i) Q E s)
    (hs : subscripted slice false o i = operate ops (getItem o i)) : wpAny (model prog w) A (subscriptTail value slice o i) Q E s := by
  have fin : wpAny (model prog w) A (subscripted slice false o i) (fun r s' => wpAny (model prog w) A (letTemporaryGo value o r >>= fun _ => pure r) Q E s') E s := by
    rw [hs]
    exact wpAny_operating (wpAny_mono h (fun r s' hq => wpAny_bind (wpAny_letTemporaryGo (wpAny_pure hq))) fun _ _ y => y)
  unfold subscriptTail
  refine wpAny_bind ?_
  rw [getitemInPython_of_ne hT.not_modules]
  refine wpAny_bind (wpAny_specialOf hT hl ?_)
  first
    | exact wpAny_pure (wpAny_bind fin)
    | exact wpAny_bind (wpAny_pure (wpAny_bind fin))
    | exact wpAny_bind fin
end
section
variable {prog : Program} {w : World} {A : Around} {E : Value → Shared → Prop} {s : Shared} {h₀ : Heap} {L l : Addr} {m : Str → Option Value} {news : List (Addr × Obj)} {value slice : PySem.Expr} {vs : List Value} {ms : List Int} {vl vu : Value} {lo hi : Option Int} {Q : Value → Shared → Prop}
theorem tmp_slice_ints (F : Fr h₀ L s.heap m) (N : News h₀ L s.heap news) (hl : s.heap.IsList l vs.toArray) (pl : IsPart vl lo) (pu : IsPart vu hi) (hm : IntsAre (slicePick vs.toArray lo hi none).toList ms) (hz : vs.toArray.size ≤ sizeLine)
    (h : ∀ D ws h', Fr h₀ L h' m → News h₀ L h' ((D, W.listOf (List.toArray ws) 0) :: news) → (∀ p ∈ news, @LT.lt Nat _ p.1 D) → IntsAre ws ms → Q (.ref D) { s with heap := h' })
    (hs : subscripted slice false (.ref l) (.ref s.heap.objs.size) = operate [.ref s.heap.objs.size, .ref l] (getItem (.ref l) (.ref s.heap.objs.size))) :
    wpAny (model prog w) A (subscriptTail value slice (.ref l) (.ref s.heap.objs.size)) Q E { s with heap := s.heap.push { cls := .type "slice", data := .fields #[vl, vu, .none] } } := by
  refine tmp_ops (Heap.IsList.typeIs (s := { s with heap := s.heap.push { cls := .type "slice", data := .fields #[vl, vu, .none] } }) (hl.push _)) list_getitem_lookup
    (wpAny_getItem_list_slice (hl.push _) (Heap.IsSliceOf.new ..) pl pu .none (by simp) ?_ hz) hs
  have N1 := News.push (F.push { cls := .type "slice", data := .fields #[vl, vu, .none] }) (N.grown fun _ _ e => Heap.get?_push_of_some _ e) { cls := .type "list", data := .seq (slicePick vs.toArray lo hi none) }
  rw [Heap.size_push] at N1
  show Q (.ref (s.heap.push _).objs.size) _
  rw [Heap.size_push]
  refine h (s.heap.objs.size + 1) (slicePick vs.toArray lo hi none).toList _ ((F.push _).push _) ?_ (fun p hp => Nat.lt_succ_of_lt (Heap.lt_size (N p hp).1)) hm
  rw [Array.toArray_toList]
  exact N1
end
end Mine
end
section
open PySem PySem.W PyProof.Rows
set_option Elab.async false
set_option maxRecDepth 100000
set_option maxHeartbeats 0
namespace Mine
theorem regK : PySem.Challenge.rw_rw0097_01.foot = 7 ∧ K = K := by k_fill; exact ⟨rfl, rfl⟩
section
variable {w : World} {p : Program} {lo : List Str} {mean : ExcName → Option Value} {mg mb : Str → Option Value}
theorem in_set44 {prog : Program} {w : World} {A : Around} {E : Value → Shared → Prop} {s : Shared} {h₀ : Heap} {L : Addr} {m : Str → Option Value} {k : Int} {t : Tok} {Q : Value → Shared → Prop} (F : Fr h₀ L s.heap m) (X : (K w.params).In h₀)
    (h : Q (.bool (inB1 k)) { s with toks := s.toks + 1 }) : wpAny (model prog w) A (compareOp .In (.int k t) (.ref 44)) Q E s :=
  wpAny_inSet_of (intKind_is prog w k t) rfl (b1_set (X.keeps F.keep)) h
local macro_rules | `(tactic| walk_at "compareOp In") => `(tactic| (k_here; (with_reducible show wpAny _ _ (compareOp CmpOp.In (Value.int _ _) (Value.ref 44)) _ _ _); refine in_set44 (by k_asm) (by k_asm) ?_))
theorem spec_b1 (c : Nat) (t : Tok) (news : List (Addr × Obj)) :
    CbClaim P0 w (K w.params) p lo mean mg mb 54 news [] True [.str ⟨#[c]⟩ t] (fun _ => .bool (inB1 c)) := by
  dsimp only [CbClaim, CbLists, CbRet]; intros; rename_i hret
  refine wpAny_call ?_
  k_dflt cell_enter
  k_steps
  all_goals exact hret 0 _ _ (by assumption) (by assumption)
theorem b3_get {prog : Program} {w : World} {A : Around} {E : Value → Shared → Prop} {s : Shared} {h₀ : Heap} {L : Addr} {m : Str → Option Value} {k : Int} {t : Tok} {Q : Value → Shared → Prop} (F : Fr h₀ L s.heap m) (X : (K w.params).In h₀)
    (h1 : ∀ x t', b3F k = some x → Q (.str x t') { s with toks := s.toks + 1 }) (h2 : b3F k = none → Q .none { s with toks := s.toks + 1 }) : wpAny (model prog w) A (call (.builtin "dict.get") [.ref 55, .int k t]) Q E s := by
  refine dget1 (b3_map (X.keeps F.keep)) rfl ?_
  have e := b3Find_eq k
  cases hq : b3F k with
  | some x => rw [hq] at e; obtain ⟨t', e⟩ := e; rw [e]; exact h1 x t' hq
  | none => rw [hq] at e; rw [e]; exact h2 hq
theorem b3_meth {prog : Program} {w : World} {A : Around} {E : Value → Shared → Prop} {s : Shared} {h₀ : Heap} {L : Addr} {m : Str → Option Value} {pl : Sem Bool} {Q : Value × List Value → Shared → Prop} (F : Fr h₀ L s.heap m) (X : (K w.params).In h₀)
    (h : Q (.builtin "dict.get", [.ref 55]) s) : wpAny (model prog w) A (getMethod (.ref 55) "get" pl) Q E s := dgetM (b3_map (X.keeps F.keep)) h
local macro_rules | `(tactic| walk_at "getMethod ref") => `(tactic| (k_here; (with_reducible show wpAny _ _ (getMethod (Value.ref 55) _ _) _ _ _); refine b3_meth (by k_asm) (by k_asm) ?_))
local macro_rules | `(tactic| walk_at "call builtin:dict.get") => `(tactic| (k_here; (with_reducible show wpAny _ _ (call (Value.builtin "dict.get") [Value.ref 55, Value.int _ _]) _ _ _); refine b3_get (by k_asm) (by k_asm) ?_ ?_ <;> intros))
theorem lower1 {prog : Program} {w : World} {A : Around} {E : Value → Shared → Prop} {s : Shared} {c : Nat} {t : Tok} {Q : Value → Shared → Prop} (h : Q (.str (Txt.lower ⟨#[c]⟩) s.toks) { s with toks := s.toks + 1 }) :
    wpAny (model prog w) A (call (.builtin "str.lower") [.str ⟨#[c]⟩ t]) Q E s := SCL.lower (by show 1 ≤ 5592405; decide) fun _ => h
local macro_rules | `(tactic| walk_at "call builtin:str.lower") => `(tactic| (k_here; refine lower1 ?_))
theorem hret_eq {Q : Value → Shared → Prop} {h₀ : Heap} {L : Addr} {m : Str → Option Value} {news : List (Addr × Obj)} {s : Shared} {x y : Str} {t : Tok} {h' : Heap} {tk' : Nat} (hret : ∀ (t : Tok) (h' : Heap) (tk' : Nat), Fr h₀ L h' m → News h₀ L h' news → Q (.str x t) { s with heap := h', toks := tk' }) (e : x = y) (F : Fr h₀ L h' m) (N : News h₀ L h' news) : Q (.str y t) { s with heap := h', toks := tk' } := by subst e; exact hret t h' tk' F N
noncomputable def mapB3 (c : Nat) : Str := match b3F c with
  | some x => x
  | none => Txt.lower ⟨#[c]⟩
theorem spec_b3 (c : Nat) (t : Tok) (news : List (Addr × Obj)) :
    CbClaim P0 w (K w.params) p lo mean mg mb 100 news [] True [.str ⟨#[c]⟩ t] (fun t => .str (mapB3 c) t) := by
  dsimp only [CbClaim, CbLists, CbRet]; intros; rename_i hret
  refine wpAny_call ?_
  k_dflt cell_enter
  k_steps
  · refine hret_eq hret ?_ (by assumption) (by assumption)
    rename b3F _ = some _ => e; unfold mapB3; rw [e]
  · refine hret_eq hret ?_ (by assumption) (by assumption)
    rename b3F _ = none => e; unfold mapB3; rw [e]
end
end Mine
end
section
open PySem PySem.W PyProof.Rows
set_option Elab.async false
set_option maxRecDepth 100000
set_option maxHeartbeats 0
namespace Mine
theorem regK2 : PySem.Challenge.rw_rw0097_01.foot = 7 ∧ K = K := by k_fill; exact ⟨rfl, rfl⟩
/-- what a dict's entries say, of any written dict of ints to texts -/
noncomputable def goodDict : List DictEntry → List (Int × Str) → Bool
  | [], [] => true
  | ⟨h, .int k _, .str s _⟩ :: es, (z, x) :: ps => h == hashInt k && k == z && s == x && goodDict es ps
  | _, _ => false
theorem goodDict_find {prog : Program} {w : World} : ∀ {es : List DictEntry} {ps : List (Int × Str)}, goodDict es ps = true → (∀ e ∈ es, ∃ k, (intKind prog w).is k e.key = true ∧ e.hash = (intKind prog w).hash k) ∧
    ∀ k : Int, match (ps.find? fun p => p.1 == k).map (·.2) with
      | some x => ∃ t, (es.find? fun e => Value.isInt k e.key).map (·.val) = some (.str x t)
      | none => (es.find? fun e => Value.isInt k e.key).map (·.val) = none
  | [], [], _ => ⟨fun _ he => (nomatch he), fun _ => rfl⟩
  | [], _ :: _, h => by simp [goodDict] at h
  | ⟨_, _, _⟩ :: _, [], h => by simp [goodDict] at h
  | ⟨hh, kk, vv⟩ :: es, (z, x) :: ps, h => by
    cases kk with
    | int k t =>
      cases vv with
      | str s u =>
        simp only [goodDict, Bool.and_eq_true, beq_iff_eq] at h
        obtain ⟨⟨⟨rfl, rfl⟩, rfl⟩, h4⟩ := h
        have ih := goodDict_find (prog := prog) (w := w) h4
        refine ⟨fun e he => ?_, fun y => ?_⟩
        · cases he with
          | head => exact ⟨k, intKind_is prog w k t, rfl⟩
          | tail _ he => exact ih.1 e he
        · simp only [List.find?_cons, Value.isInt]
          cases q : (k == y) with
          | true => exact ⟨u, rfl⟩
          | false => exact ih.2 y
      | _ => cases h
    | _ => cases h
noncomputable def dictItems : Data → List DictEntry
  | .dict es _ => es.toList
  | _ => []
theorem goodDict_map {prog : Program} {w : World} {h : Heap} {a : Addr} {o : Obj} {ps : List (Int × Str)} (ho : h.get? a = some o) (hx : o.ExactDict) (n : Nat) (hd : o.data = .dict (dictItems o.data).toArray n) (g : goodDict (dictItems o.data) ps = true) :
    ∃ f, h.MapOf (intKind prog w) a f ∧ ∀ k : Int, match (ps.find? fun p => p.1 == k).map (·.2) with
      | some x => ∃ t, f k = some (.str x t)
      | none => f k = none := by
  obtain ⟨g1, g2⟩ := goodDict_find (prog := prog) (w := w) g
  refine ⟨_, ⟨o, _, n, ho, hx, hd, fun e he => g1 e (List.mem_toArray.mp he), fun k => rfl⟩, fun k => ?_⟩
  unfold findBy
  rw [List.find?_toArray]
  exact g2 k
/-- the ten small names -/
noncomputable def cfnL : List (Int × Str) := [(1, Str.ofString "OPTIMIZED"), (2, Str.ofString "NEWLOCALS"), (4, Str.ofString "VARARGS"), (8, Str.ofString "VARKEYWORDS"), (16, Str.ofString "NESTED"), (32, Str.ofString "GENERATOR"), (64, Str.ofString "NOFREE"), (128, Str.ofString "COROUTINE"), (256, Str.ofString "ITERABLE_COROUTINE"), (512, Str.ofString "ASYNC_GENERATOR")]
noncomputable def cfn (k : Int) : Option Str := (cfnL.find? fun p => p.1 == k).map (·.2)
theorem cf_map {prog : Program} {w : World} {h : Heap} (X : (K w.params).In h) : ∃ f, h.MapOf (intKind prog w) 15 f ∧ ∀ k : Int, match cfn k with
      | some x => ∃ t, f k = some (.str x t)
      | none => f k = none :=
  goodDict_map (ps := cfnL) (getK X 15 (by kernel_rfl)) ⟨rfl, rfl, rfl⟩ 10 rfl (by kernel_rfl)
theorem cf_get {prog : Program} {w : World} {A : Around} {E : Value → Shared → Prop} {s : Shared} {h₀ : Heap} {L : Addr} {m : Str → Option Value} {k : Int} {t tv : Tok} {x : Str} {Q : Value → Shared → Prop} (F : Fr h₀ L s.heap m) (X : (K w.params).In h₀)
    (h : ∀ t', Q (.str ((cfn k).getD x) t') { s with toks := s.toks + 1 }) : wpAny (model prog w) A (call (.builtin "dict.get") [.ref 15, .int k t, .str x tv]) Q E s := by
  obtain ⟨f, hm, hf⟩ := cf_map (prog := prog) (X.keeps F.keep)
  refine dget2 hm rfl ?_
  have e := hf k
  cases hq : cfn k with
  | some y => rw [hq] at e h; obtain ⟨t', e⟩ := e; rw [e]; exact h t'
  | none => rw [hq] at e h; rw [e]; exact h tv
theorem cf_meth {prog : Program} {w : World} {A : Around} {E : Value → Shared → Prop} {s : Shared} {h₀ : Heap} {L : Addr} {m : Str → Option Value} {pl : Sem Bool} {Q : Value × List Value → Shared → Prop} (F : Fr h₀ L s.heap m) (X : (K w.params).In h₀)
    (h : Q (.builtin "dict.get", [.ref 15]) s) : wpAny (model prog w) A (getMethod (.ref 15) "get" pl) Q E s := by
  obtain ⟨f, hm, -⟩ := cf_map (prog := prog) (X.keeps F.keep)
  exact dgetM hm h
noncomputable def hexT (n : Int) : Str := PySem.baseText "0x" 16 n
noncomputable def nameT (i : Nat) : Str := (cfn (1 * 2 ^ i)).getD (hexT (1 * 2 ^ i))
/-- what pretty_flags does, from the place i on -/
noncomputable def prettyGo : Nat → Nat → Int → List Str → List Str
  | 0, _, n, acc => acc ++ [hexT n]
  | f + 1, i, n, acc => if Builtin.bitAnd n (1 * 2 ^ i) ≠ 0 then
      (let n' := Builtin.bitXor n (1 * 2 ^ i)
       let acc' := acc ++ [nameT i]
       if n' = 0 then acc' else prettyGo f (i + 1) n' acc')
    else prettyGo f (i + 1) n acc
noncomputable def prettyT (n : Int) : Str := Txt.join (Str.ofString ", ") (prettyGo 32 0 n [])
section
variable {w : World} {p : Program} {lo : List Str} {mean : ExcName → Option Value} {mg mb : Str → Option Value}
local macro_rules | `(tactic| walk_at "exec For") => `(tactic| (k_here; refine for_rule (by intro _; rfl) ?_))
theorem hex_len : ∀ i < 32, (hexT (1 * 2 ^ i)).length ≤ 1000 := by decide +kernel
theorem hex_call {prog : Program} {w : World} {A : Around} {E : Value → Shared → Prop} {s : Shared} {n : Int} {t : Tok} {Q : Value → Shared → Prop} (hl : (hexT n).length ≤ 1000) (h : Q (.str (hexT n) s.toks) { s with toks := s.toks + 1 }) :
    wpAny (model prog w) A (call (.builtin "hex") [.int n t]) Q E s := P.hex_of_int h (Nat.le_trans hl (by decide))
local macro_rules | `(tactic| walk_at "getMethod ref") => `(tactic| (k_here; (with_reducible show wpAny _ _ (getMethod (Value.ref 15) _ _) _ _ _); refine cf_meth (by k_asm) (by k_asm) ?_))
local macro_rules | `(tactic| walk_at "call builtin:dict.get") => `(tactic| (k_here; (with_reducible show wpAny _ _ (call (Value.builtin "dict.get") [Value.ref 15, Value.int _ _, Value.str _ _]) _ _ _); refine cf_get (by k_asm) (by k_asm) ?_; intro _))
local macro_rules | `(tactic| walk_at "call builtin:hex") => `(tactic| (k_here; refine' hex_call ?hx1 ?_; (case hx1 => first | with_reducible assumption | exact hex_len _ (by assumption))))
local macro_rules | `(tactic| walk_at "call builtin:str.join") => `(tactic| (k_here; refine' join_led ?j1 ?j2 ?j3 ?j4 ?j5 ?_; (case j1 => k_asm); (case j2 => k_mem); (case j3 => first | k_asm | ((rename ∀ _ : Tok, StrsAre _ _ => hSS); exact hSS _)); (case j4 => decide); (case j5 => k_asm); intro _ _))
/-- between the turns -/
noncomputable def pfJ (n : Int) (D : Addr) (news : List (Addr × Obj)) (i : Nat) (m : Str → Option Value) (nw : List (Addr × Obj)) : Prop :=
  ∃ (its : List Value) (k : Nat) (nm : List Str) (ni : Int) (tk : Tok), nw = (D, W.listOf its.toArray k) :: news ∧ m "names" = some (.ref D) ∧ m "flags" = some (.int ni tk) ∧ StrsAre its nm ∧ nm.length ≤ i ∧ prettyGo (32 - i) i ni nm = prettyGo 32 0 n []
theorem pf_nextI {n : Int} {D : Addr} {news : List (Addr × Obj)} {i : Nat} (hi : i < 32) {its : List Value} {k : Nat} {nm : List Str} {ni : Int} {m : Str → Option Value} {t tk : Tok} (hS : StrsAre its nm) (hL : nm.length ≤ i) (hE : prettyGo (32 - i) i ni nm = prettyGo 32 0 n [])
    (hb : Builtin.bitAnd ni (1 * 2 ^ ((i : Nat) : Int).toNat) ≠ 0) (hx : ¬ Builtin.bitXor ni (1 * 2 ^ ((i : Nat) : Int).toNat) = 0) (e1 : m "names" = some (.ref D)) (e2 : m "flags" = some (.int (Builtin.bitXor ni (1 * 2 ^ ((i : Nat) : Int).toNat)) tk)) :
    pfJ n D news (i + 1) m ((D, W.listOf (its.toArray.push (.str ((cfn (1 * 2 ^ ((i : Nat) : Int).toNat)).getD (hexT (1 * 2 ^ ((i : Nat) : Int).toNat))) t)) (k + 1)) :: news) := by
  rw [Int.toNat_natCast] at *
  refine ⟨its ++ [.str (nameT i) t], k + 1, nm ++ [nameT i], _, tk, by simp [nameT], e1, e2, strs_snoc hS, by simp; omega, ?_⟩
  rw [← hE, show 32 - i = (32 - (i + 1)) + 1 by omega, prettyGo, if_pos hb, if_neg hx]
theorem pf_brk {n : Int} {i : Nat} (hi : i < 32) {nm : List Str} {ni : Int} (hE : prettyGo (32 - i) i ni nm = prettyGo 32 0 n [])
    (hb : Builtin.bitAnd ni (1 * 2 ^ ((i : Nat) : Int).toNat) ≠ 0) (hx : Builtin.bitXor ni (1 * 2 ^ ((i : Nat) : Int).toNat) = 0) : nm ++ [(cfn (1 * 2 ^ ((i : Nat) : Int).toNat)).getD (hexT (1 * 2 ^ ((i : Nat) : Int).toNat))] = prettyGo 32 0 n [] := by
  rw [Int.toNat_natCast] at *
  rw [← hE, show 32 - i = (32 - (i + 1)) + 1 by omega, prettyGo, if_pos hb, if_pos hx]; rfl
theorem pf_nextO {n : Int} {D : Addr} {news : List (Addr × Obj)} {i : Nat} (hi : i < 32) {its : List Value} {k : Nat} {nm : List Str} {ni : Int} {m : Str → Option Value} {tk : Tok} (hS : StrsAre its nm) (hL : nm.length ≤ i) (hE : prettyGo (32 - i) i ni nm = prettyGo 32 0 n [])
    (hb : Builtin.bitAnd ni (1 * 2 ^ ((i : Nat) : Int).toNat) = 0) (e1 : m "names" = some (.ref D)) (e2 : m "flags" = some (.int ni tk)) :
    pfJ n D news (i + 1) m ((D, W.listOf its.toArray k) :: news) := by
  rw [Int.toNat_natCast] at *
  refine ⟨its, k, nm, _, tk, rfl, e1, e2, hS, by omega, ?_⟩
  rw [← hE, show 32 - i = (32 - (i + 1)) + 1 by omega, prettyGo, if_neg (by rw [hb]; simp)]
theorem spec_pf (n : Int) (t : Tok) (news : List (Addr × Obj)) (hn : ∀ x ∈ prettyGo 32 0 n [], x.length ≤ 1000) :
    CbClaim P0 w (K w.params) p lo mean mg mb 22 news [] True [.int n t] (fun t => .str (prettyT n) t) := by
  dsimp only [CbClaim, CbLists, CbRet]; intros; rename_i hret
  refine wpAny_call ?_
  k_dflt cell_enter
  refine noE ?_
  k_steps
  rename IsRange _ _ _ _ _ _ _ _ => hR
  rename (∀ p ∈ news, _ < _) => l1
  have hne : ∀ p ∈ news, p.1 ≠ _ := fun p hp => Nat.ne_of_lt (l1 p hp)
  refine range_loop (n := 32) hR (by decide) (by decide) rfl (by rfl) (by rfl) (by assumption) (by assumption) (pfJ n _ news) ⟨[], 0, [], n, t, rfl, by rfl, by rfl, .nil, Nat.le_refl _, rfl⟩ ?_ ?_
  · rintro i ti m₁ news₁ h tk I oI hi ⟨its, k, nm, ni, tn, rfl, e1, e2, hS, hL, hE⟩ F₁ N₁ nI
    have F₂ := frIn2 F₁ e1 e2
    clear F₁
    simp only [Int.zero_add] at F₂
    have hID : (@Ne Nat I _) := Ne.symm (nI _ (.head _))
    have hlen := hS.length
    have hsz : its.toArray.size ≤ sizeLine := by rw [List.size_toArray, sizeLine_eq]; omega
    k_steps
    · refine turn_next (by assumption) (by assumption) (fun p hp => ?_) (pf_nextI hi hS hL hE (by assumption) (by assumption) rfl rfl)
      rcases List.mem_cons.mp hp with rfl | hp
      · exact Ne.symm hID
      · exact nI p (.tail _ hp)
    · dsimp only [TurnEnd]
      have hE9 := pf_brk hi hE (by assumption) (by assumption)
      have hS9 : ∀ t, StrsAre (its.toArray.push (.str ((cfn (1 * 2 ^ ((i : Nat) : Int).toNat)).getD (hexT (1 * 2 ^ ((i : Nat) : Int).toNat))) t)).toList (prettyGo 32 0 n []) := fun t => by
        rw [← hE9]; simpa using strs_snoc (t := t) hS
      have hok : ((prettyGo 32 0 n []).map (·.length)).sum + (prettyGo 32 0 n []).length * 64 ≤ 16777216 := by
        have := sum_bound hn
        have h2 := congrArg List.length hE9
        rw [List.length_append, List.length_singleton] at h2
        omega
      k_steps
      refine hret _ _ _ (by assumption) ?_
      refine' cb_drop ?cbN ?cbS
      case cbN => assumption
      case cbS => exact fun p hp => .tail _ (.tail _ hp)
    · refine turn_next (by assumption) (by assumption) nI (pf_nextO hi hS hL hE (by assumption) rfl rfl)
  · rintro m₁ news₁ h tk ⟨its, k, nm, ni, tn, rfl, e1, e2, hS, hL, hE⟩ F₁ N₁
    have F₂ := frOf2 F₁ e1 e2
    clear F₁
    have hlen := hS.length
    have hsz : its.toArray.size ≤ sizeLine := by rw [List.size_toArray, sizeLine_eq]; omega
    have hE9 : nm ++ [hexT ni] = prettyGo 32 0 n [] := hE
    have hx : (hexT ni).length ≤ 1000 := hn _ (by rw [← hE9]; exact List.mem_append_right _ (.head _))
    have hS9 : ∀ t, StrsAre (its.toArray.push (.str (hexT ni) t)).toList (prettyGo 32 0 n []) := fun t => by
      rw [← hE9]; simpa using strs_snoc (t := t) hS
    have hok : ((prettyGo 32 0 n []).map (·.length)).sum + (prettyGo 32 0 n []).length * 64 ≤ 16777216 := by
      have := sum_bound hn
      have h2 := congrArg List.length hE9
      rw [List.length_append, List.length_singleton] at h2
      omega
    k_steps
    refine hret _ _ _ (by assumption) ?_
    refine' cb_drop ?cbN ?cbS
    case cbN => assumption
    case cbS => exact fun p hp => .tail _ hp
end
end Mine
end
section
open PySem PySem.W PyProof.Rows
set_option Elab.async false
set_option maxRecDepth 100000
set_option maxHeartbeats 0
namespace Mine
theorem regK3 : PySem.Challenge.rw_rw0097_01.foot = 7 ∧ K = K := by k_fill; exact ⟨rfl, rfl⟩
noncomputable def hexD : Str := Str.ofString "0123456789abcdef"
noncomputable def ownGo : Nat → Int → Str → Str
  | 0, _, f => f
  | k + 1, r, f => if 0 < r then ownGo k (r.fdiv 16) (Txt.item hexD (r.fmod 16) ++ f) else f
noncomputable def ownNames : List Str := [Str.ofString "optimized", Str.ofString "newlocals", Str.ofString "varargs", Str.ofString "varkeywords", Str.ofString "nested", Str.ofString "generator", Str.ofString "nofree", Str.ofString "coroutine", Str.ofString "iterable_coroutine", Str.ofString "async_generator"]
noncomputable def ownT (n : Int) : Str := match (List.range 10).find? (fun k => n == 2 ^ k) with
  | some k => ownNames.getD k ⟨#[]⟩
  | none => Str.ofString (if n < 0 then "-0x" else "0x") ++ ownGo n.natAbs n.natAbs ⟨#[]⟩
theorem ownT_none {n : Int} (h : ∀ j < 10, n ≠ 2 ^ j) : ownT n = Str.ofString (if n < 0 then "-0x" else "0x") ++ ownGo n.natAbs n.natAbs ⟨#[]⟩ := by
  unfold ownT
  have : (List.range 10).find? (fun k => n == 2 ^ k) = none := by
    rw [List.find?_eq_none]
    intro j hj
    simpa using h j (List.mem_range.mp hj)
  rw [this]
noncomputable def ownJ (n : Int) (t : Tok) (D : Addr) (NW : List (Addr × Obj)) (i : Nat) (m : Str → Option Value) (nw : List (Addr × Obj)) : Prop :=
  nw = NW ∧ m "names" = some (.ref D) ∧ m "flag" = some (.int n t) ∧ ∀ j < i, n ≠ 2 ^ j
noncomputable def ownW (n : Int) (t : Tok) (NW : List (Addr × Obj)) (k : Nat) (m : Str → Option Value) (nw : List (Addr × Obj)) : Prop :=
  nw = NW ∧ m "flag" = some (.int n t) ∧ ∃ (r : Int) (f : Str) (tr tf : Tok) (e : Nat), m "rest" = some (.int r tr) ∧ m "figures" = some (.str f tf) ∧ 0 ≤ r ∧ r.toNat ≤ k ∧ r < 16 ^ e ∧ f.length + e ≤ 30 ∧ ownGo k r f = ownGo n.natAbs n.natAbs ⟨#[]⟩
theorem own_step {k : Nat} {r : Int} {f F : Str} {e : Nat} (hr : 0 < r) (hrk : r.toNat ≤ k) (hre : r < 16 ^ e) (hfe : f.length + e ≤ 30) (hE : ownGo k r f = F) :
    k - 1 < k ∧ 0 ≤ r.fdiv 16 ∧ (r.fdiv 16).toNat ≤ k - 1 ∧ r.fdiv 16 < 16 ^ (e - 1) ∧ (Txt.item hexD (r.fmod 16) ++ f).length + (e - 1) ≤ 30 ∧ ownGo (k - 1) (r.fdiv 16) (Txt.item hexD (r.fmod 16) ++ f) = F := by
  have h16 : r.fdiv 16 = r / 16 := Int.fdiv_eq_ediv_of_nonneg r (by decide)
  cases k with
  | zero => omega
  | succ k =>
    have he : e ≠ 0 := by rintro rfl; simp at hre; omega
    obtain ⟨e', rfl⟩ : ∃ e', e = e' + 1 := ⟨e - 1, by omega⟩
    have hp : (16 : Int) ^ (e' + 1) = 16 ^ e' * 16 := Int.pow_succ ..
    have hl : (Txt.item hexD (r.fmod 16)).length = 1 := len_item _ _
    rw [ownGo, if_pos hr] at hE
    simp only [Nat.add_sub_cancel]
    refine ⟨by omega, by omega, by omega, ?_, ?_, hE⟩
    · rw [hp] at hre
      generalize (16 : Int) ^ e' = P at hre
      omega
    · rw [Str.length_append, hl]; omega
theorem own_end {n : Int} {k : Nat} {r : Int} {f : Str} (hj : ∀ j < 10, n ≠ 2 ^ j) (hr0 : 0 ≤ r) (hr : ¬ 0 < r) (hE : ownGo k r f = ownGo n.natAbs n.natAbs ⟨#[]⟩) : ownT n = Str.ofString (if n < 0 then "-0x" else "0x") ++ f := by
  rw [ownT_none hj, ← hE]
  cases k with
  | zero => rfl
  | succ k => rw [ownGo, if_neg hr]
section
variable {w : World} {p : Program} {lo : List Str} {mean : ExcName → Option Value} {mg mb : Str → Option Value}
local macro_rules | `(tactic| walk_at "exec For") => `(tactic| (k_here; refine rest_here ?_))
local macro_rules | `(tactic| walk_at "exec For Name Call cons nil") => `(tactic| (k_here; refine rest_here ?_))
local macro_rules | `(tactic| walk_at "pyIter ref") => `(tactic| (k_here; refine rest_here ?_))
local macro_rules | `(tactic| walk_at "exec While") => `(tactic| (k_here; refine rest_here ?_))
theorem spec_own (n : Int) (t : Tok) (news : List (Addr × Obj)) (hn : n.natAbs < 16 ^ 30) :
    CbClaim P0 w (K w.params) p lo mean mg mb 126 news [] True [.int n t] (fun t => .str (ownT n) t) := by
  dsimp only [CbClaim, CbLists, CbRet]; intros; rename_i hret
  refine wpAny_call ?_
  k_dflt cell_enter
  refine noE ?_
  k_steps
  unfold Rest
  refine for_rule (by intro _; rfl) ?_
  k_steps
  unfold Rest
  rename IsRange _ _ _ _ _ _ _ _ => hR
  refine range_loop (n := 10) hR (by decide) (by decide) rfl (by rfl) (by rfl) (by assumption) (by assumption) (ownJ n t _ _) ⟨rfl, by rfl, by rfl, fun j hj => absurd hj (Nat.not_lt_zero _)⟩ ?_ ?_
  · rintro i ti m₁ news₁ h tk I oI hi ⟨rfl, e1, e2, hj⟩ F₁ N₁ nI
    have F₂ := frIn2 F₁ e1 e2
    clear F₁ e1 e2 hR
    simp only [Int.zero_add] at F₂
    rcases (by omega : i = 0 ∨ i = 1 ∨ i = 2 ∨ i = 3 ∨ i = 4 ∨ i = 5 ∨ i = 6 ∨ i = 7 ∨ i = 8 ∨ i = 9) with rfl | rfl | rfl | rfl | rfl | rfl | rfl | rfl | rfl | rfl
    all_goals
      k_steps
      · dsimp only [TurnEnd]
        k_steps
        refine hret_eqS hret ?_ (by assumption) ?_
        · rename n = _ => hq
          rw [hq]; rfl
        · refine' cb_drop ?cbN ?cbS
          case cbN => assumption
          case cbS => exact fun p hp => .tail _ (.tail _ (.tail _ (.tail _ hp)))
      · refine turn_next (by assumption) (by assumption) nI ⟨rfl, rfl, rfl, fun j hj9 => ?_⟩
        rename ¬ (n = _) => hq
        rcases Nat.lt_succ_iff_lt_or_eq.mp hj9 with h9 | rfl
        · exact hj j h9
        · exact hq
  · rintro m₁ news₁ h tk ⟨rfl, e1, e2, hj⟩ F₁ N₁
    have F₂ := frOf1 F₁ e2
    clear F₁ e1 hR
    k_steps
    unfold Rest
    have hlen0 : (Str.ofString "").length = 0 := by decide
    refine while_rule (by assumption) (by assumption) (ownW n t _) n.natAbs ⟨rfl, rfl, if n < 0 then -n else n, Str.ofString "", _, _, 30, rfl, rfl, by split <;> omega, by split <;> omega, ?_, by omega, ?_⟩ ?_
    · have : ((n.natAbs : Int)) < ((16 ^ 30 : Nat) : Int) := Int.ofNat_lt.mpr hn
      have e16 : ((16 ^ 30 : Nat) : Int) = (16 : Int) ^ 30 := by decide
      split <;> omega
    · congr 1
      split <;> omega
    · rintro k m₁ news₁ h tk ⟨rfl, e1, r, f, tr, tf, e, e2, e3, hr0, hrk, hre, hfe, hE⟩ F₁ N₁
      have F₂ := frOf3 F₁ e1 e2 e3
      clear F₁
      have hf : f.length ≤ 30 := by omega
      k_steps
      · obtain ⟨s0, s1, s2, s3, s4, s5⟩ := own_step (by omega) hrk hre hfe hE
        exact while_next (by assumption) (by assumption) s0 ⟨rfl, rfl, _, _, _, _, e - 1, rfl, rfl, s1, s2, s3, s4, s5⟩
      · refine hret_eqS hret ?_ (by assumption) ?_
        · rw [own_end hj hr0 (by omega) hE, if_pos (by omega)]
        · refine' cb_drop ?cbN ?cbS
          case cbN => assumption
          case cbS => exact fun p hp => .tail _ (.tail _ (.tail _ hp))
      · refine hret_eqS hret ?_ (by assumption) ?_
        · rw [own_end hj hr0 (by omega) hE, if_neg (by omega)]
        · refine' cb_drop ?cbN ?cbS
          case cbN => assumption
          case cbS => exact fun p hp => .tail _ (.tail _ (.tail _ hp))
end
end Mine
end
section
open PySem PySem.W PyProof.Rows
set_option Elab.async false
set_option maxRecDepth 100000
set_option exponentiation.threshold 1000
namespace Mine
/-- the number of a row of signs -/
noncomputable def valD (w : Nat) : List Int → Int
  | [] => 0
  | a :: r => a + 2 ^ w * valD w r
theorem valD_append (w : Nat) : ∀ a b : List Int, valD w (a ++ b) = valD w a + 2 ^ (w * a.length) * valD w b
  | [], b => by simp [valD]
  | x :: a, b => by
    rw [List.cons_append, valD, valD, valD_append w a b, List.length_cons, Nat.mul_add, Nat.mul_one, Int.pow_add]
    generalize (2 : Int) ^ (w * a.length) = P
    generalize (2 : Int) ^ w = R
    rw [Int.mul_add, ← Int.mul_assoc, Int.mul_comm R P, Int.add_assoc]
noncomputable def segV (w : Nat) (ns : List Int) (L R : Nat) : Int := valD w ((ns.drop L).take (R - L))
theorem segV_one {w : Nat} {ns : List Int} {L : Nat} (h : L < ns.length) : segV w ns L (L + 1) = ns[L] := by
  unfold segV
  rw [show L + 1 - L = 1 by omega, List.drop_eq_getElem_cons h]
  simp only [List.take_succ_cons, List.take_zero, valD, Int.mul_zero, Int.add_zero]
theorem segV_join {w : Nat} {ns : List Int} {L M R : Nat} (h1 : L ≤ M) (h2 : M ≤ R) (h3 : R ≤ ns.length) : segV w ns M R * 2 ^ ((M - L) * w) + segV w ns L M = segV w ns L R := by
  unfold segV
  have e : (ns.drop L).take (R - L) = (ns.drop L).take (M - L) ++ (ns.drop M).take (R - M) := by
    rw [show R - L = (M - L) + (R - M) by omega, List.take_add, List.drop_drop, show L + (M - L) = M by omega]
  rw [e, valD_append, List.length_take, List.length_drop, show min (M - L) (ns.length - L) = M - L by omega, Nat.mul_comm w]
  rw [Int.add_comm, Int.mul_comm]
theorem segV_all {w : Nat} {ns : List Int} : segV w ns 0 ns.length = valD w ns := by
  unfold segV; simp
theorem valD_bound {w : Nat} (hw : 1 ≤ w) : ∀ {l : List Int}, (∀ x ∈ l, 0 ≤ x ∧ x < 2 ^ 21) → 0 ≤ valD w l ∧ valD w l ≤ 2 ^ 21 * (2 ^ (w * l.length) - 1)
  | [], _ => by simp [valD]
  | a :: r, h => by
    obtain ⟨i1, i2⟩ := valD_bound hw (l := r) fun x hx => h x (.tail _ hx)
    obtain ⟨a1, a2⟩ := h a (.head _)
    rw [valD, List.length_cons, Nat.mul_add, Nat.mul_one, Int.pow_add]
    have hP : (2 : Int) ≤ 2 ^ w := by
      have : 2 ^ 1 ≤ 2 ^ w := Nat.pow_le_pow_right (by decide) hw
      exact_mod_cast this
    generalize (2 : Int) ^ w = P at *
    generalize (2 : Int) ^ (w * r.length) = R at *
    have h1 : 0 ≤ P * valD w r := Int.mul_nonneg (by omega) i1
    have h2 : P * valD w r ≤ P * (2 ^ 21 * (R - 1)) := Int.mul_le_mul_of_nonneg_left i2 (by omega)
    have e : P * (2 ^ 21 * (R - 1)) = 2 ^ 21 * (R * P) - 2 ^ 21 * P := by
      rw [Int.mul_sub, Int.mul_sub, Int.mul_one, Int.mul_left_comm, Int.mul_comm P R, Int.mul_comm P]
    generalize R * P = RP at *
    generalize P * valD w r = PV at *
    generalize P * (2 ^ 21 * (R - 1)) = PX at *
    constructor <;> omega
theorem valD_lt {w : Nat} (hw : 1 ≤ w ∧ w ≤ 11) {l : List Int} (h : ∀ x ∈ l, 0 ≤ x ∧ x < 2 ^ 21) (hl : l.length ≤ 30) : (valD w l).natAbs < 2 ^ 400 := by
  obtain ⟨i1, i2⟩ := valD_bound hw.1 h
  have h2 : w * l.length ≤ 330 := Nat.le_trans (Nat.mul_le_mul hw.2 hl) (by decide)
  have h3 : (2 : Int) ^ (w * l.length) ≤ 2 ^ 330 := by exact_mod_cast Nat.pow_le_pow_right (by decide : 0 < 2) h2
  have h4 : (2 : Int) ^ 21 * (2 ^ (w * l.length) - 1) ≤ 2 ^ 21 * 2 ^ 330 := Int.mul_le_mul_of_nonneg_left (by omega) (by decide)
  have h5 : valD w l ≤ 2 ^ 21 * 2 ^ 330 := Int.le_trans i2 h4
  have h6 : ((2 : Int) ^ 21 * 2 ^ 330) < ((2 ^ 400 : Nat) : Int) := by decide
  have h7 : valD w l < ((2 ^ 400 : Nat) : Int) := Int.lt_of_le_of_lt h5 h6
  have h8 : ((valD w l).natAbs : Int) = valD w l := Int.natAbs_of_nonneg i1
  exact Int.ofNat_lt.mp (by rw [h8]; exact h7)
theorem segV_lt {w : Nat} (hw : 1 ≤ w ∧ w ≤ 11) {ns : List Int} (h : ∀ x ∈ ns, 0 ≤ x ∧ x < 2 ^ 21) (hl : ns.length ≤ 30) (L R : Nat) : (segV w ns L R).natAbs < 2 ^ 400 :=
  valD_lt hw (fun x hx => h x (List.mem_of_mem_drop (List.mem_of_mem_take hx))) (by simp only [List.length_take, List.length_drop]; omega)
theorem bits_of {a : Int} {k : Nat} (h : a.natAbs < 2 ^ k) : Builtin.Int.intBits a ≤ k := by
  unfold Builtin.Int.intBits
  split
  · exact Nat.zero_le _
  · rename_i hz
    exact (Nat.log2_lt (by intro q; exact hz (by simpa using q))).mpr h
end Mine
end
section
open PySem PySem.W PyProof.Rows
set_option Elab.async false
set_option maxRecDepth 100000
set_option exponentiation.threshold 1000
namespace Mine
theorem valD_lt2 {w : Nat} : ∀ {l : List Int}, (∀ x ∈ l, 0 ≤ x ∧ x < 2 ^ w) → 0 ≤ valD w l ∧ valD w l < 2 ^ (w * l.length)
  | [], _ => by simp [valD]
  | a :: r, h => by
    obtain ⟨i1, i2⟩ := valD_lt2 (l := r) fun x hx => h x (.tail _ hx)
    obtain ⟨a1, a2⟩ := h a (.head _)
    rw [valD, List.length_cons, Nat.mul_add, Nat.mul_one, Int.pow_add]
    have hP : (0 : Int) < 2 ^ w := Int.pow_pos (by decide)
    generalize (2 : Int) ^ w = P at *
    generalize (2 : Int) ^ (w * r.length) = R at *
    generalize valD w r = V at *
    have h1 : 0 ≤ P * V := Int.mul_nonneg (by omega) i1
    have h2 : P * V ≤ P * (R - 1) := Int.mul_le_mul_of_nonneg_left (by omega) (by omega)
    have h3 : P * (R - 1) = R * P - P := by rw [Int.mul_sub, Int.mul_one, Int.mul_comm]
    generalize P * V = PV at *
    generalize R * P = RP at *
    constructor <;> omega
theorem segV_lt2 {w : Nat} {ns : List Int} (h : ∀ x ∈ ns, 0 ≤ x ∧ x < 2 ^ w) {L R : Nat} (hLR : L ≤ R) (hR : R ≤ ns.length) : 0 ≤ segV w ns L R ∧ segV w ns L R < 2 ^ ((R - L) * w) := by
  unfold segV
  have := valD_lt2 (w := w) (l := (ns.drop L).take (R - L)) fun x hx => h x (List.mem_of_mem_drop (List.mem_of_mem_take hx))
  rw [List.length_take, List.length_drop, show min (R - L) (ns.length - L) = R - L by omega, Nat.mul_comm] at this
  exact this
theorem seg_shr {w : Nat} {ns : List Int} (h : ∀ x ∈ ns, 0 ≤ x ∧ x < 2 ^ w) {L M R : Nat} (h1 : L ≤ M) (h2 : M ≤ R) (h3 : R ≤ ns.length) : (segV w ns L R).fdiv (2 ^ ((M - L) * w)) = segV w ns M R := by
  rw [← segV_join h1 h2 h3]
  obtain ⟨b1, b2⟩ := segV_lt2 h h1 (by omega)
  have hP : (0 : Int) < 2 ^ ((M - L) * w) := Int.pow_pos (by decide)
  generalize (2 : Int) ^ ((M - L) * w) = P at *
  rw [Int.fdiv_eq_ediv_of_nonneg _ (by omega), Int.add_comm, Int.add_mul_ediv_right _ _ (by omega), Int.ediv_eq_zero_of_lt b1 b2, Int.zero_add]
theorem nat_and_shift (u l s : Nat) (h : l < 2 ^ s) : (u * 2 ^ s + l) &&& (u * 2 ^ s) = u * 2 ^ s := by
  apply Nat.eq_of_testBit_eq
  intro i
  rw [Nat.testBit_and, Nat.mul_comm u, Nat.testBit_two_pow_mul_add _ h, Nat.testBit_two_pow_mul]
  by_cases hi : i < s
  · rw [if_pos hi, show (decide (s ≤ i)) = false from decide_eq_false (by omega)]
    simp
  · rw [if_neg hi]
    simp
theorem seg_xor {w : Nat} {ns : List Int} (h : ∀ x ∈ ns, 0 ≤ x ∧ x < 2 ^ w) {L M R : Nat} (h1 : L ≤ M) (h2 : M ≤ R) (h3 : R ≤ ns.length) : Builtin.bitXor (segV w ns L R) (segV w ns M R * 2 ^ ((M - L) * w)) = segV w ns L M := by
  rw [← segV_join h1 h2 h3]
  obtain ⟨b1, b2⟩ := segV_lt2 h h1 (by omega)
  obtain ⟨c1, _⟩ := segV_lt2 h h2 h3
  obtain ⟨u, hu⟩ := Int.eq_ofNat_of_zero_le c1
  obtain ⟨l, hl⟩ := Int.eq_ofNat_of_zero_le b1
  rw [hu]
  rw [hl] at b2 ⊢
  have e2 : ((u : Int) * 2 ^ ((M - L) * w)) = ((u * 2 ^ ((M - L) * w) : Nat) : Int) := by push_cast; rfl
  have e1 : ((u : Int) * 2 ^ ((M - L) * w) + (l : Int)) = ((u * 2 ^ ((M - L) * w) + l : Nat) : Int) := by push_cast; rfl
  have e3 : ((2 : Int) ^ ((M - L) * w)) = ((2 ^ ((M - L) * w) : Nat) : Int) := by push_cast; rfl
  have hlt : l < 2 ^ ((M - L) * w) := by rw [e3] at b2; exact Int.ofNat_lt.mp b2
  rw [e1, e2, bitXor_and, bitAnd_pp (Int.natCast_nonneg _) (Int.natCast_nonneg _), Int.toNat_natCast, Int.toNat_natCast, nat_and_shift u l _ hlt]
  push_cast
  omega
theorem digits_count {w n : Nat} {V : Int} (hw : 1 ≤ w) (hn : 1 ≤ n) (h0 : 2 ^ (w * (n - 1)) ≤ V) (h1 : V < 2 ^ (w * n)) : (((Builtin.Int.intBits V : Nat) : Int) + (w : Int) - 1).fdiv (w : Int) = (n : Int) := by
  have hp : (0 : Int) < 2 ^ (w * (n - 1)) := Int.pow_pos (by decide)
  obtain ⟨v, rfl⟩ := Int.eq_ofNat_of_zero_le (show 0 ≤ V by omega)
  have e3 : ∀ k : Nat, ((2 : Int) ^ k) = ((2 ^ k : Nat) : Int) := fun k => by push_cast; rfl
  rw [e3] at h0 h1 hp
  have h0' : 2 ^ (w * (n - 1)) ≤ v := Int.ofNat_le.mp h0
  have h1' : v < 2 ^ (w * n) := Int.ofNat_lt.mp h1
  have hv : v ≠ 0 := by omega
  have hb : Builtin.Int.intBits (v : Int) = v.log2 + 1 := by
    unfold Builtin.Int.intBits
    rw [if_neg (by simpa using hv), Int.natAbs_natCast]
  have l0 : w * (n - 1) ≤ v.log2 := (Nat.le_log2 hv).mpr h0'
  have l1 : v.log2 < w * n := (Nat.log2_lt hv).mpr h1'
  rw [hb]
  have hd : ((v.log2 + 1 : Nat) : Int) + (w : Int) - 1 = ((v.log2 + w : Nat) : Int) := by omega
  rw [hd, Int.fdiv_eq_ediv_of_nonneg _ (by omega), ← Int.natCast_ediv]
  congr 1
  obtain ⟨n', rfl⟩ : ∃ n', n = n' + 1 := ⟨n - 1, by omega⟩
  rw [Nat.add_sub_cancel] at l0
  rw [Nat.mul_add, Nat.mul_one] at l1
  rw [Nat.div_eq_iff (by omega)]
  have : (n' + 1) * w = w * n' + w := by rw [Nat.add_mul, Nat.mul_comm]; omega
  have : (n' + 1 + 1) * w = w * n' + w + w := by rw [Nat.add_mul, Nat.one_mul, this]
  constructor <;> omega
end Mine
end
section
open PySem PySem.W PyProof.Rows
set_option Elab.async false
set_option maxRecDepth 100000
set_option maxHeartbeats 0
namespace Mine
theorem regK4 : PySem.Challenge.rw_rw0097_01.foot = 7 ∧ K = K := by k_fill; exact ⟨rfl, rfl⟩
section
variable {w : World} {p : Program} {lo : List Str} {mean : ExcName → Option Value} {mg mb : Str → Option Value}
/-- a call that may turn the ledger -/
noncomputable abbrev LClaim (prog : Program) (w : World) (K : Frag) (p : Program) (loose : List Str) (mean : ExcName → Option Value) (mg mb : Str → Option Value) (f : Addr) (news : List (Addr × Obj)) (vs : List Value) (dn uN : Nat) (Post : Value → List (Addr × Obj) → Prop) : Prop :=
  ∀ (dp un : Nat) (gd : Option (List Code)) (cn : Str) (cs : Scope) (a : Addr) (ccd : Value) (cl : List (Str × Addr)) (outer : List Env) (A₀ : Around) (base h₀ : Heap) (L : Addr) (m : Str → Option Value) (s : Shared) (Q E : Value → Shared → Prop),
    Below A₀ base outer h₀ → Fr h₀ L s.heap m → K.In h₀ → News h₀ L s.heap news → Top p loose mean mg mb h₀ → cs.kind = .function → CodeHd base 28 24 → CodeHd base 35 31 → dp + dn < recursionLimit → un + uN < cLine →
    (∀ v h' tk' news', Fr h₀ L h' m → News h₀ L h' news' → Post v news' → Q v { s with heap := h', toks := tk' }) →
      wpAny (model prog w) (ktrTop dp un gd cn cs L a ccd cl outer) (call (.ref f) vs) Q E s
local macro_rules | `(tactic| walk_at "call ref") => `(tactic| (k_here; refine rest_here ?_))
local macro_rules | `(tactic| k_mem) => `(tactic| first | exact List.mem_cons_self | (with_reducible assumption) | (refine' List.mem_cons_of_mem _ ?_; k_mem))
local macro_rules | `(tactic| k_all) => `(tactic| first | assumption | (intro p hp; (rename (∀ p ∈ _, @LT.lt Nat _ (Prod.fst p) _) => hRR); (have hh := hRR p hp); refine neN ?_; (try dsimp only); omega))
theorem truthy_led {prog : Program} {w : World} {A : Around} {E : Value → Shared → Prop} {s : Shared} {h₀ : Heap} {L D : Addr} {news : List (Addr × Obj)} {its : Array Value} {k : Nat} {Q : Bool → Shared → Prop}
    (N : News h₀ L s.heap news) (hm : (D, W.listOf its k) ∈ news) (hf : (its.size : Int) < 2 ^ 63) (hp : 0 < its.size) (h : Q true { s with toks := s.toks + 1 + 1 }) : wpAny (model prog w) A (truthy (.ref D)) Q E s :=
  wpAny_truthy_list (N.isList hm) hf (by rw [show (!its.isEmpty) = true by simpa [Array.isEmpty] using Nat.ne_of_gt hp]; exact h)
local macro_rules | `(tactic| walk_at "truthy ref") => `(tactic| (k_here; refine' truthy_led ?j1 ?j2 ?j3 ?j4 ?_; (case j1 => k_asm); (case j2 => k_mem); (case j3 => omega); (case j4 => assumption)))
theorem lsh {prog : Program} {w : World} {A : Around} {E : Value → Shared → Prop} {s : Shared} {a n : Int} {t u : Tok} {Q : Value → Shared → Prop} (ha : a.natAbs < 2 ^ 400) (h0 : 0 ≤ n) (hn : n ≤ 1000) (h : Q (.int (a * 2 ^ n.toNat) s.toks) { s with toks := s.toks + 1 }) :
    wpAny (model prog w) A (binaryOp .LShift (.int a t) (.int n u)) Q E s := lshift_int h0 (by have := bits_of ha; omega) h
local macro_rules | `(tactic| walk_at "binaryOp LShift int int") => `(tactic| (k_here; refine' lsh ?l1 ?l2 ?l3 ?_; (case l1 => assumption); (case l2 => assumption); (case l3 => assumption)))
/-- set aside -/
structure Hold (P : Prop) : Prop where
  out : P
/-- the def within the top's def i -/
noncomputable def nestedAt (i : Nat) : Option (Arguments × List Stmt × Scope) := match partsAt i with
  | some (_, _, PySem.Stmt.FunctionDef _ a b _ _ _ sc _ _ _ :: _, _) => some (a, b, sc)
  | _ => none
set_option maxHeartbeats 1000000 in
theorem spec_inner {f c' cN cI cD D : Addr} {oN oI oD oc : Obj} {vsC : Array Value} {tq tW : Tok} {qual : Str} {ia : Arguments} {ib : List Stmt} {isc : Scope} (hparts : nestedAt 5 = some (ia, ib, isc)) {its : Array Value} {k : Nat} {ns : List Int} {width : Int} {doc pm ctv : Value} {news : List (Addr × Obj)}
    (hf : (f, fnMade (Str.ofString "inner") qual ia ib isc [(Str.ofString "n", cN), (Str.ofString "inner", cI), (Str.ofString "digits", cD)] doc pm c' ctv) ∈ news) (hc : (c', oc) ∈ news) (hcd : oc.data = .fields vsC) (hcv : vsC[1]? = some (.str qual tq))
    (mN : (cN, oN) ∈ news) (dN : oN.data = .cell (some (.int width tW))) (mI : (cI, oI) ∈ news) (dI : oI.data = .cell (some (.ref f))) (mD : (cD, oD) ∈ news) (dD : oD.data = .cell (some (.ref D)))
    (hm : (D, W.listOf its k) ∈ news) (hI : IntsAre its.toList ns) (hb : ∀ x ∈ ns, 0 ≤ x ∧ x < 2 ^ 21) (hl : ns.length ≤ 30) (hw : 1 ≤ width ∧ width ≤ 11) :
    ∀ (d Lo Hi : Nat), Lo < Hi → Hi ≤ ns.length → Hi - Lo ≤ d →
    ∀ (tL tR : Tok) (dp un : Nat) (gd : Option (List Code)) (cn : Str) (cs : Scope) (a : Addr) (ccd : Value) (cl : List (Str × Addr)) (outer : List Env) (A₀ : Around) (base h₀ : Heap) (L : Addr) (m : Str → Option Value) (s : Shared) (Q E : Value → Shared → Prop),
    Below A₀ base outer h₀ → Fr h₀ L s.heap m → (K w.params).In h₀ → News h₀ L s.heap news → Top p lo mean mg mb h₀ → cs.kind = .function → CodeHd base 35 31 → dp + d + 1 < recursionLimit → un + 8 * d + 8 < cLine →
    (∀ t h' tk', Fr h₀ L h' m → News h₀ L h' news → Q (.int (segV width.toNat ns Lo Hi) t) { s with heap := h', toks := tk' }) →
      wpAny (model P0 w) (ktrTop dp un gd cn cs L a ccd cl outer) (call (.ref f) [.int Lo tL, .int Hi tR]) Q E s := by
  intro d
  induction d with
  | zero => intro Lo Hi h1 _ h3; omega
  | succ d ih =>
    intro Lo Hi h1 h2 h3 tL tR dp un gd cn cs a ccd cl outer A₀ base h₀ L m s Q E B F X N T hk C31 hd hu hret
    cases hparts
    refine wpAny_call ?_
    k_dflt (refine' code_nest ?k1 ?k2 ?k3 ?k4 ?k5 ?kA ?kF ?kK ?k6 ?k7 ?k8 ?k9 ?kB ?_ ?c2 ?c3 ?c4 ?c5; (case kA => exact rfl); (case kF => exact rfl); (case kK => assumption); (case k1 => k_asm); (case k2 => k_asm); (case k3 => k_asm); (case k4 => k_asm); (case k5 => k_asm); (case k6 => exact hf); (case k7 => exact codeRec_news (by k_asm) hc hcd hcv); (case k8 => ktr_room); (case k9 => exact BindsTo.of_eq rfl); (case c5 => decide); (case kB => exact locs rfl); (case c2 => exact rfl); (case c3 => exact rfl); (case c4 => exact rfl); k_whole; intro g' L' h' FG' F' N' B' X' T'; (try dsimp only); (try k_lift B'); (try k_fold))
    refine noE ?_
    have IH := Hold.mk ih
    clear ih
    have hwN : (width.toNat : Int) = width := Int.toNat_of_nonneg (by omega)
    have hwn : 1 ≤ width.toNat ∧ width.toNat ≤ 11 := by omega
    have hseg : ∀ A B, (segV width.toNat ns A B).natAbs < 2 ^ 400 := segV_lt hwn hb hl
    have emid : ((Lo : Int) + (Hi : Int)).fdiv (2 ^ Int.toNat 1) = (((Lo + Hi) / 2 : Nat) : Int) := by
      rw [show (2 : Int) ^ Int.toNat 1 = 2 from rfl, Int.fdiv_eq_ediv_of_nonneg _ (by decide)]; omega
    have hmul : ((((Lo + Hi) / 2 : Nat) : Int) - (Lo : Int)) * width = ((((Lo + Hi) / 2 - Lo) * width.toNat : Nat) : Int) := by
      rw [Int.natCast_mul, hwN, show ((((Lo + Hi) / 2 : Nat) : Int) - (Lo : Int)) = (((Lo + Hi) / 2 - Lo : Nat) : Int) by omega]
    have hsh0 : 0 ≤ ((((Lo + Hi) / 2 : Nat) : Int) - (Lo : Int)) * width := by rw [hmul]; exact Int.natCast_nonneg _
    have hsh1 : ((((Lo + Hi) / 2 : Nat) : Int) - (Lo : Int)) * width ≤ 1000 := by
      rw [hmul]
      have : ((Lo + Hi) / 2 - Lo) * width.toNat ≤ 30 * 11 := Nat.mul_le_mul (by omega) (by omega)
      omega
    k_steps
    · have e : (Lo : Int) + 1 = (Hi : Int) := by assumption
      obtain rfl : Hi = Lo + 1 := by omega
      refine hret_eqI hret ?_ (by assumption) (by assumption)
      rw [segV_one (by omega), Int.toNat_natCast, List.getD_eq_getElem?_getD, List.getElem?_eq_getElem (by omega)]; rfl
    · have e : (Lo : Int) + 1 ≠ (Hi : Int) := by assumption
      simp only [emid] at *
      unfold Rest
      k_dflt (refine' IH.out ((Lo + Hi) / 2) Hi ?x1 ?x2 ?x3 _ _ _ _ _ _ _ _ _ _ _ _ _ _ _ _ _ _ _ ?k1 ?k2 ?k3 ?k4 ?k5 ?kK ?kC ?kd ?ku ?kR)
      case x1 => omega
      case x2 => omega
      case x3 => omega
      case k1 => k_asm
      case k2 => k_asm
      case k3 => k_asm
      case k4 => k_asm
      case k5 => k_asm
      case kK => exact rfl
      case kC => assumption
      case kd => show dp + 1 + d + 1 < recursionLimit; omega
      case ku => show un + 3 + 8 * d + 8 < cLine; omega
      case kR =>
        intro t9 h9 tk9 F9 N9
        have hsg := hseg ((Lo + Hi) / 2) Hi
        dsimp only
        k_steps
        unfold Rest
        k_dflt (refine' IH.out Lo ((Lo + Hi) / 2) ?x1 ?x2 ?x3 _ _ _ _ _ _ _ _ _ _ _ _ _ _ _ _ _ _ _ ?k1 ?k2 ?k3 ?k4 ?k5 ?kK ?kC ?kd ?ku ?kR)
        case x1 => omega
        case x2 => omega
        case x3 => omega
        case k1 => k_asm
        case k2 => k_asm
        case k3 => k_asm
        case k4 => k_asm
        case k5 => k_asm
        case kK => exact rfl
        case kC => assumption
        case kd => show dp + 1 + d + 1 < recursionLimit; omega
        case ku => show un + 3 + 8 * d + 8 < cLine; omega
        case kR =>
          intro t8 h8 tk8 F8 N8
          dsimp only
          k_steps
          refine hret_eqI hret ?_ (by assumption) (by assumption)
          rw [hmul, Int.toNat_natCast]
          exact (segV_join (by omega) (by omega) h2).symm
/-- a code object within a table: its name -/
noncomputable def HitOb (qual : Str) (oc : Obj) : Prop := ∃ vs t, oc.data = .fields vs ∧ vs[1]? = some (.str qual t)
noncomputable abbrev q31 : Str := Str.ofString "_digits2int.<locals>.inner"
noncomputable abbrev ps31 (c : Addr) : Array Value := #[rawInt 34, rawInt 4, .ref c]
noncomputable abbrev tab31 (c : Addr) : Obj := tabObj (ps31 c)
noncomputable def D2IPost (V : Int) (ps : Array Value) (rest : List (Addr × Obj)) (v : Value) (nw : List (Addr × Obj)) : Prop := (∃ t, v = .int V t) ∧ ∃ c oc, HitOb q31 oc ∧ (31, tab31 c) ∈ nw ∧ (c, oc) ∈ nw ∧ ((ps = ps31 c ∧ (c, oc) ∈ rest) ∨ ∀ p ∈ rest, p.1 ≠ c) ∧ ∀ p ∈ rest, p ∈ nw
theorem allLt_mem {c : Nat} : ∀ {l : List (Addr × Obj)}, AllLt c l → ∀ p ∈ l, @LT.lt Nat _ p.1 c
  | [], _, _, h => nomatch h
  | _ :: _, h, p, hp => by
    rcases List.mem_cons.mp hp with rfl | hp
    · exact h.1
    · exact allLt_mem h.2 p hp
theorem spec_d2i (D : Addr) (its : Array Value) (k : Nat) (ns : List Int) (width : Int) (t : Tok) (ps : Array Value) (rest : List (Addr × Obj)) (hst : ps = #[] ∨ ∃ c oc, ps = ps31 c ∧ (c, oc) ∈ rest ∧ HitOb q31 oc) (hr : ∀ p ∈ rest, p.1 ≠ 31) (hm : (D, W.listOf its k) ∈ rest) (hI : IntsAre its.toList ns) (hne : ns ≠ []) (hl : ns.length ≤ 30) (hw : 1 ≤ width ∧ width ≤ 11) (hb : ∀ x ∈ ns, 0 ≤ x ∧ x < 2 ^ 21) :
    LClaim P0 w (K w.params) p lo mean mg mb 36 ((31, tabObj ps) :: rest) [.ref D, .int width t] 40 400 (D2IPost (valD width.toNat ns) ps rest) := by
  dsimp only [LClaim]; intros; rename_i hret
  refine wpAny_call ?_
  k_dflt (refine' code_defC ?k1 ?k2 ?k3 ?k4 ?k5 ?kA ?kF ?kK ?k6 ?k7 ?k8 ?k9 ?kB ?kD ?_ ?c2 ?c3 ?c4; (case kA => exact rfl); (case kF => exact rfl); (case kK => assumption); (case k1 => k_asm); (case k2 => k_asm); (case k3 => k_asm); (case k4 => k_asm); (case k5 => k_asm); (case k6 => k_is); (case k7 => k_is); (case k8 => ktr_room); (case k9 => exact BindsTo.of_eq rfl); (case kB => exact rfl); (case kD => decide +kernel); (case c2 => exact rfl); (case c3 => exact rfl); (case c4 => exact rfl); k_whole; intro g' L' h' tk' cells' FG' F' N' Y' B' X' T' l1)
  obtain ⟨oi, on, od, hE, di, dn, dd⟩ := CellsAre.three Y'
  subst hE
  clear Y'
  simp only [List.cons_append, List.nil_append] at N'
  dsimp only
  try k_fold
  refine noE ?_
  have e1 : od.data = .cell (some (.ref D)) := dd
  have e2 : on.data = .cell (some (.int width t)) := dn
  have e3 : oi.data = .cell none := di
  clear di dn dd
  have l31 : @LT.lt Nat _ 31 L' := l1 _ (.head _)
  have hrL : ∀ p ∈ rest, @LT.lt Nat _ (Prod.fst p) L' := fun p hp => l1 p (.tail _ hp)
  clear l1
  have hsz : its.size = ns.length := by rw [← Array.length_toList]; exact hI.length
  have hpos : 0 < its.size := by rw [hsz]; exact List.length_pos_iff.mpr hne
  rcases hst with rfl | ⟨c0, oc0, rfl, mc0, hit0⟩
  · k_steps
    unfold Rest
    k_dflt (refine' spec_inner (hparts := ?p0) ?hf ?hc ?hcd ?hcv ?mN ?dN ?mI ?dI ?mD ?dD ?hm ?hI ?hb ?hl ?hw ns.length 0 ns.length ?x1 ?x2 ?x3 _ _ _ _ _ _ _ _ _ _ _ _ _ _ _ _ _ _ _ ?k1 ?k2 ?k3 ?k4 ?k5 ?kK ?kC ?kd ?ku ?kR)
    case k1 => k_asm
    case k2 => k_asm
    case k3 => k_asm
    case k4 => k_asm
    case k5 => k_asm
    case hf => exact List.mem_cons_self
    case p0 => exact rfl
    case hc => exact List.mem_cons_of_mem _ List.mem_cons_self
    case hcd => assumption
    case hcv => assumption
    case mN => k_mem
    case dN => assumption
    case mI => k_mem
    case dI => assumption
    case mD => k_mem
    case dD => assumption
    case hm => k_mem
    case hI => exact hI
    case hb => exact hb
    case hl => exact hl
    case hw => exact hw
    case x1 => omega
    case x2 => omega
    case x3 => omega
    case kK => exact rfl
    case kC => exact CodeHd.keeps (by assumption) (fun _ _ e => e)
    case kd => dsimp only [ktrTop]; omega
    case ku => dsimp only [ktrTop]; omega
    case kR =>
      intro t9 h9 tk9 F9 N9
      dsimp only
      k_steps
      refine hret _ _ _ _ (by assumption) (by assumption) ?_
      rename _ ∧ _ ∧ _ ∧ _ ∧ AllLt _ rest => lA
      exact ⟨⟨_, by rw [segV_all]⟩, _, _, ⟨_, _, by assumption, by assumption⟩, by k_mem, List.mem_cons_of_mem _ List.mem_cons_self, .inr (fun q hq => Nat.ne_of_lt (allLt_mem lA.2.2.2.2 q hq)), fun p hp => .tail _ (.tail _ (.tail _ (.tail _ (.tail _ (.tail _ hp)))))⟩
  · obtain ⟨vs0, t0, hc1, hc2⟩ := hit0
    have hit0 : HitOb q31 oc0 := ⟨vs0, t0, hc1, hc2⟩
    k_steps
    unfold Rest
    k_dflt (refine' spec_inner (hparts := ?p0) ?hf ?hc ?hcd ?hcv ?mN ?dN ?mI ?dI ?mD ?dD ?hm ?hI ?hb ?hl ?hw ns.length 0 ns.length ?x1 ?x2 ?x3 _ _ _ _ _ _ _ _ _ _ _ _ _ _ _ _ _ _ _ ?k1 ?k2 ?k3 ?k4 ?k5 ?kK ?kC ?kd ?ku ?kR)
    case k1 => k_asm
    case k2 => k_asm
    case k3 => k_asm
    case k4 => k_asm
    case k5 => k_asm
    case hf => exact List.mem_cons_self
    case p0 => exact rfl
    case hc => exact .tail _ (.tail _ (.tail _ (.tail _ (.tail _ mc0))))
    case hcd => exact hc1
    case hcv => exact hc2
    case mN => k_mem
    case dN => assumption
    case mI => k_mem
    case dI => assumption
    case mD => k_mem
    case dD => assumption
    case hm => k_mem
    case hI => exact hI
    case hb => exact hb
    case hl => exact hl
    case hw => exact hw
    case x1 => omega
    case x2 => omega
    case x3 => omega
    case kK => exact rfl
    case kC => exact CodeHd.keeps (by assumption) (fun _ _ e => e)
    case kd => dsimp only [ktrTop]; omega
    case ku => dsimp only [ktrTop]; omega
    case kR =>
      intro t9 h9 tk9 F9 N9
      dsimp only
      k_steps
      refine hret _ _ _ _ (by assumption) (by assumption) ?_
      exact ⟨⟨_, by rw [segV_all]⟩, c0, oc0, hit0, by k_mem, .tail _ (.tail _ (.tail _ (.tail _ (.tail _ mc0)))), .inl ⟨rfl, mc0⟩, fun p hp => .tail _ (.tail _ (.tail _ (.tail _ (.tail _ hp))))⟩
end
end Mine
end
section
open PySem PySem.W PyProof.Rows PyProof.Rows.LCg PyProof.Rows.LCt PySem.Spec PySem.Calls
set_option Elab.async false
set_option maxRecDepth 100000
set_option maxHeartbeats 0
namespace Mine
section
variable {prog : Program} {w : World} {A : Around} {E : Value → Shared → Prop} {s : Shared} {h₀ : Heap} {L : Addr} {m : Str → Option Value} {env : Env}
theorem str_alive {I : Addr} {x : Str} {t : Tok} {ty : String} : ∀ (i : Nat) (h : Heap), h.IsStrIter I ty x t i → ∃ o, h.get? I = some o := fun _ _ st => by
  obtain ⟨o, e, _⟩ := st; exact ⟨o, e⟩
theorem str_st {I : Addr} {x : Str} {t : Tok} {ty : String} : ∀ i (h h' : Heap) (o : Obj) (nw : List (Addr × Obj)), h.IsStrIter I ty x t i → h.get? I = some o → h'.get? I = some o → (∀ b o, h₀.get? b = some o → h'.get? b = some o) → News h₀ L h' nw → True → h'.IsStrIter I ty x t i :=
  fun i h h' o nw st e e' _ _ _ => by obtain ⟨o', q, r⟩ := st; rw [e] at q; cases q; exact ⟨o, e', r⟩
theorem comp_ind {elt : Expr} {x : Str} {scope : Scope} {cl : List (Str × Addr)} {S : List (Addr × Obj) → Prop} {P : Nat → Value → Prop} {Fin : List Value → List (Addr × Obj) → Prop} {n : Nat} {news : List (Addr × Obj)}
    (J : Nat → List Value → List (Addr × Obj) → Prop) (h0 : J 0 [] news)
    (turn : ∀ i v I oI C oC D m₂ ys nw h tk (E' : Value → Shared → Prop), i < n → P i v → J i ys nw → NsObj oC m₂ → m₂ x = some v → Fr h₀ L h m → News h₀ L h ((I, oI) :: (C, oC) :: (D, lst ys) :: nw) → Off3 I C D nw → ((@Ne Nat I C) ∧ (@Ne Nat I D) ∧ (@Ne Nat C D)) →
      wpAny (model prog w) A (eval elt (compEnvC scope cl C env)) (CompEnd h₀ L m { s with heap := h, toks := tk } I oI C oC D (lst ys) S (fun y nw' => J (i + 1) (ys ++ [y]) nw')) E' { s with heap := h, toks := tk })
    (fin : ∀ ys nw, J n ys nw → Fin ys nw) : CompRest prog w A h₀ L m env elt x scope cl s S P Fin n 0 [] news := by
  have key : ∀ (j i : Nat) (ys : List Value) (nw : List (Addr × Obj)), i + j = n → J i ys nw → CompRest prog w A h₀ L m env elt x scope cl s S P Fin j i ys nw := by
    intro j
    induction j with
    | zero => intro i ys nw hij hJ; obtain rfl : i = n := by omega
              exact CompRest.zero (fin ys nw hJ)
    | succ j ih =>
      intro i ys nw hij hJ
      refine CompRest.succ fun v I oI C oC D m₂ h tk E' hP hC hx F N off ne => ?_
      refine wpAny_mono (turn i v I oI C oC D m₂ ys nw h tk E' (by omega) hP hJ hC hx F N off ne) (fun y s' hy => ?_) fun _ _ e => e
      obtain ⟨h', tk', nw', e1, F', N', o', S', r'⟩ := hy
      exact ⟨h', tk', nw', e1, F', N', o', S', ih _ _ _ (by omega) r'⟩
  exact key n 0 [] news (by omega) h0
theorem compT_ind {ct elt : Expr} {x : Str} {scope : Scope} {cl : List (Str × Addr)} {S : List (Addr × Obj) → Prop} {P : Nat → Value → Prop} {Fin : List Value → List (Addr × Obj) → Prop} {n : Nat} {news : List (Addr × Obj)}
    (J : Nat → List Value → List (Addr × Obj) → Prop) (h0 : J 0 [] news)
    (turn : ∀ i v I oI C oC D m₂ ys nw h tk (E' : Value → Shared → Prop), i < n → P i v → J i ys nw → NsObj oC m₂ → m₂ x = some v → Fr h₀ L h m → News h₀ L h ((I, oI) :: (C, oC) :: (D, lst ys) :: nw) → Off3 I C D nw → ((@Ne Nat I C) ∧ (@Ne Nat I D) ∧ (@Ne Nat C D)) →
      wpAny (model prog w) A (isTrue ct (compEnvC scope cl C env) (eval ct (compEnvC scope cl C env))) (fun ok s' => if ok = true then
        wpAny (model prog w) A (eval elt (compEnvC scope cl C env)) (CompEnd h₀ L m { s with heap := h, toks := tk } I oI C oC D (lst ys) S (fun y nw' => J (i + 1) (ys ++ [y]) nw')) E' s'
        else CompEnd h₀ L m { s with heap := h, toks := tk } I oI C oC D (lst ys) S (fun _ nw' => J (i + 1) ys nw') Value.none s') E' { s with heap := h, toks := tk })
    (fin : ∀ ys nw, J n ys nw → Fin ys nw) : CompRestT prog w A h₀ L m env ct elt x scope cl s S P Fin n 0 [] news := by
  have key : ∀ (j i : Nat) (ys : List Value) (nw : List (Addr × Obj)), i + j = n → J i ys nw → CompRestT prog w A h₀ L m env ct elt x scope cl s S P Fin j i ys nw := by
    intro j
    induction j with
    | zero => intro i ys nw hij hJ; obtain rfl : i = n := by omega
              exact CompRestT.zero (fin ys nw hJ)
    | succ j ih =>
      intro i ys nw hij hJ
      refine CompRestT.succ fun v I oI C oC D m₂ h tk E' hP hC hx F N off ne => ?_
      refine wpAny_mono (turn i v I oI C oC D m₂ ys nw h tk E' (by omega) hP hJ hC hx F N off ne) (fun y s' hy => ?_) fun _ _ e => e
      split at hy
      · rw [if_pos (by assumption)]
        refine wpAny_mono hy (fun y s'' hy => ?_) fun _ _ e => e
        obtain ⟨h', tk', nw', e1, F', N', o', S', r'⟩ := hy
        exact ⟨h', tk', nw', e1, F', N', o', S', ih _ _ _ (by omega) r'⟩
      · rw [if_neg (by assumption)]
        obtain ⟨h', tk', nw', e1, F', N', o', S', r'⟩ := hy
        exact ⟨h', tk', nw', e1, F', N', o', S', ih _ _ _ (by omega) r'⟩
  exact key n 0 [] news (by omega) h0
theorem ListComp_SU {elt iter : Expr} {x : Str} {px : Pos} {scope : Scope} {cl : List (Str × Addr)} {pos : Pos} {Q : Value → Shared → Prop} (F₀ : Fr h₀ L s.heap m)
    (hclos : closureFor scope env = pure cl) (hcell : ∀ y ∈ scope.names, y.2 ≠ .cell) (hkind : scope.kind = .function)
    (hnames : ∀ y ∈ scope.names, y.2 = .local → scope.names.lookup y.1 = some .local) (hx : scope.names.lookup x = some .local)
    (h : wpAny (model prog w) A (eval iter env) (fun xv s₁ => ∃ X tX news, xv = .str X tX ∧ A.handled = none ∧ Fr h₀ L s₁.heap m ∧ News h₀ L s₁.heap news ∧ X.cps.size ≤ sizeLine ∧
      ∀ s₂ : Shared, (∃ h, s₂ = { s₁ with heap := h }) → CompRest prog w A h₀ L m env elt x scope cl s₂ (fun _ => True) (SignAt X) (FinE h₀ L m s₂ Q) X.cps.size 0 [] news) E s)
    (hs : ∀ x, foldedSetIterable iter env x = pure x := by intro _; rfl) :
    wpAny (model prog w) A (eval (.ListComp elt [⟨.Name x px, iter, [], 0⟩] scope pos) env) Q E s := by
  rw [eval_ListComp]
  refine wpAny_comprehension_free (use := none) rfl hs hclos hkind hnames (wpAny_mono h (fun xv s₁ h₁ => ?_) fun _ _ e => e)
  obtain ⟨X, tX, news, rfl, hh, F, N, hsz, R⟩ := h₁
  cases ha : X.cps.all (· < 128)
  · refine wpAny_pyIter_wide ha ?_
    refine block_U (Walks.strWide hh s₁.heap.objs.size X tX) hsz str_alive str_st hcell hkind hx ⟨_, Heap.get?_push_size _ rfl, rfl, rfl⟩ (fun b hb => ?_)
      (F.keeps fun _ _ e => Heap.get?_push_of_some _ e) (N.grown fun _ _ e => Heap.get?_push_of_some _ e) (Nat.ne_of_lt F.ns.lt) (next_is_new F) (fun p hp => Nat.ne_of_lt (Heap.lt_size (N p hp).1)) trivial (R _ ⟨_, rfl⟩) ?_
    · rw [List.mem_singleton.mp hb]
      show s₁.heap.objs.size < (s₁.heap.push _).objs.size
      rw [Heap.size_push]; exact Nat.lt_succ_self _
    · intro D C h tk m' ys news' F' N' o1 hn hC₀ hD₀ hCL hDL hCD offC fin
      refine ⟨m', hn, fun h'' hs'' => fin D h'' tk (F'.change hs'' hCL hC₀) (fun p hp => ?_) o1⟩
      refine ⟨hs''.extBut _ _ ?_ (N' p hp).1, (N' p hp).2⟩
      rcases List.mem_cons.mp hp with rfl | hp
      · exact Ne.symm hCD
      · exact offC p hp
  · refine wpAny_pyIter_ascii ha ?_
    refine block_U (Walks.strAscii hh s₁.heap.objs.size X tX) hsz str_alive str_st hcell hkind hx ⟨_, Heap.get?_push_size _ rfl, rfl, rfl⟩ (fun b hb => ?_)
      (F.keeps fun _ _ e => Heap.get?_push_of_some _ e) (N.grown fun _ _ e => Heap.get?_push_of_some _ e) (Nat.ne_of_lt F.ns.lt) (next_is_new F) (fun p hp => Nat.ne_of_lt (Heap.lt_size (N p hp).1)) trivial (R _ ⟨_, rfl⟩) ?_
    · rw [List.mem_singleton.mp hb]
      show s₁.heap.objs.size < (s₁.heap.push _).objs.size
      rw [Heap.size_push]; exact Nat.lt_succ_self _
    · intro D C h tk m' ys news' F' N' o1 hn hC₀ hD₀ hCL hDL hCD offC fin
      refine ⟨m', hn, fun h'' hs'' => fin D h'' tk (F'.change hs'' hCL hC₀) (fun p hp => ?_) o1⟩
      refine ⟨hs''.extBut _ _ ?_ (N' p hp).1, (N' p hp).2⟩
      rcases List.mem_cons.mp hp with rfl | hp
      · exact Ne.symm hCD
      · exact offC p hp
theorem ListComp_ST {ct elt iter : Expr} {x : Str} {px : Pos} {scope : Scope} {cl : List (Str × Addr)} {pos : Pos} {Q : Value → Shared → Prop} (F₀ : Fr h₀ L s.heap m)
    (hclos : closureFor scope env = pure cl) (hcell : ∀ y ∈ scope.names, y.2 ≠ .cell) (hkind : scope.kind = .function)
    (hnames : ∀ y ∈ scope.names, y.2 = .local → scope.names.lookup y.1 = some .local) (hx : scope.names.lookup x = some .local)
    (h : wpAny (model prog w) A (eval iter env) (fun xv s₁ => ∃ X tX news, xv = .str X tX ∧ A.handled = none ∧ Fr h₀ L s₁.heap m ∧ News h₀ L s₁.heap news ∧ X.cps.size ≤ sizeLine ∧
      ∀ s₂ : Shared, (∃ h, s₂ = { s₁ with heap := h }) → CompRestT prog w A h₀ L m env ct elt x scope cl s₂ (fun _ => True) (SignAt X) (FinE h₀ L m s₂ Q) X.cps.size 0 [] news) E s)
    (hs : ∀ x, foldedSetIterable iter env x = pure x := by intro _; rfl) :
    wpAny (model prog w) A (eval (.ListComp elt [⟨.Name x px, iter, [ct], 0⟩] scope pos) env) Q E s := by
  rw [eval_ListComp]
  refine wpAny_comprehension_free (use := none) rfl hs hclos hkind hnames (wpAny_mono h (fun xv s₁ h₁ => ?_) fun _ _ e => e)
  obtain ⟨X, tX, news, rfl, hh, F, N, hsz, R⟩ := h₁
  cases ha : X.cps.all (· < 128)
  · refine wpAny_pyIter_wide ha ?_
    refine block_T (Walks.strWide hh s₁.heap.objs.size X tX) hsz str_alive str_st hcell hkind hx ⟨_, Heap.get?_push_size _ rfl, rfl, rfl⟩ (fun b hb => ?_)
      (F.keeps fun _ _ e => Heap.get?_push_of_some _ e) (N.grown fun _ _ e => Heap.get?_push_of_some _ e) (Nat.ne_of_lt F.ns.lt) (next_is_new F) (fun p hp => Nat.ne_of_lt (Heap.lt_size (N p hp).1)) trivial (R _ ⟨_, rfl⟩) ?_
    · rw [List.mem_singleton.mp hb]
      show s₁.heap.objs.size < (s₁.heap.push _).objs.size
      rw [Heap.size_push]; exact Nat.lt_succ_self _
    · intro D C h tk m' ys news' F' N' o1 hn hC₀ hD₀ hCL hDL hCD offC fin
      refine ⟨m', hn, fun h'' hs'' => fin D h'' tk (F'.change hs'' hCL hC₀) (fun p hp => ?_) o1⟩
      refine ⟨hs''.extBut _ _ ?_ (N' p hp).1, (N' p hp).2⟩
      rcases List.mem_cons.mp hp with rfl | hp
      · exact Ne.symm hCD
      · exact offC p hp
  · refine wpAny_pyIter_ascii ha ?_
    refine block_T (Walks.strAscii hh s₁.heap.objs.size X tX) hsz str_alive str_st hcell hkind hx ⟨_, Heap.get?_push_size _ rfl, rfl, rfl⟩ (fun b hb => ?_)
      (F.keeps fun _ _ e => Heap.get?_push_of_some _ e) (N.grown fun _ _ e => Heap.get?_push_of_some _ e) (Nat.ne_of_lt F.ns.lt) (next_is_new F) (fun p hp => Nat.ne_of_lt (Heap.lt_size (N p hp).1)) trivial (R _ ⟨_, rfl⟩) ?_
    · rw [List.mem_singleton.mp hb]
      show s₁.heap.objs.size < (s₁.heap.push _).objs.size
      rw [Heap.size_push]; exact Nat.lt_succ_self _
    · intro D C h tk m' ys news' F' N' o1 hn hC₀ hD₀ hCL hDL hCD offC fin
      refine ⟨m', hn, fun h'' hs'' => fin D h'' tk (F'.change hs'' hCL hC₀) (fun p hp => ?_) o1⟩
      refine ⟨hs''.extBut _ _ ?_ (N' p hp).1, (N' p hp).2⟩
      rcases List.mem_cons.mp hp with rfl | hp
      · exact Ne.symm hCD
      · exact offC p hp
end
end Mine
end
section
open PySem PySem.W PyProof.Rows PySem.Calls PySem.Spec
set_option Elab.async false
set_option maxRecDepth 100000
set_option maxHeartbeats 0
namespace Mine
section
variable {prog : Program} {w : World} {A : Around} {E : Value → Shared → Prop} {s : Shared}
theorem put_fresh {d : Addr} {kvs : List (Int × Value)} {k : Int} {key v : Value} {Q : Unit → Shared → Prop} (hkey : (intKind prog w).is k key = true) (hm : s.heap.DictOf (intKind prog w) d kvs) (hf : k ∉ kvs.map (·.1)) (hz : kvs.length ≤ 1000)
    (hQ : ∀ h', h'.DictOf (intKind prog w) d (kvs ++ [(k, v)]) → Heap.SameBut d s.heap h' → Q () { s with heap := h' }) : wpAny (model prog w) A (dictPut d ((intKind prog w).hash k) key v) Q E s := by
  obtain ⟨o, es, ep, ho, hc, hd, hk, hp, hn⟩ := hm
  have hl : es.size = kvs.length := by rw [← hp.length]; simp
  have hidx : (es.findIdx? fun e => (intKind prog w).is k e.key) = none := by
    have e1 := hp.findIdx k
    have e2 : (kvs.findIdx? fun kv => decide (kv.1 = k)) = none := by
      rw [List.findIdx?_eq_none_iff]
      intro x hx
      exact decide_eq_false fun q => hf (List.mem_map.mpr ⟨x, hx, q⟩)
    rw [e2] at e1
    obtain ⟨l⟩ := es
    simpa using e1
  unfold dictPut
  refine wpAny_bind (wpAny_dictFind_of hkey ho hd hk ?_)
  rw [hidx]
  refine wpAny_updateDictKeys (hz := by rw [sizeLine_eq]; omega) ho hd (hQ _ ⟨_, _, ep + 1, Heap.get?_update_self _ ho (Obj.isFreed_of_dict (Obj.data_mapDictKeys hd _)), hc.mapDictKeys _, Obj.data_mapDictKeys hd _, hk.push hkey _, ?_, ?_⟩ (Heap.SameBut.update ..))
  · have := hp.append hkey ((intKind prog w).hash k) v
    obtain ⟨l⟩ := es
    simpa using this
  · rw [List.map_append, List.nodup_append]
    refine ⟨hn, by simp, ?_⟩
    intro a ha b hb
    simp only [List.map_cons, List.map_nil, List.mem_singleton] at hb
    subst hb
    exact fun e => hf (e ▸ ha)
theorem pairs_get : ∀ {es : List DictEntry} {kvs : List (Int × Value)} (_ : Pairs (intKind prog w) es kvs) (i : Nat) (e : DictEntry), es[i]? = some e → ∃ k, kvs[i]? = some (k, e.val) ∧ (intKind prog w).is k e.key = true
  | _, _, .nil, _, _, h => by simp at h
  | _, _, .cons (kv := kv) a b _, 0, e, h => by
    simp only [List.getElem?_cons_zero, Option.some.injEq] at h
    subst h
    exact ⟨kv.1, by rw [b]; rfl, a⟩
  | _, _, .cons _ _ r, i + 1, e, h => by
    simp only [List.getElem?_cons_succ] at h ⊢
    exact pairs_get r i e h
theorem merge_dicts {d a : Addr} {acc kvs : List (Int × Value)} {Q : Unit → Shared → Prop} (hd : s.heap.DictOf (intKind prog w) d acc) (ha : s.heap.DictOf (intKind prog w) a kvs) (hne : acc ≠ []) (hda : a ≠ d) (lo : (a == sysModules) = false) (hz : acc.length + kvs.length ≤ 1000) (hnd : ((acc ++ kvs).map (·.1)).Nodup)
    (hQ : ∀ h', h'.DictOf (intKind prog w) d (acc ++ kvs) → Heap.SameBut d s.heap h' → Q () { s with heap := h' }) : wpAny (model prog w) A (mergeMapping d (.ref a) false) Q E s := by
  have hT := ha.typeIs
  obtain ⟨od, esd, epd, hod, hcd, hdd, hkd, hpd, hnd'⟩ := id hd
  obtain ⟨oa, esa, epa, hoa, hca, hda', hka, hpa, hna⟩ := id ha
  have hla : esa.size = kvs.length := by rw [← hpa.length]; simp
  have hld : esd.size = acc.length := by rw [← hpd.length]; simp
  unfold mergeMapping
  refine wpAny_bind (wpAny_isInstance hT isSubtype_dict_dict ?_)
  simp only [if_true]
  refine wpAny_bind (wpAny_specialOf hT F.slot_dict_iter.lookup ?_)
  refine wpAny_bind (wpAny_pure ?_)
  simp only [beq_self_eq_true, lo, Bool.false_eq_true, if_false]
  refine wpAny_bind (wpAny_dictEntries hod hdd ?_)
  have hemp : esd.isEmpty = false := by
    have : 0 < esd.size := by rw [hld]; exact List.length_pos_iff.mpr hne
    simp only [Array.isEmpty, decide_eq_false_iff_not]; omega
  rw [hemp]
  simp only [Bool.false_eq_true, if_false]
  refine wpAny_bind (wpAny_dictEntries hoa hda' ?_)
  refine wpAny_bind (wpAny_dictEpoch hoa hda' ?_)
  refine wpAny_bind ?_
  rw [List.range_eq_range']
  refine wpAny_forIn_list _
    (fun rest _ s' => ∃ h' i, s' = { s with heap := h' } ∧ rest = List.range' i (esa.size - i) ∧ i ≤ esa.size ∧ h'.DictOf (intKind prog w) d (acc ++ kvs.take i) ∧ h'.get? a = some oa ∧ Heap.SameBut d s.heap h')
    _ ?_ ?_ _ _ ⟨s.heap, 0, rfl, by simp, Nat.zero_le _, by simpa using hd, hoa, Heap.SameBut.refl _ _⟩
  · rintro x rest b s' ⟨h', i, rfl, hr, hi, hd', hoa', hs'⟩
    have hlt : i < esa.size := by
      rcases Nat.lt_or_ge i esa.size with h | h
      · exact h
      · rw [Nat.sub_eq_zero_of_le h] at hr; simp at hr
    obtain ⟨rfl, hrest⟩ : x = i ∧ rest = List.range' (i + 1) (esa.size - (i + 1)) := by
      have e : esa.size - i = (esa.size - (i + 1)) + 1 := by omega
      rw [e, List.range'_succ] at hr
      injection hr with h1 h2
      exact ⟨h1, h2⟩
    have hget : esa[x]? = some esa[x] := Array.getElem?_eq_getElem hlt
    obtain ⟨k, hk, hkey⟩ := pairs_get hpa x esa[x] (by rw [Array.getElem?_toList]; exact hget)
    obtain ⟨k', hkey', hhash⟩ := hka esa[x] (Array.getElem_mem hlt)
    obtain rfl : k' = k := (intKind prog w).inj _ _ _ hkey' hkey
    have htake : kvs.take (x + 1) = kvs.take x ++ [(k', esa[x].val)] := by rw [List.take_add_one, hk]; rfl
    have hfresh : k' ∉ (acc ++ kvs.take x).map (·.1) := by
      have e1 : acc ++ kvs = (acc ++ kvs.take x) ++ (k', esa[x].val) :: kvs.drop (x + 1) := by
        rw [List.append_assoc]
        congr 1
        obtain ⟨hlx, hex⟩ := List.getElem?_eq_some_iff.mp hk
        have e2 := List.drop_eq_getElem_cons hlx
        rw [hex] at e2
        rw [← e2, List.take_append_drop]
      rw [e1, List.map_append, List.nodup_append] at hnd
      exact fun hm => hnd.2.2 _ hm k' (by simp) rfl
    refine wpAny_bind (wpAny_dictEntries hoa' hda' ?_)
    rw [hget]
    dsimp only
    refine wpAny_bind (wpAny_holding ?_)
    rw [hhash]
    refine put_fresh hkey hd' hfresh (by rw [List.length_append, List.length_take]; omega) fun h₂ hd₂ hs₂ => ?_
    have ho2 : h₂.get? a = some oa := (hs₂.2 a hda).trans hoa'
    refine wpAny_bind (wpAny_dictEpoch ho2 hda' ?_)
    rw [if_neg (by simp)]
    refine wpAny_pure ?_
    exact ⟨h₂, x + 1, rfl, hrest, hlt, by rw [htake, ← List.append_assoc]; exact hd₂, ho2, hs'.trans hs₂⟩
  · rintro b s' ⟨h', i, rfl, hr, hi, hd', hoa', hs'⟩
    have : i = esa.size := by
      rcases Nat.lt_or_ge i esa.size with h | h
      · rw [show esa.size - i = (esa.size - (i + 1)) + 1 by omega, List.range'_succ] at hr; cases hr
      · omega
    rw [this, hla, List.take_length] at hd'
    exact wpAny_pure (hQ _ hd' hs')
end
end Mine
end
section
open PySem PySem.W PyProof.Rows PySem.Calls PySem.Spec
set_option Elab.async false
set_option maxRecDepth 100000
set_option maxHeartbeats 0
namespace Mine
section
variable {prog : Program} {w : World} {A : Around} {E : Value → Shared → Prop} {s : Shared}
/-- a tree that gives an int and leaves the heap -/
noncomputable def IntTree (prog : Program) (w : World) (A : Around) (t : Sem Value) (n : Int) : Prop := ∀ (s : Shared) (Q : Value → Shared → Prop) (E : Value → Shared → Prop), (∀ k tk, Q (.int n k) { s with toks := tk }) → wpAny (model prog w) A t Q E s
inductive Trees (prog : Program) (w : World) (A : Around) : List (Sem Value × Sem Value) → List (Int × Int) → Prop
  | nil : Trees prog w A [] []
  | cons {a b x y ps zs} : IntTree prog w A a x → IntTree prog w A b y → Trees prog w A ps zs → Trees prog w A ((a, b) :: ps) ((x, y) :: zs)
inductive IntVals : List (Int × Int) → List (Int × Value) → Prop
  | nil : IntVals [] []
  | cons (x y : Int) (t : Tok) {zs kvs} : IntVals zs kvs → IntVals ((x, y) :: zs) ((x, .int y t) :: kvs)
theorem IntVals.keys : ∀ {zs kvs}, IntVals zs kvs → kvs.map (·.1) = zs.map (·.1)
  | _, _, .nil => rfl
  | _, _, .cons x y t r => by simp [r.keys]
theorem IntVals.append : ∀ {zs kvs zs' kvs'}, IntVals zs kvs → IntVals zs' kvs' → IntVals (zs ++ zs') (kvs ++ kvs')
  | _, _, _, _, .nil, h => h
  | _, _, _, _, .cons x y t r, h => .cons x y t (r.append h)
theorem IntVals.len {zs kvs} (h : IntVals zs kvs) : kvs.length = zs.length := by have := congrArg List.length h.keys; simpa using this
theorem stored_fresh {kvs : List (Int × Value)} {k : Int} {v : Value} (h : k ∉ kvs.map (·.1)) : stored kvs k v = kvs ++ [(k, v)] := by
  unfold stored
  rw [if_neg]
  rw [List.any_eq_true]
  rintro ⟨x, hx, he⟩
  exact h (List.mem_map.mpr ⟨x, hx, of_decide_eq_true he⟩)
theorem sub_ints {ps : List (Sem Value × Sem Value)} {zs : List (Int × Int)} {Q : Addr → Shared → Prop} (ht : Trees prog w A ps zs) (hlen : 15 < ps.length) (hz : zs.length ≤ 500) (nd : (zs.map (·.1)).Nodup)
    (h : ∀ h' tk kvs, h'.DictOf (intKind prog w) s.heap.objs.size kvs → IntVals zs kvs → (∀ b o, s.heap.get? b = some o → h'.get? b = some o) → s.heap.objs.size < h'.objs.size → Q s.heap.objs.size { s with heap := h', toks := tk }) :
    wpAny (model prog w) A (subDict ps) Q E s := by
  unfold subDict
  refine wpAny_bind (wpAny_alloc ?_)
  refine wpAny_bind (wpAny_holding ?_)
  rw [if_neg (by omega)]
  refine wpAny_bind (wpAny_rule ?_)
  refine wpAny_bind ?_
  refine wpAny_forIn_list _
    (fun rest _ s' => ∃ h' tk z1 z2 kvs, s' = { s with heap := h', toks := tk } ∧ zs = z1 ++ z2 ∧ Trees prog w A rest z2 ∧ IntVals z1 kvs ∧ h'.DictOf (intKind prog w) s.heap.objs.size kvs ∧ (∀ b o, s.heap.get? b = some o → h'.get? b = some o) ∧ s.heap.objs.size < h'.objs.size)
    _ ?_ ?_ _ _ ⟨_, _, [], zs, [], rfl, rfl, ht, .nil, Heap.DictOf.new _, fun b o e => Heap.get?_push_of_some _ e, by rw [Heap.size_push]; exact Nat.lt_succ_self _⟩
  · rintro ⟨a, b⟩ rest u s' ⟨h', tk, z1, z2, kvs, rfl, hzs, hT, hV, hD, hk, hs⟩
    cases hT with
    | cons ta tb hT =>
      rename_i x y zr
      dsimp only
      refine wpAny_bind (ta _ _ _ fun k1 tk1 => ?_)
      refine wpAny_bind (wpAny_holding (tb _ _ _ fun k2 tk2 => ?_))
      refine wpAny_bind (wpAny_holding ?_)
      have hlk := hV.len
      have hzl : z1.length + (zr.length + 1) ≤ 500 := by rw [hzs, List.length_append, List.length_cons] at hz; exact hz
      have hfr : x ∉ kvs.map (·.1) := by
        rw [hV.keys]
        rw [hzs, List.map_append, List.nodup_append] at nd
        exact fun hm => nd.2.2 _ hm x (by simp) rfl
      refine wpAny_dictSet_pairs (knd := intKind prog w) (hsz := by rw [sizeLine_eq]; omega) (intKind_is prog w x k1) hD fun h₂ hD₂ hs₂ => ?_
      rw [stored_fresh hfr] at hD₂
      refine wpAny_pure ⟨h₂, _, z1 ++ [(x, y)], zr, _, rfl, by rw [hzs]; simp, hT, hV.append (.cons x y k2 .nil), hD₂, fun b o e => (hs₂.2 b (Nat.ne_of_lt (Heap.lt_size e))).trans (hk b o e), by rw [hs₂.1]; exact hs⟩
  · rintro u s' ⟨h', tk, z1, z2, kvs, rfl, hzs, hT, hV, hD, hk, hs⟩
    cases hT
    rw [List.append_nil] at hzs
    subst hzs
    exact wpAny_pure (wpAny_pure (h h' tk kvs hD hV hk hs))
end
end Mine
end
section
open PySem PySem.W PyProof.Rows
set_option Elab.async false
set_option maxRecDepth 100000
set_option maxHeartbeats 0
namespace Mine
/-- the place that a number takes -/
noncomputable def fpl : Nat → List Int → Int → Int
  | 0, _, p => p
  | n + 1, ks, p => if ks.contains p = true then fpl n ks ((p + 1).fmod 33) else p
noncomputable def worthZ (x : Int) : Int := (x.fdiv 33).fmod 1099511627776 - 549755813888
noncomputable def drawV (x p : Int) : Int := if p = 32 then (if worthZ x = 0 then 1 else worthZ x) * 4294967296 else 2 ^ p.toNat
noncomputable def drawStep (zs : List (Int × Int)) (x : Int) : List (Int × Int) := zs ++ [(fpl 3 (zs.map (·.1)) (x.fmod 33), drawV x (fpl 3 (zs.map (·.1)) (x.fmod 33)))]
noncomputable def drawKV (ys : List Int) : List (Int × Int) := ys.foldl drawStep []
theorem fpl_range {n : Nat} {ks : List Int} : ∀ {p : Int}, 0 ≤ p → p < 33 → 0 ≤ fpl n ks p ∧ fpl n ks p < 33 := by
  induction n with
  | zero => intro p h0 h1; exact ⟨h0, h1⟩
  | succ n ih =>
    intro p h0 h1
    unfold fpl
    split
    · exact ih (Int.fmod_nonneg_of_pos _ (by decide)) (Int.fmod_lt_of_pos _ (by decide))
    · exact ⟨h0, h1⟩
theorem fmod33 (p : Int) : p.fmod 33 = p % 33 := Int.fmod_eq_emod_of_nonneg p (by decide)
theorem fpl_fresh {ks : List Int} (hl : ks.length ≤ 2) {p : Int} (h0 : 0 ≤ p) (h1 : p < 33) : ks.contains (fpl 3 ks p) = false := by
  have key : ∀ a b : Int, ([a, b].contains (fpl 3 [a, b] p)) = false := by
    intro a b
    simp only [fpl, fmod33, List.contains_cons, List.contains_nil, Bool.or_false, Bool.or_eq_true, beq_iff_eq]
    repeat' split
    all_goals (simp only [Bool.or_eq_false_iff, beq_eq_false_iff_ne]; omega)
  match ks, hl with
  | [], _ => rfl
  | [a], _ =>
    have := key a a
    have e : ∀ n q, fpl n [a, a] q = fpl n [a] q := by
      intro n
      induction n with
      | zero => intro q; rfl
      | succ n ih => intro q; simp only [fpl, ih]; simp
    rw [e] at this
    simpa using this
  | [a, b], _ => exact key a b
theorem drawKV_snoc (ys : List Int) (x : Int) : drawKV (ys ++ [x]) = drawStep (drawKV ys) x := by unfold drawKV; rw [List.foldl_append]; rfl
theorem drawKV_len (ys : List Int) : (drawKV ys).length = ys.length := by
  have : ∀ ys zs, (List.foldl drawStep zs ys).length = zs.length + ys.length := by
    intro ys
    induction ys with
    | nil => intro zs; rfl
    | cons y ys ih => intro zs; rw [List.foldl_cons, ih, drawStep, List.length_append, List.length_cons, List.length_cons, List.length_nil]; omega
  simpa [drawKV] using this ys []
theorem vals_in : ∀ {zs : List (Int × Int)} {kvs : List (Int × Value)}, IntVals zs kvs → ∀ p, (valueAt kvs p).isSome = (zs.map (·.1)).contains p
  | _, _, .nil, p => rfl
  | _, _, .cons x y t r, p => by
    unfold valueAt
    have ih := vals_in r p
    unfold valueAt at ih
    simp only [List.find?_cons, List.map_cons, List.contains_cons]
    by_cases h : x = p
    · subst h; simp
    · rw [show (decide (x = p)) = false from decide_eq_false h, show (p == x) = false from beq_eq_false_iff_ne.mpr (Ne.symm h), Bool.false_or]
      exact ih
theorem vals_snoc {zs : List (Int × Int)} {kvs : List (Int × Value)} (h : IntVals zs kvs) (x y : Int) (t : Tok) : IntVals (zs ++ [(x, y)]) (kvs ++ [(x, .int y t)]) := h.append (.cons x y t .nil)
theorem vals_stored {zs : List (Int × Int)} {kvs : List (Int × Value)} (h : IntVals zs kvs) {p : Int} (hp : (zs.map (·.1)).contains p = false) (v : Value) : stored kvs p v = kvs ++ [(p, v)] := stored_fresh (by
  rw [h.keys]; intro hm; rw [List.contains_iff_mem.mpr hm] at hp; cases hp)
theorem vals_again {zs : List (Int × Int)} {kvs : List (Int × Value)} (h : IntVals zs kvs) {p : Int} (hp : (zs.map (·.1)).contains p = false) (u v : Value) : stored (kvs ++ [(p, u)]) p v = kvs ++ [(p, v)] := by
  have hn : ∀ kv ∈ kvs, kv.1 ≠ p := fun kv hkv e => by
    have : p ∈ zs.map (·.1) := h.keys ▸ e ▸ List.mem_map.mpr ⟨kv, hkv, rfl⟩
    rw [List.contains_iff_mem.mpr this] at hp; cases hp
  unfold stored
  rw [if_pos (by simp), List.map_append]
  congr 1
  · rw [List.map_congr_left (g := id) (fun kv hkv => by simp [hn kv hkv]), List.map_id]
  · simp
theorem ints_get {vs : List Value} {ns : List Int} (h : IntsAre vs ns) : ∀ {i : Nat} {v : Value}, vs[i]? = some v → ∃ n t, ns[i]? = some n ∧ v = .int n t := by
  induction h with
  | nil => intro i v e; simp at e
  | cons n t r ih =>
    intro i v e
    cases i with
    | zero => simp only [List.getElem?_cons_zero, Option.some.injEq] at e; exact ⟨n, t, rfl, e.symm⟩
    | succ i => simp only [List.getElem?_cons_succ] at e ⊢; exact ih e
theorem ints_snoc {y : Int} {t : Tok} : ∀ {vs : List Value} {ys : List Int}, IntsAre vs ys → IntsAre (vs ++ [.int y t]) (ys ++ [y])
  | _, _, .nil => .cons y t .nil
  | _, _, .cons z u r => .cons z u (ints_snoc r)
theorem vals_find : ∀ {zs : List (Int × Int)} {kvs : List (Int × Value)}, IntVals zs kvs → ∀ k, match (zs.find? fun p => p.1 == k).map (·.2) with
    | some v => ∃ t, valueAt kvs k = some (.int v t)
    | none => valueAt kvs k = none
  | _, _, .nil, k => rfl
  | _, _, .cons x y t r, k => by
    unfold valueAt
    simp only [List.find?_cons]
    by_cases h : x = k
    · subst h
      simp
    · rw [show (x == k) = false from beq_eq_false_iff_ne.mpr h, show (decide (x = k)) = false from decide_eq_false h]
      exact vals_find r k
end Mine
end
section
open PySem PySem.W PyProof.Rows PyProof.Rows.LCg PyProof.Rows.LCt
set_option Elab.async false
set_option maxRecDepth 100000
set_option maxHeartbeats 0
namespace Mine
section
variable {w : World} {p : Program} {lo : List Str} {mean : ExcName → Option Value} {mg mb : Str → Option Value}
theorem regK5 : PySem.Challenge.rw_rw0097_01.foot = 7 ∧ K = K := by k_fill; exact ⟨rfl, rfl⟩
local macro_rules | `(tactic| walk_at "call ref") => `(tactic| (k_here; refine rest_here ?_))
local macro_rules | `(tactic| walk_at "Exists") => `(tactic| (k_here; refine rest_here ?_))
local macro_rules | `(tactic| walk_at "eval ListComp") => `(tactic| (k_here; refine rest_here ?_))
local macro_rules | `(tactic| k_mem) => `(tactic| first | exact List.mem_cons_self | (with_reducible assumption) | (refine' List.mem_cons_of_mem _ ?_; k_mem))
local macro_rules | `(tactic| k_all) => `(tactic| first | assumption | (intro p hp; (rename (∀ p ∈ _, @LT.lt Nat _ (Prod.fst p) _) => hRR); (have hh := hRR p hp); refine neN ?_; (try dsimp only); omega))
noncomputable def ordsOf (x : Str) : List Int := x.cps.toList.map fun (c : Nat) => (c : Int)
theorem ordsOf_take {x : Str} {i : Nat} {c : Nat} (h : x.cps[i]? = some c) : (ordsOf x).take (i + 1) = (ordsOf x).take i ++ [(c : Int)] := by
  unfold ordsOf
  rw [List.take_add_one, List.getElem?_map, Array.getElem?_toList, h]
  rfl
theorem spec_num (x : Str) (tx : Tok) (width : Int) (t : Tok) (ps : Array Value) (rest : List (Addr × Obj)) (hst : ps = #[] ∨ ∃ c oc, ps = ps31 c ∧ (c, oc) ∈ rest ∧ HitOb q31 oc) (hr : ∀ p ∈ rest, p.1 ≠ 31) (hx : 0 < x.cps.size ∧ x.cps.size ≤ 30) (hx2 : ∀ c ∈ x.cps.toList, (c : Nat) < 2 ^ 21) (hw : 1 ≤ width ∧ width ≤ 11) :
    LClaim P0 w (K w.params) p lo mean mg mb 138 ((31, tabObj ps) :: rest) [.str x tx, .int width t] 60 600 (D2IPost (valD width.toNat (ordsOf x)) ps rest) := by
  dsimp only [LClaim]; intros; rename_i hret
  refine wpAny_call ?_
  k_dflt cell_enter
  refine noE ?_
  k_steps
  unfold Rest
  refine ListComp_SU (F₀ := by k_asm) (by rfl) (by decide) (by rfl) (by decide) (by rfl) ?_
  k_steps
  unfold Rest
  refine ⟨_, _, _, rfl, by rfl, by k_asm, by k_asm, ?_, ?_⟩
  · exact Nat.le_trans hx.2 (by decide)
  rintro s₂ ⟨g, rfl⟩
  refine comp_ind (fun i ys nw => nw = (31, tabObj ps) :: rest ∧ IntsAre ys ((ordsOf x).take i)) ⟨rfl, .nil⟩ ?_ ?_
  · rintro i v I oI C oC D m₂ ys nw h tk E' hi ⟨c, u, hc, rfl⟩ ⟨rfl, hI⟩ hC hxv F₁ N₁ off ne
    k_steps
    refine CompEnd.intro (by assumption) (by assumption) _ (fun p hp => hp) off trivial ⟨rfl, ?_⟩
    rw [ordsOf_take hc]
    exact ints_snoc hI
  · rintro ys nw ⟨rfl, hI⟩
    rw [List.take_of_length_le (by unfold ordsOf; simp)] at hI
    k_steps
    unfold Rest
    rename (31 ≠ _ ∧ Off1 _ _) => hoff
    rename News _ _ _ ((_, lst ys) :: (31, tabObj ps) :: rest) => NN
    have hlen : (ordsOf x).length = x.cps.size := by unfold ordsOf; simp
    k_dflt (refine' spec_d2i (rest := (_, lst ys) :: rest) _ ys.toArray ys.length (ordsOf x) width t ps ?hst ?hr ?hm ?hI ?hne ?hl ?hw ?hb _ _ _ _ _ _ _ _ _ _ _ _ _ _ _ _ _ ?k1 ?k2 ?k3 ?k4 ?k5 ?kK ?kC1 ?kC2 ?kd ?ku ?kR)
    case k1 => k_asm
    case k2 => k_asm
    case k3 => k_asm
    case k5 => k_asm
    case hm => exact List.mem_cons_self
    case hst =>
      rcases hst with h | ⟨c, oc, h1, h2, h3⟩
      · exact .inl h
      · exact .inr ⟨c, oc, h1, .tail _ h2, h3⟩
    case hr =>
      intro q hq
      rcases List.mem_cons.mp hq with rfl | hq
      · exact Ne.symm hoff.1
      · exact hr q hq
    case hI => exact hI
    case hne => intro q; rw [q] at hlen; exact absurd hlen (by simp; omega)
    case hl => omega
    case hw => exact hw
    case hb =>
      intro y hy
      obtain ⟨c, hc, rfl⟩ := List.mem_map.mp hy
      have := hx2 c hc
      exact ⟨by omega, by omega⟩
    case kK => exact rfl
    case kC1 => exact CodeHd.keeps (by assumption) (fun _ _ e => e)
    case kC2 => exact CodeHd.keeps (by assumption) (fun _ _ e => e)
    case kd => dsimp only [ktrTop]; omega
    case ku => dsimp only [ktrTop]; omega
    case k4 => exact fun q hq => NN q (by rcases List.mem_cons.mp hq with rfl | hq; exact .tail _ (.head _); rcases List.mem_cons.mp hq with rfl | hq; exact .head _; exact .tail _ (.tail _ hq))
    case kR =>
      rintro v9 h9 tk9 nw9 F9 N9 ⟨⟨tv, rfl⟩, c9, oc9, hit9, m1, m2, m4, m3⟩
      dsimp only
      k_steps
      refine hret _ _ _ _ (by assumption) (by assumption) ⟨⟨_, rfl⟩, c9, oc9, hit9, m1, m2, ?_, fun q hq => m3 q (.tail _ hq)⟩
      rcases m4 with ⟨e4, m4⟩ | m4
      · rcases List.mem_cons.mp m4 with e5 | m4
        · obtain ⟨vs, t9, e6, -⟩ := hit9
          rw [(Prod.mk.inj e5).2] at e6
          cases e6
        · exact .inl ⟨e4, m4⟩
      · exact .inr fun q hq => m4 q (.tail _ hq)
end
end Mine
end
section
open PySem PySem.W PyProof.Rows PyProof.Rows.LCg PyProof.Rows.LCt
set_option Elab.async false
set_option maxRecDepth 100000
set_option maxHeartbeats 0
namespace Mine
section
variable {w : World} {p : Program} {lo : List Str} {mean : ExcName → Option Value} {mg mb : Str → Option Value}
theorem regK6 : PySem.Challenge.rw_rw0097_01.foot = 7 ∧ K = K := by k_fill; exact ⟨rfl, rfl⟩
local macro_rules | `(tactic| walk_at "call ref") => `(tactic| (k_here; refine rest_here ?_))
local macro_rules | `(tactic| walk_at "call type:list") => `(tactic| (k_here; refine rest_here ?_))
local macro_rules | `(tactic| walk_at "binaryOp Add ref ref") => `(tactic| (k_here; refine rest_here ?_))
local macro_rules | `(tactic| k_mem) => `(tactic| first | exact List.mem_cons_self | (with_reducible assumption) | (refine' List.mem_cons_of_mem _ ?_; k_mem))
local macro_rules | `(tactic| k_all) => `(tactic| first | assumption | (intro p hp; (rename (∀ p ∈ _, @LT.lt Nat _ (Prod.fst p) _) => hRR); (have hh := hRR p hp); refine neN ?_; (try dsimp only); omega))
noncomputable def hidZ : List Int := [173, 847, 6150, 6155, 6156, 6157, 8203, 8204, 8205, 8288, 65279] ++ rangeKs 65024 16
theorem spec_hidden (news : List (Addr × Obj)) :
    LClaim P0 w (K w.params) p lo mean mg mb 107 news [] 60 600 (fun v nw => ∃ D its k, v = .ref D ∧ nw = (D, W.listOf its k) :: news ∧ IntsAre its.toList hidZ ∧ ∀ p ∈ news, @LT.lt Nat _ p.1 D) := by
  dsimp only [LClaim]; intros; rename_i hret
  refine wpAny_call ?_
  k_dflt cell_enter
  refine noE ?_
  k_steps
  unfold Rest
  rename IsRange _ _ _ _ _ _ _ _ => hR
  refine kll_range (n := 16) rfl (by k_asm) (by k_asm) hR (by decide) (by decide) (by decide) ?_
  intro D us c h9 tk9 F9 N9 l9 I9
  k_steps
  unfold Rest
  rename News _ _ _ ((_, W.listOf _ 0) :: news) => NN
  refine kmk_add_ints (ns := [173, 847, 6150, 6155, 6156, 6157, 8203, 8204, 8205, 8288, 65279]) (ms := rangeKs 65024 16) (by k_asm) N9 (N9.isList (.tail _ (.head _))) (N9.isList (.head _)) (IntsAre.cons _ _ <| IntsAre.cons _ _ <| IntsAre.cons _ _ <| IntsAre.cons _ _ <| IntsAre.cons _ _ <| IntsAre.cons _ _ <| IntsAre.cons _ _ <| IntsAre.cons _ _ <| IntsAre.cons _ _ <| IntsAre.cons _ _ <| IntsAre.cons _ _ <| IntsAre.nil) I9 ?_ (by decide)
  intro D2 us2 h8 F8 N8 l8 I8
  k_steps
  rename News _ _ _ ((D2, _) :: (D, _) :: _ :: news) => N7
  refine hret _ _ _ ((D2, W.listOf us2.toArray 0) :: news) (by assumption) (fun q hq => N7 q ?_) ⟨_, _, _, rfl, rfl, I8, fun q hq => l8 q (.tail _ (.tail _ hq))⟩
  rcases List.mem_cons.mp hq with rfl | hq
  · exact .head _
  · exact .tail _ (.tail _ (.tail _ hq))
end
end Mine
end
section
open PySem PySem.W PyProof.Rows PyProof.Rows.LCg PyProof.Rows.LCt
set_option Elab.async false
set_option maxRecDepth 100000
set_option maxHeartbeats 0
namespace Mine
section
variable {w : World} {p : Program} {lo : List Str} {mean : ExcName → Option Value} {mg mb : Str → Option Value}
theorem regK7 : PySem.Challenge.rw_rw0097_01.foot = 7 ∧ K = K := by k_fill; exact ⟨rfl, rfl⟩
local macro_rules | `(tactic| walk_at "call ref") => `(tactic| (k_here; refine rest_here ?_))
local macro_rules | `(tactic| walk_at "exec For") => `(tactic| (k_here; refine rest_here ?_))
local macro_rules | `(tactic| walk_at "exec For Tuple Call cons nil") => `(tactic| (k_here; refine rest_here ?_))
local macro_rules | `(tactic| walk_at "call type:enumerate") => `(tactic| (k_here; refine rest_here ?_))
local macro_rules | `(tactic| k_mem) => `(tactic| first | exact List.mem_cons_self | (with_reducible assumption) | (refine' List.mem_cons_of_mem _ ?_; k_mem))
local macro_rules | `(tactic| k_all) => `(tactic| first | assumption | (intro p hp; (rename (∀ p ∈ _, @LT.lt Nat _ (Prod.fst p) _) => hRR); (have hh := hRR p hp); refine neN ?_; (try dsimp only); omega))
/-- the hidden sign's number at a place -/
noncomputable def hidAt (n : Int) : Nat := ((hidZ.getD ((n.fdiv 3).fmod 27).toNat 0)).toNat
noncomputable def typedStep (gapF : Int → Option Int) (turn : Int) (k : Nat) (c : Nat) (t : Str) : Str :=
  let t1 := if (turn + k).fmod 3 = 0 then t ++ ⟨#[hidAt (turn + k)]⟩ else t
  if 0 ≤ (c : Int) - 65 ∧ (c : Int) - 65 < 26 ∧ (turn + k).fmod 14 < 13 then
    t1 ++ ⟨#[((gapF (119808 + 52 * (turn + k).fmod 14 + ((c : Int) - 65))).getD (119808 + 52 * (turn + k).fmod 14 + ((c : Int) - 65))).toNat]⟩
  else t1 ++ ⟨#[c]⟩
noncomputable def typedTo (gapF : Int → Option Int) (turn : Int) (x : Str) : Nat → Str
  | 0 => ⟨#[]⟩
  | i + 1 => typedStep gapF turn i (x.cps.getD i 0) (typedTo gapF turn x i)
noncomputable def GapsOk (gapF : Int → Option Int) (kvs : List (Int × Value)) : Prop := ∀ k, match gapF k with
  | some v => 0 ≤ v ∧ v < 1114112 ∧ ∃ t, valueAt kvs k = some (.int v t)
  | none => valueAt kvs k = none
noncomputable def TypedPost (X : Str) (news : List (Addr × Obj)) (v : Value) (nw : List (Addr × Obj)) : Prop := nw = news ∧ ∃ t, v = .str X t
noncomputable def typedJ (gapF : Int → Option Int) (x : Str) (turn : Int) (tt : Tok) (H G : Addr) (news : List (Addr × Obj)) (i : Nat) (m : Str → Option Value) (nw : List (Addr × Obj)) : Prop :=
  nw = news ∧ m "turn" = some (.int turn tt) ∧ m "hidden" = some (.ref H) ∧ m "gaps" = some (.ref G) ∧ ∃ t, m "text" = some (.str (typedTo gapF turn x i) t)
theorem len_one (c : Nat) : (⟨#[c]⟩ : Str).length = 1 := rfl
theorem typedStep_len (gapF : Int → Option Int) (turn : Int) (k c : Nat) (t : Str) : (typedStep gapF turn k c t).length ≤ t.length + 2 := by
  unfold typedStep
  dsimp only
  split <;> split <;> simp only [Str.length_append, len_one] <;> omega
theorem typedTo_len (gapF : Int → Option Int) (turn : Int) (x : Str) : ∀ i, (typedTo gapF turn x i).length ≤ 2 * i
  | 0 => Nat.le_refl _
  | i + 1 => by
    have := typedTo_len gapF turn x i
    have := typedStep_len gapF turn i (x.cps.getD i 0) (typedTo gapF turn x i)
    rw [typedTo]; omega
theorem signs_inv {x a : Str} {i : Nat} (h : (signs x)[i]? = some a) : ∃ c, x.cps[i]? = some c ∧ a = ⟨#[c]⟩ := by
  cases hc : x.cps[i]? with
  | some c => rw [signs_get hc] at h; cases h; exact ⟨c, rfl, rfl⟩
  | none =>
    have : (signs x).length ≤ i := by rw [signs_length]; exact Array.getElem?_eq_none_iff.mp hc
    rw [List.getElem?_eq_none this] at h; cases h
theorem frP4 {h₀ h : Heap} {L : Addr} {m : Str → Option Value} {z y0 x0 x1 x2 x3 : Str} {u u0 v0 v1 v2 v3 : Value} (F : Fr h₀ L h (fun y => if y = z then some u else if y = y0 then some u0 else m y)) (e0 : m x0 = some v0) (e1 : m x1 = some v1) (e2 : m x2 = some v2) (e3 : m x3 = some v3) : Fr h₀ L h (fun y => if y = z then some u else if y = y0 then some u0 else if y = x0 then some v0 else if y = x1 then some v1 else if y = x2 then some v2 else if y = x3 then some v3 else m y) := by
  have : (fun y => if y = z then some u else if y = y0 then some u0 else if y = x0 then some v0 else if y = x1 then some v1 else if y = x2 then some v2 else if y = x3 then some v3 else m y) = fun y => if y = z then some u else if y = y0 then some u0 else m y := by
    funext y
    repeat' (split <;> try simp_all)
  rw [this]; exact F
theorem typedJ_mk {gapF : Int → Option Int} {x : Str} {turn : Int} {tt : Tok} {H G : Addr} {news : List (Addr × Obj)} {i : Nat} {m : Str → Option Value} {T : Str} {t : Tok} (h1 : m "turn" = some (.int turn tt)) (h2 : m "hidden" = some (.ref H)) (h3 : m "gaps" = some (.ref G)) (h4 : m "text" = some (.str T t)) (e : T = typedTo gapF turn x i) : typedJ gapF x turn tt H G news i m news := by
  subst e; exact ⟨rfl, h1, h2, h3, t, h4⟩
theorem hid_ok : ∀ v ∈ hidZ, 0 ≤ v ∧ v ≤ 1114111 := by decide
theorem hid_item {prog : Program} {A : Around} {E : Value → Shared → Prop} {s : Shared} {h₀ : Heap} {L H : Addr} {news : List (Addr × Obj)} {its : Array Value} {k : Nat} {value slice : PySem.Expr} {n : Int} {u : Tok} {Q : Value → Shared → Prop} (N : News h₀ L s.heap news) (hm : (H, W.listOf its k) ∈ news) (hI : IntsAre its.toList hidZ)
    (h : ∀ v t, v = (hidAt n : Int) → 0 ≤ v → v ≤ 1114111 → Q (.int v t) s)
    (hs : subscripted slice false (.ref H) (.int ((n.fdiv 3).fmod 27) u) = operate [.ref H, .int ((n.fdiv 3).fmod 27) u] (getItem (.ref H) (.int ((n.fdiv 3).fmod 27) u)) := by with_unfolding_all rfl) :
    wpAny (model prog w) A (subscriptTail value slice (.ref H) (.int ((n.fdiv 3).fmod 27) u)) Q E s := by
  have b0 : 0 ≤ (n.fdiv 3).fmod 27 := Int.fmod_nonneg_of_pos _ (by decide)
  have b1 : (n.fdiv 3).fmod 27 < 27 := Int.fmod_lt_of_pos _ (by decide)
  have hl : hidZ.length = 27 := by decide
  refine item_anyK (vs := its.toList) (N.isList hm) hI b0 (by rw [hl]; exact b1) (by omega) (fun t => ?_) hs
  have hmem : hidZ.getD ((n.fdiv 3).fmod 27).toNat 0 ∈ hidZ := by
    rw [List.getD_eq_getElem?_getD, List.getElem?_eq_getElem (by omega)]
    exact List.getElem_mem _
  obtain ⟨c0, c1⟩ := hid_ok _ hmem
  exact h _ t (by unfold hidAt; omega) c0 c1
theorem gap_get {prog : Program} {A : Around} {E : Value → Shared → Prop} {s : Shared} {h₀ : Heap} {L G : Addr} {news : List (Addr × Obj)} {oG : Obj} {kvs : List (Int × Value)} {gapF : Int → Option Int} {n : Int} {u u2 : Tok} {Q : Value → Shared → Prop} (N : News h₀ L s.heap news) (hm : (G, oG) ∈ news) (hd : oG.IsDictOf (PySem.intKind prog w) kvs) (lo : (G == sysModules) = false) (hg : GapsOk gapF kvs)
    (n0 : 0 ≤ n) (n1 : n ≤ 1114111) (h : ∀ v t, v = (gapF n).getD n → 0 ≤ v → v ≤ 1114111 → Q (.int v t) { s with toks := s.toks + 1 }) :
    wpAny (model prog w) A (call (.builtin "dict.get") [.ref G, .int n u, .int n u2]) Q E s := by
  refine kdg_get2 N hm hd lo (intKind_is prog w n u) _ rfl ?_
  have e := hg n
  cases hq : gapF n with
  | some v =>
    rw [hq] at e
    obtain ⟨e0, e1, t, e2⟩ := e
    rw [e2]
    exact h v t (by rw [hq]; rfl) e0 (by omega)
  | none =>
    rw [hq] at e
    rw [e]
    exact h n u2 (by rw [hq]; rfl) n0 n1
theorem gap_meth {prog : Program} {A : Around} {E : Value → Shared → Prop} {s : Shared} {h₀ : Heap} {L G : Addr} {news : List (Addr × Obj)} {oG : Obj} {kvs : List (Int × Value)} {pl : Sem Bool} {Q : Value × List Value → Shared → Prop} (N : News h₀ L s.heap news) (hm : (G, oG) ∈ news) (hd : oG.IsDictOf (PySem.intKind prog w) kvs) (h : Q (.builtin "dict.get", [.ref G]) s) : wpAny (model prog w) A (getMethod (.ref G) "get" pl) Q E s := kdg_method N hm hd h
theorem typed_next {gapF : Int → Option Int} {x T T' : Str} {turn : Int} {tt t : Tok} {H G L : Addr} {h₀ h : Heap} {own news : List (Addr × Obj)} {i : Nat} {m : Str → Option Value} {s₁ : Shared} {tk : Nat} {Qr : Value → Shared → Prop} {Qb : Shared → Prop} {nw : List (Addr × Obj)} {c : Nat}
    (F : Fr h₀ L h m) (N : News h₀ L h nw) (hX : own ++ news = nw) (h1 : m "turn" = some (.int turn tt)) (h2 : m "hidden" = some (.ref H)) (h3 : m "gaps" = some (.ref G)) (h4 : m "text" = some (.str T' t))
    (hT : typedTo gapF turn x i = T) (hc : x.cps[i]? = some c) (e : T' = typedStep gapF turn i c T) : LoopStep3 h₀ L own news (typedJ gapF x turn tt H G news (i + 1)) s₁ Qr Qb .next { s₁ with heap := h, toks := tk } := by
  subst hX
  refine LoopStep2.intro F N rfl (typedJ_mk h1 h2 h3 h4 ?_)
  rw [e, typedTo, hT, Array.getD_eq_getD_getElem?, hc]; rfl
local macro_rules | `(tactic| walk_at "subscriptTail") => `(tactic| (k_here; refine' hid_item ?k1 ?k2 ?k3 ?_ ?k4; (case k1 => k_asm); (case k2 => with_reducible assumption); (case k3 => assumption); (case k4 => with_unfolding_all rfl); intro v7 t7 hv7 hv8 hv9))
local macro_rules | `(tactic| walk_at "getMethod ref") => `(tactic| (k_here; refine' gap_meth ?k1 ?k2 ?k3 ?_; (case k1 => k_asm); (case k2 => with_reducible assumption); (case k3 => assumption)))
local macro_rules | `(tactic| walk_at "call builtin:dict.get") => `(tactic| (k_here; refine' gap_get ?k1 ?k2 ?k3 ?k4 ?k5 ?k6 ?k7 ?_; (case k1 => k_asm); (case k2 => with_reducible assumption); (case k3 => assumption); (case k4 => assumption); (case k5 => assumption); (case k6 => omega); (case k7 => omega); intro v7 t7 hv7 hv8 hv9))
theorem spec_typed (gapF : Int → Option Int) (x : Str) (tx : Tok) (turn : Int) (tt : Tok) (H G : Addr) (oG : Obj) (its : Array Value) (k : Nat) (kvs : List (Int × Value)) (news : List (Addr × Obj))
    (hx : x.cps.size ≤ 200) (hx2 : ∀ c ∈ x.cps.toList, (c : Nat) < 1114112) (hH : (H, W.listOf its k) ∈ news) (hI : IntsAre its.toList hidZ) (hG : (G, oG) ∈ news) (hlo : (G == sysModules) = false) (hd : oG.IsDictOf (PySem.intKind P0 w) kvs) (hg : GapsOk gapF kvs) :
    LClaim P0 w (K w.params) p lo mean mg mb 133 news [.str x tx, .int turn tt, .ref H, .ref G] 60 600 (TypedPost (typedTo gapF turn x x.cps.size) news) := by
  dsimp only [LClaim]; intros; rename_i hret
  refine wpAny_call ?_
  k_dflt cell_enter
  refine noE ?_
  k_steps
  unfold Rest
  refine For_pair3F (by k_asm) rfl (by rfl) (by rfl) (by rfl) ?_ (by intro _; rfl)
  k_steps
  unfold Rest
  refine call_enum_str rfl (by k_asm) (by k_asm) ?_
  intro h1 e1 F1 N1 S1
  refine S1.at _ (by rfl) _ _ _ _ (typedJ gapF x turn tt H G news) ⟨rfl, by rfl, by rfl, by rfl, _, by rfl⟩ ?_ ?_
  · rintro i a t v m₁ news₁ s₁ own ⟨h9, tk9, rfl⟩ ha ⟨u, rfl⟩ ⟨rfl, j1, j2, j3, tj, j4⟩ _ hown F₁ N₁
    obtain ⟨c, hc, rfl⟩ := signs_inv ha
    have F₂ := frP4 F₁ j1 j2 j3 j4
    clear F₁ j1 j2 j3 j4
    have hlen := typedTo_len gapF turn x i
    have hi : i < x.cps.size := by obtain ⟨q, _⟩ := Array.getElem?_eq_some_iff.mp hc; exact q
    have mH : (H, W.listOf its k) ∈ own ++ news₁ := List.mem_append_right _ hH
    have mG : (G, oG) ∈ own ++ news₁ := List.mem_append_right _ hG
    generalize hX : own ++ news₁ = nw9 at N₁ mH mG
    generalize hT : typedTo gapF turn x i = T at F₂ hlen
    have f0 : 0 ≤ (turn + (i : Int)).fmod 14 := Int.fmod_nonneg_of_pos _ (by decide)
    have f1 : (turn + (i : Int)).fmod 14 < 14 := Int.fmod_lt_of_pos _ (by decide)
    k_steps
    all_goals refine typed_next (by assumption) (by assumption) hX (by rfl) (by rfl) (by rfl) (by rfl) hT hc ?_
    all_goals
      unfold typedStep
      dsimp only
    all_goals first | rw [if_pos (show (turn + (i : Int)).fmod 3 = 0 by assumption)] | rw [if_neg (show ¬ (turn + (i : Int)).fmod 3 = 0 by assumption)]
    all_goals first | rw [if_pos ⟨by assumption, by assumption, by assumption⟩] | rw [if_neg (by omega)]
    all_goals (subst_vars; simp only [Int.toNat_natCast])
  · rintro h9 tk9 m₁ news₁ F₁ N₁ _ ⟨rfl, j1, j2, j3, tj, j4⟩
    have F₂ := frOf1 F₁ j4
    k_steps
    refine hret _ _ _ _ (by assumption) (by assumption) ⟨rfl, _, by rw [signs_length]; rfl⟩
end
end Mine
end
section
open PySem PySem.W PyProof.Rows PyProof.Rows.LCg PyProof.Rows.LCt
set_option Elab.async false
set_option maxRecDepth 100000
set_option maxHeartbeats 0
namespace Mine
section
variable {w : World} {p : Program} {lo : List Str} {mean : ExcName → Option Value} {mg mb : Str → Option Value}
theorem regK8 : PySem.Challenge.rw_rw0097_01.foot = 7 ∧ K = K := by k_fill; exact ⟨rfl, rfl⟩
local macro_rules | `(tactic| walk_at "call ref") => `(tactic| (k_here; refine rest_here ?_))
local macro_rules | `(tactic| k_mem) => `(tactic| first | exact List.mem_cons_self | (with_reducible assumption) | (refine' List.mem_cons_of_mem _ ?_; k_mem))
local macro_rules | `(tactic| k_all) => `(tactic| first | assumption | (intro p hp; (rename (∀ p ∈ _, @LT.lt Nat _ (Prod.fst p) _) => hRR); (have hh := hRR p hp); refine neN ?_; (try dsimp only); omega))
local macro_rules | `(tactic| walk_at "setItem ref int") => `(tactic| (k_here; refine rest_here ?_))
local macro_rules | `(tactic| walk_at "binaryOp LShift int int") => `(tactic| (k_here; refine rest_here ?_))
local macro_rules | `(tactic| walk_at "binaryOp RShift int int") => `(tactic| (k_here; refine rest_here ?_))
/-- the def that is a def's second statement -/
noncomputable def nestedAt2 (i : Nat) : Option (Arguments × List Stmt × Scope) := match partsAt i with
  | some (_, _, _ :: PySem.Stmt.FunctionDef _ a b _ _ _ sc _ _ _ :: _, _) => some (a, b, sc)
  | _ => none
noncomputable abbrev q24 : Str := Str.ofString "_int2digits.<locals>.inner"
theorem setL_ok : ∀ (l : List Value) (k : Nat) (v : Value), k < l.length → ki_setL l k v = some (l.set k v)
  | [], _, _, h => absurd h (Nat.not_lt_zero _)
  | _ :: _, 0, _, _ => rfl
  | x :: r, k + 1, v, h => by
    rw [ki_setL, setL_ok r k v (by simpa using h)]; rfl
theorem ints_set {t : Tok} {x : Int} : ∀ {vs : List Value} {ys : List Int} (k : Nat), IntsAre vs ys → IntsAre (vs.set k (.int x t)) (ys.set k x)
  | _, _, k, .nil => by simpa using IntsAre.nil
  | _, _, 0, .cons _ _ r => .cons _ _ r
  | _, _, k + 1, .cons z u r => .cons z u (ints_set k r)
theorem set_led {prog : Program} {A : Around} {E : Value → Shared → Prop} {s : Shared} {h₀ : Heap} {L D : Addr} {m : Str → Option Value} {rest : List (Addr × Obj)} {its : Array Value} {k n : Nat} {t : Tok} {v : Value} {Q : Unit → Shared → Prop} (F : Fr h₀ L s.heap m) (N : News h₀ L s.heap ((D, W.listOf its n) :: rest)) (hD : ∀ p ∈ rest, p.1 ≠ D) (hk : k < its.toList.length) (hf : k < 2 ^ 20)
    (h : ∀ h', Fr h₀ L h' m → News h₀ L h' ((D, W.listOf (its.toList.set k v).toArray n) :: rest) → Q () { s with heap := h' }) : wpAny (model prog w) A (setItem (.ref D) (.int k t) v) Q E s :=
  ki_set F N (Int.natCast_nonneg _) (by omega) (by rw [Int.toNat_natCast]; exact setL_ok _ _ _ hk) (.head hD) h
/-- the digits written from Lo to Hi -/
noncomputable def wrote (cur ns : List Int) (Lo Hi : Nat) : List Int := cur.take Lo ++ ((ns.drop Lo).take (Hi - Lo) ++ cur.drop Hi)
theorem wrote_length {cur ns : List Int} {Lo Hi : Nat} (h : cur.length = ns.length) (h1 : Lo ≤ Hi) (h2 : Hi ≤ ns.length) : (wrote cur ns Lo Hi).length = ns.length := by
  unfold wrote; simp only [List.length_append, List.length_take, List.length_drop]; omega
theorem wrote_one {cur ns : List Int} {Lo : Nat} (h : cur.length = ns.length) (h2 : Lo < ns.length) : cur.set Lo (ns[Lo]) = wrote cur ns Lo (Lo + 1) := by
  unfold wrote
  rw [show Lo + 1 - Lo = 1 by omega, List.drop_eq_getElem_cons h2, List.take_succ_cons, List.take_zero]
  rw [List.set_eq_take_append_cons_drop, if_pos (by omega)]; rfl
theorem wrote_join {cur ns : List Int} {Lo M Hi : Nat} (h : cur.length = ns.length) (h1 : Lo ≤ M) (h2 : M ≤ Hi) (h3 : Hi ≤ ns.length) : wrote (wrote cur ns Lo M) ns M Hi = wrote cur ns Lo Hi := by
  have hA : (cur.take Lo).length = Lo := by rw [List.length_take]; omega
  have hB : ((ns.drop Lo).take (M - Lo)).length = M - Lo := by rw [List.length_take, List.length_drop]; omega
  have e : (ns.drop Lo).take (Hi - Lo) = (ns.drop Lo).take (M - Lo) ++ (ns.drop M).take (Hi - M) := by
    rw [show Hi - Lo = (M - Lo) + (Hi - M) by omega, List.take_add, List.drop_drop, show Lo + (M - Lo) = M by omega]
  have t : (wrote cur ns Lo M).take M = cur.take Lo ++ (ns.drop Lo).take (M - Lo) := by
    unfold wrote
    rw [← List.append_assoc, List.take_append, List.length_append, hA, hB, show M - (Lo + (M - Lo)) = 0 by omega, List.take_zero, List.append_nil, List.take_of_length_le (by rw [List.length_append, hA, hB]; omega)]
  have d : (wrote cur ns Lo M).drop Hi = cur.drop Hi := by
    unfold wrote
    rw [← List.append_assoc, List.drop_append, List.length_append, hA, hB, List.drop_of_length_le (by rw [List.length_append, hA, hB]; omega), List.nil_append, List.drop_drop, show M + (Hi - (Lo + (M - Lo))) = Hi by omega]
  show (wrote cur ns Lo M).take M ++ ((ns.drop M).take (Hi - M) ++ (wrote cur ns Lo M).drop Hi) = _
  rw [t, d]
  unfold wrote
  rw [e]
  simp only [List.append_assoc]
theorem wrote_all {cur ns : List Int} (h : cur.length = ns.length) : wrote cur ns 0 ns.length = ns := by
  unfold wrote
  rw [List.take_zero, List.drop_zero, Nat.sub_zero, List.take_length, ← h, List.drop_length, List.append_nil, List.nil_append]
set_option maxHeartbeats 1000000 in
theorem spec_inner2 {f c' cN cI cD D : Addr} {oN oI oD oc : Obj} {vsC : Array Value} {tq tW : Tok} {qual : Str} {ia : Arguments} {ib : List Stmt} {isc : Scope} (hparts : nestedAt2 4 = some (ia, ib, isc)) {k : Nat} {ns : List Int} {width : Int} {doc pm ctv : Value} {rest : List (Addr × Obj)}
    (hf : (f, fnMade (Str.ofString "inner") qual ia ib isc [(Str.ofString "n", cN), (Str.ofString "inner", cI), (Str.ofString "a_digits", cD)] doc pm c' ctv) ∈ rest) (hc : (c', oc) ∈ rest) (hcd : oc.data = .fields vsC) (hcv : vsC[1]? = some (.str qual tq))
    (mN : (cN, oN) ∈ rest) (dN : oN.data = .cell (some (.int width tW))) (mI : (cI, oI) ∈ rest) (dI : oI.data = .cell (some (.ref f))) (mD : (cD, oD) ∈ rest) (dD : oD.data = .cell (some (.ref D)))
    (hD : ∀ p ∈ rest, p.1 ≠ D) (hb : ∀ x ∈ ns, 0 ≤ x ∧ x < 2 ^ width.toNat) (hb2 : ∀ A B, (segV width.toNat ns A B).natAbs < 2 ^ 400) (hl : ns.length ≤ 40) (hw : 1 ≤ width ∧ width ≤ 11) :
    ∀ (d Lo Hi : Nat), Lo < Hi → Hi ≤ ns.length → Hi - Lo ≤ d →
    ∀ (cur : List Int) (its : Array Value) (tX tL tR : Tok) (dp un : Nat) (gd : Option (List Code)) (cn : Str) (cs : Scope) (a : Addr) (ccd : Value) (cl : List (Str × Addr)) (outer : List Env) (A₀ : Around) (base h₀ : Heap) (L : Addr) (m : Str → Option Value) (s : Shared) (Q E : Value → Shared → Prop),
    cur.length = ns.length → IntsAre its.toList cur → Below A₀ base outer h₀ → Fr h₀ L s.heap m → (K w.params).In h₀ → News h₀ L s.heap ((D, W.listOf its k) :: rest) → Top p lo mean mg mb h₀ → cs.kind = .function → CodeHd base 28 24 → dp + d + 1 < recursionLimit → un + 8 * d + 8 < cLine →
    (∀ its' h' tk', IntsAre its'.toList (wrote cur ns Lo Hi) → Fr h₀ L h' m → News h₀ L h' ((D, W.listOf its' k) :: rest) → Q .none { s with heap := h', toks := tk' }) →
      wpAny (model P0 w) (ktrTop dp un gd cn cs L a ccd cl outer) (call (.ref f) [.int (segV width.toNat ns Lo Hi) tX, .int Lo tL, .int Hi tR]) Q E s := by
  intro d
  induction d with
  | zero => intro Lo Hi h1 _ h3; omega
  | succ d ih =>
    intro Lo Hi h1 h2 h3 cur its tX tL tR dp un gd cn cs a ccd cl outer A₀ base h₀ L m s Q E hcl hI B F X N T hk C28 hd hu hret
    cases hparts
    refine wpAny_call ?_
    k_dflt (refine' code_nest ?k1 ?k2 ?k3 ?k4 ?k5 ?kA ?kF ?kK ?k6 ?k7 ?k8 ?k9 ?kB ?_ ?c2 ?c3 ?c4 ?c5; (case kA => exact rfl); (case kF => exact rfl); (case kK => assumption); (case k1 => k_asm); (case k2 => k_asm); (case k3 => k_asm); (case k4 => k_asm); (case k5 => k_asm); (case k6 => exact .tail _ hf); (case k7 => exact codeRec_news (by k_asm) (.tail _ hc) hcd hcv); (case k8 => ktr_room); (case k9 => exact BindsTo.of_eq rfl); (case c5 => decide); (case kB => exact locs rfl); (case c2 => exact rfl); (case c3 => exact rfl); (case c4 => exact rfl); k_whole; intro g' L' h' FG' F' N' B' X' T'; (try dsimp only); (try k_lift B'); (try k_fold))
    refine noE ?_
    have IH := Hold.mk ih
    clear ih
    have hwN : (width.toNat : Int) = width := Int.toNat_of_nonneg (by omega)
    have emid : ((Lo : Int) + (Hi : Int)).fdiv (2 ^ Int.toNat 1) = (((Lo + Hi) / 2 : Nat) : Int) := by
      rw [show (2 : Int) ^ Int.toNat 1 = 2 from rfl, Int.fdiv_eq_ediv_of_nonneg _ (by decide)]; omega
    have hmul : ((((Lo + Hi) / 2 : Nat) : Int) - (Lo : Int)) * width = ((((Lo + Hi) / 2 - Lo) * width.toNat : Nat) : Int) := by
      rw [Int.natCast_mul, hwN, show ((((Lo + Hi) / 2 : Nat) : Int) - (Lo : Int)) = (((Lo + Hi) / 2 - Lo : Nat) : Int) by omega]
    have hsh0 : 0 ≤ ((((Lo + Hi) / 2 : Nat) : Int) - (Lo : Int)) * width := by rw [hmul]; exact Int.natCast_nonneg _
    have hsh1 : ((((Lo + Hi) / 2 : Nat) : Int) - (Lo : Int)) * width ≤ 1000 := by
      rw [hmul]
      have : ((Lo + Hi) / 2 - Lo) * width.toNat ≤ 40 * 11 := Nat.mul_le_mul (by omega) (by omega)
      omega
    have hilen : its.toList.length = ns.length := by rw [hI.length, hcl]
    have hshr : (segV width.toNat ns Lo Hi).fdiv (2 ^ (((((Lo + Hi) / 2 : Nat) : Int) - (Lo : Int)) * width).toNat) = segV width.toNat ns ((Lo + Hi) / 2) Hi := by
      rw [hmul, Int.toNat_natCast]; exact seg_shr hb (by omega) (by omega) h2
    have hxor : Builtin.bitXor (segV width.toNat ns Lo Hi) (segV width.toNat ns ((Lo + Hi) / 2) Hi * 2 ^ (((((Lo + Hi) / 2 : Nat) : Int) - (Lo : Int)) * width).toNat) = segV width.toNat ns Lo ((Lo + Hi) / 2) := by
      rw [hmul, Int.toNat_natCast]; exact seg_xor hb (by omega) (by omega) h2
    k_steps
    · have e : (Lo : Int) + 1 = (Hi : Int) := by assumption
      obtain rfl : Hi = Lo + 1 := by omega
      unfold Rest
      refine set_led (by k_asm) (by k_asm) hD (by omega) (by omega) ?_
      intro h9 F9 N9
      dsimp only
      k_steps
      refine hret _ _ _ ?_ (by assumption) (by assumption)
      rw [← wrote_one hcl (by omega), segV_one (by omega)]
      exact ints_set Lo hI
    · have e : (Lo : Int) + 1 ≠ (Hi : Int) := by assumption
      unfold Rest
      refine rshift_int (by decide) ?_
      rw [emid]
      k_steps
      unfold Rest
      refine rshift_int hsh0 ?_
      rw [hshr]
      k_steps
      unfold Rest
      refine lsh (hb2 _ _) hsh0 hsh1 ?_
      k_steps
      simp only [hxor] at *
      unfold Rest
      k_dflt (refine' IH.out Lo ((Lo + Hi) / 2) ?x1 ?x2 ?x3 cur its _ _ _ _ _ _ _ _ _ _ _ _ _ _ _ _ _ _ _ _ ?hcl ?hI ?k1 ?k2 ?k3 ?k4 ?k5 ?kK ?kC ?kd ?ku ?kR)
      case x1 => omega
      case x2 => omega
      case x3 => omega
      case hcl => exact hcl
      case hI => exact hI
      case k1 => k_asm
      case k2 => k_asm
      case k3 => k_asm
      case k4 => k_asm
      case k5 => k_asm
      case kK => exact rfl
      case kC => assumption
      case kd => show dp + 1 + d + 1 < recursionLimit; omega
      case ku => show un + 3 + 8 * d + 8 < cLine; omega
      case kR =>
        intro its9 h9 tk9 I9 F9 N9
        dsimp only
        k_steps
        unfold Rest
        k_dflt (refine' IH.out ((Lo + Hi) / 2) Hi ?x1 ?x2 ?x3 _ its9 _ _ _ _ _ _ _ _ _ _ _ _ _ _ _ _ _ _ _ _ ?hcl ?hI ?k1 ?k2 ?k3 ?k4 ?k5 ?kK ?kC ?kd ?ku ?kR)
        case hI => exact I9
        case hcl => exact wrote_length hcl (by omega) (by omega)
        case x1 => omega
        case x2 => omega
        case x3 => omega
        case k1 => k_asm
        case k2 => k_asm
        case k3 => k_asm
        case k4 => k_asm
        case k5 => k_asm
        case kK => exact rfl
        case kC => assumption
        case kd => show dp + 1 + d + 1 < recursionLimit; omega
        case ku => show un + 3 + 8 * d + 8 < cLine; omega
        case kR =>
          intro its8 h8 tk8 I8 F8 N8
          dsimp only
          k_steps
          refine hret _ _ _ ?_ (by assumption) (by assumption)
          rw [← wrote_join (M := (Lo + Hi) / 2) hcl (by omega) (by omega) h2]
          exact I8
end
end Mine
end
section
open PySem PySem.W PyProof.Rows PyProof.Rows.LCg PyProof.Rows.LCt
set_option Elab.async false
set_option maxRecDepth 100000
set_option maxHeartbeats 0
namespace Mine
section
variable {w : World} {p : Program} {lo : List Str} {mean : ExcName → Option Value} {mg mb : Str → Option Value}
theorem regK9 : PySem.Challenge.rw_rw0097_01.foot = 7 ∧ K = K := by k_fill; exact ⟨rfl, rfl⟩
theorem truthy_led9 {prog : Program} {A : Around} {E : Value → Shared → Prop} {s : Shared} {h₀ : Heap} {L D : Addr} {news : List (Addr × Obj)} {its : Array Value} {k : Nat} {Q : Bool → Shared → Prop}
    (N : News h₀ L s.heap news) (hm : (D, W.listOf its k) ∈ news) (hf : (its.size : Int) < 2 ^ 63) (hp : 0 < its.size) (h : Q true { s with toks := s.toks + 1 + 1 }) : wpAny (model prog w) A (truthy (.ref D)) Q E s := truthy_led N hm hf hp h
local macro_rules | `(tactic| walk_at "call ref") => `(tactic| (k_here; refine rest_here ?_))
local macro_rules | `(tactic| walk_at "binaryOp Mult ref int") => `(tactic| (k_here; refine rest_here ?_))
local macro_rules | `(tactic| k_mem) => `(tactic| first | exact List.mem_cons_self | (with_reducible assumption) | (refine' List.mem_cons_of_mem _ ?_; k_mem))
local macro_rules | `(tactic| k_all) => `(tactic| first | assumption | (intro p hp; (rename (∀ p ∈ _, @LT.lt Nat _ (Prod.fst p) _) => hRR); (have hh := hRR p hp); refine neN ?_; (try dsimp only); omega))
theorem ints_rep (t : Tok) : ∀ n : Nat, IntsAre (List.replicate n (Value.int 0 t)) (List.replicate n 0)
  | 0 => .nil
  | n + 1 => .cons _ _ (ints_rep t n)
theorem rep_list {prog : Program} {A : Around} {E : Value → Shared → Prop} {s : Shared} {h₀ : Heap} {L D : Addr} {m : Str → Option Value} {news : List (Addr × Obj)} {t u : Tok} {x : Int} {n : Nat} {Q : Value → Shared → Prop} (F : Fr h₀ L s.heap m) (N : News h₀ L s.heap ((D, W.listOf #[.int 0 t] 0) :: news)) (hx : x = (n : Int)) (hn : n ≤ 256)
    (h : ∀ D' h' (its : Array Value), IntsAre its.toList (List.replicate n 0) → its.size = n → Fr h₀ L h' m → News h₀ L h' ((D', W.listOf its 0) :: news) → (∀ p ∈ news, @LT.lt Nat _ p.1 D') → Q (.ref D') { s with heap := h' }) : wpAny (model prog w) A (binaryOp .Mult (.ref D) (.int x u)) Q E s := by
  subst hx
  refine KMa.mul (vs := [.int 0 t]) (ws := List.replicate n (Value.int 0 t)) F N (N.isList (.head _)) (by omega) (by omega) (by simp; omega) ?_ fun D' h' F' N' l1 => h D' h' _ (ints_rep t n) (by simp) F' (fun q hq => N' q ?_) fun q hq => l1 q (.tail _ hq)
  · rw [Int.toNat_natCast]
    clear h hn
    induction n with
    | zero => rfl
    | succ n ih => rw [List.replicate_succ, List.flatten_cons, ih, List.replicate_succ]; rfl
  · rcases List.mem_cons.mp hq with rfl | hq
    · exact .head _
    · exact .tail _ (.tail _ hq)
theorem mem_rest {D : Addr} {o : Obj} {pre post : List (Addr × Obj)} {q : Addr × Obj} (h : q ∈ pre ++ (D, o) :: post) (hn : q.1 ≠ D) : q ∈ pre ++ post := by
  rcases List.mem_append.mp h with h | h
  · exact List.mem_append_left _ h
  · rcases List.mem_cons.mp h with rfl | h
    · exact absurd rfl hn
    · exact List.mem_append_right _ h
theorem inner2_at {f c' cN cI cD D : Addr} {oN oI oD oc : Obj} {vsC : Array Value} {tq tW : Tok} {qual : Str} {ia : Arguments} {ib : List Stmt} {isc : Scope} (hparts : nestedAt2 4 = some (ia, ib, isc)) {k : Nat} {ns : List Int} {width : Int} {doc pm ctv : Value} {Ld : List (Addr × Obj)} {g : Obj → List (Addr × Obj)} {cur : List Int} {its : Array Value} {V : Int} {Hi : Nat} {lL lR : Int}
    {tX tL tR : Tok} {dp un : Nat} {gd : Option (List Code)} {cn : Str} {cs : Scope} {a : Addr} {ccd : Value} {cl : List (Str × Addr)} {outer : List Env} {A₀ : Around} {base h₀ : Heap} {L : Addr} {m : Str → Option Value} {s : Shared} {Q E : Value → Shared → Prop}
    (U : UpdF D (W.listOf its k) Ld g)
    (hf : (f, fnMade (Str.ofString "inner") qual ia ib isc [(Str.ofString "n", cN), (Str.ofString "inner", cI), (Str.ofString "a_digits", cD)] doc pm c' ctv) ∈ Ld) (hc : (c', oc) ∈ Ld) (hcd : oc.data = .fields vsC) (hcv : vsC[1]? = some (.str qual tq))
    (mN : (cN, oN) ∈ Ld) (dN : oN.data = .cell (some (.int width tW))) (mI : (cI, oI) ∈ Ld) (dI : oI.data = .cell (some (.ref f))) (mD : (cD, oD) ∈ Ld) (dD : oD.data = .cell (some (.ref D)))
    (nf : f ≠ D) (nc : c' ≠ D) (nN : cN ≠ D) (nI : cI ≠ D) (nD : cD ≠ D)
    (hb : ∀ x ∈ ns, 0 ≤ x ∧ x < 2 ^ width.toNat) (hb2 : ∀ A B, (segV width.toNat ns A B).natAbs < 2 ^ 400) (hl : ns.length ≤ 30) (hn : 1 ≤ ns.length) (hw : 1 ≤ width ∧ width ≤ 11) (hV : segV width.toNat ns 0 ns.length = V) (hlL : lL = 0) (hlR : lR = (ns.length : Int))
    (hcl : cur.length = ns.length) (hI : IntsAre its.toList cur) (B : Below A₀ base outer h₀) (F : Fr h₀ L s.heap m) (X : (K w.params).In h₀) (N : News h₀ L s.heap Ld) (T : Top p lo mean mg mb h₀) (hk : cs.kind = .function) (C : CodeHd base 28 24) (hd : dp + 31 < recursionLimit) (hu : un + 8 * 30 + 8 < cLine)
    (hret : ∀ its' h' tk', IntsAre its'.toList ns → Fr h₀ L h' m → News h₀ L h' (g (W.listOf its' k)) → Q .none { s with heap := h', toks := tk' }) :
      wpAny (model P0 w) (ktrTop dp un gd cn cs L a ccd cl outer) (call (.ref f) [.int V tX, .int lL tL, .int lR tR]) Q E s := by
  subst hV hlL hlR
  obtain ⟨pre, post, rfl, hg, a1, a2⟩ := U.split
  have hnD : ∀ p ∈ pre ++ post, p.1 ≠ D := fun q hq => by
    rcases List.mem_append.mp hq with hq | hq
    · exact a1 q hq
    · exact a2 q hq
  refine spec_inner2 hparts (k := k) (rest := pre ++ post) (mem_rest hf nf) (mem_rest hc nc) hcd hcv (mem_rest mN nN) dN (mem_rest mI nI) dI (mem_rest mD nD) dD hnD hb hb2 (by omega) hw ns.length 0 ns.length (by omega) (Nat.le_refl _) (by omega) cur its tX tL tR dp un gd cn cs a ccd cl outer A₀ base h₀ L m s Q E hcl hI B F X (fun q hq => N q ?_) T hk C (by omega) (by omega) fun its' h' tk' I' F' N' => hret its' h' tk' (by rw [wrote_all hcl] at I'; exact I') F' fun q hq => N' q ?_
  · rcases List.mem_cons.mp hq with rfl | hq
    · exact List.mem_append_right _ (.head _)
    · rcases List.mem_append.mp hq with hq | hq
      · exact List.mem_append_left _ hq
      · exact List.mem_append_right _ (.tail _ hq)
  · rw [hg] at hq
    rcases List.mem_append.mp hq with hq | hq
    · exact .tail _ (List.mem_append_left _ hq)
    · rcases List.mem_cons.mp hq with rfl | hq
      · exact .head _
      · exact .tail _ (List.mem_append_right _ hq)
noncomputable abbrev ps24 (c : Addr) : Array Value := #[rawInt 19, rawInt 4, .ref c]
noncomputable def I2DPost (ns : List Int) (ps : Array Value) (rest : List (Addr × Obj)) (v : Value) (nw : List (Addr × Obj)) : Prop := ∃ D its k c oc, v = .ref D ∧ (D, W.listOf its k) ∈ nw ∧ IntsAre its.toList ns ∧ HitOb q24 oc ∧ (24, tabObj (ps24 c)) ∈ nw ∧ (c, oc) ∈ nw ∧ ((ps = ps24 c ∧ (c, oc) ∈ rest) ∨ ∀ p ∈ rest, p.1 ≠ c) ∧ ∀ p ∈ rest, p ∈ nw
theorem spec_i2d (ns : List Int) (width : Int) (ta t : Tok) (ps : Array Value) (rest : List (Addr × Obj)) (hst : ps = #[] ∨ ∃ c oc, ps = ps24 c ∧ (c, oc) ∈ rest ∧ HitOb q24 oc) (hr : ∀ p ∈ rest, p.1 ≠ 24) (hne : 1 ≤ ns.length) (hl : ns.length ≤ 30) (hw : 1 ≤ width ∧ width ≤ 11) (hb : ∀ x ∈ ns, 0 ≤ x ∧ x < 2 ^ width.toNat) (hlast : 2 ^ (width.toNat * (ns.length - 1)) ≤ valD width.toNat ns) :
    LClaim P0 w (K w.params) p lo mean mg mb 29 ((24, tabObj ps) :: rest) [.int (valD width.toNat ns) ta, .int width t] 40 400 (I2DPost ns ps rest) := by
  dsimp only [LClaim]; intros; rename_i hret
  refine wpAny_call ?_
  k_dflt (refine' code_defC ?k1 ?k2 ?k3 ?k4 ?k5 ?kA ?kF ?kK ?k6 ?k7 ?k8 ?k9 ?kB ?kD ?_ ?c2 ?c3 ?c4; (case kA => exact rfl); (case kF => exact rfl); (case kK => assumption); (case k1 => k_asm); (case k2 => k_asm); (case k3 => k_asm); (case k4 => k_asm); (case k5 => k_asm); (case k6 => k_is); (case k7 => k_is); (case k8 => ktr_room); (case k9 => exact BindsTo.of_eq rfl); (case kB => exact rfl); (case kD => decide +kernel); (case c2 => exact rfl); (case c3 => exact rfl); (case c4 => exact rfl); k_whole; intro g' L' h' tk' cells' FG' F' N' Y' B' X' T' l1)
  obtain ⟨oi, on, od, hE, di, dn, dd⟩ := CellsAre.three Y'
  subst hE
  clear Y'
  simp only [List.cons_append, List.nil_append] at N'
  dsimp only
  try k_fold
  refine noE ?_
  have e1 : od.data = .cell (some (.int width t)) := dd
  have e2 : on.data = .cell none := dn
  have e3 : oi.data = .cell none := di
  clear di dn dd
  have l24 : @LT.lt Nat _ 24 L' := l1 _ (.head _)
  have hrL : ∀ p ∈ rest, @LT.lt Nat _ (Prod.fst p) L' := fun p hp => l1 p (.tail _ hp)
  clear l1
  have hwN : (width.toNat : Int) = width := Int.toNat_of_nonneg (by omega)
  have hv1 : valD width.toNat ns < 2 ^ (width.toNat * ns.length) := (valD_lt2 hb).2
  have hp0 : (0 : Int) < 2 ^ (width.toNat * (ns.length - 1)) := Int.pow_pos (by decide)
  have hcnt := digits_count (w := width.toNat) (n := ns.length) (by omega) hne hlast hv1
  rw [hwN] at hcnt
  have hvp : 0 < valD width.toNat ns := by omega
  have hb2 : ∀ A B, (segV width.toNat ns A B).natAbs < 2 ^ 400 := by
    intro A B
    have hh := segV_lt (w := width.toNat) (ns := ns) (by omega) (fun x hx => ?_) hl A B
    · exact hh
    · have h1 := hb x hx
      have h2 : (2 : Int) ^ width.toNat ≤ 2 ^ 21 := by exact_mod_cast Nat.pow_le_pow_right (by decide : 0 < 2) (show width.toNat ≤ 21 by omega)
      exact ⟨h1.1, by omega⟩
  have hall := segV_all (w := width.toNat) (ns := ns)
  generalize hV : valD width.toNat ns = V at *
  clear hp0 hv1 hlast
  have hcur : ∀ tz, (List.replicate ns.length (Value.int 0 tz)).toArray.size = ns.length := fun tz => by simp
  rcases hst with rfl | ⟨c0, oc0, rfl, mc0, hit0⟩
  · k_steps
    unfold Rest
    rename News _ _ _ ((_, W.listOf #[Value.int 0 _] 0) :: _) => NN
    refine rep_list (n := ns.length) (by k_asm) NN hcnt (by omega) ?_
    clear NN
    intro D9 h9 its9 I9 z9 F9 N9 l9
    k_lt l9
    dsimp only
    k_steps
    · unfold Rest
      k_dflt (refine' inner2_at (ns := ns) (hparts := ?p0) (U := ?U) ?hf ?hc ?hcd ?hcv ?mN ?dN ?mI ?dI ?mD ?dD ?nf ?nc ?nN ?nI ?nD hb hb2 hl hne hw ?hV ?hlL ?hlR ?hcl ?hI ?k1 ?k2 ?k3 ?k4 ?k5 ?kK ?kC ?kd ?ku ?kR)
      case k1 => k_asm
      case k2 => k_asm
      case k3 => k_asm
      case k4 => k_asm
      case k5 => k_asm
      case hf => exact List.mem_cons_self
      case p0 => exact rfl
      case hI => exact I9
      case mD => k_mem
      case dD => assumption
      case U => k_updF
      case hc => exact .tail _ (.head _)
      case hcd => assumption
      case hcv => assumption
      case mN => k_mem
      case dN => assumption
      case mI => k_mem
      case dI => assumption
      case nf => k_ne
      case nc => k_ne
      case nN => k_ne
      case nI => k_ne
      case nD => k_ne
      case hV => exact hall
      case hlL => rfl
      case hlR => rfl
      case hcl => simp
      case kK => exact rfl
      case kC => exact CodeHd.keeps (by assumption) (fun _ _ e => e)
      case kd => dsimp only [ktrTop]; omega
      case ku => dsimp only [ktrTop]; omega
      case kR =>
        intro its8 h8 tk8 I8 F8 N8
        dsimp only at N8 ⊢
        k_steps
        refine hret _ _ _ _ (by assumption) (by assumption) ?_
        refine ⟨_, its8, 0, _, _, rfl, by k_mem, I8, ⟨_, _, by assumption, by assumption⟩, by k_mem, .tail _ (.head _), .inr (by rename _ ∧ _ ∧ _ ∧ _ ∧ _ ∧ AllLt _ rest => lA; exact fun q hq => Nat.ne_of_lt (allLt_mem lA.2.2.2.2.2 q hq)), fun q hq => .tail _ (.tail _ (.tail _ (.tail _ (.tail _ (.tail _ (.tail _ hq))))))⟩
      case _ => exact 0
    · omega
  · obtain ⟨vs0, t0, hc1, hc2⟩ := hit0
    have hit0 : HitOb q24 oc0 := ⟨vs0, t0, hc1, hc2⟩
    have nc0 : @Ne Nat c0 24 := hr _ mc0
    have lc0 : @LT.lt Nat _ c0 L' := hrL _ mc0
    k_steps
    unfold Rest
    rename News _ _ _ ((_, W.listOf #[Value.int 0 _] 0) :: _) => NN
    refine rep_list (n := ns.length) (by k_asm) NN hcnt (by omega) ?_
    clear NN
    intro D9 h9 its9 I9 z9 F9 N9 l9
    k_lt l9
    dsimp only
    k_steps
    · unfold Rest
      k_dflt (refine' inner2_at (ns := ns) (hparts := ?p0) (U := ?U) ?hf ?hc ?hcd ?hcv ?mN ?dN ?mI ?dI ?mD ?dD ?nf ?nc ?nN ?nI ?nD hb hb2 hl hne hw ?hV ?hlL ?hlR ?hcl ?hI ?k1 ?k2 ?k3 ?k4 ?k5 ?kK ?kC ?kd ?ku ?kR)
      case k1 => k_asm
      case k2 => k_asm
      case k3 => k_asm
      case k4 => k_asm
      case k5 => k_asm
      case hf => exact List.mem_cons_self
      case p0 => exact rfl
      case hI => exact I9
      case mD => k_mem
      case dD => assumption
      case U => k_updF
      case hc => exact .tail _ (.tail _ (.tail _ (.tail _ (.tail _ (.tail _ mc0)))))
      case hcd => exact hc1
      case hcv => exact hc2
      case mN => k_mem
      case dN => assumption
      case mI => k_mem
      case dI => assumption
      case nf => k_ne
      case nc => k_ne
      case nN => k_ne
      case nI => k_ne
      case nD => k_ne
      case hV => exact hall
      case hlL => rfl
      case hlR => rfl
      case hcl => simp
      case kK => exact rfl
      case kC => exact CodeHd.keeps (by assumption) (fun _ _ e => e)
      case kd => dsimp only [ktrTop]; omega
      case ku => dsimp only [ktrTop]; omega
      case kR =>
        intro its8 h8 tk8 I8 F8 N8
        dsimp only at N8 ⊢
        k_steps
        refine hret _ _ _ _ (by assumption) (by assumption) ?_
        refine ⟨_, its8, 0, c0, oc0, rfl, by k_mem, I8, hit0, by k_mem, .tail _ (.tail _ (.tail _ (.tail _ (.tail _ (.tail _ mc0))))), .inl ⟨rfl, mc0⟩, fun q hq => .tail _ (.tail _ (.tail _ (.tail _ (.tail _ (.tail _ hq)))))⟩
      case _ => exact 0
    · omega
end
end Mine
end
section
open PySem PySem.W PyProof.Rows PySem.Calls PySem.Spec
set_option Elab.async false
set_option maxRecDepth 100000
set_option maxHeartbeats 0
namespace Mine
section
variable {prog : Program} {w : World} {A : Around} {E : Value → Shared → Prop} {s : Shared}
theorem pairs_ints : ∀ {ps : List (Sem Value × Sem Value)} {zs : List (Int × Int)} {s : Shared}, Trees prog w A ps zs → wpAny (model prog w) A (evalPairs ps) (fun vs s' => ∃ kvs tk, Carries (intKind prog w) vs kvs ∧ IntVals zs kvs ∧ s' = { s with toks := tk }) E s
  | [], [], s, .nil => evalPairs_nil ⟨[], s.toks, trivial, .nil, rfl⟩
  | _, _, s, .cons (x := x) (y := y) ta tb hT => by
    refine evalPairs_cons (ta _ _ _ fun k1 tk1 => tb _ _ _ fun k2 tk2 => ?_)
    refine wpAny_mono (pairs_ints hT) (fun vs s' hy => ?_) fun _ _ e => e
    obtain ⟨kvs, tk, hc, hv, rfl⟩ := hy
    exact ⟨(x, .int y k2) :: kvs, tk, ⟨intKind_is prog w x k1, rfl, hc⟩, .cons x y k2 hv, rfl⟩
theorem sub_short {ps : List (Sem Value × Sem Value)} {zs : List (Int × Int)} {Q : Addr → Shared → Prop} (ht : Trees prog w A ps zs) (hlen : ps.length ≤ 15) (nd : (zs.map (·.1)).Nodup)
    (h : ∀ h' tk kvs, h'.DictOf (intKind prog w) s.heap.objs.size kvs → IntVals zs kvs → (∀ b o, s.heap.get? b = some o → h'.get? b = some o) → Q s.heap.objs.size { s with heap := h', toks := tk }) :
    wpAny (model prog w) A (subDict ps) Q E s := by
  refine wpAny_subDict (knd := intKind prog w) hlen (wpAny_mono (pairs_ints ht) (fun vs s' hy => ?_) fun _ _ e => e)
  obtain ⟨kvs, tk, hc, hv, rfl⟩ := hy
  refine ⟨kvs, hc, Heap.DictOf.new _, fun h' hD hs => ?_⟩
  rw [merged_nil_of_nodup kvs (by rw [hv.keys]; exact nd)] at hD
  exact h h' _ kvs hD hv fun b o e => (hs.2 b (Nat.ne_of_lt (Heap.lt_size e))).trans (Heap.get?_push_of_some _ e)
/-- a display of 18 to 32 ints -/
theorem display_ints {ps : List (Sem Value × Sem Value)} {zs : List (Int × Int)} {Q : Value → Shared → Prop} (ht : Trees prog w A ps zs) (h1 : 17 < ps.length) (h2 : ps.length ≤ 32) (nd : (zs.map (·.1)).Nodup) (hlo : sysModules < s.heap.objs.size)
    (h : ∀ h' tk kvs, h'.DictOf (intKind prog w) s.heap.objs.size kvs → IntVals zs kvs → (∀ b o, s.heap.get? b = some o → h'.get? b = some o) → Q (.ref s.heap.objs.size) { s with heap := h', toks := tk }) :
    wpAny (model prog w) A (dictDisplay (ps.map fun p => (some p.1, p.2))) Q E s := by
  have hsplit : ∀ n, ∀ {ps : List (Sem Value × Sem Value)} {zs : List (Int × Int)}, Trees prog w A ps zs → Trees prog w A (ps.take n) (zs.take n) ∧ Trees prog w A (ps.drop n) (zs.drop n) := by
    intro n
    induction n with
    | zero => intro ps zs h; exact ⟨by simpa using Trees.nil, by simpa using h⟩
    | succ n ih =>
      intro ps zs h
      cases h with
      | nil => exact ⟨.nil, .nil⟩
      | cons a b r => exact ⟨.cons a b (ih r).1, (ih r).2⟩
  obtain ⟨t1, t2⟩ := hsplit 17 ht
  have hzl : ps.length = zs.length := by
    clear h h1 h2 nd hlo hsplit t1 t2
    induction ht with
    | nil => rfl
    | cons a b r ih => simp [ih]
  unfold dictDisplay
  dsimp only
  refine wpAny_bind ?_
  refine wpAny_forIn_list _
    (fun rest b s' => ∃ i, i ≤ ps.length ∧ rest = (ps.drop i).map (fun p => (some p.1, p.2)) ∧ ((i < 17 ∧ b = (none, ps.take i) ∧ s' = s) ∨ (17 ≤ i ∧ ∃ h' tk kvs, b = (some s.heap.objs.size, (ps.take i).drop 17) ∧ s' = { s with heap := h', toks := tk } ∧ h'.DictOf (intKind prog w) s.heap.objs.size kvs ∧ IntVals (zs.take 17) kvs ∧ (∀ b o, s.heap.get? b = some o → h'.get? b = some o) ∧ s.heap.objs.size < h'.objs.size)))
    _ ?_ ?_ _ _ ⟨0, Nat.zero_le _, rfl, .inl ⟨by decide, rfl, rfl⟩⟩
  · rintro x rest b s' ⟨i, hi, hr, hcase⟩
    have hlt : i < ps.length := by
      rcases Nat.lt_or_ge i ps.length with h | h
      · exact h
      · rw [List.drop_of_length_le h] at hr; cases hr
    rw [List.drop_eq_getElem_cons hlt, List.map_cons] at hr
    injection hr with hx hrest
    subst hx
    have htk : ps.take (i + 1) = ps.take i ++ [(ps[i].1, ps[i].2)] := by rw [List.take_add_one, List.getElem?_eq_getElem hlt]; rfl
    rcases hcase with ⟨h17, rfl, rfl⟩ | ⟨h17, h', tk, kvs, rfl, rfl, hD, hV, hk, hs⟩
    · dsimp only
      rw [← htk]
      have hle : (ps.take (i + 1)).length = i + 1 := by rw [List.length_take]; omega
      by_cases h16 : i = 16
      · subst h16
        rw [if_pos (by rw [hle]; rfl)]
        rw [if_neg (by rw [List.isEmpty_iff]; intro q; rw [q] at hle; cases hle)]
        refine wpAny_bind (wpAny_bind (sub_ints t1 (by rw [hle]; decide) (by rw [List.length_take]; omega) (by rw [List.map_take]; exact nd.sublist (List.take_sublist _ _)) fun h' tk kvs hD hV hk hs => ?_))
        refine wpAny_pure (wpAny_pure ?_)
        exact ⟨17, by omega, hrest, .inr ⟨Nat.le_refl _, h', tk, kvs, by simp, rfl, hD, hV, hk, hs⟩⟩
      · rw [if_neg (by rw [hle]; simp; omega)]
        exact wpAny_pure ⟨i + 1, hlt, hrest, .inl ⟨by omega, rfl, rfl⟩⟩
    · dsimp only
      have hle : ((ps.take (i + 1)).drop 17).length = i + 1 - 17 := by rw [List.length_drop, List.length_take]; omega
      have hcat : (ps.take i).drop 17 ++ [(ps[i].1, ps[i].2)] = (ps.take (i + 1)).drop 17 := by
        rw [htk, List.drop_append_of_le_length (by rw [List.length_take]; omega)]
      rw [hcat, if_neg (by rw [hle]; simp; omega)]
      exact wpAny_pure ⟨i + 1, hlt, hrest, .inr ⟨by omega, h', tk, kvs, rfl, rfl, hD, hV, hk, hs⟩⟩
  · rintro b s' ⟨i, hi, hr, hcase⟩
    have hie : i = ps.length := by
      rcases Nat.lt_or_ge i ps.length with h | h
      · rw [List.drop_eq_getElem_cons h] at hr; cases hr
      · omega
    subst hie
    rcases hcase with ⟨h17, _, _⟩ | ⟨h17, h', tk, kvs, rfl, rfl, hD, hV, hk, hs⟩
    · omega
    · rw [List.take_length]
      have hle : (ps.drop 17).length = ps.length - 17 := List.length_drop ..
      dsimp only
      rw [if_neg (by rw [List.isEmpty_iff]; intro q; rw [q] at hle; simp at hle; omega)]
      refine wpAny_bind (wpAny_bind (wpAny_holding (sub_short t2 (by omega) (by rw [List.map_drop]; exact nd.sublist (List.drop_sublist _ _)) fun h2 tk2 kvs2 hD2 hV2 hk2 => ?_)))
      have hl1 := hV.len
      have hl2 := hV2.len
      have hz17 : (zs.take 17).length = 17 := by rw [List.length_take]; omega
      refine wpAny_bind (wpAny_onRaise (wpAny_holding (merge_dicts (acc := kvs) (kvs := kvs2) ?_ hD2 ?_ ?_ ?_ ?_ ?_ fun h3 hD3 hs3 => ?_)))
      · obtain ⟨o, es, ep, ho, r⟩ := hD
        exact ⟨o, es, ep, hk2 _ _ ho, r⟩
      · intro q; rw [q, hz17] at hl1; cases hl1
      · exact Nat.ne_of_gt hs
      · exact beq_eq_false_iff_ne.mpr (Nat.ne_of_gt (Nat.lt_trans hlo hs))
      · rw [hl1, hl2, List.length_take, List.length_drop]; omega
      · rw [(hV.append hV2).keys, List.take_append_drop]; exact nd
      · refine wpAny_pure (wpAny_pure (h h3 _ (kvs ++ kvs2) hD3 ?_ fun b o e => ?_))
        · have := hV.append hV2
          rwa [List.take_append_drop] at this
        · exact (hs3.2 b (Nat.ne_of_lt (Heap.lt_size e))).trans (hk2 _ _ (hk _ _ e))
theorem Dict_ints {env : Env} {keys : List (Option PySem.Expr)} {values : List PySem.Expr} {pos : Pos} {zs : List (Int × Int)} {Q : Value → Shared → Prop}
    (hall : keys.all (·.isSome) = true) (hl : keys.length = values.length) (ht : Trees prog w A (pairTrees keys values env pos) zs) (h1 : 17 < keys.length) (h2 : keys.length ≤ 32) (nd : (zs.map (·.1)).Nodup) (hlo : sysModules < s.heap.objs.size)
    (h : ∀ h' tk kvs, h'.DictOf (intKind prog w) s.heap.objs.size kvs → IntVals zs kvs → (∀ b o, s.heap.get? b = some o → h'.get? b = some o) → Q (.ref s.heap.objs.size) { s with heap := h', toks := tk }) :
    wpAny (model prog w) A (eval (.Dict keys values pos) env) Q E s := by
  have hn := pairTrees_length keys values env pos hall hl
  rw [arm_eval_Dict, zip_pairTrees keys values env pos hall hl]
  exact wpAny_bind (wpAny_standAt (display_ints ht (by omega) (by omega) nd hlo h))
end
end Mine
end
section
open PySem PySem.W PyProof.Rows PyProof.Rows.LCg PyProof.Rows.LCt
set_option Elab.async false
set_option maxRecDepth 100000
set_option maxHeartbeats 0
namespace Mine
noncomputable def litInts : List (Option PySem.Expr) → List PySem.Expr → List (Int × Int)
  | some (.Constant (.int x) _ _) :: ks, .Constant (.int y) _ _ :: vs => (x, y) :: litInts ks vs
  | _, _ => []
noncomputable def allLits : List (Option PySem.Expr) → List PySem.Expr → Bool
  | some (.Constant (.int _) _ _) :: ks, .Constant (.int _) _ _ :: vs => allLits ks vs
  | [], [] => true
  | _, _ => false
theorem const_tree {prog : Program} {w : World} {A : Around} {env : Env} {n : Int} {k : Nat} {pos : Pos} : IntTree prog w A (eval (.Constant (.int n) k pos) env) n := fun s Q E h => wpAny_Constant_int (h _ _)
theorem lits_split {k : Option PySem.Expr} {v : PySem.Expr} {ks : List (Option PySem.Expr)} {vs : List PySem.Expr} (h : allLits (k :: ks) (v :: vs) = true) : ∃ x a b y c d, k = some (.Constant (.int x) a b) ∧ v = .Constant (.int y) c d ∧ allLits ks vs = true := by
  unfold allLits at h
  split at h
  · rename_i e1 e2
    cases e1; cases e2
    exact ⟨_, _, _, _, _, _, rfl, rfl, h⟩
  · rename_i e1 _; cases e1
  · exact absurd h (by decide)
theorem trees_lits {prog : Program} {w : World} {A : Around} {env : Env} {pos : Pos} {ks : List (Option PySem.Expr)} {vs : List PySem.Expr} (h : allLits ks vs = true) : Trees prog w A (pairTrees ks vs env pos) (litInts ks vs) := by
  induction ks generalizing vs with
  | nil =>
    cases vs with
    | nil => exact .nil
    | cons v vs => exact absurd h (by simp [allLits])
  | cons k ks ih =>
    cases vs with
    | nil => exact absurd h (by simp [allLits])
    | cons v vs =>
      obtain ⟨x, a, b, y, c, d, rfl, rfl, h⟩ := lits_split h
      exact .cons const_tree (fun s Q E hh => wpAny_bind (const_tree _ _ _ fun k tk => wpAny_bind (wpAny_standAt (wpAny_pure (hh k tk))))) (ih h)
noncomputable def gapsKV : List (Option PySem.Expr) × List PySem.Expr := match partsAt 13 with
  | some (_, _, PySem.Stmt.Return (some (.Dict ks vs _)) _ :: _, _) => (ks, vs)
  | _ => ([], [])
noncomputable def gapsZ : List (Int × Int) := litInts gapsKV.1 gapsKV.2
noncomputable def gapF (k : Int) : Option Int := (gapsZ.find? fun p => p.1 == k).map (·.2)
theorem gapsZ_nd : (gapsZ.map (·.1)).Nodup := by decide +kernel
theorem gapsZ_ok : ∀ p ∈ gapsZ, 0 ≤ p.2 ∧ p.2 < 1114112 := by decide +kernel
theorem gaps_ok {kvs : List (Int × Value)} (h : IntVals gapsZ kvs) : GapsOk gapF kvs := fun k => by
  have e := vals_find h k
  unfold gapF
  cases hq : gapsZ.find? fun p => p.1 == k with
  | some p =>
    rw [hq] at e
    have := gapsZ_ok p (List.mem_of_find?_eq_some hq)
    exact ⟨this.1, this.2, e⟩
  | none => rw [hq] at e; exact e
theorem Dict_gaps {prog : Program} {w : World} {A : Around} {E : Value → Shared → Prop} {s : Shared} {env : Env} {keys : List (Option PySem.Expr)} {values : List PySem.Expr} {pos : Pos} {Q : Value → Shared → Prop} {h₀ : Heap} {L : Addr} {m : Str → Option Value} {news : List (Addr × Obj)} (F : Fr h₀ L s.heap m) (N : News h₀ L s.heap news) (hb : h₀.NoLimit)
    (e : litInts keys values = gapsZ) (ha : allLits keys values = true) (hall : keys.all (·.isSome) = true) (hl : keys.length = values.length) (h1 : 17 < keys.length) (h2 : keys.length ≤ 32)
    (h : ∀ D oG h' tk kvs, oG.IsDictOf (intKind prog w) kvs → GapsOk gapF kvs → (D == sysModules) = false → Fr h₀ L h' m → News h₀ L h' ((D, oG) :: news) → (∀ p ∈ news, @LT.lt Nat _ p.1 D) → Q (.ref D) { s with heap := h', toks := tk }) :
    wpAny (model prog w) A (eval (.Dict keys values pos) env) Q E s :=
  Dict_ints hall hl (trees_lits ha) h1 h2 (by rw [e]; exact gapsZ_nd) (Nat.lt_trans (modules_low hb) (Nat.lt_of_le_of_lt F.above F.ns.lt)) fun h' tk kvs hD hV hk => by
    obtain ⟨o, ho, hd⟩ := Heap.dictOf_iff.mp hD
    exact h _ o h' tk kvs hd (gaps_ok (e ▸ hV)) (F.notModules (modules_low hb)) (F.keeps hk) (news_pushed F N hk ho rfl) fun p hp => Heap.lt_size (N p hp).1
noncomputable def GapsPost (news : List (Addr × Obj)) (w : World) (v : Value) (nw : List (Addr × Obj)) : Prop := ∃ D oG kvs, v = .ref D ∧ nw = (D, oG) :: news ∧ oG.IsDictOf (PySem.intKind P0 w) kvs ∧ GapsOk gapF kvs ∧ (D == sysModules) = false ∧ ∀ p ∈ news, @LT.lt Nat _ p.1 D
section
variable {w : World} {p : Program} {lo : List Str} {mean : ExcName → Option Value} {mg mb : Str → Option Value}
theorem regK10 : PySem.Challenge.rw_rw0097_01.foot = 7 ∧ K = K := by k_fill; exact ⟨rfl, rfl⟩
local macro_rules | `(tactic| walk_at "eval Dict") => `(tactic| (k_here; refine rest_here ?_))
local macro_rules | `(tactic| k_mem) => `(tactic| first | exact List.mem_cons_self | (with_reducible assumption) | (refine' List.mem_cons_of_mem _ ?_; k_mem))
local macro_rules | `(tactic| k_all) => `(tactic| first | assumption | (intro p hp; (rename (∀ p ∈ _, @LT.lt Nat _ (Prod.fst p) _) => hRR); (have hh := hRR p hp); refine neN ?_; (try dsimp only); omega))
theorem spec_gaps (news : List (Addr × Obj)) :
    LClaim P0 w (K w.params) p lo mean mg mb 114 news [] 60 600 (GapsPost news w) := by
  dsimp only [LClaim]; intros; rename_i hret
  refine wpAny_call ?_
  k_dflt cell_enter
  refine noE ?_
  k_steps
  unfold Rest
  k_dflt (refine' Dict_gaps ?F ?N ?b ?a1 ?a2 ?a3 ?a4 ?a5 ?a6 ?_; (case F => k_asm); (case N => k_asm); (case b => exact Top.nolimit (by k_asm)))
  case a1 => kernel_rfl
  case a2 => kernel_rfl
  case a3 => kernel_rfl
  case a4 => kernel_rfl
  case a5 => decide +kernel
  case a6 => decide +kernel
  intro D oG h9 tk9 kvs hd hg hlo F9 N9 l9
  dsimp only
  k_steps
  refine hret _ _ _ _ (by assumption) (by assumption) ⟨D, oG, kvs, rfl, rfl, hd, hg, hlo, l9⟩
end
end Mine
end
section
open PySem PySem.W PyProof.Rows PySem.Calls PySem.Spec
set_option Elab.async false
set_option maxRecDepth 100000
set_option maxHeartbeats 0
namespace Mine
section
variable {prog : Program} {w : World} {A : Around} {E : Value → Shared → Prop} {s : Shared} {h₀ : Heap} {L d : Addr} {m : Str → Option Value} {news : List (Addr × Obj)} {o : Obj} {kvs : List (Int × Value)} {Q : Value → Shared → Prop}
theorem ints_of_keys : ∀ {vs : List Value} {ks : List Int}, vs.length = ks.length → (∀ (j : Nat) (v : Value), vs[j]? = some v → ∃ k, ks[j]? = some k ∧ (intKind prog w).is k v = true) → IntsAre vs ks
  | [], [], _, _ => .nil
  | [], _ :: _, h, _ => by cases h
  | _ :: _, [], h, _ => by cases h
  | v :: vs, k :: ks, h, hv => by
    obtain ⟨k', e, hk⟩ := hv 0 v rfl
    simp only [List.getElem?_cons_zero, Option.some.injEq] at e
    subst e
    have r := ints_of_keys (vs := vs) (ks := ks) (by simpa using h) fun j v hj => by simpa using hv (j + 1) v (by simpa using hj)
    cases v with
    | int n t =>
      have : n = k := by
        have := (intKind prog w).inj (.int n t) _ _ hk (intKind_is prog w n t)
        exact this.symm
      subst this
      exact .cons n t r
    | _ => exact absurd hk Bool.false_ne_true
/-- sorted(dict), the keys ints -/
theorem sorted_keys (hh : A.handled = none) (F : Fr h₀ L s.heap m) (N : News h₀ L s.heap news) (hp : (d, o) ∈ news) (hd : o.IsDictOf (PySem.intKind prog w) kvs) (lo : (d == sysModules) = false) (hl : kvs.length < 64)
    (h : ∀ B vs ns c h' tk, Fr h₀ L h' m → News h₀ L h' ((B, W.listOf (List.toArray vs) c) :: news) → (∀ q ∈ news, @LT.lt Nat _ q.1 B) → IntsAre vs ns → ns.Perm (kvs.map (·.1)) → ns.Pairwise (fun x y => x ≤ y) → Q (.ref B) { s with heap := h', toks := tk }) :
    wpAny (model prog w) A (call (.builtin "sorted") [.ref d]) Q E s := by
  have hD := kda_dict N hp hd
  obtain ⟨ep, hat⟩ := hD.dictAt
  refine kdu_sorted (kdl_dict (knd := PySem.intKind prog w) (kvs := kvs) (ep := ep) lo) hh F N hat (Nat.le_trans (Nat.le_of_lt hl) (by rw [sizeLine_eq]; decide)) fun B h' tk vs F' N' l1 hlen hv => ?_
  have hi : IntsAre vs (kvs.map (·.1)) := ints_of_keys (prog := prog) (w := w) (by rw [hlen, List.length_map]) fun j v hj => by
    obtain ⟨k, x, hx, hk⟩ := hv j v hj
    exact ⟨k, by rw [List.getElem?_map, hx]; rfl, hk⟩
  refine ksk_lsort (its := vs.toArray) (n := 0) F' N' (fun o => .head fun q hq => Nat.ne_of_lt (l1 q hq)) rfl hi (by rw [List.length_map]; exact hl) fun vs' ns' c h2 F2 N2 i2 e2 p2 o2 _ => ?_
  exact h B vs' ns' c h2 tk F2 N2 l1 i2 p2 o2
end
end Mine
end
section
open PySem PySem.W PyProof.Rows PyProof.Rows.LCg PyProof.Rows.LCt
set_option Elab.async false
set_option maxRecDepth 100000
set_option maxHeartbeats 0
namespace Mine
section
variable {w : World} {p : Program} {lo : List Str} {mean : ExcName → Option Value} {mg mb : Str → Option Value}
theorem regK11 : PySem.Challenge.rw_rw0097_01.foot = 7 ∧ K = K := by k_fill; exact ⟨rfl, rfl⟩
local macro_rules | `(tactic| walk_at "call ref") => `(tactic| (k_here; refine rest_here ?_))
local macro_rules | `(tactic| walk_at "exec For") => `(tactic| (k_here; refine rest_here ?_))
local macro_rules | `(tactic| walk_at "exec For Name BinOp cons nil") => `(tactic| (k_here; refine rest_here ?_))
local macro_rules | `(tactic| walk_at "pyIter ref") => `(tactic| (k_here; refine rest_here ?_))
local macro_rules | `(tactic| walk_at "exec While") => `(tactic| (k_here; refine rest_here ?_))
theorem draw_in {prog : Program} {w : World} {A : Around} {E : Value → Shared → Prop} {s : Shared} {h₀ : Heap} {L d : Addr} {news : List (Addr × Obj)} {o : Obj} {kvs : List (Int × Value)} {zs : List (Int × Int)} {k : Int} {t : Tok} {b : Bool} {Q : Value → Shared → Prop}
    (N : News h₀ L s.heap news) (hp : (d, o) ∈ news) (hd : o.IsDictOf (PySem.intKind prog w) kvs) (lo : (d == sysModules) = false) (hV : IntVals zs kvs) (hb : (zs.map (·.1)).contains k = b) (h : Q (.bool b) { s with toks := s.toks + 1 }) :
    wpAny (model prog w) A (compareOp .In (.int k t) (.ref d)) Q E s := kda_in N hp hd lo (intKind_is prog w k t) b (by rw [vals_in hV, hb]) h
local macro_rules | `(tactic| walk_at "compareOp In") => `(tactic| (k_here; refine' draw_in ?k1 ?k2 ?k3 ?k4 ?k5 ?k6 ?_; (case k1 => k_asm); (case k2 => k_mem); (case k3 => assumption); (case k4 => assumption); (case k5 => assumption); (case k6 => assumption)))
local macro_rules | `(tactic| walk_at "call builtin:sorted") => `(tactic| (k_here; refine rest_here ?_))
local macro_rules | `(tactic| walk_at "subscriptTail Name Name ref int") => `(tactic| (k_here; refine rest_here ?_))
local macro_rules | `(tactic| walk_at "CompSrc") => `(tactic| (refine rest_here ?_))
local macro_rules | `(tactic| walk_at "setItem") => `(tactic| (k_here; refine rest_here ?_))
local macro_rules | `(tactic| walk_at "setItem ref int") => `(tactic| (k_here; refine rest_here ?_))
local macro_rules | `(tactic| walk_at "eval ListComp") => `(tactic| (k_here; refine rest_here ?_))
local macro_rules | `(tactic| k_mem) => `(tactic| first | exact List.mem_cons_self | (with_reducible assumption) | (refine' List.mem_cons_of_mem _ ?_; k_mem))
local macro_rules | `(tactic| k_all) => `(tactic| first | assumption | (intro p hp; (rename (∀ p ∈ _, @LT.lt Nat _ (Prod.fst p) _) => hRR); (have hh := hRR p hp); refine neN ?_; (try dsimp only); omega))
local macro_rules | `(tactic| walk_at "subscriptTail") => `(tactic| (k_here; (with_reducible show wpAny _ _ (subscriptTail (PySem.Expr.List _ _) (PySem.Expr.Slice _ _ none _) (Value.ref _) (Value.ref _)) _ _ _); refine rest_here ?_))
/-- the loop over what is drawn: its state -/
noncomputable def drawnJ (w : World) (d : Addr) (NW : Obj → List (Addr × Obj)) (ys : List Int) (i : Nat) (_m : Str → Option Value) (nw : List (Addr × Obj)) : Prop :=
  ∃ od kvs, nw = NW od ∧ od.IsDictOf (PySem.intKind P0 w) kvs ∧ IntVals (drawKV (ys.take i)) kvs
noncomputable def placeW (x : Int) (tx : Tok) (ks : List Int) (NW : List (Addr × Obj)) (k : Nat) (m : Str → Option Value) (nw : List (Addr × Obj)) : Prop :=
  nw = NW ∧ m "x" = some (.int x tx) ∧ ∃ (p : Int) (tp : Tok), m "place" = some (.int p tp) ∧ 0 ≤ p ∧ p < 33 ∧ fpl k ks p = fpl 3 ks (x.fmod 33)
/-- a call that may turn the ledger and that reads a list of the base -/
noncomputable abbrev SClaim (prog : Program) (w : World) (K : Frag) (p : Program) (loose : List Str) (mean : ExcName → Option Value) (mg mb : Str → Option Value) (f S : Addr) (its : Array Value) (news : List (Addr × Obj)) (vs : List Value) (dn uN : Nat) (Post : Value → List (Addr × Obj) → Prop) : Prop :=
  ∀ (dp un : Nat) (gd : Option (List Code)) (cn : Str) (cs : Scope) (a : Addr) (ccd : Value) (cl : List (Str × Addr)) (outer : List Env) (A₀ : Around) (base h₀ : Heap) (L : Addr) (m : Str → Option Value) (s : Shared) (Q E : Value → Shared → Prop),
    Below A₀ base outer h₀ → Fr h₀ L s.heap m → K.In h₀ → News h₀ L s.heap news → Top p loose mean mg mb h₀ → cs.kind = .function → h₀.IsList S its → dp + dn < recursionLimit → un + uN < cLine →
    (∀ v h' tk' news', Fr h₀ L h' m → News h₀ L h' news' → Post v news' → Q v { s with heap := h', toks := tk' }) →
      wpAny (model prog w) (ktrTop dp un gd cn cs L a ccd cl outer) (call (.ref f) vs) Q E s
noncomputable def lookZ (zs : List (Int × Int)) (k : Int) : Int := ((zs.find? fun p => p.1 == k).map (·.2)).getD 0
noncomputable def DrawnIs (xs fs : List Int) : Prop := ∃ ns : List Int, ns.Perm ((drawKV (xs.take 3 ++ [1, 6, 4].drop xs.length)).map (·.1)) ∧ ns.Pairwise (fun x y => x ≤ y) ∧ fs = ns.map (lookZ (drawKV (xs.take 3 ++ [1, 6, 4].drop xs.length)))
noncomputable def DrawnPost (xs : List Int) (news : List (Addr × Obj)) (v : Value) (nw : List (Addr × Obj)) : Prop := ∃ D its k fs, v = .ref D ∧ nw = (D, W.listOf its k) :: news ∧ IntsAre its.toList fs ∧ DrawnIs xs fs ∧ Off1 D news
theorem spec_drawn (S : Addr) (its : Array Value) (xs : List Int) (hI : IntsAre its.toList xs) (hl : xs.length ≤ 63) (news : List (Addr × Obj)) :
    SClaim P0 w (K w.params) p lo mean mg mb 119 S its news [.ref S] 60 600 (DrawnPost xs news) := by
  dsimp only [SClaim]; intros; rename_i hret
  rename Heap.IsList _ _ _ => hS
  refine wpAny_call ?_
  k_dflt (refine' code_defC ?k1 ?k2 ?k3 ?k4 ?k5 ?kA ?kF ?kK ?k6 ?k7 ?k8 ?k9 ?kB ?kD ?_ ?c2 ?c3 ?c4; (case kA => exact rfl); (case kF => exact rfl); (case kK => assumption); (case k1 => k_asm); (case k2 => k_asm); (case k3 => k_asm); (case k4 => k_asm); (case k5 => k_asm); (case k6 => k_is); (case k7 => k_is); (case k8 => ktr_room); (case k9 => exact BindsTo.of_eq rfl); (case kB => exact rfl); (case kD => decide +kernel); (case c2 => exact rfl); (case c3 => exact rfl); (case c4 => exact rfl); k_whole; intro g' L' h' tk' cells' FG' F' N' Y' B' X' T' l1)
  obtain ⟨od, hE, dd⟩ := CellsAre.one Y'
  subst hE
  clear Y'
  simp only [List.cons_append, List.nil_append] at N'
  dsimp only
  try k_fold
  refine noE ?_
  have e1 : od.data = .cell none := dd
  clear dd
  have hrL : ∀ p ∈ news, @LT.lt Nat _ (Prod.fst p) L' := fun p hp => l1 p hp
  clear l1
  have hS' : g'.IsList S its := by obtain ⟨o, ho, r⟩ := hS; exact ⟨o, FG'.keep _ _ ho, r⟩
  k_steps
  unfold Rest
  refine for_rule (by intro _; rfl) ?_
  k_steps
  unfold Rest
  try unfold Rest
  rename News _ _ _ ((_, W.listOf #[_, _, _] 0) :: _) => N9
  rename_i d ha oF lo9 hs fs hD0 fi la hb oC hC9 D1 ws1 hc I7 hq1 hq2 lb l4 hd8 F7 lc
  k_dflt (refine' tmp_slice_ints (ms := List.drop xs.length [1, 6, 4]) ?F N9 (N9.isList (.head _)) (.int _ _) .none (kmk_from (ns := [1, 6, 4]) (.cons _ _ (.cons _ _ (.cons _ _ .nil))) ?le) ?z ?_ ?s; (case F => k_asm))
  case le => exact Int.natCast_nonneg _
  case z => show 3 ≤ sizeLine; rw [sizeLine_eq]; omega
  case s => with_unfolding_all rfl
  intro D2 us2 h8 F8 N8 l8 I8
  dsimp only
  have hlen3 : (List.take 3 xs ++ List.drop xs.length [1, 6, 4]).length = 3 := by
    rw [List.length_append, List.length_take, List.length_drop]; simp only [List.length_cons, List.length_nil]; omega
  refine kmk_add_ints (by k_asm) N8 (N8.isList (.tail _ (.tail _ (.head _)))) (N8.isList (.head _)) I7 I8 ?_ (by rw [← List.length_append, hlen3, sizeLine_eq]; omega)
  intro D3 us3 h9 F9 N9 l9 I9
  dsimp only
  have hsz3 : us3.toArray.size = 3 := by rw [List.size_toArray, I9.length, hlen3]
  generalize hys : List.take 3 xs ++ List.drop xs.length [1, 6, 4] = ys at I9 hlen3
  k_lt l8
  k_lt l9
  clear hI hS hs fs fi F7 F8 N8 I8 I7
  generalize hE3 : W.listOf us3.toArray 0 = o3 at N9
  generalize hE2 : W.listOf us2.toArray 0 = o2 at N9
  generalize hE4 : W.listOf _ 0 = o4 at N9
  generalize hE1 : W.listOf ws1.toArray 0 = o1 at N9
  k_dflt (refine' list_loop (D := D3) (its := us3.toArray) (c := 0) (by rw [hE3]; exact List.mem_cons_self) rfl ?hx ?hp F9 N9 (drawnJ w d (fun od => (D3, o3) :: (D2, o2) :: (l4, o4) :: (D1, o1) :: (d, od) :: (L' + 1, oC) :: news) ys) ?h0 ?hJA ?turn ?done ?hL)
  case h0 => exact ⟨_, _, rfl, hD0, .nil⟩
  case hx => rfl
  case hp => rfl
  case hL => rfl
  case hJA => rintro i m' nw ⟨od, kvs, rfl, _⟩; rw [hE3]; exact List.mem_cons_self
  case turn =>
    rintro i v m₁ news₁ h tk I oI hi hv ⟨od2, kvs, rfl, hD, hV⟩ F₁ N₁ nI
    obtain ⟨x, tx, hx, rfl⟩ := ints_get I9 (by simpa using hv)
    have hi3 : i < 3 := by omega
    clear F9 N9 hD0
    have nId : @Ne Nat I d := Ne.symm (nI (d, od2) (.tail _ (.tail _ (.tail _ (.tail _ (.head _))))))
    k_steps
    unfold Rest
    generalize hzs : drawKV (List.take i ys) = zs at hV
    have f0 : 0 ≤ x.fmod 33 := Int.fmod_nonneg_of_pos _ (by decide)
    have f1 : x.fmod 33 < 33 := Int.fmod_lt_of_pos _ (by decide)
    have hzl : zs.length = i := by rw [← hzs, drawKV_len, List.length_take]; omega
    have fresh := fpl_fresh (ks := zs.map (·.1)) (by rw [List.length_map]; omega) f0 f1
    refine while_rule (by k_asm) (by k_asm) (placeW x tx (zs.map (·.1)) _) 3 ⟨rfl, by rfl, _, _, by rfl, f0, f1, rfl⟩ ?_
    rintro k m₂ nw2 h2 tk2 ⟨rfl, ex, p, tp, ep, p0, p1, hE⟩ F₂ N₂
    have F₃ := frOf2 F₂ ex ep
    clear F₂
    cases hc : (zs.map (·.1)).contains p
    · have hp : p = fpl 3 (zs.map (·.1)) (x.fmod 33) := by
        rw [← hE]
        cases k with
        | zero => rfl
        | succ k => rw [fpl, hc, if_neg Bool.false_ne_true]
      have hke := vals_stored hV hc
      have hka := vals_again hV hc
      have hkl := hV.len
      k_steps
      unfold Rest
      dsimp only at N₂
      k_dflt (refine' kda_set (knd := PySem.intKind P0 w) ?F ?N ?U hD (intKind_is P0 w _ _) ?z ?_; (case F => k_asm); (case N => exact N₂); (case U => k_updF); (case z => exact Nat.le_trans (show kvs.length ≤ 1000 by omega) (by rw [sizeLine_eq]; decide)))
      intro h5 o5 F5 N5 d5
      rw [hke] at d5
      try dsimp only at N5
      have hsnoc : drawKV (List.take (i + 1) ys) = zs ++ [(p, drawV x p)] := by
        rw [List.take_add_one, hx]
        show drawKV (List.take i ys ++ [x]) = _
        rw [drawKV_snoc, hzs, drawStep, ← hp]
      have nI6 : ∀ o6, ∀ q ∈ (fun od => (D3, o3) :: (D2, o2) :: (l4, o4) :: (D1, o1) :: (d, od) :: (L' + 1, oC) :: news) o6, q.1 ≠ I := fun o6 q hq => by
        have := nI
        simp only [List.mem_cons] at this hq
        rcases hq with rfl | rfl | rfl | rfl | rfl | hq
        · exact this _ (.inl rfl)
        · exact this _ (.inr (.inl rfl))
        · exact this _ (.inr (.inr (.inl rfl)))
        · exact this _ (.inr (.inr (.inr (.inl rfl))))
        · exact Ne.symm nId
        · exact this _ (.inr (.inr (.inr (.inr (.inr hq)))))
      k_steps
      · unfold Rest
        k_dflt (refine' kda_set (knd := PySem.intKind P0 w) ?F ?N ?U d5 (intKind_is P0 w _ _) ?z ?_; (case F => k_asm); (case N => k_asm); (case U => k_updF); (case z => exact Nat.le_trans (show (kvs ++ [_]).length ≤ 1000 by rw [List.length_append, List.length_singleton]; omega) (by rw [sizeLine_eq]; decide)))
        intro h6 o6 F6 N6 d6
        rw [hka] at d6
        k_steps
        refine turn_next (by assumption) (by assumption) (nI6 _) ⟨_, _, rfl, d6, ?_⟩
        rw [hsnoc]
        have e : drawV x p = worthZ x * 4294967296 := by
          unfold drawV
          rw [if_pos (by assumption), if_neg (by assumption)]
        rw [e]
        exact vals_snoc hV _ _ _
      · unfold Rest
        k_dflt (refine' kda_set (knd := PySem.intKind P0 w) ?F ?N ?U d5 (intKind_is P0 w _ _) ?z ?_; (case F => k_asm); (case N => k_asm); (case U => k_updF); (case z => exact Nat.le_trans (show (kvs ++ [_]).length ≤ 1000 by rw [List.length_append, List.length_singleton]; omega) (by rw [sizeLine_eq]; decide)))
        intro h6 o6 F6 N6 d6
        rw [hka] at d6
        k_steps
        refine turn_next (by assumption) (by assumption) (nI6 _) ⟨_, _, rfl, d6, ?_⟩
        rw [hsnoc]
        have e : drawV x p = 1 * 4294967296 := by
          unfold drawV
          rw [if_pos (by assumption), if_pos (by assumption)]
        rw [e]
        exact vals_snoc hV _ _ _
      · refine turn_next (by assumption) (by assumption) (nI6 _) ⟨_, _, rfl, d5, ?_⟩
        rw [hsnoc]
        have e : drawV x p = 2 ^ p.toNat := by
          unfold drawV
          rw [if_neg (by assumption)]
        rw [e]
        exact vals_snoc hV _ _ _
    · k_steps
      obtain ⟨k', rfl⟩ : ∃ k', k = k' + 1 := by
        cases k with
        | zero => rw [fpl] at hE; rw [hE, fresh] at hc; cases hc
        | succ k => exact ⟨k, rfl⟩
      rw [fpl, if_pos hc] at hE
      exact while_next (by assumption) (by assumption) (Nat.lt_succ_self _) ⟨rfl, rfl, _, _, rfl, Int.fmod_nonneg_of_pos _ (by decide), Int.fmod_lt_of_pos _ (by decide), hE⟩
  case done =>
    rintro m' nw h5 tk5 ⟨od5, kvs, rfl, hD, hV⟩ F5 N5
    rw [hsz3, List.take_of_length_le (by omega)] at hV
    dsimp only at N5
    have hkl : kvs.length = 3 := by rw [hV.len, drawKV_len, hlen3]
    clear F9 N9 hD0
    k_steps
    unfold Rest
    refine ListComp_U (F₀ := by k_asm) (by rfl) (by decide) (by rfl) (by decide) (by rfl) ?_
    k_steps
    unfold Rest
    refine sorted_keys rfl (by k_asm) N5 (.tail _ (.tail _ (.tail _ (.tail _ (.head _))))) hD lo9 (by omega) ?_
    intro B vs6 ns c6 h6 tk6 F6 N6 l6 I6 P6 O6
    k_lt l6
    have hnl : vs6.length = 3 := by rw [I6.length, P6.length_eq, List.length_map, hkl]
    rw [hV.keys] at P6
    refine CompSrc.ledger rfl F6 N6 (.head _) (Nat.le_trans (show vs6.toArray.size ≤ 3 by rw [List.size_toArray, hnl]; decide) (by rw [sizeLine_eq]; decide)) (fun g6 => ?_)
    refine comp_ind (fun i ws nw => nw = (B, W.listOf (List.toArray vs6) c6) :: (D3, o3) :: (D2, o2) :: (l4, o4) :: (D1, o1) :: (d, od5) :: (L' + 1, oC) :: news ∧ IntsAre ws ((ns.take i).map (lookZ (drawKV ys)))) ⟨rfl, .nil⟩ ?_ ?_
    · rintro i v I oI C oC9 D m₂ ws nw h tk E' hi hv ⟨rfl, hI9⟩ hC hxv F₁ N₁ off ne
      obtain ⟨k, t, hk, rfl⟩ := ints_get I6 (by simpa using hv)
      have hmem : k ∈ (drawKV ys).map (·.1) := P6.mem_iff.mp (List.mem_of_getElem? hk)
      have hval : ∃ t', valueAt kvs k = some (.int (lookZ (drawKV ys) k) t') := by
        have e := vals_find hV k
        unfold lookZ
        cases hq : ((drawKV ys).find? fun p => p.1 == k) with
        | some p => rw [hq] at e; exact e
        | none =>
          exfalso
          obtain ⟨q, hq1, hq2⟩ := List.mem_map.mp hmem
          rw [List.find?_eq_none] at hq
          exact hq q hq1 (by simpa using hq2)
      obtain ⟨t', hval⟩ := hval
      k_steps
      unfold Rest
      refine kda_item (by k_asm) (.tail _ (.tail _ (.tail _ (.tail _ (.tail _ (.tail _ (.tail _ (.tail _ (.head _))))))))) hD (intKind_is P0 w k t) hval ?_
      refine CompEnd.intro (by k_asm) (by k_asm) _ (fun p hp => hp) off (.inr ⟨_, .head _, rfl, _, rfl⟩) ⟨rfl, ?_⟩
      rw [List.take_add_one, hk, Option.toList_some, List.map_append]
      exact ints_snoc hI9
    · rintro ws nw ⟨rfl, hI9⟩
      k_steps
      rename _ ∧ _ ∧ _ ∧ _ ∧ _ ∧ _ ∧ _ ∧ Off1 _ _ => oX
      refine hret _ _ _ ((_, lst ws) :: news) (by assumption) ?_ ⟨_, ws.toArray, _, _, rfl, rfl, hI9, ⟨ns, ?_, O6, ?_⟩, oX.2.2.2.2.2.2.2⟩
      · refine' cb_drop ?cbN ?cbS
        case cbN => assumption
        case cbS =>
          intro q hq
          rcases List.mem_cons.mp hq with rfl | hq
          · exact .head _
          · exact .tail _ (.tail _ (.tail _ (.tail _ (.tail _ (.tail _ (.tail _ (.tail _ hq)))))))
      · rw [hys]; exact P6
      · rw [hys, List.take_of_length_le (by rw [List.size_toArray, hnl, ← I6.length, hnl]; exact Nat.le_refl _)]
end
end Mine
end
section
open PySem PySem.W PyProof.Rows PySem.StrLaws PySem.Builtin PySem.Builtin.Str
set_option Elab.async false
set_option maxRecDepth 100000
set_option maxHeartbeats 0
namespace Mine
/-- a text by its signs -/
noncomputable abbrev txt (l : List Nat) : Str := ⟨l.toArray⟩
noncomputable def sepT : Str := Str.ofString ", "
theorem sep_is : sepT = txt [44, 32] := by decide +kernel
/-- words behind one another, with the separator -/
noncomputable def behind (ws : List (List Nat)) : List Nat := ws.flatMap fun v => [44, 32] ++ v
theorem at_iff {x : Str} {k : Nat} : At x (txt [44, 32]) x.length k ↔ (x.cps.toList.drop k).take 2 = [44, 32] := by
  unfold At
  rw [subAt_eq]
  show k + 2 ≤ x.length ∧ ((x.cps.toList.drop k).take 2 == [44, 32]) = true ↔ _
  rw [beq_iff_eq]
  refine ⟨fun h => h.2, fun h => ⟨?_, h⟩⟩
  have hl := congrArg List.length h
  rw [List.length_take, List.length_drop, Array.length_toList] at hl
  show k + 2 ≤ x.cps.size
  simp only [List.length_cons, List.length_nil] at hl
  omega
theorem at_sign {x : Str} {k : Nat} (h : At x (txt [44, 32]) x.length k) : x.cps.toList[k]? = some 44 := by
  have h := at_iff.mp h
  have := congrArg (·[0]?) h
  simpa [List.getElem?_take, List.getElem?_drop] using this
theorem parts_of (x : Str) : ∀ (ws : List (List Nat)) (w : List Nat) (a : Nat) (cuts : List Nat) (f : Nat), x.cps.toList.drop a = w ++ behind ws → a ≤ x.length → (∀ v ∈ w :: ws, 44 ∉ v) →
    ChainG x (txt [44, 32]) x.length a cuts f → (∀ k, f ≤ k → ¬ At x (txt [44, 32]) x.length k) → partsFrom x 2 a cuts = (w :: ws).map txt
  | [], w, a, cuts, f, hd, ha, hw, hG, hn => by
    simp only [behind, List.flatMap_nil, List.append_nil] at hd
    have nocut : ∀ k, a ≤ k → ¬ At x (txt [44, 32]) x.length k := fun k hk hA => by
      have e := at_sign hA
      have : (x.cps.toList.drop a)[k - a]? = some 44 := by rw [List.getElem?_drop, show a + (k - a) = k by omega]; exact e
      rw [hd] at this
      exact hw w (.head _) (List.mem_of_getElem? this)
    cases cuts with
    | cons c r => exact absurd hG.2.1 (nocut c hG.1)
    | nil =>
      show [strSub x a x.length] = [txt w]
      congr 1
      apply Str.ext'
      apply Array.toList_inj.mp
      rw [strSub_toList, hd]
      have : w.length = x.length - a := by
        have := congrArg List.length hd
        rw [List.length_drop, Array.length_toList] at this
        exact this.symm
      rw [← this, List.take_length]
  | v :: ws, w, a, cuts, f, hd, ha, hw, hG, hn => by
    have hb : behind (v :: ws) = [44, 32] ++ (v ++ behind ws) := by simp [behind]
    rw [hb] at hd
    have hlen : x.length - a = w.length + (2 + (v ++ behind ws).length) := by
      have := congrArg List.length hd
      rw [List.length_drop, Array.length_toList, List.length_append, List.length_append] at this
      exact this
    have hAt : At x (txt [44, 32]) x.length (a + w.length) := at_iff.mpr (by
      rw [← List.drop_drop, hd, List.drop_append, List.drop_length, Nat.sub_self, List.nil_append]
      rfl)
    cases cuts with
    | nil =>
      obtain rfl : f = a := hG
      exact absurd hAt (hn _ (by omega))
    | cons c r =>
      obtain ⟨g1, g2, g3, g4⟩ := hG
      have hc : c = a + w.length := by
        rcases Nat.lt_trichotomy c (a + w.length) with h | h | h
        · exfalso
          have e := at_sign g2
          have e' : (x.cps.toList.drop a)[c - a]? = some 44 := by rw [List.getElem?_drop, show a + (c - a) = c by omega]; exact e
          rw [hd, List.getElem?_append_left (by omega)] at e'
          exact hw w (.head _) (List.mem_of_getElem? e')
        · exact h
        · exact absurd hAt (g3 _ (by omega) h)
      subst hc
      show strSub x a (a + w.length) :: partsFrom x 2 (a + w.length + 2) r = _
      rw [parts_of x ws v (a + w.length + 2) r f (by
        rw [Nat.add_assoc, ← List.drop_drop, hd, ← List.drop_drop, List.drop_append, List.drop_length, Nat.sub_self, List.nil_append]
        rfl) (by omega) (fun u hu => hw u (.tail _ hu)) g4 hn]
      rw [List.map_cons (l := v :: ws)]
      congr 1
      apply Str.ext'
      apply Array.toList_inj.mp
      rw [strSub_toList, hd, show a + w.length - a = w.length by omega, List.take_left']
      rfl
theorem kind_small {x : Str} : ¬ PySem.Builtin.Str.strKind x < PySem.Builtin.Str.strKind (txt [44, 32]) := by
  have h2 : PySem.Builtin.Str.strKind (txt [44, 32]) = 1 := by decide +kernel
  rw [h2]
  unfold PySem.Builtin.Str.strKind
  split
  · omega
  · split <;> omega
theorem join_cps : ∀ (w : List Nat) (ws : List (List Nat)), (Str.join sepT ((w :: ws).map txt)).cps.toList = w ++ behind ws
  | w, [] => by simp [Str.join, behind]
  | w, v :: ws => by
    have ih := join_cps v ws
    show (txt w ++ sepT ++ Str.join sepT ((v :: ws).map txt)).cps.toList = _
    rw [Str.cps_append, Str.cps_append, Array.toList_append, Array.toList_append, ih, sep_is]
    simp [behind]
/-- split of what was joined -/
theorem split_join (w : List Nat) (ws : List (List Nat)) (hw : ∀ v ∈ w :: ws, 44 ∉ v) : Txt.split (Str.join sepT ((w :: ws).map txt)) sepT = (w :: ws).map txt := by
  have hc := join_cps w ws
  generalize Str.join sepT ((w :: ws).map txt) = x at hc ⊢
  rw [sep_is]
  obtain ⟨f, hG, hn⟩ := occ_tight x (txt [44, 32]) (by decide)
  have hl : x.length = w.length + (behind ws).length := by
    have := congrArg List.length hc
    rw [Array.length_toList, List.length_append] at this
    exact this
  have whole : ∀ cuts, ChainG x (txt [44, 32]) x.length 0 cuts f → partsFrom x 2 0 cuts = (w :: ws).map txt := fun cuts h => parts_of x ws w 0 cuts f (by rw [List.drop_zero]; exact hc) (Nat.zero_le _) hw h hn
  unfold Txt.split
  split
  · rename_i hq
    rw [Bool.or_eq_true, decide_eq_true_eq, decide_eq_true_eq] at hq
    rcases hq with h | h
    · have hws : ws = [] := by
        cases ws with
        | nil => rfl
        | cons v ws =>
          exfalso
          have : (behind (v :: ws)).length ≥ 2 := by simp [behind]
          have h2 : (txt [44, 32]).length = 2 := rfl
          omega
      subst hws
      show [x] = [txt w]
      congr 1
      apply Str.ext'
      apply Array.toList_inj.mp
      rw [hc]; simp [behind]
    · exact absurd h kind_small
  · split
    · rename_i he
      have e0 : occurrences x (txt [44, 32]) 0 x.length (x.length + 1) = [] := List.isEmpty_iff.mp he
      rw [e0] at hG
      have := whole [] hG
      rw [← this]
      show [x] = [strSub x 0 x.length]
      rw [sub_whole x]
    · rw [partsBetween_eq]
      exact whole _ hG
end Mine
end
section
open PySem PySem.W PyProof.Rows
set_option Elab.async false
set_option maxRecDepth 100000
set_option maxHeartbeats 0
namespace Mine
/-- a flag and its place -/
noncomputable def FlagAt (f : Int) (p : Nat) : Prop := (p < 32 ∧ f = 2 ^ p) ∨ (p = 32 ∧ ∃ m : Int, m ≠ 0 ∧ m.natAbs ≤ 549755813888 ∧ f = m * 2 ^ 32)
noncomputable def repW (f : Int) (p : Nat) : Str := if p < 32 then nameT p else hexT f
/-- flags in the order of their places, from i on -/
noncomputable def Up : Nat → List (Int × Nat) → Prop
  | _, [] => True
  | i, (f, p) :: r => i ≤ p ∧ FlagAt f p ∧ Up (p + 1) r
noncomputable def sumF (l : List (Int × Nat)) : Int := (l.map (·.1)).sum
theorem FlagAt.le {f : Int} {p : Nat} (h : FlagAt f p) : p ≤ 32 := by rcases h with h | h <;> omega
theorem Up.mono {i j : Nat} {l : List (Int × Nat)} (h : Up i l) (hj : j ≤ i) : Up j l := by
  cases l with
  | nil => trivial
  | cons x r => obtain ⟨f, p⟩ := x; exact ⟨by have := h.1; omega, h.2⟩
theorem Up.sub {i : Nat} {l l' : List (Int × Nat)} (h : Up i l) (hs : l'.Sublist l) : Up i l' := by
  induction hs generalizing i with
  | slnil => trivial
  | cons a _ ih => obtain ⟨f, p⟩ := a; exact ih (h.2.2.mono (by have := h.1; omega))
  | cons_cons a _ ih => obtain ⟨f, p⟩ := a; exact ⟨h.1, h.2.1, ih h.2.2⟩
theorem FlagAt.div {f : Int} {p i : Nat} (h : FlagAt f p) (hi : i ≤ p) : ∃ t : Int, f = 2 ^ i * t := by
  rcases h with ⟨h1, rfl⟩ | ⟨rfl, m, hm, _, rfl⟩
  · exact ⟨2 ^ (p - i), by rw [← Int.pow_add]; congr 1; omega⟩
  · exact ⟨m * 2 ^ (32 - i), by rw [Int.mul_left_comm, ← Int.pow_add, show i + (32 - i) = 32 by omega]⟩
theorem Up.div : ∀ {l : List (Int × Nat)} {i : Nat}, Up i l → ∃ t : Int, sumF l = 2 ^ i * t
  | [], i, _ => ⟨0, by simp [sumF]⟩
  | (f, p) :: r, i, h => by
    obtain ⟨t, ht⟩ := h.2.1.div h.1
    obtain ⟨u, hu⟩ := Up.div (h.2.2.mono (j := i) (by have := h.1; omega))
    refine ⟨t + u, ?_⟩
    show f + sumF r = _
    rw [hu, Int.mul_add]; omega
theorem sumF_cons (f : Int) (p : Nat) (r : List (Int × Nat)) : sumF ((f, p) :: r) = f + sumF r := rfl
theorem Up.ne {l : List (Int × Nat)} {i : Nat} (h : Up i l) (hl : l ≠ []) : sumF l ≠ 0 := by
  match l, hl with
  | (f, p) :: r, _ =>
    obtain ⟨h1, h2, h3⟩ := h
    rw [sumF_cons]
    rcases h2 with ⟨h4, rfl⟩ | ⟨rfl, m, hm, _, rfl⟩
    · obtain ⟨t, ht⟩ := h3.div
      rw [ht, Int.pow_succ, Int.mul_assoc, show (2 : Int) ^ p + 2 ^ p * (2 * t) = 2 ^ p * (1 + 2 * t) by rw [Int.mul_add, Int.mul_one]]
      intro q
      rcases Int.mul_eq_zero.mp q with q | q
      · have := kbt_pos p; omega
      · omega
    · have : r = [] := by
        cases r with
        | nil => rfl
        | cons x r => obtain ⟨f', p'⟩ := x; have := h3.1; have := h3.2.1.le; omega
      subst this
      show m * 2 ^ 32 + 0 ≠ 0
      rw [Int.add_zero]
      exact Int.mul_ne_zero hm (by decide)
theorem bit_at (i : Nat) (t : Int) (b : Int) (hb : b = 0 ∨ b = 1) : Builtin.bitAnd (2 ^ i * (b + 2 * t)) (1 * 2 ^ i) = b * 2 ^ i := by
  rw [Int.one_mul, kbt_bit, Int.mul_ediv_cancel_left _ (Int.ne_of_gt (kbt_pos i))]
  congr 1
  omega
theorem pretty_go : ∀ (fuel i : Nat) (l : List (Int × Nat)) (acc : List Str), i + fuel = 32 → Up i l → prettyGo fuel i (sumF l) acc = acc ++ (if l = [] then [hexT 0] else l.map fun x => repW x.1 x.2)
  | 0, i, l, acc, hi, h => by
    obtain rfl : i = 32 := by omega
    unfold prettyGo
    cases l with
    | nil => rfl
    | cons x r =>
      obtain ⟨f, p⟩ := x
      have hp : p = 32 := by have := h.1; have := h.2.1.le; omega
      subst hp
      have hr : r = [] := by
        cases r with
        | nil => rfl
        | cons x r => obtain ⟨f', p'⟩ := x; have := h.2.2.1; have := h.2.2.2.1.le; omega
      subst hr
      rw [if_neg (by simp)]
      show acc ++ [hexT (f + 0)] = acc ++ [repW f 32]
      rw [Int.add_zero]
      rfl
  | fuel + 1, i, l, acc, hi, h => by
    have next : ∀ t : Int, sumF l = 2 ^ i * (0 + 2 * t) → Up (i + 1) l → prettyGo (fuel + 1) i (sumF l) acc = acc ++ (if l = [] then [hexT 0] else l.map fun x => repW x.1 x.2) := fun t ht hu => by
      have hb := bit_at i t 0 (.inl rfl)
      rw [← ht, Int.zero_mul] at hb
      unfold prettyGo
      rw [hb, if_neg (by simp)]
      exact pretty_go fuel (i + 1) l acc (by omega) hu
    cases l with
    | nil => exact next 0 (by simp [sumF]) trivial
    | cons x r =>
      obtain ⟨f, p⟩ := x
      obtain ⟨h1, h2, h3⟩ := h
      by_cases hp : p = i
      · subst hp
        rcases h2 with ⟨h4, rfl⟩ | ⟨h4, _⟩
        · obtain ⟨t, ht⟩ := h3.div
          have hs : sumF ((2 ^ p, p) :: r) = 2 ^ p * (1 + 2 * t) := by
            rw [sumF_cons, ht, Int.pow_succ, Int.mul_assoc, Int.mul_add, Int.mul_one]
          have hb := bit_at p t 1 (.inr rfl)
          rw [← hs] at hb
          replace hb := hb.trans (Int.one_mul _)
          have hx : Builtin.bitXor (sumF ((2 ^ p, p) :: r)) (1 * 2 ^ p) = sumF r := by
            rw [bitXor_and, hb, sumF_cons]; omega
          unfold prettyGo
          rw [hb, if_pos (Int.ne_of_gt (kbt_pos p))]
          dsimp only
          rw [hx]
          have hname : repW (2 ^ p) p = nameT p := if_pos h4
          by_cases hr : r = []
          · subst hr
            rw [if_pos (by rfl), if_neg (by simp)]
            show _ = acc ++ [repW (2 ^ p) p]
            rw [hname]
          · rw [if_neg (h3.ne hr), pretty_go fuel (p + 1) r _ (by omega) h3, if_neg hr, if_neg (by simp), List.map_cons, hname, List.append_assoc]
            rfl
        · omega
      · have hu : Up (i + 1) ((f, p) :: r) := ⟨by omega, h2, h3⟩
        obtain ⟨t, ht⟩ := hu.div
        exact next t (by rw [ht, Int.pow_succ, Int.mul_assoc, Int.zero_add]) hu
/-- what is told of the flags -/
noncomputable def wordsOf (l : List (Int × Nat)) : List Str := if l = [] then [hexT 0] else l.map fun x => repW x.1 x.2
theorem pretty_words {l : List (Int × Nat)} (h : Up 0 l) : prettyGo 32 0 (sumF l) [] = wordsOf l := by
  rw [pretty_go 32 0 l [] rfl h, List.nil_append]; rfl
end Mine
end
section
open PySem PySem.W PyProof.Rows
set_option Elab.async false
set_option maxRecDepth 100000
set_option maxHeartbeats 0
namespace Mine
noncomputable def lowC (c : Nat) : Nat := if 65 ≤ c ∧ c ≤ 90 then c + 32 else c
noncomputable def low (x : Str) : Str := txt (x.cps.toList.map lowC)
/-- the signs of a report -/
noncomputable def okC (c : Nat) : Bool := (65 ≤ c && c ≤ 90) || (97 ≤ c && c ≤ 122) || (48 ≤ c && c ≤ 57) || c == 95 || c == 45 || c == 44 || c == 32
noncomputable def plainOk (c : Nat) : Bool := !okC c || (!inB1 c && mapB3 c == txt [lowC c])
theorem plain_all : (List.range 128).all plainOk = true := by decide +kernel
noncomputable def mathOk (face place : Nat) : Bool := (let k : Int := 119808 + 52 * face + place
  let c := ((gapF k).getD k).toNat
  !inB1 c && mapB3 c == txt [97 + place])
theorem math_all : (List.range 13).all (fun f => (List.range 26).all fun p => mathOk f p) = true := by decide +kernel
theorem hid_all : hidZ.all (fun z => inB1 z) = true := by decide +kernel
end Mine
end
section
open PySem PySem.W PyProof.Rows
set_option Elab.async false
set_option maxRecDepth 100000
set_option maxHeartbeats 0
namespace Mine
theorem plain_is {c : Nat} (h : okC c = true) : inB1 c = false ∧ mapB3 c = txt [lowC c] := by
  have hc : c < 128 := by
    unfold okC at h
    simp only [Bool.or_eq_true, Bool.and_eq_true, decide_eq_true_eq, beq_iff_eq] at h
    omega
  have := List.all_eq_true.mp plain_all c (List.mem_range.mpr hc)
  unfold plainOk at this
  rw [h] at this
  simpa using this
theorem math_is {f p : Nat} (hf : f < 13) (hp : p < 26) : inB1 (((gapF (119808 + 52 * (f : Int) + p)).getD (119808 + 52 * (f : Int) + p)).toNat) = false ∧ mapB3 (((gapF (119808 + 52 * (f : Int) + p)).getD (119808 + 52 * (f : Int) + p)).toNat) = txt [97 + p] := by
  have := List.all_eq_true.mp (List.all_eq_true.mp math_all f (List.mem_range.mpr hf)) p (List.mem_range.mpr hp)
  unfold mathOk at this
  simpa using this
theorem hid_is (n : Int) : inB1 (hidAt n) = true := by
  unfold hidAt
  have b0 : 0 ≤ (n.fdiv 3).fmod 27 := Int.fmod_nonneg_of_pos _ (by decide)
  have b1 : (n.fdiv 3).fmod 27 < 27 := Int.fmod_lt_of_pos _ (by decide)
  have hl : hidZ.length = 27 := by decide
  have hmem : hidZ.getD ((n.fdiv 3).fmod 27).toNat 0 ∈ hidZ := by
    rw [List.getD_eq_getElem?_getD, List.getElem?_eq_getElem (by omega)]
    exact List.getElem_mem _
  have h0 := (hid_ok _ hmem).1
  have := List.all_eq_true.mp hid_all _ hmem
  rw [Int.toNat_of_nonneg h0]
  exact this
/-- what is kept of a text, folded -/
noncomputable def fm (x : Str) : List Str := (x.cps.toList.filter fun (c : Nat) => !inB1 c).map mapB3
theorem fm_append (a b : Str) : fm (a ++ b) = fm a ++ fm b := by
  unfold fm
  rw [Str.cps_append, Array.toList_append, List.filter_append, List.map_append]
theorem fm_hid (n : Int) : fm ⟨#[hidAt n]⟩ = [] := by
  unfold fm
  simp [hid_is]
theorem fm_one {c d : Nat} (h1 : inB1 c = false) (h2 : mapB3 c = txt [d]) : fm ⟨#[c]⟩ = [txt [d]] := by
  unfold fm
  simp [h1, h2]
theorem fm_step {turn : Int} {k c : Nat} {t : Str} (h : okC c = true) : fm (typedStep gapF turn k c t) = fm t ++ [txt [lowC c]] := by
  unfold typedStep
  dsimp only
  have e1 : ∀ t1 : Str, fm t1 = fm t → fm (if 0 ≤ (c : Int) - 65 ∧ (c : Int) - 65 < 26 ∧ (turn + k).fmod 14 < 13 then
      t1 ++ ⟨#[((gapF (119808 + 52 * (turn + k).fmod 14 + ((c : Int) - 65))).getD (119808 + 52 * (turn + k).fmod 14 + ((c : Int) - 65))).toNat]⟩
    else t1 ++ ⟨#[c]⟩) = fm t ++ [txt [lowC c]] := by
    intro t1 h1
    split
    · rename_i hc
      have f0 : 0 ≤ (turn + k).fmod 14 := Int.fmod_nonneg_of_pos _ (by decide)
      obtain ⟨f, hf⟩ : ∃ f : Nat, (turn + k).fmod 14 = f := ⟨((turn + k).fmod 14).toNat, by omega⟩
      obtain ⟨p, hp⟩ : ∃ p : Nat, (c : Int) - 65 = p := ⟨((c : Int) - 65).toNat, by omega⟩
      rw [hf, hp] at hc ⊢
      obtain ⟨m1, m2⟩ := math_is (f := f) (p := p) (by omega) (by omega)
      rw [fm_append, h1, fm_one m1 m2]
      congr 3
      unfold lowC
      rw [if_pos (by omega)]
      congr 1
      omega
    · obtain ⟨m1, m2⟩ := plain_is h
      rw [fm_append, h1, fm_one m1 m2]
  by_cases h3 : (turn + k).fmod 3 = 0
  · simp only [if_pos h3]
    exact e1 _ (by rw [fm_append, fm_hid, List.append_nil])
  · simp only [if_neg h3]
    exact e1 _ rfl
theorem fm_typed {turn : Int} {x : Str} (h : ∀ c ∈ x.cps.toList, okC c = true) : ∀ i, i ≤ x.cps.size → fm (typedTo gapF turn x i) = (x.cps.toList.take i).map fun c => txt [lowC c]
  | 0, _ => rfl
  | i + 1, hi => by
    have hg : x.cps.toList[i]? = some (x.cps.getD i 0) := by
      rw [Array.getElem?_toList, Array.getD_eq_getD_getElem?, Array.getElem?_eq_getElem (by omega)]
      rfl
    rw [typedTo, fm_step (h _ (List.mem_of_getElem? hg)), fm_typed h i (by omega), List.take_add_one, hg, Option.toList_some, List.map_append]
    rfl
theorem join_ones : ∀ l : List Nat, Str.join (Str.ofString "") (l.map fun c => txt [c]) = txt l
  | [] => rfl
  | [c] => rfl
  | c :: d :: l => by
    have ih := join_ones (d :: l)
    show txt [c] ++ Str.ofString "" ++ Str.join (Str.ofString "") ((d :: l).map fun c => txt [c]) = _
    rw [ih, show Str.ofString "" = txt [] by decide +kernel]
    apply Str.ext'
    apply Array.toList_inj.mp
    simp [Str.cps_append]
/-- the text that the law reads back -/
theorem text_is {turn : Int} {x : Str} (h : ∀ c ∈ x.cps.toList, okC c = true) : Txt.join (Str.ofString "") (fm (typedTo gapF turn x x.cps.size)) = low x := by
  rw [fm_typed h _ (Nat.le_refl _), List.take_of_length_le (by rw [Array.length_toList]; exact Nat.le_refl _)]
  show PySem.Builtin.Str.glued _ _ = _
  rw [StrLaws.glued_eq_join]
  have := join_ones (x.cps.toList.map lowC)
  rw [List.map_map] at this
  exact this
theorem low_append (a b : Str) : low (a ++ b) = low a ++ low b := by
  apply Str.ext'
  apply Array.toList_inj.mp
  simp [low, Str.cps_append]
theorem low_sep : low sepT = sepT := by decide +kernel
theorem low_join : ∀ l : List Str, low (Str.join sepT l) = Str.join sepT (l.map low)
  | [] => by decide +kernel
  | [x] => rfl
  | x :: y :: l => by
    show low (x ++ sepT ++ Str.join sepT (y :: l)) = low x ++ sepT ++ Str.join sepT ((y :: l).map low)
    rw [low_append, low_append, low_sep, low_join (y :: l)]
end Mine
end
section
open PySem PySem.W PyProof.Rows
set_option Elab.async false
set_option maxRecDepth 100000
set_option maxHeartbeats 0
namespace Mine
/-- the signs of one word -/
noncomputable def okW (c : Nat) : Bool := okC c && c != 44 && c != 32
/-- what is asked of a flag's word -/
noncomputable def WordOk (x y : Str) : Prop := low x = y ∧ (∀ c ∈ x.cps.toList, okW c = true) ∧ 0 < x.cps.size ∧ x.cps.size ≤ 30
noncomputable def nameOk (p : Nat) : Bool := low (nameT p) == ownT (2 ^ p) && (nameT p).cps.toList.all okW && decide (0 < (nameT p).cps.size) && decide ((nameT p).cps.size ≤ 30)
theorem name_all : (List.range 32).all nameOk = true := by decide +kernel
theorem name_ok {p : Nat} (h : p < 32) : WordOk (nameT p) (ownT (2 ^ p)) := by
  have := List.all_eq_true.mp name_all p (List.mem_range.mpr h)
  unfold nameOk at this
  simp only [Bool.and_eq_true, beq_iff_eq, decide_eq_true_eq] at this
  exact ⟨this.1.1.1, fun c hc => List.all_eq_true.mp this.1.1.2 c hc, this.1.2, this.2⟩
/-- the sixteen figures -/
noncomputable def figOk (d : Nat) : Bool := Txt.item hexD (d : Int) == txt [(Nat.digitChar d).toNat] && okW (Nat.digitChar d).toNat && lowC (Nat.digitChar d).toNat == (Nat.digitChar d).toNat
theorem fig_all : (List.range 16).all figOk = true := by decide +kernel
theorem fig_ok {d : Nat} (h : d < 16) : Txt.item hexD (d : Int) = txt [(Nat.digitChar d).toNat] ∧ okW (Nat.digitChar d).toNat = true ∧ lowC (Nat.digitChar d).toNat = (Nat.digitChar d).toNat := by
  have := List.all_eq_true.mp fig_all d (List.mem_range.mpr h)
  unfold figOk at this
  simp only [Bool.and_eq_true, beq_iff_eq] at this
  exact ⟨this.1.1, this.1.2, this.2⟩
noncomputable def chars (l : List Char) : Str := txt (l.map Char.toNat)
theorem go_digits : ∀ (fuel n : Nat) (ds : List Char) (k : Nat), 0 < n → n < fuel → n ≤ k → ownGo k n (chars ds) = chars (Nat.toDigitsCore 16 fuel n ds)
  | 0, n, ds, k, h0, h1, _ => by omega
  | fuel + 1, n, ds, 0, h0, h1, h2 => by omega
  | fuel + 1, n, ds, k + 1, h0, h1, h2 => by
    have e1 : ((n : Int)).fdiv 16 = ((n / 16 : Nat) : Int) := by rw [Int.fdiv_eq_ediv_of_nonneg _ (by decide)]; omega
    have e2 : ((n : Int)).fmod 16 = ((n % 16 : Nat) : Int) := by rw [Int.fmod_eq_emod_of_nonneg _ (by decide)]; omega
    have e3 : txt [(Nat.digitChar (n % 16)).toNat] ++ chars ds = chars (Nat.digitChar (n % 16) :: ds) := by
      apply Str.ext'
      apply Array.toList_inj.mp
      simp [chars, Str.cps_append]
    rw [ownGo, if_pos (by omega), e1, e2, (fig_ok (Nat.mod_lt n (by decide))).1, e3]
    unfold Nat.toDigitsCore
    dsimp only
    split
    · rename_i hz
      rw [hz]
      cases k with
      | zero => rfl
      | succ k => rw [ownGo, if_neg (by decide)]
    · exact go_digits fuel (n / 16) _ k (by omega) (by omega) (by omega)
theorem digits_ok : ∀ (fuel n : Nat) (ds : List Char), (∀ c ∈ ds, okW c.toNat = true ∧ lowC c.toNat = c.toNat) → ∀ c ∈ Nat.toDigitsCore 16 fuel n ds, okW c.toNat = true ∧ lowC c.toNat = c.toNat
  | 0, _, _, h => h
  | fuel + 1, n, ds, h => by
    have h' : ∀ c ∈ Nat.digitChar (n % 16) :: ds, okW c.toNat = true ∧ lowC c.toNat = c.toNat := fun c hc => by
      rcases List.mem_cons.mp hc with rfl | hc
      · exact (fig_ok (Nat.mod_lt n (by decide))).2
      · exact h c hc
    unfold Nat.toDigitsCore
    dsimp only
    split
    · exact h'
    · exact digits_ok fuel (n / 16) _ h'
theorem digits_len : ∀ (e fuel n : Nat) (ds : List Char), n < 16 ^ (e + 1) → (Nat.toDigitsCore 16 fuel n ds).length ≤ ds.length + (e + 1)
  | _, 0, _, _, _ => by unfold Nat.toDigitsCore; omega
  | 0, fuel + 1, n, ds, h => by
    unfold Nat.toDigitsCore
    dsimp only
    rw [if_pos (by omega), List.length_cons]
    exact Nat.le_refl _
  | e + 1, fuel + 1, n, ds, h => by
    unfold Nat.toDigitsCore
    dsimp only
    split
    · rw [List.length_cons]; omega
    · have := digits_len e fuel (n / 16) (Nat.digitChar (n % 16) :: ds) (by rw [Nat.pow_succ] at h; omega)
      rw [List.length_cons] at this
      omega
theorem hex_cps (n : Int) : (hexT n).cps.toList = (if n < 0 then [45] else []) ++ [48, 120] ++ (Nat.toDigits 16 n.natAbs).map Char.toNat := by
  unfold hexT PySem.baseText
  rw [Str.cps_append, Str.cps_append, Array.toList_append, Array.toList_append, PySem.W.Fast.ofString_ofList (Nat.toDigits 16 n.natAbs)]
  have e1 : (Str.ofString (if n < 0 then "-" else "")).cps.toList = if n < 0 then [45] else [] := by split <;> decide +kernel
  have e2 : (Str.ofString "0x").cps.toList = [48, 120] := by decide +kernel
  rw [e1, e2]
theorem low_id {l : List Nat} (h : ∀ c ∈ l, lowC c = c) : l.map lowC = l := by
  rw [List.map_congr_left (g := id) h, List.map_id]
theorem hex_ok {n : Int} (h0 : n ≠ 0) (hj : ∀ j < 10, n ≠ 2 ^ j) (hn : n.natAbs < 16 ^ 18) : WordOk (hexT n) (ownT n) := by
  have hd := digits_ok (n.natAbs + 1) n.natAbs [] (fun c hc => nomatch hc)
  have hl := digits_len 17 (n.natAbs + 1) n.natAbs [] hn
  have hg := go_digits (n.natAbs + 1) n.natAbs [] n.natAbs (by omega) (by omega) (Nat.le_refl _)
  have hc := hex_cps n
  have hdig : Nat.toDigitsCore 16 (n.natAbs + 1) n.natAbs [] = Nat.toDigits 16 n.natAbs := rfl
  rw [hdig] at hd hl hg
  have hall : ∀ c ∈ (hexT n).cps.toList, okW c = true ∧ lowC c = c := by
    rw [hc]
    intro c hm
    rcases List.mem_append.mp hm with hm | hm
    · rcases List.mem_append.mp hm with hm | hm
      · split at hm
        · rw [List.mem_singleton.mp hm]; decide
        · cases hm
      · rcases List.mem_cons.mp hm with rfl | hm
        · decide
        · rw [List.mem_singleton.mp hm]; decide
    · obtain ⟨d, h1, rfl⟩ := List.mem_map.mp hm
      exact hd d h1
  have hsz : (hexT n).cps.size = (if n < 0 then 1 else 0) + 2 + (Nat.toDigits 16 n.natAbs).length := by
    rw [← Array.length_toList, hc]
    split <;> (simp only [List.length_append, List.length_cons, List.length_nil, List.length_map]; try omega)
  refine ⟨?_, fun c hm => (hall c hm).1, by omega, by rw [hsz]; simp only [List.length_nil] at hl; split <;> first | omega | done⟩
  apply Str.ext'
  apply Array.toList_inj.mp
  show ((hexT n).cps.toList.map lowC) = _
  rw [low_id fun c hm => (hall c hm).2, hc, ownT_none hj, Str.cps_append, Array.toList_append]
  have e1 : (Str.ofString (if n < 0 then "-0x" else "0x")).cps.toList = (if n < 0 then [45] else []) ++ [48, 120] := by split <;> decide +kernel
  rw [e1]
  have e2 : ownGo n.natAbs n.natAbs ⟨#[]⟩ = chars (Nat.toDigits 16 n.natAbs) := hg
  rw [e2]
  rfl
theorem pow_small {j : Nat} (h : j < 10) : (2 : Int) ^ j < 1024 ∧ 0 < (2 : Int) ^ j := by
  rcases (by omega : j = 0 ∨ j = 1 ∨ j = 2 ∨ j = 3 ∨ j = 4 ∨ j = 5 ∨ j = 6 ∨ j = 7 ∨ j = 8 ∨ j = 9) with rfl | rfl | rfl | rfl | rfl | rfl | rfl | rfl | rfl | rfl <;> decide
theorem word_ok {f : Int} {p : Nat} (h : FlagAt f p) : WordOk (repW f p) (ownT f) := by
  unfold repW
  rcases h with ⟨h1, rfl⟩ | ⟨rfl, m, hm, hb, rfl⟩
  · rw [if_pos h1]; exact name_ok h1
  · rw [if_neg (by decide)]
    have e32 : (2 : Int) ^ 32 = 4294967296 := by decide
    rw [e32]
    refine hex_ok (by omega) (fun j hj => ?_) ?_
    · obtain ⟨a, b⟩ := pow_small hj
      omega
    · have : (16 : Nat) ^ 18 = 4722366482869645213696 := by decide
      rw [this]; omega
end Mine
end
section
open PySem PySem.W PyProof.Rows
set_option Elab.async false
set_option maxRecDepth 100000
set_option maxHeartbeats 0
namespace Mine
theorem txt_cps (x : Str) : txt x.cps.toList = x := by
  apply Str.ext'
  apply Array.toList_inj.mp
  rfl
theorem split_words {ws : List Str} (hne : ws ≠ []) (hw : ∀ w ∈ ws, 44 ∉ w.cps.toList) : Txt.split (Str.join sepT ws) sepT = ws := by
  cases ws with
  | nil => exact absurd rfl hne
  | cons w ws =>
    have e : (w :: ws) = (w.cps.toList :: ws.map (·.cps.toList)).map txt := by
      rw [List.map_cons, List.map_map, txt_cps]
      congr 1
      exact (List.map_id ws).symm
    rw [e]
    refine split_join _ _ fun v hv => ?_
    rcases List.mem_cons.mp hv with rfl | hv
    · exact hw w (.head _)
    · obtain ⟨u, hu, rfl⟩ := List.mem_map.mp hv
      exact hw u (.tail _ hu)
/-- the words of the chosen flags, as they are read back -/
noncomputable def ownWords (l : List (Int × Nat)) : List Str := if l = [] then [low (hexT 0)] else l.map fun x => ownT x.1
theorem up_flags : ∀ {l : List (Int × Nat)} {i : Nat}, Up i l → ∀ x ∈ l, FlagAt x.1 x.2
  | [], _, _, _, h => nomatch h
  | (f, p) :: r, i, h, x, hx => by
    rcases List.mem_cons.mp hx with rfl | hx
    · exact h.2.1
    · exact up_flags h.2.2 x hx
noncomputable def zeroOk : Bool := (hexT 0).cps.toList.all okW && decide ((hexT 0).cps.size = 3) && low (hexT 0) == Str.ofString "0x0"
theorem zero_ok : zeroOk = true := by decide +kernel
theorem words_ok {l : List (Int × Nat)} (h : Up 0 l) : (wordsOf l).map low = ownWords l ∧ wordsOf l ≠ [] ∧ ∀ w ∈ wordsOf l, (∀ c ∈ w.cps.toList, okW c = true) ∧ w.cps.size ≤ 30 := by
  unfold wordsOf ownWords
  by_cases hl : l = []
  · rw [if_pos hl, if_pos hl]
    have := zero_ok
    unfold zeroOk at this
    simp only [Bool.and_eq_true, decide_eq_true_eq] at this
    refine ⟨rfl, by simp, fun w hw => ?_⟩
    rw [List.mem_singleton.mp hw]
    exact ⟨fun c hc => List.all_eq_true.mp this.1.1 c hc, by omega⟩
  · rw [if_neg hl, if_neg hl]
    have hf := up_flags h
    refine ⟨?_, by simpa using hl, fun w hw => ?_⟩
    · rw [List.map_map]
      exact List.map_congr_left fun x hx => (word_ok (hf x hx)).1
    · obtain ⟨x, hx, rfl⟩ := List.mem_map.mp hw
      have := word_ok (hf x hx)
      exact ⟨this.2.1, this.2.2.2⟩
theorem join_signs : ∀ {ws : List Str}, (∀ w ∈ ws, (∀ c ∈ w.cps.toList, okW c = true) ∧ w.cps.size ≤ 30) → (∀ c ∈ (Str.join sepT ws).cps.toList, okC c = true) ∧ (Str.join sepT ws).cps.size ≤ 32 * ws.length
  | [], _ => ⟨fun c hc => by simp [Str.join, Str.empty] at hc, by simp [Str.join, Str.empty]⟩
  | [w], h => ⟨fun c hc => by
      have := (h w (.head _)).1 c hc
      unfold okW at this
      simp only [Bool.and_eq_true] at this
      exact this.1.1, by have := (h w (.head _)).2; show w.cps.size ≤ 32; omega⟩
  | w :: v :: ws, h => by
    obtain ⟨i1, i2⟩ := join_signs (ws := v :: ws) fun u hu => h u (.tail _ hu)
    have hw := h w (.head _)
    have e : Str.join sepT (w :: v :: ws) = w ++ sepT ++ Str.join sepT (v :: ws) := rfl
    rw [e]
    refine ⟨fun c hc => ?_, ?_⟩
    · rw [Str.cps_append, Str.cps_append, Array.toList_append, Array.toList_append] at hc
      rcases List.mem_append.mp hc with hc | hc
      · rcases List.mem_append.mp hc with hc | hc
        · have := hw.1 c hc
          unfold okW at this
          simp only [Bool.and_eq_true] at this
          exact this.1.1
        · rw [sep_is] at hc
          rcases List.mem_cons.mp hc with rfl | hc
          · decide
          · rw [List.mem_singleton.mp hc]; decide
      · exact i1 c hc
    · have hs : sepT.cps.size = 2 := by rw [sep_is]; rfl
      simp only [Str.cps_append, Array.size_append, List.length_cons] at i2 ⊢
      omega
/-- the report of the chosen flags -/
theorem report_ok {l : List (Int × Nat)} (h : Up 0 l) (hl : l.length ≤ 3) : (∀ c ∈ (prettyT (sumF l)).cps.toList, okC c = true) ∧ (prettyT (sumF l)).cps.size ≤ 200 := by
  unfold prettyT
  rw [pretty_words h]
  show (∀ c ∈ (PySem.Builtin.Str.glued _ _).cps.toList, _) ∧ (PySem.Builtin.Str.glued _ _).cps.size ≤ _
  rw [StrLaws.glued_eq_join]
  obtain ⟨h1, h2, h3⟩ := words_ok h
  have := join_signs h3
  refine ⟨this.1, Nat.le_trans this.2 ?_⟩
  have : (wordsOf l).length ≤ 3 := by unfold wordsOf; split <;> simp; omega
  omega
theorem pretty_sizes {l : List (Int × Nat)} (h : Up 0 l) : ∀ x ∈ prettyGo 32 0 (sumF l) [], x.length ≤ 1000 := by
  rw [pretty_words h]
  intro x hx
  have := ((words_ok h).2.2 x hx).2
  show x.cps.size ≤ 1000
  omega
/-- what the law reads back -/
theorem back_is {l : List (Int × Nat)} (h : Up 0 l) (hl : l.length ≤ 3) (turn : Int) : Txt.split (Txt.join (Str.ofString "") (fm (typedTo gapF turn (prettyT (sumF l)) (prettyT (sumF l)).cps.size))) sepT = ownWords l := by
  rw [text_is (report_ok h hl).1]
  have e : prettyT (sumF l) = Str.join sepT (wordsOf l) := by
    unfold prettyT
    rw [pretty_words h]
    exact StrLaws.glued_eq_join _ _
  obtain ⟨h1, h2, h3⟩ := words_ok h
  rw [e, low_join, h1]
  have hne : ownWords l ≠ [] := by rw [← h1]; simpa using h2
  refine split_words hne fun w hw => ?_
  rw [← h1] at hw
  obtain ⟨v, hv, rfl⟩ := List.mem_map.mp hw
  intro hm
  obtain ⟨c, hc, he⟩ := List.mem_map.mp (show 44 ∈ v.cps.toList.map lowC from hm)
  have := (h3 v hv).1 c hc
  unfold okW at this
  simp only [Bool.and_eq_true, bne_iff_ne, ne_eq] at this
  unfold lowC at he
  split at he
  · omega
  · exact this.1.2 he
/-- an own word's figures -/
theorem own_ok {f : Int} {p : Nat} (h : FlagAt f p) : 0 < (ownT f).cps.size ∧ (ownT f).cps.size ≤ 30 ∧ ∀ c ∈ (ownT f).cps.toList, 0 < c ∧ c < 128 := by
  obtain ⟨h1, h2, h3, h4⟩ := word_ok h
  rw [← h1]
  have hs : (low (repW f p)).cps.size = (repW f p).cps.size := by unfold low; simp
  refine ⟨by omega, by omega, fun c hc => ?_⟩
  obtain ⟨d, hd, rfl⟩ := List.mem_map.mp (show c ∈ (repW f p).cps.toList.map lowC from hc)
  have := h2 d hd
  unfold okW okC at this
  simp only [Bool.and_eq_true, Bool.or_eq_true, decide_eq_true_eq, beq_iff_eq, bne_iff_ne, ne_eq] at this
  unfold lowC
  split <;> omega
end Mine
end
section
open PySem PySem.W PyProof.Rows
set_option Elab.async false
set_option maxRecDepth 100000
set_option maxHeartbeats 0
namespace Mine
/-- what holds of the drawn pairs -/
noncomputable def DrawOk (zs : List (Int × Int)) : Prop := (zs.map (·.1)).Nodup ∧ ∀ q ∈ zs, 0 ≤ q.1 ∧ q.1 < 33 ∧ ∃ x, q.2 = drawV x q.1
theorem draw_ok : ∀ (ys : List Int) (zs : List (Int × Int)), DrawOk zs → zs.length + ys.length ≤ 3 → DrawOk (ys.foldl drawStep zs)
  | [], _, h, _ => h
  | y :: ys, zs, h, hl => by
    simp only [List.length_cons] at hl
    have f0 : 0 ≤ y.fmod 33 := Int.fmod_nonneg_of_pos _ (by decide)
    have f1 : y.fmod 33 < 33 := Int.fmod_lt_of_pos _ (by decide)
    have fr := fpl_fresh (ks := zs.map (·.1)) (by rw [List.length_map]; omega) f0 f1
    have rg := fpl_range (n := 3) (ks := zs.map (·.1)) f0 f1
    refine draw_ok ys _ ?_ (by unfold drawStep; rw [List.length_append, List.length_singleton]; omega)
    unfold drawStep
    generalize fpl 3 (zs.map (·.1)) (y.fmod 33) = p at fr rg
    refine ⟨?_, fun q hq => ?_⟩
    · rw [List.map_append, List.nodup_append]
      refine ⟨h.1, by simp, fun a ha b hb e => ?_⟩
      simp only [List.map_cons, List.map_nil, List.mem_singleton] at hb
      subst hb
      subst e
      rw [List.contains_iff_mem.mpr ha] at fr
      cases fr
    · rcases List.mem_append.mp hq with hq | hq
      · exact h.2 q hq
      · rw [List.mem_singleton.mp hq]
        exact ⟨rg.1, rg.2, y, rfl⟩
theorem worth_range (x : Int) : -549755813888 ≤ worthZ x ∧ worthZ x < 549755813888 := by
  unfold worthZ
  have h0 : 0 ≤ (x.fdiv 33).fmod 1099511627776 := Int.fmod_nonneg_of_pos _ (by decide)
  have h1 : (x.fdiv 33).fmod 1099511627776 < 1099511627776 := Int.fmod_lt_of_pos _ (by decide)
  omega
theorem drawV_flag {x p : Int} (h0 : 0 ≤ p) (h1 : p < 33) : FlagAt (drawV x p) p.toNat := by
  unfold drawV FlagAt
  by_cases hp : p = 32
  · subst hp
    rw [if_pos rfl]
    right
    refine ⟨rfl, _, ?_, ?_, by rw [show (2 : Int) ^ 32 = 4294967296 from rfl]⟩
    · split
      · decide
      · assumption
    · have := worth_range x
      split <;> omega
  · rw [if_neg hp]
    left
    exact ⟨by omega, rfl⟩
theorem look_is {zs : List (Int × Int)} (h : DrawOk zs) {k : Int} (hk : k ∈ zs.map (·.1)) : 0 ≤ k ∧ k < 33 ∧ ∃ x, lookZ zs k = drawV x k := by
  unfold lookZ
  cases hq : zs.find? fun p => p.1 == k with
  | none =>
    exfalso
    obtain ⟨q, hq1, hq2⟩ := List.mem_map.mp hk
    rw [List.find?_eq_none] at hq
    exact hq q hq1 (by simpa using hq2)
  | some q =>
    have h1 := List.mem_of_find?_eq_some hq
    have h2 := List.find?_some hq
    rw [beq_iff_eq] at h2
    obtain ⟨a, b, x, hx⟩ := h.2 q h1
    rw [h2] at a b hx
    exact ⟨a, b, x, hx⟩
theorem up_of : ∀ {ns : List Int} {F : Int → Int} {i : Nat}, (∀ k ∈ ns, (i : Int) ≤ k ∧ FlagAt (F k) k.toNat) → ns.Pairwise (fun x y => x < y) → Up i (ns.map fun k => (F k, k.toNat))
  | [], _, _, _, _ => trivial
  | k :: ns, F, i, h, hp => by
    have hk := h k (.head _)
    refine ⟨by omega, hk.2, up_of (fun j hj => ⟨?_, (h j (.tail _ hj)).2⟩) (List.pairwise_cons.mp hp).2⟩
    have := (List.pairwise_cons.mp hp).1 j hj
    have := hk.1
    omega
theorem lt_of_le_nodup : ∀ {ns : List Int}, ns.Pairwise (fun x y => x ≤ y) → ns.Nodup → ns.Pairwise (fun x y => x < y)
  | [], _, _ => .nil
  | k :: ns, h, hn => by
    rw [List.pairwise_cons] at h ⊢
    rw [List.nodup_cons] at hn
    refine ⟨fun j hj => ?_, lt_of_le_nodup h.2 hn.2⟩
    have := h.1 j hj
    have : k ≠ j := fun e => hn.1 (e ▸ hj)
    omega
/-- the three flags in their order -/
theorem drawn_up {xs fs : List Int} (h : DrawnIs xs fs) : ∃ l : List (Int × Nat), l.length = 3 ∧ Up 0 l ∧ fs = l.map (·.1) := by
  obtain ⟨ns, hp, ho, rfl⟩ := h
  have hlen : (xs.take 3 ++ [1, 6, 4].drop xs.length).length = 3 := by
    rw [List.length_append, List.length_take, List.length_drop]; simp only [List.length_cons, List.length_nil]; omega
  have hd : DrawOk (drawKV (xs.take 3 ++ [1, 6, 4].drop xs.length)) := draw_ok _ [] ⟨.nil, fun q hq => nomatch hq⟩ (by rw [hlen]; decide)
  have hl3 := drawKV_len (xs.take 3 ++ [1, 6, 4].drop xs.length)
  rw [hlen] at hl3
  generalize drawKV (xs.take 3 ++ [1, 6, 4].drop xs.length) = zs at hp hd hl3 ⊢
  refine ⟨ns.map fun k => (lookZ zs k, k.toNat), ?_, ?_, ?_⟩
  · rw [List.length_map, hp.length_eq, List.length_map, hl3]
  · refine up_of (fun k hk => ?_) (lt_of_le_nodup ho (hp.nodup_iff.mpr hd.1))
    obtain ⟨a, b, x, hx⟩ := look_is hd (hp.mem_iff.mp hk)
    rw [hx]
    exact ⟨a, drawV_flag a b⟩
  · rw [List.map_map]; rfl
end Mine
end
section
open PySem PySem.W PyProof.Rows
set_option Elab.async false
set_option maxRecDepth 100000
set_option maxHeartbeats 0
namespace Mine
noncomputable section
/-- the entries of the display's chunk k -/
noncomputable def subEnts (k : Nat) : List DictEntry := entsFrom (17 * k) ((b3Pairs.drop (17 * k)).take 17)
noncomputable abbrev PW : Program := PySem.Challenge.pw_rw0097_01
noncomputable def hEnv : Env := { scope := PW.main.scope, locals := mainNs, globals := mainNs, cells := [], code := .ref 13, frame := some 14 }
noncomputable abbrev hC : Code := .body (behindTheImports PW) hEnv
noncomputable abbrev hB : List Frame := [topFrame ⟨0, 0, 0, 0⟩]
noncomputable abbrev hAnn : Option Value := some (.ref 6)
noncomputable def hO11_pre : Params → Obj := fun P => ⟨(.type "tuple"), none, (.seq #[] 0), #[]⟩
noncomputable def hO12_pre : Params → Obj := fun P => ⟨.none, none, (.fields #[]), #[]⟩
noncomputable def hO13_pre : Params → Obj := fun P => ⟨(.type "code"), none, (.fields [(.str (Str.ofString "<module>") 182), (.str (Str.ofString "<module>") 183), (.str (Str.ofString "/claim/cut.py") 184), (.int (1) 0), (.int (0) 0), (.int (0) 0), (.int (0) 0), (.int (0) 0), (.ref 11), (.bool false), (.int (181) 0), (.ref 12), .none, .none, .none, .none, (.int (185) 0), (.int (1) 0), (.str (Str.ofString "/claim/cut.py") 186)].toArray), #[]⟩
noncomputable def hO14_pre : Params → Obj := fun P => ⟨(.type "frame"), none, .plain, [(some (.ref 13)), (some (.ref 3)), (some (.ref 3)), none, (some (.str (Str.ofString "__main__") 164)), none, (some (.ref 0))].toArray⟩
noncomputable def hO3_p6 : Params → Obj := fun P => ⟨(.type "dict"), none, (.dict [⟨PyData.keyHash P (Str.ofString "__name__"), (.str (Str.ofString "__name__") 165), (.str (Str.ofString "cpy313.stringprep") 254)⟩, ⟨PyData.keyHash P (Str.ofString "__doc__"), (.str (Str.ofString "__doc__") 166), .none⟩, ⟨PyData.keyHash P (Str.ofString "__package__"), (.str (Str.ofString "__package__") 167), .none⟩, ⟨PyData.keyHash P (Str.ofString "__loader__"), (.str (Str.ofString "__loader__") 168), (.builtin "__main__.__loader__#opaque")⟩, ⟨PyData.keyHash P (Str.ofString "__spec__"), (.str (Str.ofString "__spec__") 169), .none⟩, ⟨PyData.keyHash P (Str.ofString "__annotations__"), (.str (Str.ofString "__annotations__") 170), (.ref 6)⟩, ⟨PyData.keyHash P (Str.ofString "__builtins__"), (.str (Str.ofString "__builtins__") 171), (.ref 4)⟩, ⟨PyData.keyHash P (Str.ofString "__file__"), (.str (Str.ofString "__file__") 173), (.str (Str.ofString "/claim/cut.py") 172)⟩, ⟨PyData.keyHash P (Str.ofString "__cached__"), (.str (Str.ofString "__cached__") 174), .none⟩, ⟨PyData.keyHash P (Str.ofString "COMPILER_FLAG_NAMES"), (.str (Str.ofString "COMPILER_FLAG_NAMES") 219), (.ref 15)⟩, ⟨PyData.keyHash P (Str.ofString "pretty_flags"), (.str (Str.ofString "pretty_flags") 229), (.ref 22)⟩, ⟨PyData.keyHash P (Str.ofString "_int2digits"), (.str (Str.ofString "_int2digits") 242), (.ref 29)⟩, ⟨PyData.keyHash P (Str.ofString "_digits2int"), (.str (Str.ofString "_digits2int") 253), (.ref 36)⟩].toArray 13), #[]⟩
noncomputable def hO12_p6 : Params → Obj := fun P => ⟨.none, none, (.fields [(.int (3) 0), (.int (0) 0), (.ref 21), (.int (16) 0), (.int (0) 0), (.ref 28), (.int (32) 0), (.int (0) 0), (.ref 35)].toArray), #[]⟩
noncomputable def hO15_p6 : Params → Obj := fun P => ⟨(.type "dict"), none, (.dict [⟨1, (.int (1) 189), (.str (Str.ofString "OPTIMIZED") 190)⟩, ⟨2, (.int (2) 191), (.str (Str.ofString "NEWLOCALS") 192)⟩, ⟨4, (.int (4) 193), (.str (Str.ofString "VARARGS") 194)⟩, ⟨8, (.int (8) 195), (.str (Str.ofString "VARKEYWORDS") 196)⟩, ⟨16, (.int (16) 197), (.str (Str.ofString "NESTED") 198)⟩, ⟨32, (.int (32) 199), (.str (Str.ofString "GENERATOR") 200)⟩, ⟨64, (.int (64) 201), (.str (Str.ofString "NOFREE") 202)⟩, ⟨128, (.int (128) 203), (.str (Str.ofString "COROUTINE") 204)⟩, ⟨256, (.int (256) 205), (.str (Str.ofString "ITERABLE_COROUTINE") 206)⟩, ⟨512, (.int (512) 207), (.str (Str.ofString "ASYNC_GENERATOR") 208)⟩].toArray 10), #[]⟩
noncomputable def hO16_p6 : Params → Obj := fun P => ⟨(.type "tuple"), none, (.seq #[] 0), #[]⟩
noncomputable def hO17_p6 : Params → Obj := fun P => ⟨.none, none, (.fields #[]), #[]⟩
noncomputable def hO18_p6 : Params → Obj := fun P => ⟨(.type "tuple"), none, (.seq [(.str (Str.ofString "flags") 223), (.str (Str.ofString "names") 224), (.str (Str.ofString "i") 225), (.str (Str.ofString "flag") 226)].toArray 0), #[]⟩
noncomputable def hO19_p6 : Params → Obj := fun P => ⟨(.type "tuple"), none, (.seq #[] 0), #[]⟩
noncomputable def hO20_p6 : Params → Obj := fun P => ⟨.none, none, (.func { (fnP (i := 2) rfl .none .none) with globals := 0 }), #[]⟩
noncomputable def hO21_p6 : Params → Obj := fun P => ⟨(.type "code"), none, (.fields [(.str (Str.ofString "pretty_flags") 220), (.str (Str.ofString "pretty_flags") 221), (.str (Str.ofString "/claim/cut.py") 222), (.int (3) 0), (.int (1) 0), (.int (0) 0), (.int (0) 0), (.int (3) 0), (.ref 16), (.bool true), (.int (181) 0), (.ref 17), .none, (.ref 18), (.ref 19), (.ref 20), (.int (227) 0), (.int (3) 0), (.str (Str.ofString "/claim/cut.py") 228)].toArray), #[]⟩
noncomputable def hO22_p6 : Params → Obj := fun P => ⟨(.type "function"), none, (.func (fnP (i := 2) rfl (.str (Str.ofString "cpy313.dis") 187) (.ref 21))), #[]⟩
noncomputable def hO23_p6 : Params → Obj := fun P => ⟨(.type "tuple"), none, (.seq #[] 0), #[]⟩
noncomputable def hO24_p6 : Params → Obj := fun P => ⟨.none, none, (.fields #[]), #[]⟩
noncomputable def hO25_p6 : Params → Obj := fun P => ⟨(.type "tuple"), none, (.seq [(.str (Str.ofString "a") 235), (.str (Str.ofString "n") 236)].toArray 0), #[]⟩
noncomputable def hO26_p6 : Params → Obj := fun P => ⟨(.type "tuple"), none, (.seq [(.str (Str.ofString "n") 237), (.str (Str.ofString "a_digits") 238), (.str (Str.ofString "inner") 239)].toArray 0), #[]⟩
noncomputable def hO27_p6 : Params → Obj := fun P => ⟨.none, none, (.func { (fnP (i := 4) rfl .none .none) with globals := 0 }), #[]⟩
noncomputable def hO28_p6 : Params → Obj := fun P => ⟨(.type "code"), none, (.fields [(.str (Str.ofString "_int2digits") 232), (.str (Str.ofString "_int2digits") 233), (.str (Str.ofString "/claim/cut.py") 234), (.int (16) 0), (.int (2) 0), (.int (0) 0), (.int (0) 0), (.int (3) 0), (.ref 23), (.bool true), (.int (181) 0), (.ref 24), .none, (.ref 25), (.ref 26), (.ref 27), (.int (240) 0), (.int (16) 0), (.str (Str.ofString "/claim/cut.py") 241)].toArray), #[]⟩
noncomputable def hO29_p6 : Params → Obj := fun P => ⟨(.type "function"), none, (.func (fnP (i := 4) rfl (.str (Str.ofString "cpy313._pylong") 230) (.ref 28))), #[]⟩
noncomputable def hO30_p6 : Params → Obj := fun P => ⟨(.type "tuple"), none, (.seq #[] 0), #[]⟩
noncomputable def hO31_p6 : Params → Obj := fun P => ⟨.none, none, (.fields #[]), #[]⟩
noncomputable def hO32_p6 : Params → Obj := fun P => ⟨(.type "tuple"), none, (.seq [(.str (Str.ofString "digits") 246), (.str (Str.ofString "n") 247)].toArray 0), #[]⟩
noncomputable def hO33_p6 : Params → Obj := fun P => ⟨(.type "tuple"), none, (.seq [(.str (Str.ofString "digits") 248), (.str (Str.ofString "n") 249), (.str (Str.ofString "inner") 250)].toArray 0), #[]⟩
noncomputable def hO34_p6 : Params → Obj := fun P => ⟨.none, none, (.func { (fnP (i := 5) rfl .none .none) with globals := 0 }), #[]⟩
noncomputable def hO35_p6 : Params → Obj := fun P => ⟨(.type "code"), none, (.fields [(.str (Str.ofString "_digits2int") 243), (.str (Str.ofString "_digits2int") 244), (.str (Str.ofString "/claim/cut.py") 245), (.int (32) 0), (.int (2) 0), (.int (0) 0), (.int (0) 0), (.int (3) 0), (.ref 30), (.bool true), (.int (181) 0), (.ref 31), .none, (.ref 32), (.ref 33), (.ref 34), (.int (251) 0), (.int (32) 0), (.str (Str.ofString "/claim/cut.py") 252)].toArray), #[]⟩
noncomputable def hO36_p6 : Params → Obj := fun P => ⟨(.type "function"), none, (.func (fnP (i := 5) rfl (.str (Str.ofString "cpy313._pylong") 230) (.ref 35))), #[]⟩
noncomputable def hO3_p8 : Params → Obj := fun P => ⟨(.type "dict"), none, (.dict [⟨PyData.keyHash P (Str.ofString "__name__"), (.str (Str.ofString "__name__") 165), (.str (Str.ofString "cpy313.stringprep") 254)⟩, ⟨PyData.keyHash P (Str.ofString "__doc__"), (.str (Str.ofString "__doc__") 166), .none⟩, ⟨PyData.keyHash P (Str.ofString "__package__"), (.str (Str.ofString "__package__") 167), .none⟩, ⟨PyData.keyHash P (Str.ofString "__loader__"), (.str (Str.ofString "__loader__") 168), (.builtin "__main__.__loader__#opaque")⟩, ⟨PyData.keyHash P (Str.ofString "__spec__"), (.str (Str.ofString "__spec__") 169), .none⟩, ⟨PyData.keyHash P (Str.ofString "__annotations__"), (.str (Str.ofString "__annotations__") 170), (.ref 6)⟩, ⟨PyData.keyHash P (Str.ofString "__builtins__"), (.str (Str.ofString "__builtins__") 171), (.ref 4)⟩, ⟨PyData.keyHash P (Str.ofString "__file__"), (.str (Str.ofString "__file__") 173), (.str (Str.ofString "/claim/cut.py") 172)⟩, ⟨PyData.keyHash P (Str.ofString "__cached__"), (.str (Str.ofString "__cached__") 174), .none⟩, ⟨PyData.keyHash P (Str.ofString "COMPILER_FLAG_NAMES"), (.str (Str.ofString "COMPILER_FLAG_NAMES") 219), (.ref 15)⟩, ⟨PyData.keyHash P (Str.ofString "pretty_flags"), (.str (Str.ofString "pretty_flags") 229), (.ref 22)⟩, ⟨PyData.keyHash P (Str.ofString "_int2digits"), (.str (Str.ofString "_int2digits") 242), (.ref 29)⟩, ⟨PyData.keyHash P (Str.ofString "_digits2int"), (.str (Str.ofString "_digits2int") 253), (.ref 36)⟩, ⟨PyData.keyHash P (Str.ofString "b1_set"), (.str (Str.ofString "b1_set") 315), (.ref 44)⟩, ⟨PyData.keyHash P (Str.ofString "in_table_b1"), (.str (Str.ofString "in_table_b1") 322), (.ref 54)⟩].toArray 15), #[]⟩
noncomputable def hO12_p8 : Params → Obj := fun P => ⟨.none, none, (.fields [(.int (3) 0), (.int (0) 0), (.ref 21), (.int (16) 0), (.int (0) 0), (.ref 28), (.int (32) 0), (.int (0) 0), (.ref 35), (.int (43) 0), (.int (0) 0), (.ref 53)].toArray), #[]⟩
noncomputable def hO37_p8 : Params → Obj := fun P => ⟨(.type "list"), none, (.seq [(.int (173) 256), (.int (847) 257), (.int (6150) 258), (.int (6155) 259), (.int (6156) 260), (.int (6157) 261), (.int (8203) 262), (.int (8204) 263), (.int (8205) 264), (.int (8288) 265), (.int (65279) 266)].toArray 0), #[]⟩
noncomputable def hO38_p8 : Params → Obj := fun P => ⟨(.type "range"), none, (.fields [(.int (65024) 267), (.int (65040) 268), (.int (1) 269)].toArray), #[]⟩
noncomputable def hO39_p8 : Params → Obj := fun P => ⟨(.type "list"), none, (.seq [(.int (65024) 272), (.int (65025) 273), (.int (65026) 274), (.int (65027) 275), (.int (65028) 276), (.int (65029) 277), (.int (65030) 278), (.int (65031) 279), (.int (65032) 280), (.int (65033) 281), (.int (65034) 282), (.int (65035) 283), (.int (65036) 284), (.int (65037) 285), (.int (65038) 286), (.int (65039) 287)].toArray 18), #[]⟩
noncomputable def hO40_p8 : Params → Obj := fun P => ⟨(.type "range_iterator"), none, (.fields [(.int (65040) 0), (.int (0) 0), (.int (1) 0)].toArray), #[]⟩
noncomputable def hO41_p8 : Params → Obj := fun P => ⟨(.type "tuple"), none, (.seq #[] 0), #[]⟩
noncomputable def hO42_p8 : Params → Obj := fun P => ⟨(.type "StopIteration"), none, (.fields [(.ref 41), .none, .none, .none, (.bool false), .none].toArray), #[]⟩
noncomputable def hO43_p8 : Params → Obj := fun P => ⟨(.type "list"), none, (.seq [(.int (173) 256), (.int (847) 257), (.int (6150) 258), (.int (6155) 259), (.int (6156) 260), (.int (6157) 261), (.int (8203) 262), (.int (8204) 263), (.int (8205) 264), (.int (8288) 265), (.int (65279) 266), (.int (65024) 272), (.int (65025) 273), (.int (65026) 274), (.int (65027) 275), (.int (65028) 276), (.int (65029) 277), (.int (65030) 278), (.int (65031) 279), (.int (65032) 280), (.int (65033) 281), (.int (65034) 282), (.int (65035) 283), (.int (65036) 284), (.int (65037) 285), (.int (65038) 286), (.int (65039) 287)].toArray 0), #[]⟩
noncomputable def hO44_p8 : Params → Obj := fun P => ⟨(.type "set"), none, (.set [(65024, (.int (65024) 272)), (65025, (.int (65025) 273)), (65026, (.int (65026) 274)), (65027, (.int (65027) 275)), (65028, (.int (65028) 276)), (65029, (.int (65029) 277)), (6150, (.int (6150) 258)), (65030, (.int (65030) 278)), (65031, (.int (65031) 279)), (65032, (.int (65032) 280)), (65033, (.int (65033) 281)), (6155, (.int (6155) 259)), (6156, (.int (6156) 260)), (6157, (.int (6157) 261)), (8203, (.int (8203) 262)), (8204, (.int (8204) 263)), (8205, (.int (8205) 264)), (65034, (.int (65034) 282)), (65035, (.int (65035) 283)), (65036, (.int (65036) 284)), (65037, (.int (65037) 285)), (65038, (.int (65038) 286)), (65039, (.int (65039) 287)), (173, (.int (173) 256)), (847, (.int (847) 257)), (8288, (.int (8288) 265)), (65279, (.int (65279) 266))].toArray 29 ⟨127, [0, 1, 2, 3, 4, 5, 6, 7, 8, 9, 10, 11, 12, 13, 14, 15, 16, 17, 18, 19, 20, 21, 22, 45, 79, 96, 127].toArray, #[], 0, !P.followText "set-order", 2, true⟩), #[]⟩
noncomputable def hO45_p8 : Params → Obj := fun P => ⟨(.type "list_iterator"), none, (.fields [.none, (.int (27) 0)].toArray), #[]⟩
noncomputable def hO46_p8 : Params → Obj := fun P => ⟨(.type "tuple"), none, (.seq #[] 0), #[]⟩
noncomputable def hO47_p8 : Params → Obj := fun P => ⟨(.type "StopIteration"), none, (.fields [(.ref 46), .none, .none, .none, (.bool false), .none].toArray), #[]⟩
noncomputable def hO48_p8 : Params → Obj := fun P => ⟨(.type "tuple"), none, (.seq #[] 0), #[]⟩
noncomputable def hO49_p8 : Params → Obj := fun P => ⟨.none, none, (.fields #[]), #[]⟩
noncomputable def hO50_p8 : Params → Obj := fun P => ⟨(.type "tuple"), none, (.seq [(.str (Str.ofString "code") 319)].toArray 0), #[]⟩
noncomputable def hO51_p8 : Params → Obj := fun P => ⟨(.type "tuple"), none, (.seq #[] 0), #[]⟩
noncomputable def hO52_p8 : Params → Obj := fun P => ⟨.none, none, (.func { (fnP (i := 8) rfl .none .none) with globals := 0 }), #[]⟩
noncomputable def hO53_p8 : Params → Obj := fun P => ⟨(.type "code"), none, (.fields [(.str (Str.ofString "in_table_b1") 316), (.str (Str.ofString "in_table_b1") 317), (.str (Str.ofString "/claim/cut.py") 318), (.int (43) 0), (.int (1) 0), (.int (0) 0), (.int (0) 0), (.int (3) 0), (.ref 48), (.bool true), (.int (181) 0), (.ref 49), .none, (.ref 50), (.ref 51), (.ref 52), (.int (320) 0), (.int (43) 0), (.str (Str.ofString "/claim/cut.py") 321)].toArray), #[]⟩
noncomputable def hO54_p8 : Params → Obj := fun P => ⟨(.type "function"), none, (.func (fnP (i := 8) rfl (.str (Str.ofString "cpy313.stringprep") 254) (.ref 53))), #[]⟩
noncomputable def hO3_p9 : Params → Obj := fun P => ⟨(.type "dict"), none, (.dict [⟨PyData.keyHash P (Str.ofString "__name__"), (.str (Str.ofString "__name__") 165), (.str (Str.ofString "cpy313.stringprep") 254)⟩, ⟨PyData.keyHash P (Str.ofString "__doc__"), (.str (Str.ofString "__doc__") 166), .none⟩, ⟨PyData.keyHash P (Str.ofString "__package__"), (.str (Str.ofString "__package__") 167), .none⟩, ⟨PyData.keyHash P (Str.ofString "__loader__"), (.str (Str.ofString "__loader__") 168), (.builtin "__main__.__loader__#opaque")⟩, ⟨PyData.keyHash P (Str.ofString "__spec__"), (.str (Str.ofString "__spec__") 169), .none⟩, ⟨PyData.keyHash P (Str.ofString "__annotations__"), (.str (Str.ofString "__annotations__") 170), (.ref 6)⟩, ⟨PyData.keyHash P (Str.ofString "__builtins__"), (.str (Str.ofString "__builtins__") 171), (.ref 4)⟩, ⟨PyData.keyHash P (Str.ofString "__file__"), (.str (Str.ofString "__file__") 173), (.str (Str.ofString "/claim/cut.py") 172)⟩, ⟨PyData.keyHash P (Str.ofString "__cached__"), (.str (Str.ofString "__cached__") 174), .none⟩, ⟨PyData.keyHash P (Str.ofString "COMPILER_FLAG_NAMES"), (.str (Str.ofString "COMPILER_FLAG_NAMES") 219), (.ref 15)⟩, ⟨PyData.keyHash P (Str.ofString "pretty_flags"), (.str (Str.ofString "pretty_flags") 229), (.ref 22)⟩, ⟨PyData.keyHash P (Str.ofString "_int2digits"), (.str (Str.ofString "_int2digits") 242), (.ref 29)⟩, ⟨PyData.keyHash P (Str.ofString "_digits2int"), (.str (Str.ofString "_digits2int") 253), (.ref 36)⟩, ⟨PyData.keyHash P (Str.ofString "b1_set"), (.str (Str.ofString "b1_set") 315), (.ref 44)⟩, ⟨PyData.keyHash P (Str.ofString "in_table_b1"), (.str (Str.ofString "in_table_b1") 322), (.ref 54)⟩, ⟨PyData.keyHash P (Str.ofString "b3_exceptions"), (.str (Str.ofString "b3_exceptions") 2273), (.ref 55)⟩].toArray 16), #[]⟩
noncomputable def hO55_p9 : Params → Obj := fun P => ⟨(.type "dict"), none, (.dict b3Ent.toArray 650), #[]⟩
noncomputable def hO56_p9 : Params → Obj := fun P => ⟨(.type "dict"), none, (.dict (subEnts 1).toArray 17), #[]⟩
noncomputable def hO57_p9 : Params → Obj := fun P => ⟨(.type "dict"), none, (.dict (subEnts 2).toArray 17), #[]⟩
noncomputable def hO58_p9 : Params → Obj := fun P => ⟨(.type "dict"), none, (.dict (subEnts 3).toArray 17), #[]⟩
noncomputable def hO59_p9 : Params → Obj := fun P => ⟨(.type "dict"), none, (.dict (subEnts 4).toArray 17), #[]⟩
noncomputable def hO60_p9 : Params → Obj := fun P => ⟨(.type "dict"), none, (.dict (subEnts 5).toArray 17), #[]⟩
noncomputable def hO61_p9 : Params → Obj := fun P => ⟨(.type "dict"), none, (.dict (subEnts 6).toArray 17), #[]⟩
noncomputable def hO62_p9 : Params → Obj := fun P => ⟨(.type "dict"), none, (.dict (subEnts 7).toArray 17), #[]⟩
noncomputable def hO63_p9 : Params → Obj := fun P => ⟨(.type "dict"), none, (.dict (subEnts 8).toArray 17), #[]⟩
noncomputable def hO64_p9 : Params → Obj := fun P => ⟨(.type "dict"), none, (.dict (subEnts 9).toArray 17), #[]⟩
noncomputable def hO65_p9 : Params → Obj := fun P => ⟨(.type "dict"), none, (.dict (subEnts 10).toArray 17), #[]⟩
noncomputable def hO66_p9 : Params → Obj := fun P => ⟨(.type "dict"), none, (.dict (subEnts 11).toArray 17), #[]⟩
noncomputable def hO67_p9 : Params → Obj := fun P => ⟨(.type "dict"), none, (.dict (subEnts 12).toArray 17), #[]⟩
noncomputable def hO68_p9 : Params → Obj := fun P => ⟨(.type "dict"), none, (.dict (subEnts 13).toArray 17), #[]⟩
noncomputable def hO69_p9 : Params → Obj := fun P => ⟨(.type "dict"), none, (.dict (subEnts 14).toArray 17), #[]⟩
noncomputable def hO70_p9 : Params → Obj := fun P => ⟨(.type "dict"), none, (.dict (subEnts 15).toArray 17), #[]⟩
noncomputable def hO71_p9 : Params → Obj := fun P => ⟨(.type "dict"), none, (.dict (subEnts 16).toArray 17), #[]⟩
noncomputable def hO72_p9 : Params → Obj := fun P => ⟨(.type "dict"), none, (.dict (subEnts 17).toArray 17), #[]⟩
noncomputable def hO73_p9 : Params → Obj := fun P => ⟨(.type "dict"), none, (.dict (subEnts 18).toArray 17), #[]⟩
noncomputable def hO74_p9 : Params → Obj := fun P => ⟨(.type "dict"), none, (.dict (subEnts 19).toArray 17), #[]⟩
noncomputable def hO75_p9 : Params → Obj := fun P => ⟨(.type "dict"), none, (.dict (subEnts 20).toArray 17), #[]⟩
noncomputable def hO76_p9 : Params → Obj := fun P => ⟨(.type "dict"), none, (.dict (subEnts 21).toArray 17), #[]⟩
noncomputable def hO77_p9 : Params → Obj := fun P => ⟨(.type "dict"), none, (.dict (subEnts 22).toArray 17), #[]⟩
noncomputable def hO78_p9 : Params → Obj := fun P => ⟨(.type "dict"), none, (.dict (subEnts 23).toArray 17), #[]⟩
noncomputable def hO79_p9 : Params → Obj := fun P => ⟨(.type "dict"), none, (.dict (subEnts 24).toArray 17), #[]⟩
noncomputable def hO80_p9 : Params → Obj := fun P => ⟨(.type "dict"), none, (.dict (subEnts 25).toArray 17), #[]⟩
noncomputable def hO81_p9 : Params → Obj := fun P => ⟨(.type "dict"), none, (.dict (subEnts 26).toArray 17), #[]⟩
noncomputable def hO82_p9 : Params → Obj := fun P => ⟨(.type "dict"), none, (.dict (subEnts 27).toArray 17), #[]⟩
noncomputable def hO83_p9 : Params → Obj := fun P => ⟨(.type "dict"), none, (.dict (subEnts 28).toArray 17), #[]⟩
noncomputable def hO84_p9 : Params → Obj := fun P => ⟨(.type "dict"), none, (.dict (subEnts 29).toArray 17), #[]⟩
noncomputable def hO85_p9 : Params → Obj := fun P => ⟨(.type "dict"), none, (.dict (subEnts 30).toArray 17), #[]⟩
noncomputable def hO86_p9 : Params → Obj := fun P => ⟨(.type "dict"), none, (.dict (subEnts 31).toArray 17), #[]⟩
noncomputable def hO87_p9 : Params → Obj := fun P => ⟨(.type "dict"), none, (.dict (subEnts 32).toArray 17), #[]⟩
noncomputable def hO88_p9 : Params → Obj := fun P => ⟨(.type "dict"), none, (.dict (subEnts 33).toArray 17), #[]⟩
noncomputable def hO89_p9 : Params → Obj := fun P => ⟨(.type "dict"), none, (.dict (subEnts 34).toArray 17), #[]⟩
noncomputable def hO90_p9 : Params → Obj := fun P => ⟨(.type "dict"), none, (.dict (subEnts 35).toArray 17), #[]⟩
noncomputable def hO91_p9 : Params → Obj := fun P => ⟨(.type "dict"), none, (.dict (subEnts 36).toArray 17), #[]⟩
noncomputable def hO92_p9 : Params → Obj := fun P => ⟨(.type "dict"), none, (.dict (subEnts 37).toArray 17), #[]⟩
noncomputable def hO93_p9 : Params → Obj := fun P => ⟨(.type "dict"), none, (.dict (subEnts 38).toArray 4), #[]⟩
noncomputable def hO3_p18 : Params → Obj := fun P => ⟨(.type "dict"), none, (.dict [⟨PyData.keyHash P (Str.ofString "__name__"), (.str (Str.ofString "__name__") 165), (.str (Str.ofString "law_rw0097_01") 2282)⟩, ⟨PyData.keyHash P (Str.ofString "__doc__"), (.str (Str.ofString "__doc__") 166), .none⟩, ⟨PyData.keyHash P (Str.ofString "__package__"), (.str (Str.ofString "__package__") 167), .none⟩, ⟨PyData.keyHash P (Str.ofString "__loader__"), (.str (Str.ofString "__loader__") 168), (.builtin "__main__.__loader__#opaque")⟩, ⟨PyData.keyHash P (Str.ofString "__spec__"), (.str (Str.ofString "__spec__") 169), .none⟩, ⟨PyData.keyHash P (Str.ofString "__annotations__"), (.str (Str.ofString "__annotations__") 170), (.ref 6)⟩, ⟨PyData.keyHash P (Str.ofString "__builtins__"), (.str (Str.ofString "__builtins__") 171), (.ref 4)⟩, ⟨PyData.keyHash P (Str.ofString "__file__"), (.str (Str.ofString "__file__") 173), (.str (Str.ofString "/claim/cut.py") 172)⟩, ⟨PyData.keyHash P (Str.ofString "__cached__"), (.str (Str.ofString "__cached__") 174), .none⟩, ⟨PyData.keyHash P (Str.ofString "COMPILER_FLAG_NAMES"), (.str (Str.ofString "COMPILER_FLAG_NAMES") 219), (.ref 15)⟩, ⟨PyData.keyHash P (Str.ofString "pretty_flags"), (.str (Str.ofString "pretty_flags") 229), (.ref 22)⟩, ⟨PyData.keyHash P (Str.ofString "_int2digits"), (.str (Str.ofString "_int2digits") 242), (.ref 29)⟩, ⟨PyData.keyHash P (Str.ofString "_digits2int"), (.str (Str.ofString "_digits2int") 253), (.ref 36)⟩, ⟨PyData.keyHash P (Str.ofString "b1_set"), (.str (Str.ofString "b1_set") 315), (.ref 44)⟩, ⟨PyData.keyHash P (Str.ofString "in_table_b1"), (.str (Str.ofString "in_table_b1") 322), (.ref 54)⟩, ⟨PyData.keyHash P (Str.ofString "b3_exceptions"), (.str (Str.ofString "b3_exceptions") 2273), (.ref 55)⟩, ⟨PyData.keyHash P (Str.ofString "map_table_b3"), (.str (Str.ofString "map_table_b3") 2281), (.ref 100)⟩, ⟨PyData.keyHash P (Str.ofString "_law_hidden"), (.str (Str.ofString "_law_hidden") 2289), (.ref 107)⟩, ⟨PyData.keyHash P (Str.ofString "_law_gaps"), (.str (Str.ofString "_law_gaps") 2295), (.ref 114)⟩, ⟨PyData.keyHash P (Str.ofString "_law_drawn"), (.str (Str.ofString "_law_drawn") 2301), (.ref 119)⟩, ⟨PyData.keyHash P (Str.ofString "_law_own"), (.str (Str.ofString "_law_own") 2312), (.ref 126)⟩, ⟨PyData.keyHash P (Str.ofString "_law_typed"), (.str (Str.ofString "_law_typed") 2328), (.ref 133)⟩, ⟨PyData.keyHash P (Str.ofString "_law_number"), (.str (Str.ofString "_law_number") 2334), (.ref 138)⟩, ⟨PyData.keyHash P (Str.ofString "law"), (.str (Str.ofString "law") 2340), (.ref 143)⟩].toArray 24), #[]⟩
noncomputable def hO12_p18 : Params → Obj := fun P => ⟨.none, none, (.fields [(.int (3) 0), (.int (0) 0), (.ref 21), (.int (16) 0), (.int (0) 0), (.ref 28), (.int (32) 0), (.int (0) 0), (.ref 35), (.int (43) 0), (.int (0) 0), (.ref 53), (.int (46) 0), (.int (0) 0), (.ref 99), (.int (52) 0), (.int (0) 0), (.ref 106), (.int (54) 0), (.int (0) 0), (.ref 113), (.int (56) 0), (.int (0) 0), (.ref 118), (.int (67) 0), (.int (0) 0), (.ref 125), (.int (79) 0), (.int (0) 0), (.ref 132), (.int (92) 0), (.int (0) 0), (.ref 137), (.int (94) 0), (.int (0) 0), (.ref 142)].toArray), #[]⟩
noncomputable def hO94_p18 : Params → Obj := fun P => ⟨(.type "tuple"), none, (.seq #[] 0), #[]⟩
noncomputable def hO95_p18 : Params → Obj := fun P => ⟨.none, none, (.fields #[]), #[]⟩
noncomputable def hO96_p18 : Params → Obj := fun P => ⟨(.type "tuple"), none, (.seq [(.str (Str.ofString "code") 2277), (.str (Str.ofString "r") 2278)].toArray 0), #[]⟩
noncomputable def hO97_p18 : Params → Obj := fun P => ⟨(.type "tuple"), none, (.seq #[] 0), #[]⟩
noncomputable def hO98_p18 : Params → Obj := fun P => ⟨.none, none, (.func { (fnP (i := 10) rfl .none .none) with globals := 0 }), #[]⟩
noncomputable def hO99_p18 : Params → Obj := fun P => ⟨(.type "code"), none, (.fields [(.str (Str.ofString "map_table_b3") 2274), (.str (Str.ofString "map_table_b3") 2275), (.str (Str.ofString "/claim/cut.py") 2276), (.int (46) 0), (.int (1) 0), (.int (0) 0), (.int (0) 0), (.int (3) 0), (.ref 94), (.bool true), (.int (181) 0), (.ref 95), .none, (.ref 96), (.ref 97), (.ref 98), (.int (2279) 0), (.int (46) 0), (.str (Str.ofString "/claim/cut.py") 2280)].toArray), #[]⟩
noncomputable def hO100_p18 : Params → Obj := fun P => ⟨(.type "function"), none, (.func (fnP (i := 10) rfl (.str (Str.ofString "cpy313.stringprep") 254) (.ref 99))), #[]⟩
noncomputable def hO101_p18 : Params → Obj := fun P => ⟨(.type "tuple"), none, (.seq #[] 0), #[]⟩
noncomputable def hO102_p18 : Params → Obj := fun P => ⟨.none, none, (.fields #[]), #[]⟩
noncomputable def hO103_p18 : Params → Obj := fun P => ⟨(.type "tuple"), none, (.seq #[] 0), #[]⟩
noncomputable def hO104_p18 : Params → Obj := fun P => ⟨(.type "tuple"), none, (.seq #[] 0), #[]⟩
noncomputable def hO105_p18 : Params → Obj := fun P => ⟨.none, none, (.func { (fnP (i := 12) rfl .none .none) with globals := 0 }), #[]⟩
noncomputable def hO106_p18 : Params → Obj := fun P => ⟨(.type "code"), none, (.fields [(.str (Str.ofString "_law_hidden") 2284), (.str (Str.ofString "_law_hidden") 2285), (.str (Str.ofString "/claim/cut.py") 2286), (.int (52) 0), (.int (0) 0), (.int (0) 0), (.int (0) 0), (.int (3) 0), (.ref 101), (.bool true), (.int (181) 0), (.ref 102), .none, (.ref 103), (.ref 104), (.ref 105), (.int (2287) 0), (.int (52) 0), (.str (Str.ofString "/claim/cut.py") 2288)].toArray), #[]⟩
noncomputable def hO107_p18 : Params → Obj := fun P => ⟨(.type "function"), none, (.func (fnP (i := 12) rfl (.str (Str.ofString "law_rw0097_01") 2282) (.ref 106))), #[]⟩
noncomputable def hO108_p18 : Params → Obj := fun P => ⟨(.type "tuple"), none, (.seq #[] 0), #[]⟩
noncomputable def hO109_p18 : Params → Obj := fun P => ⟨.none, none, (.fields #[]), #[]⟩
noncomputable def hO110_p18 : Params → Obj := fun P => ⟨(.type "tuple"), none, (.seq #[] 0), #[]⟩
noncomputable def hO111_p18 : Params → Obj := fun P => ⟨(.type "tuple"), none, (.seq #[] 0), #[]⟩
noncomputable def hO112_p18 : Params → Obj := fun P => ⟨.none, none, (.func { (fnP (i := 13) rfl .none .none) with globals := 0 }), #[]⟩
noncomputable def hO113_p18 : Params → Obj := fun P => ⟨(.type "code"), none, (.fields [(.str (Str.ofString "_law_gaps") 2290), (.str (Str.ofString "_law_gaps") 2291), (.str (Str.ofString "/claim/cut.py") 2292), (.int (54) 0), (.int (0) 0), (.int (0) 0), (.int (0) 0), (.int (3) 0), (.ref 108), (.bool true), (.int (181) 0), (.ref 109), .none, (.ref 110), (.ref 111), (.ref 112), (.int (2293) 0), (.int (54) 0), (.str (Str.ofString "/claim/cut.py") 2294)].toArray), #[]⟩
noncomputable def hO114_p18 : Params → Obj := fun P => ⟨(.type "function"), none, (.func (fnP (i := 13) rfl (.str (Str.ofString "law_rw0097_01") 2282) (.ref 113))), #[]⟩
noncomputable def hO115_p18 : Params → Obj := fun P => ⟨(.type "tuple"), none, (.seq #[] 0), #[]⟩
noncomputable def hO116_p18 : Params → Obj := fun P => ⟨.none, none, (.fields #[]), #[]⟩
noncomputable def hO117_p18 : Params → Obj := fun P => ⟨.none, none, (.func { (fnP (i := 14) rfl .none .none) with globals := 0 }), #[]⟩
noncomputable def hO118_p18 : Params → Obj := fun P => ⟨(.type "code"), none, (.fields [(.str (Str.ofString "_law_drawn") 2296), (.str (Str.ofString "_law_drawn") 2297), (.str (Str.ofString "/claim/cut.py") 2298), (.int (56) 0), (.int (1) 0), (.int (0) 0), (.int (0) 0), (.int (3) 0), (.ref 115), (.bool true), (.int (181) 0), (.ref 116), .none, .none, .none, (.ref 117), (.int (2299) 0), (.int (56) 0), (.str (Str.ofString "/claim/cut.py") 2300)].toArray), #[]⟩
noncomputable def hO119_p18 : Params → Obj := fun P => ⟨(.type "function"), none, (.func (fnP (i := 14) rfl (.str (Str.ofString "law_rw0097_01") 2282) (.ref 118))), #[]⟩
noncomputable def hO120_p18 : Params → Obj := fun P => ⟨(.type "tuple"), none, (.seq #[] 0), #[]⟩
noncomputable def hO121_p18 : Params → Obj := fun P => ⟨.none, none, (.fields #[]), #[]⟩
noncomputable def hO122_p18 : Params → Obj := fun P => ⟨(.type "tuple"), none, (.seq [(.str (Str.ofString "flag") 2305), (.str (Str.ofString "names") 2306), (.str (Str.ofString "k") 2307), (.str (Str.ofString "rest") 2308), (.str (Str.ofString "figures") 2309)].toArray 0), #[]⟩
noncomputable def hO123_p18 : Params → Obj := fun P => ⟨(.type "tuple"), none, (.seq #[] 0), #[]⟩
noncomputable def hO124_p18 : Params → Obj := fun P => ⟨.none, none, (.func { (fnP (i := 15) rfl .none .none) with globals := 0 }), #[]⟩
noncomputable def hO125_p18 : Params → Obj := fun P => ⟨(.type "code"), none, (.fields [(.str (Str.ofString "_law_own") 2302), (.str (Str.ofString "_law_own") 2303), (.str (Str.ofString "/claim/cut.py") 2304), (.int (67) 0), (.int (1) 0), (.int (0) 0), (.int (0) 0), (.int (3) 0), (.ref 120), (.bool true), (.int (181) 0), (.ref 121), .none, (.ref 122), (.ref 123), (.ref 124), (.int (2310) 0), (.int (67) 0), (.str (Str.ofString "/claim/cut.py") 2311)].toArray), #[]⟩
noncomputable def hO126_p18 : Params → Obj := fun P => ⟨(.type "function"), none, (.func (fnP (i := 15) rfl (.str (Str.ofString "law_rw0097_01") 2282) (.ref 125))), #[]⟩
noncomputable def hO127_p18 : Params → Obj := fun P => ⟨(.type "tuple"), none, (.seq #[] 0), #[]⟩
noncomputable def hO128_p18 : Params → Obj := fun P => ⟨.none, none, (.fields #[]), #[]⟩
noncomputable def hO129_p18 : Params → Obj := fun P => ⟨(.type "tuple"), none, (.seq [(.str (Str.ofString "report") 2316), (.str (Str.ofString "turn") 2317), (.str (Str.ofString "hidden") 2318), (.str (Str.ofString "gaps") 2319), (.str (Str.ofString "text") 2320), (.str (Str.ofString "k") 2321), (.str (Str.ofString "sign") 2322), (.str (Str.ofString "place") 2323), (.str (Str.ofString "face") 2324), (.str (Str.ofString "code") 2325)].toArray 0), #[]⟩
noncomputable def hO130_p18 : Params → Obj := fun P => ⟨(.type "tuple"), none, (.seq #[] 0), #[]⟩
noncomputable def hO131_p18 : Params → Obj := fun P => ⟨.none, none, (.func { (fnP (i := 16) rfl .none .none) with globals := 0 }), #[]⟩
noncomputable def hO132_p18 : Params → Obj := fun P => ⟨(.type "code"), none, (.fields [(.str (Str.ofString "_law_typed") 2313), (.str (Str.ofString "_law_typed") 2314), (.str (Str.ofString "/claim/cut.py") 2315), (.int (79) 0), (.int (4) 0), (.int (0) 0), (.int (0) 0), (.int (3) 0), (.ref 127), (.bool true), (.int (181) 0), (.ref 128), .none, (.ref 129), (.ref 130), (.ref 131), (.int (2326) 0), (.int (79) 0), (.str (Str.ofString "/claim/cut.py") 2327)].toArray), #[]⟩
noncomputable def hO133_p18 : Params → Obj := fun P => ⟨(.type "function"), none, (.func (fnP (i := 16) rfl (.str (Str.ofString "law_rw0097_01") 2282) (.ref 132))), #[]⟩
noncomputable def hO134_p18 : Params → Obj := fun P => ⟨(.type "tuple"), none, (.seq #[] 0), #[]⟩
noncomputable def hO135_p18 : Params → Obj := fun P => ⟨.none, none, (.fields #[]), #[]⟩
noncomputable def hO136_p18 : Params → Obj := fun P => ⟨.none, none, (.func { (fnP (i := 17) rfl .none .none) with globals := 0 }), #[]⟩
noncomputable def hO137_p18 : Params → Obj := fun P => ⟨(.type "code"), none, (.fields [(.str (Str.ofString "_law_number") 2329), (.str (Str.ofString "_law_number") 2330), (.str (Str.ofString "/claim/cut.py") 2331), (.int (92) 0), (.int (2) 0), (.int (0) 0), (.int (0) 0), (.int (3) 0), (.ref 134), (.bool true), (.int (181) 0), (.ref 135), .none, .none, .none, (.ref 136), (.int (2332) 0), (.int (92) 0), (.str (Str.ofString "/claim/cut.py") 2333)].toArray), #[]⟩
noncomputable def hO138_p18 : Params → Obj := fun P => ⟨(.type "function"), none, (.func (fnP (i := 17) rfl (.str (Str.ofString "law_rw0097_01") 2282) (.ref 137))), #[]⟩
noncomputable def hO139_p18 : Params → Obj := fun P => ⟨(.type "tuple"), none, (.seq #[] 0), #[]⟩
noncomputable def hO140_p18 : Params → Obj := fun P => ⟨.none, none, (.fields #[]), #[]⟩
noncomputable def hO141_p18 : Params → Obj := fun P => ⟨.none, none, (.func { (fnP (i := 18) rfl .none .none) with globals := 0 }), #[]⟩
noncomputable def hO142_p18 : Params → Obj := fun P => ⟨(.type "code"), none, (.fields [(.str (Str.ofString "law") 2335), (.str (Str.ofString "law") 2336), (.str (Str.ofString "/claim/cut.py") 2337), (.int (94) 0), (.int (1) 0), (.int (0) 0), (.int (0) 0), (.int (3) 0), (.ref 139), (.bool true), (.int (181) 0), (.ref 140), .none, .none, .none, (.ref 141), (.int (2338) 0), (.int (94) 0), (.str (Str.ofString "/claim/cut.py") 2339)].toArray), #[]⟩
noncomputable def hO143_p18 : Params → Obj := fun P => ⟨(.type "function"), none, (.func (fnP (i := 18) rfl (.str (Str.ofString "law_rw0097_01") 2282) (.ref 142))), #[]⟩
noncomputable def hT_block : Params → BT := fun P => (.node (boot_o_0 P) (.node (boot_o_1 P) (.node (boot_o_3 P) (.node (boot_o_7 P) .nil .nil) (.node (hO11_pre P) .nil .nil)) (.node (boot_o_5 P) (.node (boot_o_9 P) .nil .nil) (.node (hO13_pre P) .nil .nil))) (.node (boot_o_2 P) (.node (boot_o_4 P) (.node (boot_o_8 P) .nil .nil) (.node (hO12_pre P) .nil .nil)) (.node (boot_o_6 P) (.node (boot_o_10 P) .nil .nil) (.node (hO14_pre P) .nil .nil))))
noncomputable abbrev hS_block (w : World) (os : OsState) : SharedT := ⟨hT_block w.params, 15, {}, #[], {}, 187, os⟩
noncomputable def hT_p6 : Params → BT := fun P => (.node (boot_o_0 P) (.node (boot_o_1 P) (.node (hO3_p6 P) (.node (boot_o_7 P) (.node (hO15_p6 P) (.node (hO31_p6 P) .nil .nil) .nil) (.node (hO23_p6 P) .nil .nil)) (.node (hO11_pre P) (.node (hO19_p6 P) (.node (hO35_p6 P) .nil .nil) .nil) (.node (hO27_p6 P) .nil .nil))) (.node (boot_o_5 P) (.node (boot_o_9 P) (.node (hO17_p6 P) (.node (hO33_p6 P) .nil .nil) .nil) (.node (hO25_p6 P) .nil .nil)) (.node (hO13_pre P) (.node (hO21_p6 P) .nil .nil) (.node (hO29_p6 P) .nil .nil)))) (.node (boot_o_2 P) (.node (boot_o_4 P) (.node (boot_o_8 P) (.node (hO16_p6 P) (.node (hO32_p6 P) .nil .nil) .nil) (.node (hO24_p6 P) .nil .nil)) (.node (hO12_p6 P) (.node (hO20_p6 P) (.node (hO36_p6 P) .nil .nil) .nil) (.node (hO28_p6 P) .nil .nil))) (.node (boot_o_6 P) (.node (boot_o_10 P) (.node (hO18_p6 P) (.node (hO34_p6 P) .nil .nil) .nil) (.node (hO26_p6 P) .nil .nil)) (.node (hO14_pre P) (.node (hO22_p6 P) .nil .nil) (.node (hO30_p6 P) .nil .nil)))))
noncomputable abbrev hS_p6 (w : World) (os : OsState) : SharedT := ⟨hT_p6 w.params, 37, {}, #[], {}, 256, os⟩
noncomputable def hT_p8 : Params → BT := fun P => (.node (boot_o_0 P) (.node (boot_o_1 P) (.node (hO3_p8 P) (.node (boot_o_7 P) (.node (hO15_p6 P) (.node (hO31_p6 P) .nil .nil) (.node (hO47_p8 P) .nil .nil)) (.node (hO23_p6 P) (.node (hO39_p8 P) .nil .nil) .nil)) (.node (hO11_pre P) (.node (hO19_p6 P) (.node (hO35_p6 P) .nil .nil) (.node (hO51_p8 P) .nil .nil)) (.node (hO27_p6 P) (.node (hO43_p8 P) .nil .nil) .nil))) (.node (boot_o_5 P) (.node (boot_o_9 P) (.node (hO17_p6 P) (.node (hO33_p6 P) .nil .nil) (.node (hO49_p8 P) .nil .nil)) (.node (hO25_p6 P) (.node (hO41_p8 P) .nil .nil) .nil)) (.node (hO13_pre P) (.node (hO21_p6 P) (.node (hO37_p8 P) .nil .nil) (.node (hO53_p8 P) .nil .nil)) (.node (hO29_p6 P) (.node (hO45_p8 P) .nil .nil) .nil)))) (.node (boot_o_2 P) (.node (boot_o_4 P) (.node (boot_o_8 P) (.node (hO16_p6 P) (.node (hO32_p6 P) .nil .nil) (.node (hO48_p8 P) .nil .nil)) (.node (hO24_p6 P) (.node (hO40_p8 P) .nil .nil) .nil)) (.node (hO12_p8 P) (.node (hO20_p6 P) (.node (hO36_p6 P) .nil .nil) (.node (hO52_p8 P) .nil .nil)) (.node (hO28_p6 P) (.node (hO44_p8 P) .nil .nil) .nil))) (.node (boot_o_6 P) (.node (boot_o_10 P) (.node (hO18_p6 P) (.node (hO34_p6 P) .nil .nil) (.node (hO50_p8 P) .nil .nil)) (.node (hO26_p6 P) (.node (hO42_p8 P) .nil .nil) .nil)) (.node (hO14_pre P) (.node (hO22_p6 P) (.node (hO38_p8 P) .nil .nil) (.node (hO54_p8 P) .nil .nil)) (.node (hO30_p6 P) (.node (hO46_p8 P) .nil .nil) .nil)))))
noncomputable abbrev hS_p8 (w : World) (os : OsState) : SharedT := ⟨hT_p8 w.params, 55, {}, #[], {}, 323, os⟩
noncomputable def hT_mid : Params → BT := fun P => (.node (boot_o_0 P) (.node (boot_o_1 P) (.node (hO3_p8 P) (.node (boot_o_7 P) (.node (hO15_p6 P) (.node (hO31_p6 P) (.node (hO63_p9 P) .nil .nil) .nil) (.node (hO47_p8 P) (.node (hO79_p9 P) .nil .nil) .nil)) (.node (hO23_p6 P) (.node (hO39_p8 P) (.node (hO71_p9 P) .nil .nil) .nil) (.node (hO55_p9 P) (.node (hO87_p9 P) .nil .nil) .nil))) (.node (hO11_pre P) (.node (hO19_p6 P) (.node (hO35_p6 P) (.node (hO67_p9 P) .nil .nil) .nil) (.node (hO51_p8 P) (.node (hO83_p9 P) .nil .nil) .nil)) (.node (hO27_p6 P) (.node (hO43_p8 P) (.node (hO75_p9 P) .nil .nil) .nil) (.node (hO59_p9 P) (.node (hO91_p9 P) .nil .nil) .nil)))) (.node (boot_o_5 P) (.node (boot_o_9 P) (.node (hO17_p6 P) (.node (hO33_p6 P) (.node (hO65_p9 P) .nil .nil) .nil) (.node (hO49_p8 P) (.node (hO81_p9 P) .nil .nil) .nil)) (.node (hO25_p6 P) (.node (hO41_p8 P) (.node (hO73_p9 P) .nil .nil) .nil) (.node (hO57_p9 P) (.node (hO89_p9 P) .nil .nil) .nil))) (.node (hO13_pre P) (.node (hO21_p6 P) (.node (hO37_p8 P) (.node (hO69_p9 P) .nil .nil) .nil) (.node (hO53_p8 P) (.node (hO85_p9 P) .nil .nil) .nil)) (.node (hO29_p6 P) (.node (hO45_p8 P) (.node (hO77_p9 P) .nil .nil) .nil) (.node (hO61_p9 P) (.node (hO93_p9 P) .nil .nil) .nil))))) (.node (boot_o_2 P) (.node (boot_o_4 P) (.node (boot_o_8 P) (.node (hO16_p6 P) (.node (hO32_p6 P) (.node (hO64_p9 P) .nil .nil) .nil) (.node (hO48_p8 P) (.node (hO80_p9 P) .nil .nil) .nil)) (.node (hO24_p6 P) (.node (hO40_p8 P) (.node (hO72_p9 P) .nil .nil) .nil) (.node (hO56_p9 P) (.node (hO88_p9 P) .nil .nil) .nil))) (.node (hO12_p8 P) (.node (hO20_p6 P) (.node (hO36_p6 P) (.node (hO68_p9 P) .nil .nil) .nil) (.node (hO52_p8 P) (.node (hO84_p9 P) .nil .nil) .nil)) (.node (hO28_p6 P) (.node (hO44_p8 P) (.node (hO76_p9 P) .nil .nil) .nil) (.node (hO60_p9 P) (.node (hO92_p9 P) .nil .nil) .nil)))) (.node (boot_o_6 P) (.node (boot_o_10 P) (.node (hO18_p6 P) (.node (hO34_p6 P) (.node (hO66_p9 P) .nil .nil) .nil) (.node (hO50_p8 P) (.node (hO82_p9 P) .nil .nil) .nil)) (.node (hO26_p6 P) (.node (hO42_p8 P) (.node (hO74_p9 P) .nil .nil) .nil) (.node (hO58_p9 P) (.node (hO90_p9 P) .nil .nil) .nil))) (.node (hO14_pre P) (.node (hO22_p6 P) (.node (hO38_p8 P) (.node (hO70_p9 P) .nil .nil) .nil) (.node (hO54_p8 P) (.node (hO86_p9 P) .nil .nil) .nil)) (.node (hO30_p6 P) (.node (hO46_p8 P) (.node (hO78_p9 P) .nil .nil) .nil) (.node (hO62_p9 P) .nil .nil))))))
noncomputable abbrev hS_mid (w : World) (os : OsState) : SharedT := ⟨hT_mid w.params, 94, {}, #[], {}, 2273, os⟩
noncomputable def hT_p9 : Params → BT := fun P => (.node (boot_o_0 P) (.node (boot_o_1 P) (.node (hO3_p9 P) (.node (boot_o_7 P) (.node (hO15_p6 P) (.node (hO31_p6 P) (.node (hO63_p9 P) .nil .nil) .nil) (.node (hO47_p8 P) (.node (hO79_p9 P) .nil .nil) .nil)) (.node (hO23_p6 P) (.node (hO39_p8 P) (.node (hO71_p9 P) .nil .nil) .nil) (.node (hO55_p9 P) (.node (hO87_p9 P) .nil .nil) .nil))) (.node (hO11_pre P) (.node (hO19_p6 P) (.node (hO35_p6 P) (.node (hO67_p9 P) .nil .nil) .nil) (.node (hO51_p8 P) (.node (hO83_p9 P) .nil .nil) .nil)) (.node (hO27_p6 P) (.node (hO43_p8 P) (.node (hO75_p9 P) .nil .nil) .nil) (.node (hO59_p9 P) (.node (hO91_p9 P) .nil .nil) .nil)))) (.node (boot_o_5 P) (.node (boot_o_9 P) (.node (hO17_p6 P) (.node (hO33_p6 P) (.node (hO65_p9 P) .nil .nil) .nil) (.node (hO49_p8 P) (.node (hO81_p9 P) .nil .nil) .nil)) (.node (hO25_p6 P) (.node (hO41_p8 P) (.node (hO73_p9 P) .nil .nil) .nil) (.node (hO57_p9 P) (.node (hO89_p9 P) .nil .nil) .nil))) (.node (hO13_pre P) (.node (hO21_p6 P) (.node (hO37_p8 P) (.node (hO69_p9 P) .nil .nil) .nil) (.node (hO53_p8 P) (.node (hO85_p9 P) .nil .nil) .nil)) (.node (hO29_p6 P) (.node (hO45_p8 P) (.node (hO77_p9 P) .nil .nil) .nil) (.node (hO61_p9 P) (.node (hO93_p9 P) .nil .nil) .nil))))) (.node (boot_o_2 P) (.node (boot_o_4 P) (.node (boot_o_8 P) (.node (hO16_p6 P) (.node (hO32_p6 P) (.node (hO64_p9 P) .nil .nil) .nil) (.node (hO48_p8 P) (.node (hO80_p9 P) .nil .nil) .nil)) (.node (hO24_p6 P) (.node (hO40_p8 P) (.node (hO72_p9 P) .nil .nil) .nil) (.node (hO56_p9 P) (.node (hO88_p9 P) .nil .nil) .nil))) (.node (hO12_p8 P) (.node (hO20_p6 P) (.node (hO36_p6 P) (.node (hO68_p9 P) .nil .nil) .nil) (.node (hO52_p8 P) (.node (hO84_p9 P) .nil .nil) .nil)) (.node (hO28_p6 P) (.node (hO44_p8 P) (.node (hO76_p9 P) .nil .nil) .nil) (.node (hO60_p9 P) (.node (hO92_p9 P) .nil .nil) .nil)))) (.node (boot_o_6 P) (.node (boot_o_10 P) (.node (hO18_p6 P) (.node (hO34_p6 P) (.node (hO66_p9 P) .nil .nil) .nil) (.node (hO50_p8 P) (.node (hO82_p9 P) .nil .nil) .nil)) (.node (hO26_p6 P) (.node (hO42_p8 P) (.node (hO74_p9 P) .nil .nil) .nil) (.node (hO58_p9 P) (.node (hO90_p9 P) .nil .nil) .nil))) (.node (hO14_pre P) (.node (hO22_p6 P) (.node (hO38_p8 P) (.node (hO70_p9 P) .nil .nil) .nil) (.node (hO54_p8 P) (.node (hO86_p9 P) .nil .nil) .nil)) (.node (hO30_p6 P) (.node (hO46_p8 P) (.node (hO78_p9 P) .nil .nil) .nil) (.node (hO62_p9 P) .nil .nil))))))
noncomputable abbrev hS_p9 (w : World) (os : OsState) : SharedT := ⟨hT_p9 w.params, 94, {}, #[], {}, 2274, os⟩
noncomputable def hT_p18 : Params → BT := fun P => (.node (boot_o_0 P) (.node (boot_o_1 P) (.node (hO3_p18 P) (.node (boot_o_7 P) (.node (hO15_p6 P) (.node (hO31_p6 P) (.node (hO63_p9 P) (.node (hO127_p18 P) .nil .nil) .nil) (.node (hO95_p18 P) .nil .nil)) (.node (hO47_p8 P) (.node (hO79_p9 P) (.node (hO143_p18 P) .nil .nil) .nil) (.node (hO111_p18 P) .nil .nil))) (.node (hO23_p6 P) (.node (hO39_p8 P) (.node (hO71_p9 P) (.node (hO135_p18 P) .nil .nil) .nil) (.node (hO103_p18 P) .nil .nil)) (.node (hO55_p9 P) (.node (hO87_p9 P) .nil .nil) (.node (hO119_p18 P) .nil .nil)))) (.node (hO11_pre P) (.node (hO19_p6 P) (.node (hO35_p6 P) (.node (hO67_p9 P) (.node (hO131_p18 P) .nil .nil) .nil) (.node (hO99_p18 P) .nil .nil)) (.node (hO51_p8 P) (.node (hO83_p9 P) .nil .nil) (.node (hO115_p18 P) .nil .nil))) (.node (hO27_p6 P) (.node (hO43_p8 P) (.node (hO75_p9 P) (.node (hO139_p18 P) .nil .nil) .nil) (.node (hO107_p18 P) .nil .nil)) (.node (hO59_p9 P) (.node (hO91_p9 P) .nil .nil) (.node (hO123_p18 P) .nil .nil))))) (.node (boot_o_5 P) (.node (boot_o_9 P) (.node (hO17_p6 P) (.node (hO33_p6 P) (.node (hO65_p9 P) (.node (hO129_p18 P) .nil .nil) .nil) (.node (hO97_p18 P) .nil .nil)) (.node (hO49_p8 P) (.node (hO81_p9 P) .nil .nil) (.node (hO113_p18 P) .nil .nil))) (.node (hO25_p6 P) (.node (hO41_p8 P) (.node (hO73_p9 P) (.node (hO137_p18 P) .nil .nil) .nil) (.node (hO105_p18 P) .nil .nil)) (.node (hO57_p9 P) (.node (hO89_p9 P) .nil .nil) (.node (hO121_p18 P) .nil .nil)))) (.node (hO13_pre P) (.node (hO21_p6 P) (.node (hO37_p8 P) (.node (hO69_p9 P) (.node (hO133_p18 P) .nil .nil) .nil) (.node (hO101_p18 P) .nil .nil)) (.node (hO53_p8 P) (.node (hO85_p9 P) .nil .nil) (.node (hO117_p18 P) .nil .nil))) (.node (hO29_p6 P) (.node (hO45_p8 P) (.node (hO77_p9 P) (.node (hO141_p18 P) .nil .nil) .nil) (.node (hO109_p18 P) .nil .nil)) (.node (hO61_p9 P) (.node (hO93_p9 P) .nil .nil) (.node (hO125_p18 P) .nil .nil)))))) (.node (boot_o_2 P) (.node (boot_o_4 P) (.node (boot_o_8 P) (.node (hO16_p6 P) (.node (hO32_p6 P) (.node (hO64_p9 P) (.node (hO128_p18 P) .nil .nil) .nil) (.node (hO96_p18 P) .nil .nil)) (.node (hO48_p8 P) (.node (hO80_p9 P) .nil .nil) (.node (hO112_p18 P) .nil .nil))) (.node (hO24_p6 P) (.node (hO40_p8 P) (.node (hO72_p9 P) (.node (hO136_p18 P) .nil .nil) .nil) (.node (hO104_p18 P) .nil .nil)) (.node (hO56_p9 P) (.node (hO88_p9 P) .nil .nil) (.node (hO120_p18 P) .nil .nil)))) (.node (hO12_p18 P) (.node (hO20_p6 P) (.node (hO36_p6 P) (.node (hO68_p9 P) (.node (hO132_p18 P) .nil .nil) .nil) (.node (hO100_p18 P) .nil .nil)) (.node (hO52_p8 P) (.node (hO84_p9 P) .nil .nil) (.node (hO116_p18 P) .nil .nil))) (.node (hO28_p6 P) (.node (hO44_p8 P) (.node (hO76_p9 P) (.node (hO140_p18 P) .nil .nil) .nil) (.node (hO108_p18 P) .nil .nil)) (.node (hO60_p9 P) (.node (hO92_p9 P) .nil .nil) (.node (hO124_p18 P) .nil .nil))))) (.node (boot_o_6 P) (.node (boot_o_10 P) (.node (hO18_p6 P) (.node (hO34_p6 P) (.node (hO66_p9 P) (.node (hO130_p18 P) .nil .nil) .nil) (.node (hO98_p18 P) .nil .nil)) (.node (hO50_p8 P) (.node (hO82_p9 P) .nil .nil) (.node (hO114_p18 P) .nil .nil))) (.node (hO26_p6 P) (.node (hO42_p8 P) (.node (hO74_p9 P) (.node (hO138_p18 P) .nil .nil) .nil) (.node (hO106_p18 P) .nil .nil)) (.node (hO58_p9 P) (.node (hO90_p9 P) .nil .nil) (.node (hO122_p18 P) .nil .nil)))) (.node (hO14_pre P) (.node (hO22_p6 P) (.node (hO38_p8 P) (.node (hO70_p9 P) (.node (hO134_p18 P) .nil .nil) .nil) (.node (hO102_p18 P) .nil .nil)) (.node (hO54_p8 P) (.node (hO86_p9 P) .nil .nil) (.node (hO118_p18 P) .nil .nil))) (.node (hO30_p6 P) (.node (hO46_p8 P) (.node (hO78_p9 P) (.node (hO142_p18 P) .nil .nil) .nil) (.node (hO110_p18 P) .nil .nil)) (.node (hO62_p9 P) (.node (hO94_p18 P) .nil .nil) (.node (hO126_p18 P) .nil .nil)))))))
noncomputable abbrev hS_p18 (w : World) (os : OsState) : SharedT := ⟨hT_p18 w.params, 144, {}, #[], {}, 2341, os⟩
noncomputable def hH_pre : Params → Heap := fun P => ⟨[boot_o_0 P, boot_o_1 P, boot_o_2 P, boot_o_3 P, boot_o_4 P, boot_o_5 P, boot_o_6 P, boot_o_7 P, boot_o_8 P, boot_o_9 P, boot_o_10 P, hO11_pre P, hO12_pre P, hO13_pre P, hO14_pre P].toArray, {}⟩
noncomputable abbrev hSh_pre (w : World) (os : OsState) : Shared := ⟨hH_pre w.params, #[], {}, 187, os⟩
noncomputable def hH_p18 : Params → Heap := fun P => ⟨[boot_o_0 P, boot_o_1 P, boot_o_2 P, hO3_p18 P, boot_o_4 P, boot_o_5 P, boot_o_6 P, boot_o_7 P, boot_o_8 P, boot_o_9 P, boot_o_10 P, hO11_pre P, hO12_p18 P, hO13_pre P, hO14_pre P, hO15_p6 P, hO16_p6 P, hO17_p6 P, hO18_p6 P, hO19_p6 P, hO20_p6 P, hO21_p6 P, hO22_p6 P, hO23_p6 P, hO24_p6 P, hO25_p6 P, hO26_p6 P, hO27_p6 P, hO28_p6 P, hO29_p6 P, hO30_p6 P, hO31_p6 P, hO32_p6 P, hO33_p6 P, hO34_p6 P, hO35_p6 P, hO36_p6 P, hO37_p8 P, hO38_p8 P, hO39_p8 P, hO40_p8 P, hO41_p8 P, hO42_p8 P, hO43_p8 P, hO44_p8 P, hO45_p8 P, hO46_p8 P, hO47_p8 P, hO48_p8 P, hO49_p8 P, hO50_p8 P, hO51_p8 P, hO52_p8 P, hO53_p8 P, hO54_p8 P, hO55_p9 P, hO56_p9 P, hO57_p9 P, hO58_p9 P, hO59_p9 P, hO60_p9 P, hO61_p9 P, hO62_p9 P, hO63_p9 P, hO64_p9 P, hO65_p9 P, hO66_p9 P, hO67_p9 P, hO68_p9 P, hO69_p9 P, hO70_p9 P, hO71_p9 P, hO72_p9 P, hO73_p9 P, hO74_p9 P, hO75_p9 P, hO76_p9 P, hO77_p9 P, hO78_p9 P, hO79_p9 P, hO80_p9 P, hO81_p9 P, hO82_p9 P, hO83_p9 P, hO84_p9 P, hO85_p9 P, hO86_p9 P, hO87_p9 P, hO88_p9 P, hO89_p9 P, hO90_p9 P, hO91_p9 P, hO92_p9 P, hO93_p9 P, hO94_p18 P, hO95_p18 P, hO96_p18 P, hO97_p18 P, hO98_p18 P, hO99_p18 P, hO100_p18 P, hO101_p18 P, hO102_p18 P, hO103_p18 P, hO104_p18 P, hO105_p18 P, hO106_p18 P, hO107_p18 P, hO108_p18 P, hO109_p18 P, hO110_p18 P, hO111_p18 P, hO112_p18 P, hO113_p18 P, hO114_p18 P, hO115_p18 P, hO116_p18 P, hO117_p18 P, hO118_p18 P, hO119_p18 P, hO120_p18 P, hO121_p18 P, hO122_p18 P, hO123_p18 P, hO124_p18 P, hO125_p18 P, hO126_p18 P, hO127_p18 P, hO128_p18 P, hO129_p18 P, hO130_p18 P, hO131_p18 P, hO132_p18 P, hO133_p18 P, hO134_p18 P, hO135_p18 P, hO136_p18 P, hO137_p18 P, hO138_p18 P, hO139_p18 P, hO140_p18 P, hO141_p18 P, hO142_p18 P, hO143_p18 P].toArray, {}⟩
noncomputable abbrev hSh_p18 (w : World) (os : OsState) : Shared := ⟨hH_p18 w.params, #[], {}, 2341, os⟩
noncomputable abbrev hP_pre : Pos := ⟨0, 0, 0, 0⟩
noncomputable abbrev hP_block : Pos := ⟨0, 0, 0, 0⟩
noncomputable abbrev hP_p0 : Pos := ⟨1, 0, 1, 8⟩
noncomputable abbrev hP_p1 : Pos := ⟨2, 0, 2, 19⟩
noncomputable abbrev hP_p2 : Pos := ⟨3, 0, 14, 27⟩
noncomputable abbrev hP_p3 : Pos := ⟨15, 0, 15, 8⟩
noncomputable abbrev hP_p4 : Pos := ⟨16, 0, 31, 19⟩
noncomputable abbrev hP_p5 : Pos := ⟨32, 0, 40, 49⟩
noncomputable abbrev hP_p6 : Pos := ⟨41, 0, 41, 8⟩
noncomputable abbrev hP_p7 : Pos := ⟨42, 0, 42, 6⟩
noncomputable abbrev hP_p8 : Pos := ⟨43, 0, 44, 30⟩
noncomputable abbrev hP_p9 : Pos := ⟨45, 0, 45, 13⟩
noncomputable abbrev hP_p10 : Pos := ⟨46, 0, 50, 23⟩
noncomputable abbrev hP_p11 : Pos := ⟨51, 0, 51, 8⟩
noncomputable abbrev hP_p12 : Pos := ⟨52, 0, 53, 104⟩
noncomputable abbrev hP_p13 : Pos := ⟨54, 0, 55, 291⟩
noncomputable abbrev hP_p14 : Pos := ⟨56, 0, 66, 52⟩
noncomputable abbrev hP_p15 : Pos := ⟨67, 0, 78, 50⟩
noncomputable abbrev hP_p16 : Pos := ⟨79, 0, 91, 15⟩
noncomputable abbrev hP_p17 : Pos := ⟨92, 0, 93, 63⟩
noncomputable abbrev hP_p18 : Pos := ⟨94, 0, 125, 36⟩
end
end Mine
end
section
open PySem PySem.W PyProof.Rows
set_option Elab.async false
set_option maxRecDepth 100000
set_option maxHeartbeats 0
namespace Mine
noncomputable section
noncomputable abbrev hBody : List Stmt := behindTheImports PW
noncomputable def sts1 : List Stmt := hBody.take 7
noncomputable def sts2 : List Stmt := (hBody.drop 7).take 2
noncomputable def sts3 : List Stmt := (hBody.drop 9).take 1
noncomputable def sts4 : List Stmt := hBody.drop 10
noncomputable abbrev sg (w : World) (b : Bool) : World := w.withFollow "special-get-raises" b
theorem run_quick : @segRunT = @PySem.W.Fast.tw10110043849684766642 := PySem.W.Fast.te10110043849684766642
theorem table_quick : treeTable = PySem.W.Fast.tw14364793385576792824 := PySem.W.Fast.te14364793385576792824
theorem h_open : ∀ w : World, (fencedOpening treeTable PW w 28300).map (fun s => (s.heap, s.gens, s.drawn, s.toks)) = some (boot_heap w.params, Array.mk [], boot_drawn, boot_toks) :=
  boot_open (by kernel_rfl) (by decide) (fun s => rfl)
theorem h_size (w : World) : ((boot_heap w.params).isNs mainGlobals && (Array.mk [] : Array GenState).size == 0, (boot_heap w.params).objs.size, (boot_heap w.params).nsMap mainGlobals "__annotations__") = (true, 11, hAnn) := by kernel_rfl
theorem h_pre (w : World) (os : OsState) : topGo treeTable PW w 11 hAnn 12 ⟨boot_heap w.params, Array.mk [], boot_drawn, boot_toks, os⟩ (topStub PW) = some (hSh_pre w os, ⟨denote treeTable hC, hC, hP_pre, hB⟩) := by kernel_rfl
theorem h_block (w : World) (os : OsState) : segRun treeTable PW w 11 hAnn 1 1 (hSh_pre w os) (blockOf hBody hEnv hC hP_pre hB) = some (.next, (hS_block w os).abs, hC, hP_block) := by kernel_rfl
theorem h_t1f (w : World) (os : OsState) : segRunT treeTable PW (sg w false) 11 hAnn 1 266 (hS_block (sg w false) os) (piecesOf sts1 hEnv hC hP_block hB) = some (.next, hS_p6 (sg w false) os, hC, hP_p6) := by kernel_rfl
theorem h_t1t (w : World) (os : OsState) : segRunT treeTable PW (sg w true) 11 hAnn 1 266 (hS_block (sg w true) os) (piecesOf sts1 hEnv hC hP_block hB) = some (.next, hS_p6 (sg w true) os, hC, hP_p6) := by kernel_rfl
theorem h_t2f (w : World) (os : OsState) : segRunT treeTable PW (sg w false) 11 hAnn 1 1028 (hS_p6 (sg w false) os) (piecesOf sts2 hEnv hC hP_p6 hB) = some (.next, hS_p8 (sg w false) os, hC, hP_p8) := by
  rw [run_quick, table_quick]
  kernel_rfl
theorem h_t2t (w : World) (os : OsState) : segRunT treeTable PW (sg w true) 11 hAnn 1 1028 (hS_p6 (sg w true) os) (piecesOf sts2 hEnv hC hP_p6 hB) = some (.next, hS_p8 (sg w true) os, hC, hP_p8) := by
  rw [run_quick, table_quick]
  kernel_rfl
theorem h_t4 (w : World) (os : OsState) : segRunT treeTable PW w 11 hAnn 1 273 (hS_p9 w os) (piecesOf sts4 hEnv hC hP_p9 hB) = some (.next, hS_p18 w os, hC, hP_p18) := by kernel_rfl
theorem h_fin (w : World) (os : OsState) : topRun treeTable PW w 11 hAnn 2 (hS_p18 w os).abs ⟨doneF .next, hC, hP_p18, hB⟩ = some (hSh_p18 w os) := by kernel_rfl
end
end Mine
end
section
open PySem PySem.W PyProof.Rows
set_option Elab.async false
set_option maxRecDepth 100000
set_option maxHeartbeats 0
namespace Mine
noncomputable section
theorem regKH : PySem.Challenge.rw_rw0097_01.foot = 7 ∧ K = K := by k_fill; exact ⟨rfl, rfl⟩
noncomputable abbrev HK : Hook := kHook K asK (fun _ => by kernel_rfl)
noncomputable abbrev hXt : Shared → Bool := fun s => xlAt q [] s && recOk (RowW.records PySem.Challenge.rw_rw0097_01.row.toRowW) s
theorem l_statics (w : World) : staticsOk (importedModules PW.main.body) (boot_heap w.params) (hH_p18 w.params) = true := by kernel_rfl
theorem l_names (w : World) : namesBound PW (hH_p18 w.params) = true := by kernel_rfl
theorem l_gens (w : World) (os : OsState) : gensDone (hSh_p18 w os) = true := by kernel_rfl
theorem l_laid (w : World) : laidKept (boot_heap w.params) (hH_p18 w.params) = true := by kernel_rfl
theorem l_obs (w : World) (os : OsState) : Hook.obs HK (hSh_p18 w os) = Hook.val HK w := by kernel_rfl
theorem l_s1 (w : World) (os : OsState) : seen ((recsOf q).map (·.name)) (ownsOf q) [] { (hSh_p18 w os) with gens := #[] } = expectedOf q := by kernel_rfl
theorem l_s2 (w : World) : (hH_p18 w.params).bltView = bltViewBooted := by kernel_rfl
theorem l_s3 (w : World) (os : OsState) : ((hSh_p18 w os).heap.keysOk (looseW q loose) ((recsOf q).map (·.name)) ((litsOf q).map (·.1)) ((clssOf q (looseW q loose)).map (·.name)) && (hSh_p18 w os).heap.accountedOkI (importedModules PW.main.body) && (hSh_p18 w os).heap.isNs mainGlobals && (hSh_p18 w os).heap.isNs builtinsNs && tablesOk q (hSh_p18 w os).heap && hXt (hSh_p18 w os) && (if true then (hSh_p18 w os).gens.size == 0 else !leftWithCleanup (hSh_p18 w os).gens)) = true := by kernel_rfl
theorem l_s4 (w : World) (os : OsState) : tabsOk q (hSh_p18 w os) = true := by kernel_rfl
theorem l_s5 (w : World) (os : OsState) : pinSeenD q (drecsOf q) (hSh_p18 w os) = pinGoodD (drecsOf q) := by kernel_rfl
theorem l_s6 (w : World) (os : OsState) : plainSeenE q (looseW q loose) (hSh_p18 w os) = plainGoodE q (looseW q loose) := by kernel_rfl
theorem l_s7 (w : World) (os : OsState) : plainSeenD q loose (hSh_p18 w os) = plainGoodD q loose := by kernel_rfl
theorem l_s8 (w : World) (os : OsState) : wideSeen q (hSh_p18 w os) = wideGood q := by kernel_rfl
theorem l_s9 (w : World) (os : OsState) : clsSeenW q loose (hSh_p18 w os) = clsGoodW q loose := by kernel_rfl
end
end Mine
end
section
open PySem PySem.W PyProof.Rows
set_option Elab.async false
set_option maxRecDepth 100000
set_option maxHeartbeats 0
namespace Mine
theorem seg_go_go {tb : String → Option Builtin} {p : Program} {w : World} {n₀ : Nat} {ann : Option Value} {b : Nat} : ∀ {n m : Nat} {s s' : Shared} {t t' : Thread} {r : Shared × Thread}, segGo tb p w n₀ ann b n s t = some (s', t') →
    segGo tb p w n₀ ann b m s' t' = some r → segGo tb p w n₀ ann b (n + m) s t = some r
  | 0, m, s, s', t, t', r, h, k => by
    obtain ⟨rfl, rfl⟩ : s = s' ∧ t = t' := by simpa [segGo] using h
    rw [Nat.zero_add]; exact k
  | n + 1, m, s, s', t, t', r, h, k => by
    rw [show n + 1 + m = n + m + 1 by omega]
    unfold segGo at h ⊢
    cases he : endAt b t with
    | some f => rw [he] at h; cases h
    | none =>
      rw [he] at h
      cases hk : stepOk n₀ ann t with
      | false => rw [hk] at h; cases h
      | true =>
        rw [hk] at h
        cases hs : step (denote tb) p w s t with
        | halt o s₂ => rw [hs] at h; cases h
        | go s₂ t₂ => rw [hs] at h; exact seg_go_go h k
theorem segRun_mono {tb : String → Option Builtin} {p : Program} {w : World} {n₀ : Nat} {ann : Option Value} {b : Nat} (k : Nat) : ∀ {n : Nat} {s : Shared} {t : Thread} {r : Flow × Shared × Code × Pos}, segRun tb p w n₀ ann b n s t = some r → segRun tb p w n₀ ann b (n + k) s t = some r
  | 0, _, _, _, h => by simp [segRun] at h
  | n + 1, s, t, r, h => by
    rw [show n + 1 + k = n + k + 1 by omega]
    unfold segRun at h ⊢
    cases he : endAt b t with
    | some f => rw [he] at h; exact h
    | none =>
      rw [he] at h
      cases hk : stepOk n₀ ann t with
      | false => rw [hk] at h; cases h
      | true =>
        rw [hk] at h
        cases hs : step (denote tb) p w s t with
        | halt o s₂ => rw [hs] at h; cases h
        | go s₂ t₂ => rw [hs] at h; exact segRun_mono k h
/-- the tree comes to a value in at most k steps -/
noncomputable def Goes (w : World) {α : Type} (k : Nat) (x : Sem α) (h : Heap) (tk : Nat) (a : α) (h' : Heap) (tk' : Nat) : Prop :=
  ∀ (K : α → Sem Fin) (H : Value → Sem Fin) (gd : Bool → Bool) (lv : List Value → List Value) (c : Code) (q : Pos) (os : OsState), ∃ n q', n ≤ k ∧
    segGo treeTable PW w 11 hAnn 1 n ⟨h, #[], {}, tk, os⟩ ⟨x.wrap K H gd lv, c, q, hB⟩ = some (⟨h', #[], {}, tk', os⟩, ⟨K a, c, q', hB⟩)
section
variable {w : World} {α β : Type} {h h₁ h₂ : Heap} {tk tk₁ tk₂ : Nat}
theorem goes_pure {a : α} : Goes w 0 (pure a) h tk a h tk := fun _ _ _ _ _ q _ => ⟨0, q, Nat.le_refl _, rfl⟩
theorem Goes.le {k k' : Nat} {x : Sem α} {a : α} (g : Goes w k x h tk a h₁ tk₁) (e : k ≤ k') : Goes w k' x h tk a h₁ tk₁ := fun K H gd lv c q os => by
  obtain ⟨n, q', hn, e'⟩ := g K H gd lv c q os; exact ⟨n, q', Nat.le_trans hn e, e'⟩
theorem goes_bind {k₁ k₂ : Nat} {x : Sem α} {f : α → Sem β} {a : α} {b : β} (g : Goes w k₁ x h tk a h₁ tk₁) (g' : Goes w k₂ (f a) h₁ tk₁ b h₂ tk₂) : Goes w (k₁ + k₂) (x >>= f) h tk b h₂ tk₂ := fun K H gd lv c q os => by
  have e : (x >>= f).wrap K H gd lv = x.wrap (fun a => (f a).wrap K H gd lv) H gd lv := by rw [Sem.bind_eq_wrap', Sem.wrap_wrap]; rfl
  rw [e]
  obtain ⟨n, q', hn, e₁⟩ := g (fun a => (f a).wrap K H gd lv) H gd lv c q os
  obtain ⟨n', q'', hn', e₂⟩ := g' K H gd lv c q' os
  exact ⟨n + n', q'', by omega, seg_go_go e₁ e₂⟩
theorem goes_keep {k : Nat} {x : Sem α} {a : α} {vs : List Value} (g : Goes w k x h tk a h₁ tk₁) : Goes w k (x.keep vs) h tk a h₁ tk₁ := fun K H gd lv c q os => by
  rw [Sem.keep_eq_wrap, Sem.wrap_wrap]
  exact g _ _ _ _ c q os
theorem goes_holding {k : Nat} {x : Sem α} {a : α} {vs : List Value} (g : Goes w k x h tk a h₁ tk₁) : Goes w k (holding vs x) h tk a h₁ tk₁ := by
  unfold holding
  split
  · exact g
  · exact goes_keep g
theorem goes_onRaise {k : Nat} {x : Sem α} {a : α} {f : Value → Sem Unit} (g : Goes w k x h tk a h₁ tk₁) : Goes w k (x.onRaise f) h tk a h₁ tk₁ := fun K H gd lv c q os => by
  rw [Sem.onRaise_eq_wrap, Sem.wrap_wrap]
  exact g _ _ _ _ c q os
theorem goes_fresh : Goes w 1 fresh h tk tk h (tk + 1) := fun _ _ _ _ _ q _ => ⟨1, q, Nat.le_refl _, rfl⟩
theorem goes_rule {t : String} : Goes w 1 (rule t) h tk () h tk := fun _ _ _ _ _ q _ => ⟨1, q, Nat.le_refl _, rfl⟩
theorem goes_standAt {p : Pos} : Goes w 1 (standAt p) h tk () h tk := fun _ _ _ _ _ _ _ => ⟨1, p, Nat.le_refl _, rfl⟩
theorem goes_alloc {o : Obj} : Goes w 1 (alloc o) h tk h.objs.size (h.push o) tk := fun _ _ _ _ _ q _ => ⟨1, q, Nat.le_refl _, rfl⟩
theorem goes_loadPart {a : Addr} {p : Option Value} {o : Obj} (e : h.get? a = some o) : Goes w 1 (loadPart a p) h tk o h tk := fun K H gd lv c q os => ⟨1, q, Nat.le_refl _, by
  unfold segGo
  show (match step (denote treeTable) PW w ⟨h, #[], {}, tk, os⟩ ⟨.load a p fun x => K x, c, q, hB⟩ with | .go s' t' => segGo treeTable PW w 11 hAnn 1 0 s' t' | .halt _ _ => none) = _
  simp only [step, e]
  rfl⟩
theorem goes_updatePart {a : Addr} {p : Option Value} {f : Obj → Obj} {o : Obj} (e : h.get? a = some o) (ha : 11 ≤ a) : Goes w 1 (updatePart a p f) h tk () (h.update a f) tk := fun K H gd lv c q os => ⟨1, q, Nat.le_refl _, by
  unfold segGo
  have : stepOk 11 hAnn ⟨(updatePart a p f).wrap K H gd lv, c, q, hB⟩ = true := by
    show (Nat.ble 11 a || a == mainNs || a == cStatics || hAnn == some (.ref a)) = true
    rw [show Nat.ble 11 a = true from Nat.ble_eq_true_of_le ha]; rfl
  rw [this]
  show (match step (denote treeTable) PW w ⟨h, #[], {}, tk, os⟩ ⟨.update a p f fun x => K x, c, q, hB⟩ with | .go s' t' => segGo treeTable PW w 11 hAnn 1 0 s' t' | .halt _ _ => none) = _
  simp only [step, e, Option.isSome_some, if_true]
  rfl⟩
theorem goes_eq {k : Nat} {x y : Sem α} {a : α} (e : x = y) (g : Goes w k y h tk a h₁ tk₁) : Goes w k x h tk a h₁ tk₁ := e ▸ g
end
end Mine
end
section
open PySem PySem.W PyProof.Rows
set_option Elab.async false
set_option maxRecDepth 100000
set_option maxHeartbeats 0
namespace Mine
theorem sg_both' {P : World → Prop} (hf : ∀ w, P (sg w false)) (ht : ∀ w, P (sg w true)) (w : World) : P w := byRow2 "special-get-raises" hf ht w
section
variable {w : World} {α β : Type} {h h₁ h₂ : Heap} {tk tk₁ tk₂ : Nat}
theorem hash_f (w : World) (k : Int) (t : Tok) (h : Heap) (tk : Nat) (K : Int → Sem Fin) (H : Value → Sem Fin) (gd : Bool → Bool) (lv : List Value → List Value) (c : Code) (q : Pos) (os : OsState) :
    segGo treeTable PW (sg w false) 11 hAnn 1 5 ⟨h, #[], {}, tk, os⟩ ⟨(pyHash (.int k t)).wrap K H gd lv, c, q, hB⟩ = some (⟨h, #[], {}, tk + 1, os⟩, ⟨(pyHashByItsType.reduced (rawHash k)).wrap K H gd lv, c, q, hB⟩) := by kernel_rfl
theorem hash_t (w : World) (k : Int) (t : Tok) (h : Heap) (tk : Nat) (K : Int → Sem Fin) (H : Value → Sem Fin) (gd : Bool → Bool) (lv : List Value → List Value) (c : Code) (q : Pos) (os : OsState) :
    segGo treeTable PW (sg w true) 11 hAnn 1 5 ⟨h, #[], {}, tk, os⟩ ⟨(pyHash (.int k t)).wrap K H gd lv, c, q, hB⟩ = some (⟨h, #[], {}, tk + 1, os⟩, ⟨(pyHashByItsType.reduced (rawHash k)).wrap K H gd lv, c, q, hB⟩) := by kernel_rfl
theorem raw_ok {k : Int} (h0 : 0 ≤ k) (h1 : k < 1000000000) : rawHash k = k := by
  have e : (k.natAbs : Int) % ((2 ^ 61 - 1 : Nat) : Int) = k := by
    show (k.natAbs : Int) % 2305843009213693951 = k
    omega
  unfold rawHash
  dsimp only
  rw [e]
  simp only [if_neg (show ¬ k < 0 by omega)]
  rw [if_neg (by rw [beq_iff_eq]; omega)]
theorem reduced_ok {k : Int} (h0 : 0 ≤ k) (h1 : k < 1000000000) : pyHashByItsType.reduced k = pure k := by
  unfold pyHashByItsType.reduced
  rw [if_pos (by simp only [Bool.and_eq_true, decide_eq_true_eq]; omega), if_neg (by rw [beq_iff_eq]; omega)]
theorem goes_hash {k : Int} {t : Tok} (h0 : 0 ≤ k) (h1 : k < 1000000000) : Goes w 5 (pyHash (.int k t)) h tk k h (tk + 1) :=
  sg_both' (P := fun w => Goes w 5 (pyHash (.int k t)) h tk k h (tk + 1))
    (fun w K H gd lv c q os => ⟨5, q, Nat.le_refl _, by rw [hash_f, raw_ok h0 h1, reduced_ok h0 h1]; rfl⟩)
    (fun w K H gd lv c q os => ⟨5, q, Nat.le_refl _, by rw [hash_t, raw_ok h0 h1, reduced_ok h0 h1]; rfl⟩) w
noncomputable def dictO (es : List DictEntry) (n : Nat) : Obj := ⟨.type "dict", none, .dict es.toArray n, #[]⟩
theorem goes_entries {d : Addr} {es : List DictEntry} {n : Nat} {p : Option Value} (e : h.get? d = some (dictO es n)) : Goes w 1 (dictEntries d p) h tk es.toArray h tk := by
  unfold dictEntries
  exact goes_bind (goes_loadPart e) (k₂ := 0) goes_pure
theorem goes_epoch {d : Addr} {es : List DictEntry} {n : Nat} {p : Option Value} (e : h.get? d = some (dictO es n)) : Goes w 1 (dictEpoch d p) h tk n h tk := by
  unfold dictEpoch
  exact goes_bind (goes_loadPart e) (k₂ := 0) goes_pure
theorem places_none {es : List DictEntry} {k : Int} (hk : ∀ e ∈ es, e.hash ≠ k) : placesWithHash es.toArray.size (fun i => es.toArray[i]?.map (·.hash)) k = [] := by
  unfold placesWithHash
  rw [List.filter_eq_nil_iff]
  intro i _
  simp only [List.getElem?_toArray, beq_iff_eq]
  cases hq : es[i]? with
  | none => simp
  | some e => simpa using hk e (List.mem_of_getElem? hq)
theorem goes_find {d : Addr} {es : List DictEntry} {n : Nat} {k : Int} {t : Tok} (e : h.get? d = some (dictO es n)) (hk : ∀ e ∈ es, e.hash ≠ k) : Goes w 1 (dictFind d (.int k t) k) h tk none h tk := by
  unfold dictFind
  refine goes_holding ?_
  refine goes_bind (goes_entries e) (k₂ := 0) ?_
  dsimp only
  rw [places_none hk]
  exact goes_pure
theorem goes_put {d : Addr} {es : List DictEntry} {n : Nat} {ent : DictEntry} {p : Option Value} (e : h.get? d = some (dictO es n)) (e' : (h.update d (Obj.mapDictKeys (·.push ent))).get? d = some (dictO (es ++ [ent]) (n + 1))) (hd : 11 ≤ d) (hz : es.length ≤ 1000) : Goes w 3 (updateDictKeys d (·.push ent) p) h tk () (h.update d (Obj.mapDictKeys (·.push ent))) tk := by
  unfold updateDictKeys
  refine goes_bind (goes_loadPart e) (k₂ := 2) ?_
  show Goes w 2 (updatePart d p (Obj.mapDictKeys _) >>= fun _ => lookBehind d p) _ _ _ _ _
  refine goes_bind (goes_updatePart e hd) (k₂ := 1) ?_
  unfold lookBehind
  refine goes_bind (goes_loadPart e') (k₂ := 0) ?_
  have : (dictO (es ++ [ent]) (n + 1)).data.pastItsLine = none := by
    show (if (es ++ [ent]).toArray.size > sizeLine + 1 then some "dict:memory" else none) = none
    rw [if_neg]
    rw [sizeLine_eq, List.size_toArray, List.length_append, List.length_singleton]
    omega
  rw [this]
  exact goes_pure
end
end Mine
end
section
open PySem PySem.W PyProof.Rows
set_option Elab.async false
set_option maxRecDepth 100000
set_option maxHeartbeats 0
namespace Mine
noncomputable def ofL (l : List Obj) : Heap := ⟨l.toArray, {}⟩
theorem ofL_size (l : List Obj) : (ofL l).objs.size = l.length := by unfold ofL; simp
theorem ofL_get {l : List Obj} {a : Nat} {es : List DictEntry} {n : Nat} (e : l[a]? = some (dictO es n)) : (ofL l).get? a = some (dictO es n) := by
  unfold Heap.get? ofL
  simp only [List.getElem?_toArray, e]
  rfl
theorem ofL_push (l : List Obj) (o : Obj) : (ofL l).push o = ofL (l ++ [o]) := by
  show Heap.mk (l.toArray.push o) {} = Heap.mk (l ++ [o]).toArray {}
  rw [List.push_toArray]
theorem ofL_update {l₁ l₂ : List Obj} {o : Obj} {a : Nat} {f : Obj → Obj} (e : a = l₁.length) : (ofL (l₁ ++ o :: l₂)).update a f = ofL (l₁ ++ f o :: l₂) := by
  subst e
  show Heap.mk ((l₁ ++ o :: l₂).toArray.modify l₁.length f) {} = Heap.mk (l₁ ++ f o :: l₂).toArray {}
  congr 1
  apply Array.ext_getElem?
  intro i
  rw [Array.getElem?_modify]
  simp only [List.getElem?_toArray]
  by_cases h : l₁.length = i
  · subst h; simp
  · rw [if_neg h]
    rcases Nat.lt_or_gt_of_ne h with q | q
    · rw [List.getElem?_append_right (by omega), List.getElem?_append_right (by omega)]
      obtain ⟨m, hm⟩ : ∃ m, i - l₁.length = m + 1 := ⟨i - l₁.length - 1, by omega⟩
      rw [hm]; rfl
    · rw [List.getElem?_append_left (by omega), List.getElem?_append_left (by omega)]
theorem dictO_push (es : List DictEntry) (n : Nat) (e : DictEntry) : Obj.mapDictKeys (·.push e) (dictO es n) = dictO (es ++ [e]) (n + 1) := by
  show (⟨_, _, .dict (es.toArray.push e) (n + 1), _⟩ : Obj) = _
  unfold dictO
  rw [List.push_toArray]
section
variable {w : World} {α β : Type} {l l₁ l₂ : List Obj} {tk : Nat}
theorem goes_set {es : List DictEntry} {n : Nat} {k : Int} {t : Tok} {v : Value} (hl : 11 ≤ l.length) (h0 : 0 ≤ k) (h1 : k < 1000000000) (hk : ∀ e ∈ es, e.hash ≠ k) (hz : es.length ≤ 1000) :
    Goes w 10 (dictSet l.length (.int k t) v) (ofL (l ++ [dictO es n])) tk () (ofL (l ++ [dictO (es ++ [⟨k, .int k t, v⟩]) (n + 1)])) (tk + 1) := by
  unfold dictSet
  refine goes_holding ?_
  refine goes_bind (goes_hash h0 h1) (k₂ := 5) ?_
  unfold dictSetHashed
  refine goes_holding ?_
  have g : (ofL (l ++ [dictO es n])).get? l.length = some (dictO es n) := ofL_get (by simp)
  refine goes_bind (goes_find g hk) (k₂ := 4) ?_
  dsimp only
  refine goes_bind goes_rule (k₂ := 3) ?_
  have u : (ofL (l ++ [dictO es n])).update l.length (Obj.mapDictKeys (·.push ⟨k, .int k t, v⟩)) = ofL (l ++ [dictO (es ++ [⟨k, .int k t, v⟩]) (n + 1)]) := by
    rw [ofL_update rfl, dictO_push]
  have := goes_put (w := w) (tk := tk + 1) (p := keyPart (.int k t)) (ent := ⟨k, .int k t, v⟩) g (by rw [u]; exact ofL_get (by simp)) hl hz
  rw [u] at this
  exact this
/-- the display's pairs: keys and values written out -/
inductive PT (w : World) : List (Sem Value × Sem Value) → List (Int × Str) → Prop
  | nil : PT w [] []
  | cons {a b : Sem Value} {k : Int} {s : Str} {ps zs} : (∀ h tk, Goes w 1 a h tk (.int k tk) h (tk + 1)) → (∀ h tk, Goes w 2 b h tk (.str s tk) h (tk + 1)) → PT w ps zs → PT w ((a, b) :: ps) ((k, s) :: zs)
theorem PT.length {ps : List (Sem Value × Sem Value)} {zs : List (Int × Str)} (h : PT w ps zs) : ps.length = zs.length := by
  induction h with
  | nil => rfl
  | cons _ _ _ ih => simp [ih]
noncomputable def entsL : Nat → List (Int × Str) → List DictEntry
  | _, [] => []
  | T, (k, s) :: r => ⟨k, .int k T, .str s (T + 1)⟩ :: entsL (T + 3) r
noncomputable def entsS : Nat → List (Int × Str) → List DictEntry
  | _, [] => []
  | T, (k, s) :: r => ⟨k, .int k T, .str s (T + 1)⟩ :: entsS (T + 2) r
/-- rising keys within bounds -/
noncomputable def Rise : Int → List (Int × Str) → Prop
  | _, [] => True
  | b, (k, _) :: r => b ≤ k ∧ k < 1000000000 ∧ Rise (k + 1) r
theorem goes_long {ps : List (Sem Value × Sem Value)} {zs : List (Int × Str)} (hl : 11 ≤ l.length) (hp : PT w ps zs) : ∀ (b : Int) (es : List DictEntry) (n tk : Nat), 0 ≤ b → Rise b zs → (∀ e ∈ es, e.hash < b) → es.length + zs.length ≤ 1000 →
    Goes w (13 * zs.length) (forIn ps PUnit.unit fun x (_ : PUnit) => do
      let kv ← x.1
      let vv ← holding [kv] x.2
      holding [kv, vv] (dictSet l.length kv vv)
      pure (ForInStep.yield PUnit.unit)) (ofL (l ++ [dictO es n])) tk PUnit.unit (ofL (l ++ [dictO (es ++ entsL tk zs) (n + zs.length)])) (tk + 3 * zs.length) := by
  induction hp with
  | nil => intro b es n tk _ _ _ _; simpa [entsL] using goes_pure
  | @cons x y k s ps zs ga gb hp ih =>
    intro b es n tk hb hr he hz
    obtain ⟨r1, r2, r3⟩ := hr
    simp only [List.length_cons] at hz
    rw [List.forIn_cons]
    refine (goes_bind (k₁ := 13) (k₂ := 13 * zs.length) (a := ForInStep.yield PUnit.unit) (h₁ := ofL (l ++ [dictO (es ++ [⟨k, .int k tk, .str s (tk + 1)⟩]) (n + 1)])) (tk₁ := tk + 3) ?_ ?_).le (by simp only [List.length_cons]; omega)
    · refine goes_bind (ga _ _) (k₂ := 12) ?_
      refine goes_bind (goes_holding (gb _ _)) (k₂ := 10) ?_
      refine goes_bind (goes_holding (goes_set hl (by omega) r2 (fun e h9 => by have := he e h9; omega) (by omega))) (k₂ := 0) goes_pure
    · have := ih (k + 1) (es ++ [⟨k, .int k tk, .str s (tk + 1)⟩]) (n + 1) (tk + 3) (by omega) r3 (fun e h9 => by
        rcases List.mem_append.mp h9 with h9 | h9
        · have := he e h9; omega
        · rw [List.mem_singleton.mp h9]; show k < k + 1; omega) (by rw [List.length_append, List.length_singleton]; omega)
      rw [List.append_assoc, show n + 1 + zs.length = n + (zs.length + 1) by omega, show tk + 3 + 3 * zs.length = tk + 3 * (zs.length + 1) by omega] at this
      exact this
theorem goes_subL {ps : List (Sem Value × Sem Value)} {zs : List (Int × Str)} {b : Int} (hl : 11 ≤ l.length) (hp : PT w ps zs) (hn : 15 < ps.length) (hb : 0 ≤ b) (hr : Rise b zs) (hz : zs.length ≤ 1000) :
    Goes w (2 + 13 * zs.length) (subDict ps) (ofL l) tk l.length (ofL (l ++ [dictO (entsL tk zs) zs.length])) (tk + 3 * zs.length) := by
  unfold subDict
  refine (goes_bind goes_alloc (k₂ := 1 + 13 * zs.length) ?_).le (by omega)
  rw [ofL_size, ofL_push]
  refine (goes_bind (k₂ := 0) (goes_holding (k := 1 + 13 * zs.length) (a := PUnit.unit) ?_) goes_pure)
  rw [if_neg (by omega)]
  refine goes_bind goes_rule ?_
  have := goes_long (w := w) hl hp b [] 0 tk hb hr (fun e h9 => nomatch h9) (by simpa using hz)
  rw [List.nil_append, Nat.zero_add] at this
  exact (goes_bind (k₂ := 0) this goes_pure).le (by omega)
end
end Mine
end
section
open PySem PySem.W PyProof.Rows
set_option Elab.async false
set_option maxRecDepth 100000
set_option maxHeartbeats 0
namespace Mine
section
variable {w : World} {α β : Type} {l : List Obj} {tk : Nat}
noncomputable def vsOf : Nat → List (Int × Str) → List (Value × Value)
  | _, [] => []
  | T, (k, s) :: r => (.int k T, .str s (T + 1)) :: vsOf (T + 2) r
theorem goes_pairs {ps : List (Sem Value × Sem Value)} {zs : List (Int × Str)} {h : Heap} (hp : PT w ps zs) : ∀ tk, Goes w (3 * zs.length) (evalPairs ps) h tk (vsOf tk zs) h (tk + 2 * zs.length) := by
  induction hp with
  | nil => intro tk; exact goes_pure
  | @cons x y k s ps zs ga gb hp ih =>
    intro tk
    unfold evalPairs
    refine (goes_bind (ga _ _) (k₂ := 2 + 3 * zs.length) ?_).le (by simp only [List.length_cons]; omega)
    refine goes_bind (goes_holding (gb _ _)) ?_
    have := goes_bind (f := fun r => (pure ((Value.int k tk, Value.str s (tk + 1)) :: r) : Sem _)) (goes_holding (vs := [Value.int k tk, Value.str s (tk + 1)]) (ih (tk + 1 + 1))) (k₂ := 0) goes_pure
    rw [show tk + 1 + 1 + 2 * zs.length = tk + 2 * (zs.length + 1) by omega] at this
    exact this
theorem goes_short (hl : 11 ≤ l.length) : ∀ (zs : List (Int × Str)) (b : Int) (T : Nat) (es : List DictEntry) (n tk : Nat), 0 ≤ b → Rise b zs → (∀ e ∈ es, e.hash < b) → es.length + zs.length ≤ 1000 →
    Goes w (10 * zs.length) (forIn (vsOf T zs) PUnit.unit fun x (_ : PUnit) => do
      dictSet l.length x.1 x.2
      pure (ForInStep.yield PUnit.unit)) (ofL (l ++ [dictO es n])) tk PUnit.unit (ofL (l ++ [dictO (es ++ entsS T zs) (n + zs.length)])) (tk + zs.length)
  | [], b, T, es, n, tk, _, _, _, _ => by simpa [entsS, vsOf] using goes_pure
  | (k, s) :: zs, b, T, es, n, tk, hb, hr, he, hz => by
    obtain ⟨r1, r2, r3⟩ := hr
    simp only [List.length_cons] at hz
    rw [vsOf, List.forIn_cons]
    refine (goes_bind (k₁ := 10) (k₂ := 10 * zs.length) (a := ForInStep.yield PUnit.unit) (h₁ := ofL (l ++ [dictO (es ++ [⟨k, .int k T, .str s (T + 1)⟩]) (n + 1)])) (tk₁ := tk + 1) ?_ ?_).le (by simp only [List.length_cons]; omega)
    · exact goes_bind (goes_set hl (by omega) r2 (fun e h9 => by have := he e h9; omega) (by omega)) (k₂ := 0) goes_pure
    · have := goes_short hl zs (k + 1) (T + 2) (es ++ [⟨k, .int k T, .str s (T + 1)⟩]) (n + 1) (tk + 1) (by omega) r3 (fun e h9 => by
        rcases List.mem_append.mp h9 with h9 | h9
        · have := he e h9; omega
        · rw [List.mem_singleton.mp h9]; show k < k + 1; omega) (by rw [List.length_append, List.length_singleton]; omega)
      rw [List.append_assoc, show n + 1 + zs.length = n + (zs.length + 1) by omega, show tk + 1 + zs.length = tk + (zs.length + 1) by omega] at this
      exact this
theorem goes_subS {ps : List (Sem Value × Sem Value)} {zs : List (Int × Str)} {b : Int} (hl : 11 ≤ l.length) (hp : PT w ps zs) (hn : ps.length ≤ 15) (hb : 0 ≤ b) (hr : Rise b zs) :
    Goes w (1 + 13 * zs.length) (subDict ps) (ofL l) tk l.length (ofL (l ++ [dictO (entsS tk zs) zs.length])) (tk + 3 * zs.length) := by
  have hlen := hp.length
  unfold subDict
  refine (goes_bind goes_alloc (k₂ := 13 * zs.length) ?_).le (by omega)
  rw [ofL_size, ofL_push]
  refine (goes_bind (k₂ := 0) (goes_holding (k := 13 * zs.length) (a := PUnit.unit) ?_) goes_pure)
  rw [if_pos hn]
  refine (goes_bind (goes_pairs hp tk) (k₂ := 10 * zs.length) ?_).le (by omega)
  refine goes_holding ?_
  have := goes_short (w := w) hl zs b tk [] 0 (tk + 2 * zs.length) hb hr (fun e h9 => nomatch h9) (by simp only [List.length_nil]; omega)
  rw [List.nil_append, Nat.zero_add, show tk + 2 * zs.length + zs.length = tk + 3 * zs.length by omega] at this
  exact (goes_bind (k₂ := 0) this goes_pure).le (by omega)
theorem goes_range {c n : Nat} {B : Nat → PUnit → Sem (ForInStep PUnit)} {S : Nat → Heap} (hB : ∀ i, i < n → Goes w c (B i PUnit.unit) (S i) tk (ForInStep.yield PUnit.unit) (S (i + 1)) tk) :
    Goes w (c * n) (forIn (List.range n) PUnit.unit B) (S 0) tk PUnit.unit (S n) tk := by
  rw [List.range_eq_range']
  have loop : ∀ k i, i + k = n → Goes w (c * k) (forIn (List.range' i k) PUnit.unit B) (S i) tk PUnit.unit (S n) tk := by
    intro k
    induction k with
    | zero =>
      intro i hi
      obtain rfl : i = n := hi
      exact goes_pure
    | succ k ih =>
      intro i hi
      rw [List.range'_succ, List.forIn_cons, Nat.mul_succ, Nat.add_comm]
      exact goes_bind (hB i (by omega)) (ih (i + 1) (by omega))
  exact loop n 0 (by omega)
/-- the entries of a chunk go over into the main dict -/
theorem goes_merge {mid : List Obj} {acc se : List DictEntry} {b : Int} (hl : 11 ≤ l.length) (hne : acc ≠ []) (hh : ∀ e ∈ acc, e.hash < b)
    (hs : ∀ (i : Nat) (e : DictEntry), se[i]? = some e → (∃ t, e.key = .int e.hash t) ∧ b ≤ e.hash ∧ ∀ (j : Nat) (e' : DictEntry), j < i → se[j]? = some e' → e'.hash < e.hash) (hz : acc.length + se.length ≤ 1000) (m : Nat) :
    Goes w (5 + 6 * se.length) (mergeMapping l.length (.ref (l.length + 1 + mid.length)) false) (ofL (l ++ dictO acc acc.length :: (mid ++ [dictO se m]))) tk () (ofL (l ++ dictO (acc ++ se) (acc ++ se).length :: (mid ++ [dictO se m]))) tk := by
  have gA : ∀ x, (ofL (l ++ x :: (mid ++ [dictO se m]))).get? (l.length + 1 + mid.length) = some (dictO se m) := fun x => ofL_get (by
    rw [List.getElem?_append_right (by omega), show l.length + 1 + mid.length - l.length = mid.length + 1 by omega, List.getElem?_cons_succ]; simp)
  have gD : ∀ es n, (ofL (l ++ dictO es n :: (mid ++ [dictO se m]))).get? l.length = some (dictO es n) := fun es n => ofL_get (by simp)
  unfold mergeMapping
  have hI : Goes w 1 (isInstance (.ref (l.length + 1 + mid.length)) (.type "dict")) (ofL (l ++ dictO acc acc.length :: (mid ++ [dictO se m]))) tk true (ofL (l ++ dictO acc acc.length :: (mid ++ [dictO se m]))) tk := by
    unfold isInstance typeOf
    refine goes_bind (k₂ := 0) (goes_bind (goes_loadPart (gA _)) (k₂ := 0) goes_pure) ?_
    exact goes_eq isSubtype_dict_dict goes_pure
  have hS : Goes w 1 (specialOf (.ref (l.length + 1 + mid.length)) "__iter__") (ofL (l ++ dictO acc acc.length :: (mid ++ [dictO se m]))) tk (some (.builtin "dict.__iter__")) (ofL (l ++ dictO acc acc.length :: (mid ++ [dictO se m]))) tk := by
    unfold specialOf typeOf
    refine goes_bind (k₂ := 0) (goes_bind (goes_loadPart (gA _)) (k₂ := 0) goes_pure) ?_
    exact goes_eq F.slot_dict_iter.lookup goes_pure
  refine (goes_bind hI (k₂ := 4 + 6 * se.length) ?_).le (by omega)
  simp only [if_true]
  refine (goes_bind hS (k₂ := 3 + 6 * se.length) ?_).le (by omega)
  refine (goes_bind (k₁ := 0) goes_pure (k₂ := 3 + 6 * se.length) ?_).le (by omega)
  have lo : (l.length + 1 + mid.length == sysModules) = false := by
    rw [beq_eq_false_iff_ne]; show ¬ (l.length + 1 + mid.length = 1); omega
  simp only [beq_self_eq_true, lo, Bool.false_eq_true, if_false]
  refine (goes_bind (goes_entries (gD _ _)) (k₂ := 2 + 6 * se.length) ?_).le (by omega)
  rw [if_neg (by rw [List.isEmpty_toArray, List.isEmpty_iff]; exact hne)]
  refine (goes_bind (goes_entries (gA _)) (k₂ := 1 + 6 * se.length) ?_).le (by omega)
  refine (goes_bind (goes_epoch (gA _)) (k₂ := 6 * se.length) ?_).le (by omega)
  rw [List.size_toArray]
  have loop := fun B hB => goes_range (w := w) (tk := tk) (c := 6) (n := se.length) (B := B) (S := fun i => ofL (l ++ dictO (acc ++ se.take i) (acc ++ se.take i).length :: (mid ++ [dictO se m]))) hB
  simp only [List.take_zero, List.append_nil, List.take_length] at loop
  refine (goes_bind (k₂ := 0) (loop _ ?_) goes_pure).le (by omega)
  intro i hlt
  have hget : se[i]? = some se[i] := List.getElem?_eq_getElem hlt
  obtain ⟨⟨t, hkey⟩, hb9, hlow⟩ := hs i _ hget
  have htk : se.take (i + 1) = se.take i ++ [se[i]] := by rw [List.take_add_one, hget]; rfl
  refine goes_bind (goes_entries (gA _)) (k₂ := 5) ?_
  rw [List.getElem?_toArray, hget]
  dsimp only
  refine goes_bind (k₁ := 4) (k₂ := 1) (a := PUnit.unit) (h₁ := ofL (l ++ dictO (acc ++ se.take (i + 1)) (acc ++ se.take (i + 1)).length :: (mid ++ [dictO se m]))) (tk₁ := tk) (goes_holding ?_) (goes_bind (k₂ := 0) (goes_epoch (gA _)) ?_)
  · unfold dictPut
    rw [hkey]
    refine goes_bind (k₂ := 3) (goes_find (gD _ _) ?_) ?_
    · intro e he
      rcases List.mem_append.mp he with he | he
      · have := hh e he; omega
      · obtain ⟨j, hj, rfl⟩ := List.mem_iff_getElem.mp he
        rw [List.length_take] at hj
        have := hlow j _ (by omega) (List.getElem?_eq_getElem (by omega))
        rw [List.getElem_take]; omega
    · dsimp only
      have e9 : (⟨se[i].hash, .int se[i].hash t, se[i].val⟩ : DictEntry) = se[i] := by rw [← hkey]
      have u : (ofL (l ++ dictO (acc ++ se.take i) (acc ++ se.take i).length :: (mid ++ [dictO se m]))).update l.length (Obj.mapDictKeys (·.push ⟨se[i].hash, .int se[i].hash t, se[i].val⟩)) = ofL (l ++ dictO (acc ++ se.take (i + 1)) (acc ++ se.take (i + 1)).length :: (mid ++ [dictO se m])) := by
        rw [ofL_update rfl, dictO_push, htk, ← List.append_assoc, List.length_append (as := acc ++ se.take i), e9]
        rfl
      have := goes_put (w := w) (tk := tk) (p := none) (ent := ⟨se[i].hash, .int se[i].hash t, se[i].val⟩) (gD (acc ++ se.take i) (acc ++ se.take i).length) (by
        rw [u, gD, htk, ← List.append_assoc, List.length_append (as := acc ++ se.take i), e9]
        rfl) hl (by rw [List.length_append, List.length_take]; omega)
      rw [u] at this
      exact this
  · rw [if_neg (by simp)]
    exact goes_pure
end
end Mine
end
section
open PySem PySem.W PyProof.Rows
set_option Elab.async false
set_option maxRecDepth 100000
set_option maxHeartbeats 0
namespace Mine
section
variable {w : World} {α β : Type} {l : List Obj} {tk : Nat}
theorem PT.take {ps : List (Sem Value × Sem Value)} {zs : List (Int × Str)} (h : PT w ps zs) : ∀ n, PT w (ps.take n) (zs.take n) := by
  induction h with
  | nil => intro n; simpa using PT.nil
  | cons a b _ ih => intro n; cases n with
    | zero => exact .nil
    | succ n => exact .cons a b (ih n)
theorem PT.drop {ps : List (Sem Value × Sem Value)} {zs : List (Int × Str)} (h : PT w ps zs) : ∀ n, PT w (ps.drop n) (zs.drop n) := by
  induction h with
  | nil => intro n; simpa using PT.nil
  | cons a b r ih => intro n; cases n with
    | zero => exact .cons a b r
    | succ n => exact ih n
/-- the bound behind a run of keys -/
noncomputable def lastB : Int → List (Int × Str) → Int
  | b, [] => b
  | _, (k, _) :: r => lastB (k + 1) r
theorem Rise.ge {b : Int} : ∀ {b : Int} {zs : List (Int × Str)}, Rise b zs → b ≤ lastB b zs
  | b, [], _ => Int.le_refl _
  | b, (k, s) :: r, h => by have := Rise.ge (b := b) h.2.2; have := h.1; show b ≤ lastB (k + 1) r; omega
theorem Rise.take : ∀ {b : Int} {zs : List (Int × Str)} (n : Nat), Rise b zs → Rise b (zs.take n)
  | _, [], n, _ => by simp [Rise]
  | _, _ :: _, 0, _ => trivial
  | _, (_, _) :: r, n + 1, h => ⟨h.1, h.2.1, Rise.take n h.2.2⟩
theorem Rise.drop : ∀ {b : Int} {zs : List (Int × Str)} (n : Nat), Rise b zs → Rise (lastB b (zs.take n)) (zs.drop n)
  | _, [], n, _ => by simp [Rise]
  | _, _ :: _, 0, h => h
  | _, (_, _) :: r, n + 1, h => Rise.drop n h.2.2
theorem entsL_length : ∀ (T : Nat) (zs : List (Int × Str)), (entsL T zs).length = zs.length
  | _, [] => rfl
  | T, (_, _) :: r => by rw [entsL, List.length_cons, List.length_cons, entsL_length]
theorem entsS_length : ∀ (T : Nat) (zs : List (Int × Str)), (entsS T zs).length = zs.length
  | _, [] => rfl
  | T, (_, _) :: r => by rw [entsS, List.length_cons, List.length_cons, entsS_length]
/-- what the merge asks of a chunk's entries -/
noncomputable def Ready (b b' : Int) (se : List DictEntry) : Prop := (∀ (i : Nat) (e : DictEntry), se[i]? = some e → (∃ t, e.key = .int e.hash t) ∧ b ≤ e.hash ∧ ∀ (j : Nat) (e' : DictEntry), j < i → se[j]? = some e' → e'.hash < e.hash) ∧ ∀ e ∈ se, e.hash < b'
theorem ready_cons {b k b' : Int} {t u : Tok} {s : Str} {se : List DictEntry} (h : Ready (k + 1) b' se) (hb : b ≤ k) (hk : k < b') : Ready b b' (⟨k, .int k t, .str s u⟩ :: se) := by
  refine ⟨?_, ?_⟩
  · intro i e he
    cases i with
    | zero =>
      simp only [List.getElem?_cons_zero, Option.some.injEq] at he
      subst he
      exact ⟨⟨t, rfl⟩, hb, fun j _ hj => absurd hj (Nat.not_lt_zero _)⟩
    | succ i =>
      simp only [List.getElem?_cons_succ] at he
      obtain ⟨a1, a2, a3⟩ := h.1 i e he
      refine ⟨a1, by omega, fun j e' hj he' => ?_⟩
      cases j with
      | zero =>
        simp only [List.getElem?_cons_zero, Option.some.injEq] at he'
        subst he'
        show k < e.hash
        omega
      | succ j => exact a3 j e' (by omega) (by simpa using he')
  · intro e he
    cases he with
    | head => exact hk
    | tail _ he => exact h.2 e he
theorem ready_L : ∀ {b : Int} {zs : List (Int × Str)} (T : Nat), Rise b zs → Ready b (lastB b zs) (entsL T zs)
  | b, [], T, _ => ⟨fun i e h => by simp [entsL] at h, fun e h => nomatch h⟩
  | b, (k, s) :: r, T, h => by
    have := h.2.2.ge (b := b)
    exact ready_cons (ready_L (T + 3) h.2.2) h.1 (by show k < lastB (k + 1) r; omega)
theorem ready_S : ∀ {b : Int} {zs : List (Int × Str)} (T : Nat), Rise b zs → Ready b (lastB b zs) (entsS T zs)
  | b, [], T, _ => ⟨fun i e h => by simp [entsS] at h, fun e h => nomatch h⟩
  | b, (k, s) :: r, T, h => by
    have := h.2.2.ge (b := b)
    exact ready_cons (ready_S (T + 2) h.2.2) h.1 (by show k < lastB (k + 1) r; omega)
noncomputable def entsC : Nat → Nat → List (Int × Str) → List DictEntry
  | 0, _, _ => []
  | c + 1, T, zs => entsL T (zs.take 17) ++ entsC c (T + 51) (zs.drop 17)
noncomputable def subsC : Nat → Nat → List (Int × Str) → List Obj
  | 0, _, _ => []
  | c + 1, T, zs => dictO (entsL T (zs.take 17)) 17 :: subsC c (T + 51) (zs.drop 17)
noncomputable abbrev LoopB := Option (Sem Value) × Sem Value → Option Addr × List (Sem Value × Sem Value) → Sem (ForInStep (Option Addr × List (Sem Value × Sem Value)))
noncomputable abbrev asItem (p : Sem Value × Sem Value) : Option (Sem Value) × Sem Value := (some p.1, p.2)
/-- what is asked of the display's loop -/
structure LoopOk (w : World) (B : LoopB) : Prop where
  more : ∀ p main run, run.length ≠ 16 → B (asItem p) (main, run) = pure (ForInStep.yield (main, run ++ [p]))
  first : ∀ p run k h tk d h' tk', run.length = 16 → Goes w k (subDict (run ++ [p])) h tk d h' tk' → Goes w k (B (asItem p) (none, run)) h tk (ForInStep.yield (some d, [])) h' tk'
  next : ∀ p run k k' h tk d a h' tk' h'' tk'', run.length = 16 → Goes w k (subDict (run ++ [p])) h tk a h' tk' → Goes w k' (mergeMapping d (.ref a) false) h' tk' () h'' tk'' → Goes w (k + k') (B (asItem p) (some d, run)) h tk (ForInStep.yield (some d, [])) h'' tk''
theorem run_more {B : LoopB} (hB : LoopOk w B) : ∀ (ps : List (Sem Value × Sem Value)) (rest) (main) (run : List (Sem Value × Sem Value)), run.length + ps.length ≤ 16 →
    (forIn (ps.map asItem ++ rest) (main, run) B : Sem _) = forIn rest (main, run ++ ps) B
  | [], rest, main, run, _ => by rw [List.map_nil, List.nil_append, List.append_nil]
  | p :: ps, rest, main, run, h => by
    simp only [List.length_cons] at h
    rw [List.map_cons, List.cons_append, List.forIn_cons, hB.more p main run (by omega)]
    show (forIn (ps.map asItem ++ rest) (main, run ++ [p]) B : Sem _) = _
    rw [run_more hB ps rest main (run ++ [p]) (by rw [List.length_append, List.length_singleton]; omega), List.append_assoc]
    rfl
theorem split17 {γ : Type} {xs : List γ} (h : 17 ≤ xs.length) : ∃ p, xs = xs.take 16 ++ p :: xs.drop 17 ∧ xs.take 17 = xs.take 16 ++ [p] := by
  have hg : xs[16]? = some xs[16] := List.getElem?_eq_getElem (by omega)
  have e : xs.take 17 = xs.take 16 ++ [xs[16]] := by rw [List.take_add_one, hg]; rfl
  refine ⟨xs[16], ?_, e⟩
  have := List.take_append_drop 17 xs
  rw [e, List.append_assoc] at this
  exact this.symm
theorem goes_chunk {B : LoopB} (hB : LoopOk w B) (hl : 11 ≤ l.length) : ∀ (c : Nat) {ps : List (Sem Value × Sem Value)} {zs : List (Int × Str)} {b : Int} {acc : List DictEntry} {subs : List Obj} {tk : Nat}, PT w ps zs → 17 * c ≤ zs.length → 0 ≤ b → Rise b zs → acc ≠ [] → (∀ e ∈ acc, e.hash < b) → acc.length + zs.length ≤ 1000 →
    ∀ {k : Nat} {r : Option Addr × List (Sem Value × Sem Value)} {h' : Heap} {tk' : Nat}, Goes w k (forIn ((ps.drop (17 * c)).map asItem) (some l.length, []) B) (ofL (l ++ dictO (acc ++ entsC c tk zs) (acc ++ entsC c tk zs).length :: (subs ++ subsC c tk zs))) (tk + 51 * c) r h' tk' →
      Goes w (330 * c + k) (forIn (ps.map asItem) (some l.length, []) B) (ofL (l ++ dictO acc acc.length :: subs)) tk r h' tk'
  | 0, ps, zs, b, acc, subs, tk, hp, h1, h2, h3, h4, h5, h6, k, r, h', tk', g => by
    simpa [entsC, subsC] using g
  | c + 1, ps, zs, b, acc, subs, tk, hp, h1, h2, h3, h4, h5, h6, k, r, h', tk', g => by
    have hpl := hp.length
    obtain ⟨p, e1, e2⟩ := split17 (xs := ps) (by omega)
    have hz17 : (zs.take 17).length = 17 := by rw [List.length_take]; omega
    have he17 : (entsL tk (zs.take 17)).length = 17 := by rw [entsL_length, hz17]
    rw [e1, List.map_append, run_more hB _ _ _ _ (by rw [List.length_nil, List.length_take]; omega), List.nil_append, List.map_cons, List.forIn_cons]
    have sub : Goes w (2 + 13 * 17) (subDict (ps.take 16 ++ [p])) (ofL (l ++ dictO acc acc.length :: subs)) tk (l.length + 1 + subs.length) (ofL (l ++ dictO acc acc.length :: (subs ++ [dictO (entsL tk (zs.take 17)) 17]))) (tk + 3 * 17) := by
      have := goes_subL (w := w) (tk := tk) (l := l ++ dictO acc acc.length :: subs) (by rw [List.length_append]; omega) (hp.take 17) (by rw [List.length_take]; omega) h2 (h3.take 17) (by omega)
      rw [hz17, e2, List.length_append, List.length_cons, List.append_assoc, show l.length + (subs.length + 1) = l.length + 1 + subs.length by omega] at this
      exact this
    have rdy := ready_L tk (h3.take 17)
    have mrg := goes_merge (w := w) (tk := tk + 3 * 17) (l := l) (mid := subs) (acc := acc) (se := entsL tk (zs.take 17)) (b := b) hl h4 h5 rdy.1 (by rw [he17]; omega) 17
    have hb' := (h3.take 17).ge (b := b)
    refine (goes_bind (hB.next p _ _ _ _ _ l.length _ _ _ _ _ (by rw [List.length_take]; omega) sub mrg) (k₂ := 330 * c + k) ?_).le (by rw [he17]; omega)
    refine goes_chunk hB hl c (hp.drop 17) (by rw [List.length_drop]; omega) (by omega) (h3.drop 17) (by simp [h4]) ?_ (by rw [List.length_append, he17, List.length_drop]; omega) ?_
    · intro e he
      rcases List.mem_append.mp he with he | he
      · have := h5 e he; omega
      · exact rdy.2 e he
    · have e9 : tk + 3 * 17 = tk + 51 := rfl
      rw [e9, List.drop_drop, show 17 + 17 * c = 17 * (c + 1) by omega, show tk + 51 + 51 * c = tk + 51 * (c + 1) by omega]
      have a1 : acc ++ entsC (c + 1) tk zs = acc ++ entsL tk (zs.take 17) ++ entsC c (tk + 51) (zs.drop 17) := by rw [entsC, List.append_assoc]
      have a2 : subs ++ subsC (c + 1) tk zs = subs ++ [dictO (entsL tk (zs.take 17)) 17] ++ subsC c (tk + 51) (zs.drop 17) := by rw [subsC, List.append_assoc]; rfl
      rw [a1, a2] at g
      exact g
end
end Mine
end
section
open PySem PySem.W PyProof.Rows
set_option Elab.async false
set_option maxRecDepth 100000
set_option maxHeartbeats 0
namespace Mine
section
variable {w : World} {l : List Obj} {tk : Nat}
theorem goes_dispLoop {B : LoopB} (hB : LoopOk w B) (hl : 11 ≤ l.length) {c : Nat} {ps : List (Sem Value × Sem Value)} {zs : List (Int × Str)} {b : Int} (hp : PT w ps zs) (hn : 17 * (c + 1) ≤ zs.length) (hn2 : zs.length < 17 * (c + 1) + 16) (hb : 0 ≤ b) (hr : Rise b zs) (hz : zs.length ≤ 1000) :
    Goes w (223 + 330 * c) (forIn (ps.map asItem) (none, []) B) (ofL l) tk (some l.length, ps.drop (17 * (c + 1)))
      (ofL (l ++ dictO (entsC (c + 1) tk zs) (entsC (c + 1) tk zs).length :: subsC c (tk + 51) (zs.drop 17))) (tk + 51 * (c + 1)) := by
  have hpl := hp.length
  obtain ⟨p, e1, e2⟩ := split17 (xs := ps) (by omega)
  have hz17 : (zs.take 17).length = 17 := by rw [List.length_take]; omega
  have he17 : (entsL tk (zs.take 17)).length = 17 := by rw [entsL_length, hz17]
  have hpd : ps.drop (17 * (c + 1)) = (ps.drop 17).drop (17 * c) := by rw [List.drop_drop]; congr 1; omega
  rw [hpd]
  generalize hps : ps.drop 17 = ps' at e1
  rw [e1, List.map_append, run_more hB _ _ _ _ (by rw [List.length_nil, List.length_take]; omega), List.nil_append, List.map_cons, List.forIn_cons]
  have sub : Goes w (2 + 13 * 17) (subDict (ps.take 16 ++ [p])) (ofL l) tk l.length (ofL (l ++ [dictO (entsL tk (zs.take 17)) 17])) (tk + 3 * 17) := by
    have := goes_subL (w := w) (tk := tk) (l := l) hl (hp.take 17) (by rw [List.length_take]; omega) hb (hr.take 17) (by omega)
    rw [hz17, e2] at this
    exact this
  have rdy := ready_L tk (hr.take 17)
  have hb' := (hr.take 17).ge (b := b)
  refine (goes_bind (hB.first p _ _ _ _ _ _ _ (by rw [List.length_take]; omega) sub) (k₂ := 330 * c + 0) ?_).le (by omega)
  have base : l ++ [dictO (entsL tk (zs.take 17)) 17] = l ++ dictO (entsL tk (zs.take 17)) (entsL tk (zs.take 17)).length :: [] := by rw [he17]
  rw [base, show tk + 3 * 17 = tk + 51 from rfl]
  subst hps
  refine goes_chunk hB hl c (hp.drop 17) (by rw [List.length_drop]; omega) (by omega) (hr.drop 17) (by intro q; rw [q] at he17; cases he17) rdy.2 (by rw [he17, List.length_drop]; omega) ?_
  have rest := run_more (w := w) hB ((ps.drop 17).drop (17 * c)) [] (some l.length) [] (by rw [List.length_nil, List.length_drop, List.length_drop]; omega)
  rw [List.append_nil, List.nil_append] at rest
  rw [rest, entsC, List.nil_append, show tk + 51 + 51 * c = tk + 51 * (c + 1) by omega]
  exact goes_pure
theorem goes_disp (hl : 11 ≤ l.length) {c r : Nat} {ps : List (Sem Value × Sem Value)} {zs : List (Int × Str)} {b : Int} (hp : PT w ps zs) (hn : zs.length = 17 * (c + 1) + r) (hr0 : 0 < r) (hr1 : r ≤ 15) (hb : 0 ≤ b) (hr : Rise b zs) (hz : zs.length ≤ 1000) :
    Goes w (223 + 330 * c + (1 + 13 * r + (5 + 6 * r))) (dictDisplay (ps.map asItem)) (ofL l) tk (.ref l.length)
      (ofL (l ++ dictO (entsC (c + 1) tk zs ++ entsS (tk + 51 * (c + 1)) (zs.drop (17 * (c + 1)))) (entsC (c + 1) tk zs ++ entsS (tk + 51 * (c + 1)) (zs.drop (17 * (c + 1)))).length :: (subsC c (tk + 51) (zs.drop 17) ++ [dictO (entsS (tk + 51 * (c + 1)) (zs.drop (17 * (c + 1)))) r]))) (tk + 51 * (c + 1) + 3 * r) := by
  have hpl := hp.length
  have hsub : (subsC c (tk + 51) (zs.drop 17)).length = c := by
    have : ∀ c T zs, (subsC c T zs).length = c := by
      intro c
      induction c with
      | zero => intros; rfl
      | succ c ih => intros; rw [subsC, List.length_cons, ih]
    exact this _ _ _
  have hec : ∀ c T (zs : List (Int × Str)) b, 17 * c ≤ zs.length → Rise b zs → (entsC c T zs).length = 17 * c ∧ ∀ e ∈ entsC c T zs, e.hash < lastB b (zs.take (17 * c)) := by
    intro c
    induction c with
    | zero => intro T zs b _ _; exact ⟨rfl, fun e he => nomatch he⟩
    | succ c ih =>
      intro T zs b h9 hr9
      obtain ⟨i1, i2⟩ := ih (T + 51) (zs.drop 17) _ (by rw [List.length_drop]; omega) (hr9.drop 17)
      have e0 : zs.take (17 * (c + 1)) = zs.take 17 ++ (zs.drop 17).take (17 * c) := by
        rw [show 17 * (c + 1) = 17 + 17 * c by omega, List.take_add]
      have happ : ∀ (xs ys : List (Int × Str)) b, lastB b (xs ++ ys) = lastB (lastB b xs) ys := by
        intro xs
        induction xs with
        | nil => intros; rfl
        | cons x xs ih => intro ys b; obtain ⟨k, s⟩ := x; exact ih ys _
      refine ⟨by rw [entsC, List.length_append, i1, entsL_length, List.length_take]; omega, fun e he => ?_⟩
      rw [e0, happ]
      rw [entsC] at he
      rcases List.mem_append.mp he with he | he
      · have := (ready_L T (hr9.take 17)).2 e he
        have := ((hr9.drop 17).take (17 * c)).ge (b := 0)
        omega
      · exact i2 e he
  obtain ⟨l1, l2⟩ := hec (c + 1) tk zs b (by omega) hr
  have hzd : (zs.drop (17 * (c + 1))).length = r := by rw [List.length_drop]; omega
  have hge := (hr.take (17 * (c + 1))).ge (b := b)
  have rd := ready_S (tk + 51 * (c + 1)) (hr.drop (17 * (c + 1)))
  have hes : (entsS (tk + 51 * (c + 1)) (zs.drop (17 * (c + 1)))).length = r := by rw [entsS_length, hzd]
  unfold dictDisplay
  have loop := fun B hB => goes_dispLoop (w := w) (l := l) (tk := tk) (B := B) hB hl hp (c := c) (by omega) (by omega) hb hr hz
  refine goes_bind (loop _ ?_) ?_
  · constructor
    · intro p main run h
      dsimp only
      rw [if_neg (by rw [List.length_append, List.length_singleton, beq_iff_eq]; omega)]
    · intro p run k h tk d h' tk' hl9 g
      dsimp only
      rw [if_pos (by rw [List.length_append, List.length_singleton, hl9]; rfl)]
      rw [if_neg (by rw [List.isEmpty_iff]; simp)]
      exact goes_bind (k₂ := 0) (goes_bind (k₂ := 0) g goes_pure) goes_pure
    · intro p run k k' h tk d a h' tk' h'' tk'' hl9 g g'
      dsimp only
      rw [if_pos (by rw [List.length_append, List.length_singleton, hl9]; rfl)]
      rw [if_neg (by rw [List.isEmpty_iff]; simp)]
      exact goes_bind (k₂ := 0) (goes_bind (goes_holding g) (k₂ := k') (goes_bind (k₂ := 0) (goes_onRaise (goes_holding g')) goes_pure)) goes_pure
  · dsimp only
    rw [if_neg (by rw [List.isEmpty_iff]; intro q; have := congrArg List.length q; rw [List.length_drop, List.length_nil] at this; omega)]
    have sub := goes_subS (w := w) (tk := tk + 51 * (c + 1)) (l := l ++ dictO (entsC (c + 1) tk zs) (entsC (c + 1) tk zs).length :: subsC c (tk + 51) (zs.drop 17)) (by rw [List.length_append]; omega) (hp.drop (17 * (c + 1))) (by rw [List.length_drop]; omega) (by omega) (hr.drop (17 * (c + 1)))
    rw [hzd, List.length_append, List.length_cons, List.append_assoc, hsub] at sub
    have mrg := goes_merge (w := w) (tk := tk + 51 * (c + 1) + 3 * r) (l := l) (mid := subsC c (tk + 51) (zs.drop 17)) (acc := entsC (c + 1) tk zs) (se := entsS (tk + 51 * (c + 1)) (zs.drop (17 * (c + 1)))) hl (by intro q; rw [q] at l1; simp at l1) l2 rd.1 (by rw [l1, hes]; omega) r
    rw [hes, hsub] at mrg
    refine goes_bind (k₁ := 1 + 13 * r + (5 + 6 * r)) (k₂ := 0) (a := some l.length) ?_ goes_pure
    refine goes_bind (goes_holding sub) (k₂ := 5 + 6 * r) ?_
    rw [show l.length + (c + 1) = l.length + 1 + c by omega]
    exact goes_bind (k₂ := 0) (goes_onRaise (goes_holding mrg)) goes_pure
end
end Mine
end
section
open PySem PySem.W PyProof.Rows
set_option Elab.async false
set_option maxRecDepth 100000
set_option maxHeartbeats 0
namespace Mine
noncomputable section
/-- the long display's parts -/
noncomputable def st9 : List PySem.Expr × List (Option PySem.Expr) × List PySem.Expr × Pos × Pos := match PW.main.body[9]? with
  | some (PySem.Stmt.Assign ts (PySem.Expr.Dict ks vs p2) p1) => (ts, ks, vs, p2, p1)
  | _ => ([], [], [], ⟨0, 0, 0, 0⟩, ⟨0, 0, 0, 0⟩)
noncomputable abbrev d9 : PySem.Expr := .Dict st9.2.1 st9.2.2.1 st9.2.2.2.1
theorem sts3_is : sts3 = [.Assign st9.1 d9 st9.2.2.2.2] := by kernel_rfl
noncomputable def allLitS : List (Option PySem.Expr) → List PySem.Expr → Bool
  | some (.Constant (.int _) _ _) :: ks, .Constant (.str _) _ _ :: vs => allLitS ks vs
  | [], [] => true
  | _, _ => false
theorem litS_split {k : Option PySem.Expr} {v : PySem.Expr} {ks : List (Option PySem.Expr)} {vs : List PySem.Expr} (h : allLitS (k :: ks) (v :: vs) = true) : ∃ x a b y c d, k = some (.Constant (.int x) a b) ∧ v = .Constant (.str y) c d ∧ allLitS ks vs = true := by
  unfold allLitS at h
  split at h
  · rename_i e1 e2
    cases e1; cases e2
    exact ⟨_, _, _, _, _, _, rfl, rfl, h⟩
  · rename_i e1 _; cases e1
  · exact absurd h (by decide)
theorem pt_lits {w : World} {env : Env} {pos : Pos} {ks : List (Option PySem.Expr)} {vs : List PySem.Expr} (h : allLitS ks vs = true) : PT w (pairTrees ks vs env pos) (litPairs ks vs) := by
  induction ks generalizing vs with
  | nil =>
    cases vs with
    | nil => exact .nil
    | cons v vs => exact absurd h (by simp [allLitS])
  | cons k ks ih =>
    cases vs with
    | nil => exact absurd h (by simp [allLitS])
    | cons v vs =>
      obtain ⟨x, a, b, y, c, d, rfl, rfl, h⟩ := litS_split h
      refine .cons (fun h tk => ?_) (fun h tk => ?_) (ih h)
      · exact goes_bind (k₂ := 0) goes_fresh goes_pure
      · exact goes_bind (k₁ := 1) (k₂ := 1) (goes_bind (k₂ := 0) goes_fresh goes_pure) (goes_bind (k₂ := 0) goes_standAt goes_pure)
theorem lits_ok : allLitS st9.2.1 st9.2.2.1 = true := by kernel_rfl
theorem some_ok : st9.2.1.all (·.isSome) = true := by kernel_rfl
theorem len_ok : st9.2.1.length = st9.2.2.1.length := by kernel_rfl
theorem pairs_is : litPairs st9.2.1 st9.2.2.1 = b3Pairs := by kernel_rfl
theorem b3_len : b3Pairs.length = 17 * (37 + 1) + 4 := by kernel_rfl
noncomputable def riseB : Int → List (Int × Str) → Bool
  | _, [] => true
  | b, (k, _) :: r => decide (b ≤ k) && (decide (k < 1000000000) && riseB (k + 1) r)
theorem rise_of : ∀ {b : Int} {zs : List (Int × Str)}, riseB b zs = true → Rise b zs
  | _, [], _ => trivial
  | b, (k, s) :: r, h => by
    simp only [riseB, Bool.and_eq_true, decide_eq_true_eq] at h
    exact ⟨h.1, h.2.1, rise_of h.2.2⟩
theorem b3_rise : Rise 0 b3Pairs := rise_of (by kernel_rfl)
/-- the objects ahead of the display -/
noncomputable def hL8 (P : Params) : List Obj := (hT_p8 P).list 55
theorem hL8_len (P : Params) : (hL8 P).length = 55 := by unfold hL8 BT.list; simp
theorem goes_d9 (w : World) (P : Params) : Goes w 12517 (standAt st9.2.2.2.2 >>= fun _ => eval d9 hEnv) (ofL (hL8 P)) 323 (.ref 55)
    (ofL (hL8 P ++ dictO (entsC 38 323 b3Pairs ++ entsS 2261 (b3Pairs.drop 646)) (entsC 38 323 b3Pairs ++ entsS 2261 (b3Pairs.drop 646)).length :: (subsC 37 374 (b3Pairs.drop 17) ++ [dictO (entsS 2261 (b3Pairs.drop 646)) 4]))) 2273 := by
  refine goes_bind (k₁ := 1) (k₂ := 12516) goes_standAt ?_
  rw [arm_eval_Dict, zip_pairTrees _ _ _ _ some_ok len_ok]
  refine goes_bind (k₁ := 1) (k₂ := 12515) goes_standAt ?_
  have hp : PT w (pairTrees st9.2.1 st9.2.2.1 hEnv st9.2.2.2.1) b3Pairs := by
    have := pt_lits (w := w) (env := hEnv) (pos := st9.2.2.2.1) lits_ok
    rwa [pairs_is] at this
  have := goes_disp (w := w) (l := hL8 P) (tk := 323) (by rw [hL8_len]; decide) (c := 37) (r := 4) hp b3_len (by decide) (by decide) (by decide) b3_rise (by rw [b3_len]; decide)
  rw [hL8_len] at this
  exact this
end
end Mine
end
section
open PySem PySem.W PyProof.Rows
set_option Elab.async false
set_option maxRecDepth 100000
set_option maxHeartbeats 0
namespace Mine
noncomputable section
theorem swap_false : swapsWithSole st9.1 d9 st9.2.2.2.2.line hEnv = pure false := by kernel_rfl
noncomputable abbrev T9 : Value → Sem Flow := fun v => swappedStores st9.1 d9 hEnv >>= fun o => assignStores hEnv v o ((assignEach st9.1 hEnv).map (·.2))
theorem exec_st9 : exec (.Assign st9.1 d9 st9.2.2.2.2) hEnv = (standAt st9.2.2.2.2 >>= fun _ => eval d9 hEnv) >>= T9 := by
  rw [arm_exec_Assign, swap_false]
  rfl
noncomputable abbrev K9 : Value → Sem PySem.Fin := fun v => (T9 v).wrap (fun f => match f with | .next => (execs [] hEnv).wrap doneF deadEnd id id | f => doneF f) deadEnd id id
theorem piece_st9 (p : Pos) : piecesOf sts3 hEnv hC p hB = ⟨(standAt st9.2.2.2.2 >>= fun _ => eval d9 hEnv).wrap K9 deadEnd id id, hC, p, hB⟩ := by
  unfold piecesOf
  rw [sts3_is, execs_cons_wrap, exec_st9, Sem.bind_eq_wrap' (f := T9), Sem.wrap_wrap]
  rfl
theorem mid_is (P : Params) : ofL (hL8 P ++ dictO (entsC 38 323 b3Pairs ++ entsS 2261 (b3Pairs.drop 646)) (entsC 38 323 b3Pairs ++ entsS 2261 (b3Pairs.drop 646)).length :: (subsC 37 374 (b3Pairs.drop 17) ++ [dictO (entsS 2261 (b3Pairs.drop 646)) 4])) = absHeap (hT_mid P) 94 {} := by kernel_rfl
theorem tail_f (w : World) (os : OsState) (q : Pos) : segRunT treeTable PW (sg w false) 11 hAnn 1 9 (hS_mid (sg w false) os) ⟨K9 (.ref 55), hC, q, hB⟩ = some (.next, hS_p9 (sg w false) os, hC, hP_p9) := by kernel_rfl
theorem tail_t (w : World) (os : OsState) (q : Pos) : segRunT treeTable PW (sg w true) 11 hAnn 1 9 (hS_mid (sg w true) os) ⟨K9 (.ref 55), hC, q, hB⟩ = some (.next, hS_p9 (sg w true) os, hC, hP_p9) := by kernel_rfl
theorem h_t3 (w : World) (os : OsState) : segRun treeTable PW w 11 hAnn 1 12600 (hS_p8 w os).abs (piecesOf sts3 hEnv hC hP_p8 hB) = some (.next, (hS_p9 w os).abs, hC, hP_p9) := by
  obtain ⟨n, q', hn, e⟩ := goes_d9 w w.params K9 deadEnd id id hC hP_p8 os
  have t := sg_both' (P := fun w => segRun treeTable PW w 11 hAnn 1 9 (hS_mid w os).abs ⟨K9 (.ref 55), hC, q', hB⟩ = some (.next, (hS_p9 w os).abs, hC, hP_p9)) (fun w => segRun_of (tail_f w os q')) (fun w => segRun_of (tail_t w os q')) w
  rw [piece_st9]
  rw [mid_is] at e
  have r := segRun_mono (12600 - (n + 9)) (seg_go e t)
  rw [show n + 9 + (12600 - (n + 9)) = 12600 by omega] at r
  exact r
end
end Mine
end
section
open PySem PySem.W PyProof.Rows
set_option Elab.async false
set_option maxRecDepth 100000
set_option maxHeartbeats 0
namespace Mine
noncomputable section
theorem sg_both {P : World → Prop} (hf : ∀ w, P (sg w false)) (ht : ∀ w, P (sg w true)) (w : World) : P w := byRow2 "special-get-raises" hf ht w
theorem h_t1 (w : World) (os : OsState) : segRun treeTable PW w 11 hAnn 1 266 (hS_block w os).abs (piecesOf sts1 hEnv hC hP_block hB) = some (.next, (hS_p6 w os).abs, hC, hP_p6) :=
  sg_both (P := fun w => segRun treeTable PW w 11 hAnn 1 266 (hS_block w os).abs (piecesOf sts1 hEnv hC hP_block hB) = some (.next, (hS_p6 w os).abs, hC, hP_p6)) (fun w => segRun_of (h_t1f w os)) (fun w => segRun_of (h_t1t w os)) w
theorem h_t2 (w : World) (os : OsState) : segRun treeTable PW w 11 hAnn 1 1028 (hS_p6 w os).abs (piecesOf sts2 hEnv hC hP_p6 hB) = some (.next, (hS_p8 w os).abs, hC, hP_p8) :=
  sg_both (P := fun w => segRun treeTable PW w 11 hAnn 1 1028 (hS_p6 w os).abs (piecesOf sts2 hEnv hC hP_p6 hB) = some (.next, (hS_p8 w os).abs, hC, hP_p8)) (fun w => segRun_of (h_t2f w os)) (fun w => segRun_of (h_t2t w os)) w
theorem h_body : hBody = sts1 ++ (sts2 ++ (sts3 ++ (sts4 ++ []))) := by
  show hBody = hBody.take 7 ++ ((hBody.drop 7).take 2 ++ ((hBody.drop 9).take 1 ++ (hBody.drop 10 ++ [])))
  rw [List.append_nil, show hBody.drop 10 = (hBody.drop 9).drop 1 by rw [List.drop_drop], List.take_append_drop, show hBody.drop 9 = (hBody.drop 7).drop 2 by rw [List.drop_drop], List.take_append_drop, List.take_append_drop]
theorem h_run (w : World) (os : OsState) : topRun treeTable PW w 11 hAnn (12 + (1 + (266 + (1028 + (12600 + (273 + 2)))))) ⟨boot_heap w.params, Array.mk [], boot_drawn, boot_toks, os⟩ (topStub PW) = some (hSh_p18 w os) := by
  refine go_top (h_pre w os) ?_
  refine piece_block (h_block w os) ?_
  refine (congrArg (fun b => topRun treeTable PW w 11 hAnn _ (hS_block w os).abs (restOf b hEnv hC hP_block hB)) h_body).trans ?_
  refine piece_app (h_t1 w os) ?_
  refine piece_app (h_t2 w os) ?_
  refine piece_app (h_t3 w os) ?_
  refine piece_app (segRun_of (h_t4 w os)) ?_
  exact piece_nil (h_fin w os)
theorem h_left : LeftO PW q loose hXt (Hook.obs HK) (Hook.val HK) 28300 := by
  refine LeftO.of_pieces (H₀ := boot_heap) (H₁ := hH_p18) (m₀ := 11) (ann := hAnn) h_open h_size h_run (by decide) ?_
  intro w
  funext os
  refine Prod.ext ?_ (Prod.ext ?_ (l_obs w os))
  · show (staticsOk (importedModules PW.main.body) (boot_heap w.params) (hH_p18 w.params) && namesBound PW (hH_p18 w.params) && gensDone (hSh_p18 w os) && laidKept (boot_heap w.params) (hH_p18 w.params)) = true
    rw [l_statics, l_names, l_gens, l_laid]; rfl
  · exact Prod.ext (l_s1 w os) (Prod.ext (l_s2 w) (Prod.ext (l_s3 w os) (Prod.ext (l_s4 w os) (Prod.ext (l_s5 w os) (Prod.ext (l_s6 w os) (Prod.ext (l_s7 w os) (Prod.ext (l_s8 w os) (l_s9 w os))))))))
end
end Mine
end
section
open PySem PySem.W PyProof.Rows PyProof.Rows.LCg PyProof.Rows.LCt
set_option Elab.async false
set_option maxRecDepth 100000
set_option maxHeartbeats 0
namespace Mine
theorem regKT1 : PySem.Challenge.rw_rw0097_01.foot = 7 ∧ K = K := by k_fill; exact ⟨rfl, rfl⟩
local macro_rules | `(tactic| walk_at "call ref") => `(tactic| (k_here; refine rest_here ?_))
local macro_rules | `(tactic| walk_at "subscriptTail") => `(tactic| (k_here; refine rest_here ?_))
local macro_rules | `(tactic| walk_at "binaryOp Add ref ref") => `(tactic| (k_here; refine rest_here ?_))
local macro_rules | `(tactic| walk_at "eval Subscript BinOp Constant") => `(tactic| (k_here; refine rest_here ?_))
local macro_rules | `(tactic| walk_at "eval BinOp") => `(tactic| (k_here; refine rest_here ?_))
local macro_rules | `(tactic| k_mem) => `(tactic| first | exact List.mem_cons_self | (with_reducible assumption) | (refine' List.mem_cons_of_mem _ ?_; k_mem))
/-- the law's body, and its first loop's -/
noncomputable def lawBd : List Stmt := match partsAt 18 with
  | some (_, _, b, _) => b
  | _ => []
noncomputable def loopBd : List Stmt := match lawBd[7]? with
  | some (PySem.Stmt.For _ _ b _ _) => b
  | _ => []
noncomputable def loop2Bd : List Stmt := match lawBd[10]? with
  | some (PySem.Stmt.For _ _ b _ _) => b
  | _ => []
theorem frBack1 {h₀ h : Heap} {L : Addr} {m : Str → Option Value} {x0 : Str} {v0 : Value} (F : Fr h₀ L h (fun y => if y = x0 then some v0 else m y)) (e0 : m x0 = some v0) : Fr h₀ L h m := by
  have : (fun y => if y = x0 then some v0 else m y) = m := by
    funext y
    by_cases hy : y = x0
    · rw [if_pos hy, hy, e0]
    · rw [if_neg hy]
  rw [this] at F; exact F
theorem frZ1 {h₀ h : Heap} {L : Addr} {m : Str → Option Value} {z x0 : Str} {u v0 : Value} (F : Fr h₀ L h (fun y => if y = z then some u else if y = x0 then some v0 else m y)) (e0 : m x0 = some v0) : Fr h₀ L h (fun y => if y = z then some u else m y) := by
  have : (fun y => if y = z then some u else if y = x0 then some v0 else m y) = fun y => if y = z then some u else m y := by
    funext y
    by_cases hz : y = z
    · rw [if_pos hz, if_pos hz]
    · rw [if_neg hz, if_neg hz]
      by_cases h0 : y = x0
      · rw [if_pos h0, h0, e0]
      · rw [if_neg h0]
  rw [this] at F; exact F
theorem frZ2 {h₀ h : Heap} {L : Addr} {m : Str → Option Value} {z x0 x1 : Str} {u v0 v1 : Value} (F : Fr h₀ L h (fun y => if y = z then some u else if y = x0 then some v0 else if y = x1 then some v1 else m y)) (e0 : m x0 = some v0) (e1 : m x1 = some v1) : Fr h₀ L h (fun y => if y = z then some u else m y) :=
  frZ1 (frZ1 (m := fun y => if y = x1 then some v1 else m y) F (by
    show (if x0 = x1 then some v1 else m x0) = some v0
    by_cases h : x0 = x1
    · rw [if_pos h]; rw [h] at e0; rw [← e0, e1]
    · rw [if_neg h, e0])) e1
theorem frZ3 {h₀ h : Heap} {L : Addr} {m : Str → Option Value} {z x0 x1 x2 : Str} {u v0 v1 v2 : Value} (F : Fr h₀ L h (fun y => if y = z then some u else if y = x0 then some v0 else if y = x1 then some v1 else if y = x2 then some v2 else m y)) (e0 : m x0 = some v0) (e1 : m x1 = some v1) (e2 : m x2 = some v2) : Fr h₀ L h (fun y => if y = z then some u else m y) :=
  frZ2 (frZ1 (m := fun y => if y = x1 then some v1 else if y = x2 then some v2 else m y) F (by
    show (if x0 = x1 then some v1 else if x0 = x2 then some v2 else m x0) = some v0
    by_cases h : x0 = x1
    · rw [if_pos h]; rw [h] at e0; rw [← e0, e1]
    · rw [if_neg h]
      by_cases h' : x0 = x2
      · rw [if_pos h']; rw [h'] at e0; rw [← e0, e2]
      · rw [if_neg h', e0])) e1 e2
theorem ints_at {vs : List Value} {ns : List Int} (h : IntsAre vs ns) : ∀ {i : Nat} {n : Int}, ns[i]? = some n → ∃ t, vs[i]? = some (.int n t) := by
  induction h with
  | nil => intro i n e; simp at e
  | cons a t r ih =>
    intro i n e
    cases i with
    | zero => simp only [List.getElem?_cons_zero, Option.some.injEq] at e ⊢; subst e; exact ⟨t, rfl⟩
    | succ i => simp only [List.getElem?_cons_succ] at e ⊢; exact ih e
section
variable {w : World} {p : Program} {lo : List Str} {mean : ExcName → Option Value} {mg mb : Str → Option Value}
/-- the whole number c -/
theorem eval_c {nm : Str} {ar : Arguments} {bd : List Stmt} {sc : Scope} (hparts : partsAt 18 = some (nm, ar, bd, sc)) {ts : List PySem.Expr} {e : PySem.Expr} {ps : Pos} (hst : lawBd[1]? = some (PySem.Stmt.Assign ts e ps))
    {L fa S : Addr} {cd : Value} {h₀ : Heap} {s : Shared} {m : Str → Option Value} {its : Array Value} {xs : List Int} {news : List (Addr × Obj)} {Q : Value → Shared → Prop} (hI : IntsAre its.toList xs) (hl : xs.length ≤ 63)
    (hS : h₀.IsList S its) (F : Fr h₀ L s.heap m) (hm : m "script" = some (.ref S)) (X : (K w.params).In h₀) (T : Top p lo mean mg mb h₀) (B : Below callerA h₀ [] h₀) (N : News h₀ L s.heap news)
    (hQ : ∀ t h' tk', Fr h₀ L h' m → News h₀ L h' news → Q (.int (xs.getD 3 7) t) { s with heap := h', toks := tk' }) :
    wpAny (model P0 w) (callerA.deeper (envOfC nm sc L fa cd)) (eval e (envOfC nm sc L fa cd)) Q NoE s := by
  cases hparts
  cases hst
  have F' := frOf1 F hm
  refine Subscript_ ?_
  k_steps
  unfold Rest
  refine wpAny_BinOp ?_
  k_steps
  try unfold Rest
  rename IntsAre _ (List.take _ (List.drop 3 xs)) => I9
  rename News _ _ _ (_ :: _ :: news) => N9
  refine kmk_add_ints (ms := [7]) (by k_asm) N9 (N9.isList (.tail _ (.head _))) (N9.isList (.head _)) I9 (.cons _ _ .nil) ?_ (by rw [List.length_take, List.length_cons, List.length_nil, sizeLine_eq]; omega)
  intro D us h8 F8 N8 l8 I8
  k_steps
  try unfold Rest
  have hfirst : (List.take (min 4 xs.length - 3) (List.drop 3 xs) ++ [7])[0]? = some (xs.getD 3 7) := by
    rw [List.getD_eq_getElem?_getD]
    rcases Nat.lt_or_ge 3 xs.length with h | h
    · rw [show min 4 xs.length - 3 = 1 by omega, List.drop_eq_getElem_cons h, List.take_succ_cons, List.getElem?_eq_getElem h]
      rfl
    · rw [List.drop_of_length_le h, List.take_nil, List.getElem?_eq_none h]
      rfl
  obtain ⟨t9, ht9⟩ := ints_at I8 hfirst
  refine tmp_ops (Heap.IsList.typeIs (N8.isList (.head _))) list_getitem_lookup (wpAny_getItem_list (N8.isList (.head _)) (by decide) (by decide) (by simpa using ht9) ?_) (by with_unfolding_all rfl)
  exact hQ _ _ _ (frBack1 F8 hm) (fun q hq => N8 q (.tail _ (.tail _ (.tail _ hq))))
end
end Mine
end
section
open PySem PySem.W PyProof.Rows PyProof.Rows.LCg PyProof.Rows.LCt
set_option Elab.async false
set_option maxRecDepth 100000
set_option maxHeartbeats 0
namespace Mine
theorem regKT2 : PySem.Challenge.rw_rw0097_01.foot = 7 ∧ K = K := by k_fill; exact ⟨rfl, rfl⟩
local macro_rules | `(tactic| walk_at "call ref") => `(tactic| (k_here; refine rest_here ?_))
local macro_rules | `(tactic| walk_at "subscriptTail") => `(tactic| (k_here; refine rest_here ?_))
local macro_rules | `(tactic| walk_at "subscriptTail Name Name ref int") => `(tactic| (k_here; refine rest_here ?_))
local macro_rules | `(tactic| walk_at "Exists") => `(tactic| (k_here; refine rest_here ?_))
local macro_rules | `(tactic| walk_at "CompSrcT") => `(tactic| (refine rest_here ?_))
local macro_rules | `(tactic| walk_at "exec Assign cons ListComp") => `(tactic| (k_here; refine rest_here ?_))
local macro_rules | `(tactic| k_mem) => `(tactic| first | exact List.mem_cons_self | (with_reducible assumption) | (refine' List.mem_cons_of_mem _ ?_; k_mem))
local macro_rules | `(tactic| k_all) => `(tactic| first | assumption | (intro p hp; (rename (∀ p ∈ _, @LT.lt Nat _ (Prod.fst p) _) => hRR); (have hh := hRR p hp); refine neN ?_; (try dsimp only); omega))
/-- the flags that a choice takes -/
noncomputable def bitOn (i k : Nat) : Bool := i / 2 ^ k % 2 == 1
noncomputable def chosenTo (l : List (Int × Nat)) (i j : Nat) : List (Int × Nat) := ((List.range j).filter (bitOn i)).map fun k => l.getD k (0, 0)
noncomputable abbrev chosenL (l : List (Int × Nat)) (i : Nat) : List (Int × Nat) := chosenTo l i 3
theorem bit_iff (i j : Nat) : ((i : Int).fdiv (2 ^ ((j : Int)).toNat)).fmod 2 = 1 ↔ bitOn i j = true := by
  unfold bitOn
  rw [Int.toNat_natCast, Int.fdiv_eq_ediv_of_nonneg _ (Int.le_of_lt (kbt_pos j)), Int.fmod_eq_emod_of_nonneg _ (by decide), beq_iff_eq, ← kbt_cast, ← Int.natCast_ediv]
  omega
theorem chosen_on {l : List (Int × Nat)} {i j : Nat} (h : bitOn i j = true) : chosenTo l i (j + 1) = chosenTo l i j ++ [l.getD j (0, 0)] := by
  unfold chosenTo
  rw [List.range_succ, List.filter_append, List.map_append]
  simp [h]
theorem chosen_off {l : List (Int × Nat)} {i j : Nat} (h : ¬ bitOn i j = true) : chosenTo l i (j + 1) = chosenTo l i j := by
  unfold chosenTo
  rw [List.range_succ, List.filter_append, List.map_append]
  simp [h]
theorem map_getD (l : List (Int × Nat)) (j : Nat) : (l.map (·.1)).getD j 0 = (l.getD j (0, 0)).1 := by
  rw [List.getD_eq_getElem?_getD, List.getD_eq_getElem?_getD, List.getElem?_map]
  cases l[j]? <;> rfl
section
variable {w : World} {p : Program} {lo : List Str} {mean : ExcName → Option Value} {mg mb : Str → Option Value}
theorem turn0 {nm : Str} {ar : Arguments} {bd : List Stmt} {sc : Scope} (hparts : partsAt 18 = some (nm, ar, bd, sc)) {st : Stmt} (hst : loopBd[0]? = some st)
    {L fa DF : Addr} {cd : Value} {h₀ : Heap} {s : Shared} {m : Str → Option Value} {itF : Array Value} {kF : Nat} {l : List (Int × Nat)} {i : Nat} {ti : Tok} {oF oC : Obj} {news : List (Addr × Obj)} {Q : Flow → Shared → Prop}
    (F : Fr h₀ L s.heap m) (X : (K w.params).In h₀) (T : Top p lo mean mg mb h₀) (B : Below callerA h₀ [] h₀) (N : News h₀ L s.heap news)
    (mF : (L + 1, oF) ∈ news) (dF : oF.data = .cell (some (.ref DF))) (mD : (DF, W.listOf itF kF) ∈ news) (IF : IntsAre itF.toList (l.map (·.1))) (hl : l.length = 3)
    (mC : (L + 1 + 1 + 1 + 1 + 1 + 1, oC) ∈ news) (dC : oC.data = .cell (some (.int i ti))) (hi : i < 8)
    (hQ : ∀ D ys h' tk', Fr h₀ L h' (fun z => if z = "chosen" then some (.ref D) else m z) → News h₀ L h' ((D, lst ys) :: news) → Off1 D news → IntsAre ys ((chosenL l i).map (·.1)) → Q .next { s with heap := h', toks := tk' }) :
    wpAny (model P0 w) (callerA.deeper (envOfC nm sc L fa cd)) (exec st (envOfC nm sc L fa cd)) Q NoE s := by
  cases hparts
  cases hst
  refine Assign_ListComp_T (F₀ := F) (by rfl) (by rfl) (by rfl) (by decide) (by rfl) (by decide) (by rfl) (by rfl) (by rfl) ?_
  k_steps
  rename IsRange _ _ _ _ _ _ _ _ => hR
  refine CompSrcT.range (n := 3) rfl (by k_asm) (by k_asm) hR (by decide) (by decide) (by rw [sizeLine_eq]; decide) (fun g => ?_)
  refine compT_ind (fun j ys nw => nw = news ∧ IntsAre ys ((chosenTo l i j).map (·.1))) ⟨rfl, .nil⟩ ?_ ?_
  · rintro j v I oI C oCo D m₂ ys nw h tk E' hj ⟨t, rfl⟩ ⟨rfl, hI⟩ hC hxv F₁ N₁ off ne
    simp only [Int.zero_add] at hxv
    k_steps
    · unfold Rest
      rename _ = (1 : Int) => hbit
      refine item_anyK (N₁.isList (.tail _ (.tail _ (.tail _ mD)))) IF (Int.natCast_nonneg _) (by rw [List.length_map, hl]; omega) (by omega) (fun t9 => ?_)
      refine CompEnd.intro (by k_asm) (by k_asm) _ (fun q hq => hq) off trivial ⟨rfl, ?_⟩
      rw [chosen_on ((bit_iff i j).mp hbit), List.map_append, Int.toNat_natCast, map_getD]
      exact ints_snoc hI
    · rename _ ≠ (1 : Int) => hbit
      refine CompEnd.intro (by k_asm) (by k_asm) _ (fun q hq => hq) off trivial ⟨rfl, ?_⟩
      rw [chosen_off (fun q => hbit ((bit_iff i j).mpr q))]
      exact hI
  · rintro ys nw ⟨rfl, hI⟩
    k_steps
    exact hQ _ _ _ _ (by assumption) (by assumption) (by assumption) hI
end
end Mine
end
section
open PySem PySem.W PyProof.Rows PyProof.Rows.LCg PyProof.Rows.LCt
set_option Elab.async false
set_option maxRecDepth 100000
set_option maxHeartbeats 0
namespace Mine
theorem regKT3 : PySem.Challenge.rw_rw0097_01.foot = 7 ∧ K = K := by k_fill; exact ⟨rfl, rfl⟩
local macro_rules | `(tactic| walk_at "call ref") => `(tactic| (k_here; refine rest_here ?_))
local macro_rules | `(tactic| walk_at "call builtin:sum") => `(tactic| (k_here; refine rest_here ?_))
local macro_rules | `(tactic| k_mem) => `(tactic| first | exact List.mem_cons_self | (with_reducible assumption) | (refine' List.mem_cons_of_mem _ ?_; k_mem))
local macro_rules | `(tactic| k_all) => `(tactic| first | assumption | (intro p hp; (rename (∀ p ∈ _, @LT.lt Nat _ (Prod.fst p) _) => hRR); (have hh := hRR p hp); refine neN ?_; (try dsimp only); omega))
section
variable {w : World} {p : Program} {lo : List Str} {mean : ExcName → Option Value} {mg mb : Str → Option Value}
theorem turn1 {nm : Str} {ar : Arguments} {bd : List Stmt} {sc : Scope} (hparts : partsAt 18 = some (nm, ar, bd, sc)) {st : Stmt} (hst : loopBd[1]? = some st)
    {L fa CH H G : Addr} {cd : Value} {h₀ : Heap} {s : Shared} {m : Str → Option Value} {ys : List Value} {lc : List (Int × Nat)} {itH : Array Value} {kH : Nat} {oG : Obj} {kvs : List (Int × Value)} {c : Int} {i : Nat} {ti tc : Tok} {oc oC : Obj} {news : List (Addr × Obj)} {Q : Flow → Shared → Prop}
    (F : Fr h₀ L s.heap m) (X : (K w.params).In h₀) (T : Top p lo mean mg mb h₀) (B : Below callerA h₀ [] h₀) (N : News h₀ L s.heap news) (C28 : CodeHd h₀ 28 24) (C35 : CodeHd h₀ 35 31)
    (eCH : m "chosen" = some (.ref CH)) (mCH : (CH, lst ys) ∈ news) (hI : IntsAre ys (lc.map (·.1))) (hup : Up 0 lc) (hlc : lc.length ≤ 3)
    (eH : m "hidden" = some (.ref H)) (mH : (H, W.listOf itH kH) ∈ news) (IH : IntsAre itH.toList hidZ) (eG : m "gaps" = some (.ref G)) (mG : (G, oG) ∈ news) (loG : (G == sysModules) = false) (dG : oG.IsDictOf (PySem.intKind P0 w) kvs) (hG : GapsOk gapF kvs)
    (mc : (L + 1 + 1, oc) ∈ news) (dc : oc.data = .cell (some (.int c tc))) (mC : (L + 1 + 1 + 1 + 1 + 1 + 1, oC) ∈ news) (dC : oC.data = .cell (some (.int i ti)))
    (hQ : ∀ t h' tk', Fr h₀ L h' (fun z => if z = "typed" then some (.str (typedTo gapF (c + i) (prettyT (sumF lc)) (prettyT (sumF lc)).cps.size) t) else m z) → News h₀ L h' news → Q .next { s with heap := h', toks := tk' }) :
    wpAny (model P0 w) (callerA.deeper (envOfC nm sc L fa cd)) (exec st (envOfC nm sc L fa cd)) Q NoE s := by
  cases hparts
  cases hst
  have F3 := frOf3 F eCH eH eG
  k_steps
  try unfold Rest
  refine LSm.sum_ints (by k_asm) (by k_asm) rfl (News.isList (by k_asm) mCH) hI ?_
  intro h1 tk1 t1 F1 N1
  k_steps
  unfold Rest
  have hCb := spec_pf (w := w) (p := p) (lo := lo) (mean := mean) (mg := mg) (mb := mb) (sumF lc) t1 news (pretty_sizes hup)
  dsimp only [CbClaim, CbLists, CbRet] at hCb
  k_dflt (refine' hCb _ _ _ _ _ _ _ _ _ _ _ _ _ _ _ _ _ ?k1 ?k2 ?k3 ?k4 ?k5 ?kK ?kp ?kd ?ku ?kR)
  case k1 => k_asm
  case k2 => k_asm
  case k3 => k_asm
  case k4 => k_asm
  case k5 => k_asm
  case kK => exact rfl
  case kp => trivial
  case kd => decide
  case ku => decide
  case kR =>
    intro t2 h2 tk2 F2 N2
    clear hCb
    k_steps
    unfold Rest
    have hrep := report_ok hup hlc
    have hch : ∀ y ∈ (prettyT (sumF lc)).cps.toList, (y : Nat) < 1114112 := fun y hy => by
      have := hrep.1 y hy
      unfold okC at this
      simp only [Bool.or_eq_true, Bool.and_eq_true, decide_eq_true_eq, beq_iff_eq] at this
      omega
    have hL := spec_typed (w := w) (p := p) (lo := lo) (mean := mean) (mg := mg) (mb := mb) gapF (prettyT (sumF lc)) t2 (c + i) tk2 H G oG itH kH kvs news hrep.2 hch mH IH mG loG dG hG
    dsimp only [LClaim] at hL
    k_dflt (refine' hL _ _ _ _ _ _ _ _ _ _ _ _ _ _ _ _ _ ?k1 ?k2 ?k3 ?k4 ?k5 ?kK ?kC1 ?kC2 ?kd ?ku ?kR)
    case k1 => k_asm
    case k2 => k_asm
    case k3 => k_asm
    case k4 => k_asm
    case k5 => k_asm
    case kK => exact rfl
    case kC1 => exact C28
    case kC2 => exact C35
    case kd => decide
    case ku => decide
    case kR =>
      rintro v3 h3 tk3 nw3 F3' N3 ⟨rfl, t3, rfl⟩
      clear hL
      k_steps
      exact hQ _ _ _ (frZ3 (by assumption) eCH eH eG) (by assumption)
end
end Mine
end
section
open PySem PySem.W PyProof.Rows PyProof.Rows.LCg PyProof.Rows.LCt
set_option Elab.async false
set_option maxRecDepth 100000
set_option maxHeartbeats 0
namespace Mine
theorem regKT4 : PySem.Challenge.rw_rw0097_01.foot = 7 ∧ K = K := by k_fill; exact ⟨rfl, rfl⟩
local macro_rules | `(tactic| walk_at "call ref") => `(tactic| (k_here; refine rest_here ?_))
local macro_rules | `(tactic| walk_at "Exists") => `(tactic| (k_here; refine rest_here ?_))
local macro_rules | `(tactic| walk_at "eval ListComp") => `(tactic| (k_here; refine rest_here ?_))
local macro_rules | `(tactic| walk_at "call builtin:str.join") => `(tactic| (k_here; refine rest_here ?_))
local macro_rules | `(tactic| k_mem) => `(tactic| first | exact List.mem_cons_self | (with_reducible assumption) | (refine' List.mem_cons_of_mem _ ?_; k_mem))
local macro_rules | `(tactic| k_all) => `(tactic| first | assumption | (intro p hp; (rename (∀ p ∈ _, @LT.lt Nat _ (Prod.fst p) _) => hRR); (have hh := hRR p hp); refine neN ?_; (try dsimp only); omega))
noncomputable def fmTo (T : Str) (i : Nat) : List Str := ((T.cps.toList.take i).filter fun (c : Nat) => !inB1 c).map mapB3
theorem fmTo_on {T : Str} {i c : Nat} (h : T.cps[i]? = some c) (hb : inB1 c = false) : fmTo T (i + 1) = fmTo T i ++ [mapB3 c] := by
  unfold fmTo
  rw [List.take_add_one, Array.getElem?_toList, h, Option.toList_some, List.filter_append, List.map_append]
  simp [hb]
theorem fmTo_off {T : Str} {i c : Nat} (h : T.cps[i]? = some c) (hb : inB1 c = true) : fmTo T (i + 1) = fmTo T i := by
  unfold fmTo
  rw [List.take_add_one, Array.getElem?_toList, h, Option.toList_some, List.filter_append, List.map_append]
  simp [hb]
theorem fmTo_all (T : Str) : fmTo T T.cps.size = fm T := by
  unfold fmTo fm
  rw [List.take_of_length_le (by rw [Array.length_toList]; exact Nat.le_refl _)]
section
variable {w : World} {p : Program} {lo : List Str} {mean : ExcName → Option Value} {mg mb : Str → Option Value}
theorem turn2 {nm : Str} {ar : Arguments} {bd : List Stmt} {sc : Scope} (hparts : partsAt 18 = some (nm, ar, bd, sc)) {st : Stmt} (hst : loopBd[2]? = some st)
    {L fa : Addr} {cd : Value} {h₀ : Heap} {s : Shared} {m : Str → Option Value} {T9 : Str} {tT : Tok} {news : List (Addr × Obj)} {Q : Flow → Shared → Prop}
    (F : Fr h₀ L s.heap m) (X : (K w.params).In h₀) (T : Top p lo mean mg mb h₀) (B : Below callerA h₀ [] h₀) (N : News h₀ L s.heap news)
    (eT : m "typed" = some (.str T9 tT)) (hz : T9.cps.size ≤ 1000) (hf : ∀ x ∈ fm T9, x.length ≤ 100) (hfl : (fm T9).length ≤ 1000)
    (hQ : ∀ t h' tk', Fr h₀ L h' (fun z => if z = "text" then some (.str (Txt.join (Str.ofString "") (fm T9)) t) else m z) → News h₀ L h' news → Q .next { s with heap := h', toks := tk' }) :
    wpAny (model P0 w) (callerA.deeper (envOfC nm sc L fa cd)) (exec st (envOfC nm sc L fa cd)) Q NoE s := by
  cases hparts
  cases hst
  have F3 := frOf1 F eT
  k_steps
  unfold Rest
  refine ListComp_ST (F₀ := by k_asm) (by rfl) (by decide) (by rfl) (by decide) (by rfl) ?_
  k_steps
  unfold Rest
  refine ⟨_, _, _, rfl, by rfl, by k_asm, by k_asm, ?_, ?_⟩
  · exact Nat.le_trans hz (by rw [sizeLine_eq]; decide)
  rintro s₂ ⟨g, rfl⟩
  refine compT_ind (fun i ys nw => nw = news ∧ StrsAre ys (fmTo T9 i)) ⟨rfl, .nil⟩ ?_ ?_
  · rintro i v I oI C oC D m₂ ys nw h tk E' hi ⟨c, u, hc, rfl⟩ ⟨rfl, hI⟩ hC hxv F₁ N₁ off ne
    k_steps
    unfold Rest
    have hCb := spec_b1 (w := w) (p := p) (lo := lo) (mean := mean) (mg := mg) (mb := mb) c u ((I, oI) :: (C, oC) :: (D, lst ys) :: nw)
    dsimp only [CbClaim, CbLists, CbRet] at hCb
    k_dflt (refine' hCb _ _ _ _ _ _ _ _ _ _ _ _ _ _ _ _ _ ?k1 ?k2 ?k3 ?k4 ?k5 ?kK ?kp ?kd ?ku ?kR)
    case k1 => k_asm
    case k2 => k_asm
    case k3 => k_asm
    case k4 => k_asm
    case k5 => k_asm
    case kK => exact rfl
    case kp => trivial
    case kd => decide
    case ku => decide
    case kR =>
      intro t2 h2 tk2 F2 N2
      clear hCb
      cases hb : inB1 c
      · k_steps
        unfold Rest
        have hCb := spec_b3 (w := w) (p := p) (lo := lo) (mean := mean) (mg := mg) (mb := mb) c u ((I, oI) :: (C, oC) :: (D, lst ys) :: nw)
        dsimp only [CbClaim, CbLists, CbRet] at hCb
        k_dflt (refine' hCb _ _ _ _ _ _ _ _ _ _ _ _ _ _ _ _ _ ?k1 ?k2 ?k3 ?k4 ?k5 ?kK ?kp ?kd ?ku ?kR)
        case k1 => k_asm
        case k2 => k_asm
        case k3 => k_asm
        case k4 => k_asm
        case k5 => k_asm
        case kK => exact rfl
        case kp => trivial
        case kd => decide
        case ku => decide
        case kR =>
          intro t5 h5 tk5 F5 N5
          clear hCb
          k_steps
          refine CompEnd.intro (by k_asm) (by k_asm) _ (fun q hq => hq) off trivial ⟨rfl, ?_⟩
          rw [fmTo_on hc hb]
          exact strs_snoc hI
      · k_steps
        refine CompEnd.intro (by k_asm) (by k_asm) _ (fun q hq => hq) off trivial ⟨rfl, ?_⟩
        rw [fmTo_off hc hb]
        exact hI
  · rintro ys nw ⟨rfl, hI⟩
    rw [fmTo_all] at hI
    k_steps
    unfold Rest
    refine join_led (its := ys.toArray) (k := ys.length) (by k_asm) (List.mem_cons_self) hI (by decide) ?_ (fun t' k => ?_)
    · have := sum_bound hf
      have := Nat.mul_le_mul hfl (Nat.le_refl 100)
      omega
    · k_steps
      refine hQ _ _ _ (frZ1 (by assumption) eT) ?_
      refine' cb_drop ?cbN ?cbS
      case cbN => assumption
      case cbS => exact fun q hq => .tail _ hq
end
end Mine
end
section
open PySem PySem.W PyProof.Rows PyProof.Rows.LCg PyProof.Rows.LCt
set_option Elab.async false
set_option maxRecDepth 100000
set_option maxHeartbeats 0
namespace Mine
theorem regKT5 : PySem.Challenge.rw_rw0097_01.foot = 7 ∧ K = K := by k_fill; exact ⟨rfl, rfl⟩
local macro_rules | `(tactic| walk_at "call ref") => `(tactic| (k_here; refine rest_here ?_))
local macro_rules | `(tactic| k_mem) => `(tactic| first | exact List.mem_cons_self | (with_reducible assumption) | (refine' List.mem_cons_of_mem _ ?_; k_mem))
local macro_rules | `(tactic| k_all) => `(tactic| first | assumption | (intro p hp; (rename (∀ p ∈ _, @LT.lt Nat _ (Prod.fst p) _) => hRR); (have hh := hRR p hp); refine neN ?_; (try dsimp only); omega))
section
variable {w : World} {p : Program} {lo : List Str} {mean : ExcName → Option Value} {mg mb : Str → Option Value}
theorem turn3 {nm : Str} {ar : Arguments} {bd : List Stmt} {sc : Scope} (hparts : partsAt 18 = some (nm, ar, bd, sc)) {st : Stmt} (hst : loopBd[3]? = some st)
    {L fa : Addr} {cd : Value} {h₀ : Heap} {s : Shared} {m : Str → Option Value} {X9 : Str} {tT : Tok} {news : List (Addr × Obj)} {Q : Flow → Shared → Prop}
    (F : Fr h₀ L s.heap m) (X : (K w.params).In h₀) (T : Top p lo mean mg mb h₀) (B : Below callerA h₀ [] h₀) (N : News h₀ L s.heap news)
    (eT : m "text" = some (.str X9 tT)) (hz : X9.length ≤ 1000)
    (hQ : ∀ D its t' h' tk', Fr h₀ L h' (fun z => if z = "words" then some (.ref D) else m z) → News h₀ L h' ((D, W.listOf its t') :: news) → (∀ p ∈ news, @LT.lt Nat _ p.1 D) → StrsAre its.toList (Txt.split X9 sepT) → Q .next { s with heap := h', toks := tk' }) :
    wpAny (model P0 w) (callerA.deeper (envOfC nm sc L fa cd)) (exec st (envOfC nm sc L fa cd)) Q NoE s := by
  cases hparts
  cases hst
  have F3 := frOf1 F eT
  have hlt : ∀ q ∈ news, @LT.lt Nat _ q.1 s.heap.objs.size := fun q hq => Heap.lt_size (N q hq).1
  k_steps
  rename List.map _ _ = Txt.split X9 _ => e9
  rename StrsAre _ _ => i9
  rw [e9] at i9
  exact hQ _ _ 0 _ _ (frZ1 (by assumption) eT) (by assumption) hlt i9
end
end Mine
end
section
open PySem PySem.W PyProof.Rows PyProof.Rows.LCg PyProof.Rows.LCt
set_option Elab.async false
set_option maxRecDepth 100000
set_option maxHeartbeats 0
namespace Mine
theorem regKT6 : PySem.Challenge.rw_rw0097_01.foot = 7 ∧ K = K := by k_fill; exact ⟨rfl, rfl⟩
local macro_rules | `(tactic| walk_at "call ref") => `(tactic| (k_here; refine rest_here ?_))
local macro_rules | `(tactic| walk_at "compareOp NotEq ref ref") => `(tactic| (k_here; refine rest_here ?_))
local macro_rules | `(tactic| k_mem) => `(tactic| first | exact List.mem_cons_self | (with_reducible assumption) | (refine' List.mem_cons_of_mem _ ?_; k_mem))
local macro_rules | `(tactic| k_all) => `(tactic| first | assumption | (intro p hp; (rename (∀ p ∈ _, @LT.lt Nat _ (Prod.fst p) _) => hRR); (have hh := hRR p hp); refine neN ?_; (try dsimp only); omega))
/-- two lists of one and the same text -/
theorem ne_zero {prog : Program} {w : World} {A : Around} {E : Value → Shared → Prop} {s : Shared} {a b : Addr} {t u : Tok} {Q : Value → Shared → Prop} (ha : s.heap.IsList a #[.str (Str.ofString "0x0") t]) (hb : s.heap.IsList b #[.str (Str.ofString "0x0") u]) (hu : A.units + 64 < cLine)
    (h : Q (.bool false) s) : wpAny (model prog w) A (compareOp .NotEq (.ref a) (.ref b)) Q E s :=
  ne_dataH_same (reads_newData (ds := [.str (Str.ofString "0x0")]) (ys := [.str (Str.ofString "0x0") t]) ha (.cons (.str _ _) .nil)) (reads_newData (ds := [.str (Str.ofString "0x0")]) (ys := [.str (Str.ofString "0x0") u]) hb (.cons (.str _ _) .nil)) (by kernel_rfl) (by kernel_rfl) hu (by kernel_rfl) (by
    have : PySem.Spec.same (.list [.str (Str.ofString "0x0")]) (.list [.str (Str.ofString "0x0")]) = true := by kernel_rfl
    rw [this]; exact h)
section
variable {w : World} {p : Program} {lo : List Str} {mean : ExcName → Option Value} {mg mb : Str → Option Value}
theorem turn4 {nm : Str} {ar : Arguments} {bd : List Stmt} {sc : Scope} (hparts : partsAt 18 = some (nm, ar, bd, sc)) {st : Stmt} (hst : loopBd[4]? = some st)
    {L fa W9 : Addr} {cd : Value} {h₀ : Heap} {s : Shared} {m : Str → Option Value} {its : Array Value} {k9 : Nat} {ws : List Str} {i : Nat} {ti : Tok} {oC : Obj} {news : List (Addr × Obj)} {Q : Flow → Shared → Prop}
    (F : Fr h₀ L s.heap m) (X : (K w.params).In h₀) (T : Top p lo mean mg mb h₀) (B : Below callerA h₀ [] h₀) (N : News h₀ L s.heap news)
    (eW : m "words" = some (.ref W9)) (mW : (W9, W.listOf its k9) ∈ news) (hI : StrsAre its.toList ws) (h0 : i = 0 → ws = [Str.ofString "0x0"])
    (mC : (L + 1 + 1 + 1 + 1 + 1 + 1, oC) ∈ news) (dC : oC.data = .cell (some (.int i ti)))
    (hQ : ∀ W' its' k' news' h' tk', Fr h₀ L h' (fun z => if z = "words" then some (.ref W') else m z) → News h₀ L h' news' → (∀ q ∈ news, q ∈ news') → (W', W.listOf its' k') ∈ news' → (∀ q ∈ news, q.1 ≠ W9 → q.1 ≠ W') → StrsAre its'.toList (if i = 0 then [] else ws) → Q .next { s with heap := h', toks := tk' }) :
    wpAny (model P0 w) (callerA.deeper (envOfC nm sc L fa cd)) (exec st (envOfC nm sc L fa cd)) Q NoE s := by
  cases hparts
  cases hst
  have F3 := frOf1 F eW
  by_cases hi : i = 0
  · subst hi
    rw [h0 rfl] at hI
    obtain ⟨t9, rfl⟩ : ∃ t, its = #[.str (Str.ofString "0x0") t] := by
      obtain ⟨l⟩ := its
      cases hI with
      | cons x t r =>
        cases r with
        | nil => exact ⟨t, rfl⟩
    k_steps
    · unfold Rest
      rename News _ _ _ (_ :: news) => N9
      refine ne_zero (N9.isList (.tail _ mW)) (N9.isList (.head _)) (by ke_room) ?_
      k_steps
      exact hQ _ #[] 0 _ _ _ (frZ1 (by assumption) eW) (by assumption) (fun q hq => .tail _ (.tail _ hq)) (.head _) (by rename (_ ∧ AllLt _ _) => h9; exact fun q hq _ => Nat.ne_of_lt (allLt_mem h9.2 q hq)) .nil
  · k_steps
    · omega
    · exact hQ W9 its k9 news _ _ (frOf1 F eW) N (fun q hq => hq) mW (fun _ _ h => h) (by rw [if_neg hi]; exact hI)
end
end Mine
end
section
open PySem PySem.W PyProof.Rows PyProof.Rows.LCg PyProof.Rows.LCt
set_option Elab.async false
set_option maxRecDepth 100000
set_option maxHeartbeats 0
namespace Mine
theorem regKT7 : PySem.Challenge.rw_rw0097_01.foot = 7 ∧ K = K := by k_fill; exact ⟨rfl, rfl⟩
local macro_rules | `(tactic| walk_at "call ref") => `(tactic| (k_here; refine rest_here ?_))
local macro_rules | `(tactic| walk_at "exec Assign cons ListComp") => `(tactic| (k_here; refine rest_here ?_))
local macro_rules | `(tactic| k_mem) => `(tactic| first | exact List.mem_cons_self | (with_reducible assumption) | (refine' List.mem_cons_of_mem _ ?_; k_mem))
local macro_rules | `(tactic| k_all) => `(tactic| first | assumption | (intro p hp; (rename (∀ p ∈ _, @LT.lt Nat _ (Prod.fst p) _) => hRR); (have hh := hRR p hp); refine neN ?_; (try dsimp only); omega))
/-- the table of the inner function's code: empty, or with its one object -/
noncomputable def St31 (ps : Array Value) (rest : List (Addr × Obj)) : Prop := (ps = #[] ∨ ∃ c oc, ps = ps31 c ∧ (c, oc) ∈ rest ∧ HitOb q31 oc)
/-- two entries with different objects -/
theorem news_ne {h₀ h : Heap} {L : Addr} {news : List (Addr × Obj)} {a b : Addr} {o u : Obj} (N : News h₀ L h news) (ha : (a, o) ∈ news) (hb : (b, u) ∈ news) (hne : o ≠ u) : a ≠ b := by
  rintro rfl
  have h1 := (N _ ha).1
  have h2 := (N _ hb).1
  rw [h1] at h2
  exact hne (Option.some.inj h2)
theorem strs_at {vs : List Value} {ns : List Str} (h : StrsAre vs ns) : ∀ {i : Nat} {v : Value}, vs[i]? = some v → ∃ n t, ns[i]? = some n ∧ v = .str n t := by
  induction h with
  | nil => intro i n e; simp at e
  | cons a t r ih =>
    intro i n e
    cases i with
    | zero => simp only [List.getElem?_cons_zero, Option.some.injEq] at e ⊢; subst e; exact ⟨_, t, rfl, rfl⟩
    | succ i => simp only [List.getElem?_cons_succ] at e ⊢; exact ih e
theorem strs_len {vs : List Value} {ns : List Str} (h : StrsAre vs ns) : vs.length = ns.length := by
  induction h with
  | nil => rfl
  | cons a t r ih => simp [ih]
theorem ints_len9 {vs : List Value} {ns : List Int} (h : IntsAre vs ns) : vs.length = ns.length := by
  induction h with
  | nil => rfl
  | cons a t r ih => simp [ih]
section
variable {w : World} {p : Program} {lo : List Str} {mean : ExcName → Option Value} {mg mb : Str → Option Value}
theorem turn5 {nm : Str} {ar : Arguments} {bd : List Stmt} {sc : Scope} (hparts : partsAt 18 = some (nm, ar, bd, sc)) {st : Stmt} (hst : loopBd[5]? = some st)
    {L fa W9 CH : Addr} {cd : Value} {h₀ : Heap} {s : Shared} {m : Str → Option Value} {its : Array Value} {k9 : Nat} {ws : List Str} {ys : List Value} {lc : List Int} {news : List (Addr × Obj)} {Q : Flow → Shared → Prop}
    (F : Fr h₀ L s.heap m) (X : (K w.params).In h₀) (T : Top p lo mean mg mb h₀) (B : Below callerA h₀ [] h₀) (N : News h₀ L s.heap news)
    (eW : m "words" = some (.ref W9)) (mW : (W9, W.listOf its k9) ∈ news) (hI : StrsAre its.toList ws)
    (eC : m "chosen" = some (.ref CH)) (mC : (CH, lst ys) ∈ news) (hC : IntsAre ys lc) (hlen : ws.length = lc.length) (hl : lc.length ≤ 3)
    (hQ : ∀ h' tk', Fr h₀ L h' m → News h₀ L h' news → Q .next { s with heap := h', toks := tk' }) :
    wpAny (model P0 w) (callerA.deeper (envOfC nm sc L fa cd)) (exec st (envOfC nm sc L fa cd)) Q NoE s := by
  cases hparts
  cases hst
  have F3 := frOf2 F eW eC
  have h1 : its.size = ws.length := by rw [← Array.length_toList]; exact strs_len hI
  have h2 : ys.length = lc.length := ints_len9 hC
  have h3 : ys.toArray.size = lc.length := by simpa using h2
  clear h2
  rw [hlen] at h1
  k_steps
  · rename _ ≠ _ => h9
    exact absurd rfl h9
  · exact hQ _ _ F N
end
end Mine
end
section
open PySem PySem.W PyProof.Rows PyProof.Rows.LCg PyProof.Rows.LCt
set_option Elab.async false
set_option maxRecDepth 100000
set_option maxHeartbeats 0
namespace Mine
theorem regKT8 : PySem.Challenge.rw_rw0097_01.foot = 7 ∧ K = K := by k_fill; exact ⟨rfl, rfl⟩
theorem ps31_inj {a b : Addr} (h : ps31 a = ps31 b) : a = b := by
  have := congrArg (fun x => x.toList[2]?) h
  simpa using this
theorem no_hit {qn : Str} {c : Addr} {q : Int} (h : HitOb qn (tabObj #[rawInt q, rawInt 4, .ref c])) : False := by
  obtain ⟨vs, t9, e6, e7⟩ := h
  cases e6
  have e8 : some (rawInt 4) = some (Value.str qn t9) := e7
  cases e8
theorem st31_tab {rest : List (Addr × Obj)} {c : Addr} {oc : Obj} (h : HitOb q31 oc) (m1 : (c, oc) ∈ rest) : St31 (ps31 c) rest := .inr ⟨c, oc, rfl, m1, h⟩
local macro_rules | `(tactic| walk_at "call ref") => `(tactic| (k_here; refine rest_here ?_))
local macro_rules | `(tactic| walk_at "exec Assign cons ListComp") => `(tactic| (k_here; refine rest_here ?_))
local macro_rules | `(tactic| walk_at "call builtin:sum") => `(tactic| (k_here; refine rest_here ?_))
local macro_rules | `(tactic| k_mem) => `(tactic| first | exact List.mem_cons_self | (with_reducible assumption) | (refine' List.mem_cons_of_mem _ ?_; k_mem))
local macro_rules | `(tactic| k_all) => `(tactic| first | assumption | (intro p hp; (rename (∀ p ∈ _, @LT.lt Nat _ (Prod.fst p) _) => hRR); (have hh := hRR p hp); refine neN ?_; (try dsimp only); omega))
section
variable {w : World} {p : Program} {lo : List Str} {mean : ExcName → Option Value} {mg mb : Str → Option Value}
/-- the numbers of one turn -/
theorem turn6 {nm : Str} {ar : Arguments} {bd : List Stmt} {sc : Scope} (hparts : partsAt 18 = some (nm, ar, bd, sc)) {st : Stmt} (hst : loopBd[6]? = some st)
    {L fa W9 : Addr} {cd : Value} {h₀ : Heap} {s : Shared} {m : Str → Option Value} {its : Array Value} {k9 : Nat} {ws : List Str} {ps : Array Value} {width : Int} {tw : Tok} {oW : Obj} {rest : List (Addr × Obj)} {Q : Flow → Shared → Prop}
    (F : Fr h₀ L s.heap m) (X : (K w.params).In h₀) (T : Top p lo mean mg mb h₀) (B : Below callerA h₀ [] h₀) (C28 : CodeHd h₀ 28 24) (C35 : CodeHd h₀ 35 31) (N : News h₀ L s.heap ((31, tabObj ps) :: rest)) (hps : St31 ps rest) (hr : ∀ p ∈ rest, p.1 ≠ 31)
    (eW : m "words" = some (.ref W9)) (mW : (W9, W.listOf its k9) ∈ rest) (hI : StrsAre its.toList ws) (hlw : ws.length ≤ 3) (hws : ∀ x ∈ ws, (0 < x.cps.size ∧ x.cps.size ≤ 30) ∧ ∀ c ∈ x.cps.toList, (c : Nat) < 2 ^ 21)
    (mD : (L + 1 + 1 + 1, oW) ∈ rest) (dD : oW.data = .cell (some (.int width tw))) (hwd : 1 ≤ width ∧ width ≤ 11)
    (hQ : ∀ D ys ps' rest' h' tk', Fr h₀ L h' (fun z => if z = "numbers" then some (.ref D) else m z) → News h₀ L h' ((D, lst ys) :: (31, tabObj ps') :: rest') → (∀ q ∈ rest, q ∈ rest') → St31 ps' rest' → (∀ p ∈ rest', p.1 ≠ 31) → Off1 D ((31, tabObj ps') :: rest') → (∀ c, ps' = ps31 c → ps = ps31 c ∨ ∀ p ∈ rest, p.1 ≠ c) → IntsAre ys (ws.map fun x => valD width.toNat (ordsOf x)) → Q .next { s with heap := h', toks := tk' }) :
    wpAny (model P0 w) (callerA.deeper (envOfC nm sc L fa cd)) (exec st (envOfC nm sc L fa cd)) Q NoE s := by
  cases hparts
  cases hst
  have F3 := frOf1 F eW
  have hsz : its.size = ws.length := by rw [← Array.length_toList]; exact strs_len hI
  refine Assign_ListComp_U (F₀ := F) (by rfl) (by rfl) (by rfl) (by decide) (by rfl) (by decide) (by rfl) (by rfl) (by rfl) ?_
  k_steps
  refine CompSrc.ledger (k := k9) rfl F (by assumption) (.tail _ mW) (by rw [sizeLine_eq]; omega) (fun g => ?_)
  refine comp_ind (fun i ys nw => ∃ ps' rest', nw = (31, tabObj ps') :: rest' ∧ (∀ q ∈ rest, q ∈ rest') ∧ St31 ps' rest' ∧ (∀ p ∈ rest', p.1 ≠ 31) ∧ (∀ c, ps' = ps31 c → ps = ps31 c ∨ ∀ p ∈ rest, p.1 ≠ c) ∧ IntsAre ys ((ws.take i).map fun x => valD width.toNat (ordsOf x))) ⟨ps, rest, rfl, fun _ q => q, hps, hr, fun _ e => .inl e, .nil⟩ ?_ ?_
  · rintro i v I oI C oC D m₂ ys nw h tk E' hi hv ⟨ps', rest', rfl, hsub, hps', hr', hcl, hI'⟩ hC hxv F₁ N₁ off ne
    obtain ⟨x, tx, hx, rfl⟩ := strs_at hI (by rw [Array.getElem?_toList]; exact hv)
    have mD' := hsub _ mD
    k_steps
    unfold Rest
    have hmx : x ∈ ws := List.mem_of_getElem? hx
    have hL := spec_num (w := w) (p := p) (lo := lo) (mean := mean) (mg := mg) (mb := mb) x tx width tw ps' ((I, oI) :: (C, oC) :: (D, lst ys) :: rest') ?hst9 ?hr9 (hws x hmx).1 (hws x hmx).2 hwd
    case hst9 =>
      rcases hps' with h | ⟨c, oc, h1, h2, h3⟩
      · exact .inl h
      · exact .inr ⟨c, oc, h1, .tail _ (.tail _ (.tail _ h2)), h3⟩
    case hr9 =>
      intro q hq
      rcases List.mem_cons.mp hq with rfl | hq
      · exact Ne.symm off.1.1
      rcases List.mem_cons.mp hq with rfl | hq
      · exact Ne.symm off.1.2.1
      rcases List.mem_cons.mp hq with rfl | hq
      · exact Ne.symm off.1.2.2
      · exact hr' q hq
    dsimp only [LClaim] at hL
    k_dflt (refine' hL _ _ _ _ _ _ _ _ _ _ _ _ _ _ _ _ _ ?k1 ?k2 ?k3 ?k4 ?k5 ?kK ?kC1 ?kC2 ?kd ?ku ?kR)
    case k1 => k_asm
    case k2 => k_asm
    case k3 => k_asm
    case k5 => k_asm
    case kK => exact rfl
    case kC1 => exact C28
    case kC2 => exact C35
    case kd => decide
    case ku => decide
    case k4 =>
      exact fun q hq => N₁ q (by
        rcases List.mem_cons.mp hq with rfl | hq
        · exact .tail _ (.tail _ (.tail _ (.head _)))
        rcases List.mem_cons.mp hq with rfl | hq
        · exact .head _
        rcases List.mem_cons.mp hq with rfl | hq
        · exact .tail _ (.head _)
        rcases List.mem_cons.mp hq with rfl | hq
        · exact .tail _ (.tail _ (.head _))
        · exact .tail _ (.tail _ (.tail _ (.tail _ hq))))
    case kR =>
      clear hL
      rintro v9 h9 tk9 nw9 F9 N9 ⟨⟨tv, rfl⟩, c9, oc9, hit9, m1, m2, m4, m3⟩
      have hcne : c9 ≠ 31 := news_ne N9 m2 m1 (by rintro rfl; exact no_hit hit9)
      have hoff : @Ne Nat c9 I ∧ @Ne Nat c9 C ∧ @Ne Nat c9 D := by
        rcases m4 with ⟨e4, m4⟩ | m4
        · rcases hps' with h | ⟨c, oc, h1, h2, h3⟩
          · rw [h] at e4; exact absurd (congrArg Array.size e4) (by simp)
          · rw [h1] at e4
            obtain rfl := ps31_inj e4
            exact off.2.mem _ h2
        · exact ⟨Ne.symm (m4 _ (.head _)), Ne.symm (m4 _ (.tail _ (.head _))), Ne.symm (m4 _ (.tail _ (.tail _ (.head _))))⟩
      dsimp only
      k_steps
      refine CompEnd.intro (by assumption) (by assumption) ((31, tab31 c9) :: (c9, oc9) :: rest') ?_ ?_ (.inr ⟨_, .tail _ (.tail _ (hsub _ mW)), rfl, _, rfl⟩) ⟨ps31 c9, (c9, oc9) :: rest', rfl, fun q hq => .tail _ (hsub q hq), st31_tab hit9 (.head _), ?_, ?_, ?_⟩
      · intro q hq
        rcases List.mem_cons.mp hq with rfl | hq
        · exact m3 _ (.head _)
        rcases List.mem_cons.mp hq with rfl | hq
        · exact m3 _ (.tail _ (.head _))
        rcases List.mem_cons.mp hq with rfl | hq
        · exact m3 _ (.tail _ (.tail _ (.head _)))
        rcases List.mem_cons.mp hq with rfl | hq
        · exact m1
        rcases List.mem_cons.mp hq with rfl | hq
        · exact m2
        · exact m3 _ (.tail _ (.tail _ (.tail _ hq)))
      · exact ⟨off.1, hoff, off.2⟩
      · intro q hq
        rcases List.mem_cons.mp hq with rfl | hq
        · exact hcne
        · exact hr' q hq
      · intro c' ec
        obtain rfl := ps31_inj ec
        rcases m4 with ⟨e4, m4⟩ | m4
        · exact hcl _ e4
        · exact .inr fun q hq => m4 q (.tail _ (.tail _ (.tail _ (hsub q hq))))
      · rw [List.take_add_one, hx, Option.toList_some, List.map_append]
        exact ints_snoc hI'
  · rintro ys nw ⟨ps', rest', rfl, hsub, hps', hr', hcl, hI'⟩
    rw [List.take_of_length_le (by omega)] at hI'
    intro D h tk F₂ N₂ o₂
    exact hQ D ys ps' rest' h tk F₂ N₂ hsub hps' hr' o₂ hcl hI'
end
end Mine
end
section
open PySem PySem.W PyProof.Rows PyProof.Rows.LCg PyProof.Rows.LCt
set_option Elab.async false
set_option maxRecDepth 100000
set_option maxHeartbeats 0
namespace Mine
theorem regKT9 : PySem.Challenge.rw_rw0097_01.foot = 7 ∧ K = K := by k_fill; exact ⟨rfl, rfl⟩
local macro_rules | `(tactic| walk_at "call ref") => `(tactic| (k_here; refine rest_here ?_))
local macro_rules | `(tactic| walk_at "call builtin:sum") => `(tactic| (k_here; refine rest_here ?_))
local macro_rules | `(tactic| walk_at "call builtin:list.append") => `(tactic| (k_here; refine rest_here ?_))
local macro_rules | `(tactic| walk_at "getMethod ref") => `(tactic| (k_here; refine rest_here ?_))
local macro_rules | `(tactic| k_mem) => `(tactic| first | exact List.mem_cons_self | (with_reducible assumption) | (refine' List.mem_cons_of_mem _ ?_; k_mem))
local macro_rules | `(tactic| k_all) => `(tactic| first | assumption | (intro p hp; (rename (∀ p ∈ _, @LT.lt Nat _ (Prod.fst p) _) => hRR); (have hh := hRR p hp); refine neN ?_; (try dsimp only); omega))
section
variable {w : World} {p : Program} {lo : List Str} {mean : ExcName → Option Value} {mg mb : Str → Option Value}
/-- a ledger with one entry set ahead -/
theorem news_part {h₀ h : Heap} {L : Addr} {news : List (Addr × Obj)} {a : Addr} {o : Obj} (N : News h₀ L h news) (ha : (a, o) ∈ news) : ∃ R, News h₀ L h ((a, o) :: R) ∧ (∀ p ∈ R, p.1 ≠ a) ∧ (∀ q ∈ news, q.1 ≠ a → q ∈ R) ∧ ∀ q ∈ R, q ∈ news := by
  classical
  refine ⟨news.filter fun q => decide (q.1 ≠ a), fun q hq => ?_, fun q hq => of_decide_eq_true (List.mem_filter.mp hq).2, fun q hq hne => List.mem_filter.mpr ⟨hq, decide_eq_true hne⟩, fun q hq => (List.mem_filter.mp hq).1⟩
  rcases List.mem_cons.mp hq with rfl | hq
  · exact N _ ha
  · exact N q (List.mem_filter.mp hq).1
theorem turn7 {nm : Str} {ar : Arguments} {bd : List Stmt} {sc : Scope} (hparts : partsAt 18 = some (nm, ar, bd, sc)) {st : Stmt} (hst : loopBd[7]? = some st)
    {L fa SU NU : Addr} {cd : Value} {h₀ : Heap} {s : Shared} {m : Str → Option Value} {itS : Array Value} {kS : Nat} {ys : List Value} {ns : List Int} {c : Int} {tc : Tok} {oc oS : Obj} {R : List (Addr × Obj)} {Q : Flow → Shared → Prop}
    (F : Fr h₀ L s.heap m) (X : (K w.params).In h₀) (T : Top p lo mean mg mb h₀) (B : Below callerA h₀ [] h₀) (N : News h₀ L s.heap ((SU, W.listOf itS kS) :: R)) (hR : ∀ p ∈ R, p.1 ≠ SU) (hsz : itS.size ≤ 10)
    (eN : m "numbers" = some (.ref NU)) (mN : (NU, lst ys) ∈ R) (hI : IntsAre ys ns) (mS : (L + 1 + 1 + 1 + 1, oS) ∈ R) (dS : oS.data = .cell (some (.ref SU))) (mc : (L + 1 + 1, oc) ∈ R) (dc : oc.data = .cell (some (.int c tc)))
    (hQ : ∀ t h' tk', Fr h₀ L h' m → News h₀ L h' ((SU, W.listOf (itS.push (.int (c + ns.sum) t)) (kS + 1)) :: R) → Q .next { s with heap := h', toks := tk' }) :
    wpAny (model P0 w) (callerA.deeper (envOfC nm sc L fa cd)) (exec st (envOfC nm sc L fa cd)) Q NoE s := by
  cases hparts
  cases hst
  have F3 := frOf1 F eN
  have hz9 : itS.size ≤ sizeLine := by rw [sizeLine_eq]; omega
  k_steps
  try unfold Rest
  refine listMethod_K N (.head _) PySem.F.slot_list_append PySem.F.type_list_append ?_
  k_steps
  try unfold Rest
  refine LSm.sum_ints (by k_asm) (by k_asm) rfl (News.isList (by k_asm) (.tail _ mN)) hI ?_
  intro h1 tk1 t1 F1 N1
  k_steps
  try unfold Rest
  refine append_K F1 N1 (.head hR) ?_ hz9
  intro h2 F2 N2
  k_steps
  exact hQ _ _ _ (frBack1 (by assumption) eN) (by assumption)
theorem turn8 {nm : Str} {ar : Arguments} {bd : List Stmt} {sc : Scope} (hparts : partsAt 18 = some (nm, ar, bd, sc)) {st : Stmt} (hst : loopBd[8]? = some st)
    {L fa SI W9 : Addr} {cd : Value} {h₀ : Heap} {s : Shared} {m : Str → Option Value} {itS its : Array Value} {kS k9 n : Nat} {oS : Obj} {R : List (Addr × Obj)} {Q : Flow → Shared → Prop}
    (F : Fr h₀ L s.heap m) (X : (K w.params).In h₀) (T : Top p lo mean mg mb h₀) (B : Below callerA h₀ [] h₀) (N : News h₀ L s.heap ((SI, W.listOf itS kS) :: R)) (hR : ∀ p ∈ R, p.1 ≠ SI) (hsz : itS.size ≤ 10)
    (eW : m "words" = some (.ref W9)) (mW : (W9, W.listOf its k9) ∈ R) (hn : its.size = n) (hn3 : n ≤ 3) (mS : (L + 1 + 1 + 1 + 1 + 1, oS) ∈ R) (dS : oS.data = .cell (some (.ref SI)))
    (hQ : ∀ t h' tk', Fr h₀ L h' m → News h₀ L h' ((SI, W.listOf (itS.push (.int ((-1) ^ n) t)) (kS + 1)) :: R) → Q .next { s with heap := h', toks := tk' }) :
    wpAny (model P0 w) (callerA.deeper (envOfC nm sc L fa cd)) (exec st (envOfC nm sc L fa cd)) Q NoE s := by
  cases hparts
  cases hst
  have F3 := frOf1 F eW
  have hz9 : itS.size ≤ sizeLine := by rw [sizeLine_eq]; omega
  k_steps
  try unfold Rest
  refine listMethod_K N (.head _) PySem.F.slot_list_append PySem.F.type_list_append ?_
  k_steps
  try unfold Rest
  rw [Int.toNat_natCast]
  refine append_K (by assumption) (by assumption) (.head hR) ?_ hz9
  intro h2 F2 N2
  k_steps
  exact hQ _ _ _ (frBack1 (by assumption) eW) (by assumption)
end
end Mine
end
section
open PySem PySem.W PyProof.Rows PyProof.Rows.LCg PyProof.Rows.LCt
set_option Elab.async false
set_option maxRecDepth 100000
set_option maxHeartbeats 0
namespace Mine
theorem regKT10 : PySem.Challenge.rw_rw0097_01.foot = 7 ∧ K = K := by k_fill; exact ⟨rfl, rfl⟩
/-- the words, numbers, sum and sign of a choice -/
noncomputable def wordsAt (l : List (Int × Nat)) (i : Nat) : List Str := (chosenL l i).map fun x => ownT x.1
noncomputable def numsAt (wd : Nat) (l : List (Int × Nat)) (i : Nat) : List Int := (wordsAt l i).map fun x => valD wd (ordsOf x)
noncomputable def sumAt (wd : Nat) (l : List (Int × Nat)) (c : Int) (i : Nat) : Int := c + (numsAt wd l i).sum
noncomputable def sgnAt (l : List (Int × Nat)) (i : Nat) : Int := (-1) ^ (chosenL l i).length
theorem chosen_sub {l : List (Int × Nat)} (hl : l.length = 3) (i : Nat) : (chosenL l i).Sublist l := by
  have e : (List.range 3).map (fun k => l.getD k (0, 0)) = l := by
    match l, hl with
    | [a, b, c], _ => rfl
  have := (List.filter_sublist (l := List.range 3) (p := bitOn i)).map (fun k => l.getD k (0, 0))
  rw [e] at this
  exact this
theorem bits_some : ∀ i < 8, i ≠ 0 → (List.range 3).filter (bitOn i) ≠ [] := by decide
theorem chosen_zero (l : List (Int × Nat)) : chosenL l 0 = [] := by
  have e : (List.range 3).filter (bitOn 0) = [] := by decide
  show ((List.range 3).filter (bitOn 0)).map _ = []
  rw [e]; rfl
theorem words_after {l : List (Int × Nat)} {i : Nat} (hi : i < 8) : (if i = 0 then [] else ownWords (chosenL l i)) = wordsAt l i := by
  by_cases h : i = 0
  · rw [if_pos h, h]; unfold wordsAt; rw [chosen_zero]; rfl
  · rw [if_neg h]
    unfold ownWords wordsAt
    rw [if_neg]
    intro e
    exact bits_some i hi h (by simpa [chosenL, chosenTo] using e)
noncomputable def LoopJ (fixed : List (Addr × Obj)) (L SU SI H G : Addr) (wd : Nat) (l : List (Int × Nat)) (c : Int) (i : Nat) (m : Str → Option Value) (nw : List (Addr × Obj)) : Prop :=
  ∃ itS kS itG kG ps och, (∀ q ∈ fixed, q ∈ nw) ∧ (SU, W.listOf itS kS) ∈ nw ∧ (SI, W.listOf itG kG) ∈ nw ∧ (31, tabObj ps) ∈ nw ∧ St31 ps nw ∧ (L + 1 + 1 + 1 + 1 + 1 + 1, och) ∈ nw ∧ (∃ v, och.data = .cell v) ∧
    IntsAre itS.toList ((List.range i).map (sumAt wd l c)) ∧ IntsAre itG.toList ((List.range i).map (sgnAt l)) ∧ m "hidden" = some (.ref H) ∧ m "gaps" = some (.ref G) ∧ (0 < i → ∃ NU ys, m "numbers" = some (.ref NU) ∧ (NU, lst ys) ∈ nw ∧ IntsAre ys (numsAt wd l (i - 1)))
theorem loopBd_nine : ∃ a0 a1 a2 a3 a4 a5 a6 a7 a8, loopBd = [a0, a1, a2, a3, a4, a5, a6, a7, a8] := ⟨_, _, _, _, _, _, _, _, _, rfl⟩
theorem lst_ne_cell {its : Array Value} {k : Nat} {o : Obj} {v : Option Value} (h : o.data = .cell v) : W.listOf its k ≠ o := by
  rintro rfl; cases h
theorem lst_ne_tab {its : Array Value} {k : Nat} {ps : Array Value} : W.listOf its k ≠ tabObj ps := by
  intro e; cases e
theorem lst_ne_hit {its : Array Value} {k : Nat} {o : Obj} (h : HitOb q31 o) : W.listOf its k ≠ o := by
  rintro rfl; obtain ⟨vs, t, e, -⟩ := h; cases e
theorem tab_ne_cell {ps : Array Value} {o : Obj} {v : Option Value} (h : o.data = .cell v) : tabObj ps ≠ o := by
  rintro rfl; cases h
theorem hit_ne_cell {oh o : Obj} {v : Option Value} (hh : HitOb q31 oh) (h : o.data = .cell v) : oh ≠ o := by
  rintro rfl; obtain ⟨vs, t, e, -⟩ := hh; rw [h] at e; cases e
section
variable {w : World} {p : Program} {lo : List Str} {mean : ExcName → Option Value} {mg mb : Str → Option Value}
theorem choice_store {nm : Str} {ar : Arguments} {bd : List Stmt} {sc : Scope} (hparts : partsAt 18 = some (nm, ar, bd, sc)) {M : Model} {A : Around} {E : Value → Shared → Prop} {px : Pos} {L fa : Addr} {cd v : Value} {h₀ : Heap} {s : Shared} {m : Str → Option Value} {o : Obj} {v₀ : Option Value} {R : List (Addr × Obj)} {Q : Unit → Shared → Prop}
    (F : Fr h₀ L s.heap m) (N : News h₀ L s.heap ((L + 1 + 1 + 1 + 1 + 1 + 1, o) :: R)) (hR : ∀ p ∈ R, p.1 ≠ L + 1 + 1 + 1 + 1 + 1 + 1) (hd : o.data = .cell v₀)
    (h : ∀ h' o', Fr h₀ L h' m → News h₀ L h' ((L + 1 + 1 + 1 + 1 + 1 + 1, o') :: R) → o'.data = .cell (some v) → Q () { s with heap := h' }) : wpAny M A (assign (.Name "choice" px) (envOfC nm sc L fa cd) v) Q E s := by
  cases hparts
  exact wpAny_assign_Name (storeX_C F N (by rfl) (.head hR) hd h)
end
end Mine
end
section
open PySem PySem.W PyProof.Rows PyProof.Rows.LCg PyProof.Rows.LCt
set_option Elab.async false
set_option maxRecDepth 100000
set_option maxHeartbeats 0
namespace Mine
local macro_rules | `(tactic| walk_at "nm look") => `(tactic| first | assumption | exact if_pos rfl | (refine (if_neg (by decide)).trans ?_; walk_at "nm look"))
/-- what the turns of the law's first loop keep -/
structure Kept (w : World) (h₀ : Heap) (fixed : List (Addr × Obj)) (L SU SI DF H G : Addr) (oF oc oW oS oN oG : Obj) (itF itH : Array Value) (kF kH : Nat) (kvs : List (Int × Value)) (l : List (Int × Nat)) (c width : Int) (tc tw : Tok) : Prop where
  hl : l.length = 3
  hup : Up 0 l
  mF : (L + 1, oF) ∈ fixed
  dF : oF.data = .cell (some (.ref DF))
  mDF : (DF, W.listOf itF kF) ∈ fixed
  IF : IntsAre itF.toList (l.map (·.1))
  mH : (H, W.listOf itH kH) ∈ fixed
  IH : IntsAre itH.toList hidZ
  mG : (G, oG) ∈ fixed
  loG : (G == sysModules) = false
  dG : oG.IsDictOf (PySem.intKind P0 w) kvs
  hG : GapsOk gapF kvs
  mc : (L + 1 + 1, oc) ∈ fixed
  dc : oc.data = .cell (some (.int c tc))
  mW : (L + 1 + 1 + 1, oW) ∈ fixed
  dW : oW.data = .cell (some (.int width tw))
  hwd : 1 ≤ width ∧ width ≤ 11
  mS : (L + 1 + 1 + 1 + 1, oS) ∈ fixed
  dS : oS.data = .cell (some (.ref SU))
  mN : (L + 1 + 1 + 1 + 1 + 1, oN) ∈ fixed
  dN : oN.data = .cell (some (.ref SI))
  hfx : ∀ q ∈ fixed, q.1 ≠ SU ∧ q.1 ≠ SI ∧ q.1 ≠ L + 1 + 1 + 1 + 1 + 1 + 1 ∧ q.1 ≠ 31
  hSS : SU ≠ SI
theorem back_sizes {l : List (Int × Nat)} (h : Up 0 l) (hl : l.length ≤ 3) (turn : Int) : (typedTo gapF turn (prettyT (sumF l)) (prettyT (sumF l)).cps.size).cps.size ≤ 1000 ∧ (∀ x ∈ fm (typedTo gapF turn (prettyT (sumF l)) (prettyT (sumF l)).cps.size), x.length ≤ 100) ∧ (fm (typedTo gapF turn (prettyT (sumF l)) (prettyT (sumF l)).cps.size)).length ≤ 1000 ∧
    (Txt.join (Str.ofString "") (fm (typedTo gapF turn (prettyT (sumF l)) (prettyT (sumF l)).cps.size))).length ≤ 1000 := by
  have hr := report_ok h hl
  have h1 := typedTo_len gapF turn (prettyT (sumF l)) (prettyT (sumF l)).cps.size
  have h2 := fm_typed (turn := turn) hr.1 _ (Nat.le_refl _)
  rw [List.take_of_length_le (by rw [Array.length_toList]; exact Nat.le_refl _)] at h2
  refine ⟨?_, ?_, ?_, ?_⟩
  · have h3 := hr.2
    show Str.length _ ≤ _
    omega
  · intro x hx
    rw [h2] at hx
    obtain ⟨c, -, rfl⟩ := List.mem_map.mp hx
    exact show (1 : Nat) ≤ 100 by decide
  · rw [h2, List.length_map, Array.length_toList]; have h3 := hr.2; omega
  · rw [text_is hr.1]
    have h3 := hr.2
    show (low _).cps.size ≤ _
    unfold low
    simp
    omega
theorem off1_mem {D : Addr} : ∀ {l : List (Addr × Obj)}, Off1 D l → ∀ q ∈ l, q.1 ≠ D
  | [], _, _, h => nomatch h
  | _ :: _, x, q, h => by
    rcases List.mem_cons.mp h with rfl | h
    · exact x.1
    · exact off1_mem x.2 q h
theorem own_zero : ownWords [] = [Str.ofString "0x0"] := by
  unfold ownWords
  rw [if_pos rfl]
  have := zero_ok
  unfold zeroOk at this
  simp only [Bool.and_eq_true, beq_iff_eq] at this
  rw [this.2]
theorem ints_push {its : Array Value} {f : Nat → Int} {n : Nat} {t : Tok} (h : IntsAre its.toList ((List.range n).map f)) : IntsAre (its.push (.int (f n) t)).toList ((List.range (n + 1)).map f) := by
  rw [Array.toList_push, List.range_succ, List.map_append]
  exact ints_snoc h
section
variable {w : World} {p : Program} {lo : List Str} {mean : ExcName → Option Value} {mg mb : Str → Option Value}
theorem turn_all {nm : Str} {ar : Arguments} {bd : List Stmt} {sc : Scope} (hparts : partsAt 18 = some (nm, ar, bd, sc))
    {L fa SU SI DF H G I : Addr} {cd : Value} {h₀ : Heap} {s : Shared} {m : Str → Option Value} {fixed : List (Addr × Obj)} {oF oc oW oS oN oG oI : Obj} {itF itH : Array Value} {kF kH : Nat} {kvs : List (Int × Value)} {l : List (Int × Nat)} {c width : Int} {tc tw ti : Tok} {i : Nat} {px : Pos} {news : List (Addr × Obj)} {Q : Flow → Shared → Prop}
    (Kp : Kept w h₀ fixed L SU SI DF H G oF oc oW oS oN oG itF itH kF kH kvs l c width tc tw)
    (X : (K w.params).In h₀) (T : Top p lo mean mg mb h₀) (B : Below callerA h₀ [] h₀) (C28 : CodeHd h₀ 28 24) (C35 : CodeHd h₀ 35 31) (hi : i < 8)
    (hJ : LoopJ fixed L SU SI H G width.toNat l c i m news) (F : Fr h₀ L s.heap m) (N : News h₀ L s.heap ((I, oI) :: news)) (nI : ∀ q ∈ news, q.1 ≠ I) :
    wpAny (model P0 w) (callerA.deeper (envOfC nm sc L fa cd)) (assign (.Name "choice" px) (envOfC nm sc L fa cd) (.int i ti)) (fun _ s₂ => wpAny (model P0 w) (callerA.deeper (envOfC nm sc L fa cd)) (execs loopBd (envOfC nm sc L fa cd)) (TurnEnd h₀ L I (LoopJ fixed L SU SI H G width.toNat l c (i + 1)) oI s Q) NoE s₂) NoE s := by
  obtain ⟨itS, kS, itG, kG, ps, och, hf, mSU, mSI, m31, hps, mch, ⟨vch, dch⟩, IS, IG, eH, eG, -⟩ := hJ
  obtain ⟨R0, NR0, hR0, hin0, -⟩ := news_part N (.tail _ mch)
  have N1 : News h₀ L s.heap news := fun q hq => N q (.tail _ hq)
  -- addresses
  have aSU6 : SU ≠ L + 1 + 1 + 1 + 1 + 1 + 1 := news_ne N1 mSU mch (lst_ne_cell dch)
  have aSI6 : SI ≠ L + 1 + 1 + 1 + 1 + 1 + 1 := news_ne N1 mSI mch (lst_ne_cell dch)
  have a316 : (31 : Nat) ≠ L + 1 + 1 + 1 + 1 + 1 + 1 := news_ne N1 m31 mch (tab_ne_cell dch)
  have aSU31 : SU ≠ 31 := news_ne N1 mSU m31 lst_ne_tab
  have aSI31 : SI ≠ 31 := news_ne N1 mSI m31 lst_ne_tab
  have aI : ∀ a o, (a, o) ∈ news → a ≠ I := fun a o h => nI _ h
  have hupc : Up 0 (chosenL l i) := Kp.hup.sub (chosen_sub Kp.hl i)
  have hlc : (chosenL l i).length ≤ 3 := by have := (chosen_sub Kp.hl i).length_le; rw [Kp.hl] at this; exact this
  have hIS : itS.size = i := by rw [← Array.length_toList, ints_len9 IS]; simp
  have hIG : itG.size = i := by rw [← Array.length_toList, ints_len9 IG]; simp
  have f6 : ∀ q ∈ fixed, q.1 ≠ L + 1 + 1 + 1 + 1 + 1 + 1 := fun q hq => (Kp.hfx q hq).2.2.1
  refine choice_store hparts F NR0 hR0 dch ?_
  intro h1 och1 F1 NB dch1
  obtain ⟨a0, a1, a2, a3, a4, a5, a6, a7, a8, hbd⟩ := loopBd_nine
  have g0 : loopBd[0]? = some a0 := by rw [hbd]; rfl
  have g1 : loopBd[1]? = some a1 := by rw [hbd]; rfl
  have g2 : loopBd[2]? = some a2 := by rw [hbd]; rfl
  have g3 : loopBd[3]? = some a3 := by rw [hbd]; rfl
  have g4 : loopBd[4]? = some a4 := by rw [hbd]; rfl
  have g5 : loopBd[5]? = some a5 := by rw [hbd]; rfl
  have g6 : loopBd[6]? = some a6 := by rw [hbd]; rfl
  have g7 : loopBd[7]? = some a7 := by rw [hbd]; rfl
  have g8 : loopBd[8]? = some a8 := by rw [hbd]; rfl
  rw [hbd]
  generalize hB : (L + 1 + 1 + 1 + 1 + 1 + 1, och1) :: R0 = nB at NB
  have mchB : (L + 1 + 1 + 1 + 1 + 1 + 1, och1) ∈ nB := by rw [← hB]; exact .head _
  have upB : ∀ q ∈ (I, oI) :: news, q.1 ≠ L + 1 + 1 + 1 + 1 + 1 + 1 → q ∈ nB := fun q hq hne => by rw [← hB]; exact .tail _ (hin0 q hq hne)
  have upF : ∀ q ∈ fixed, q ∈ nB := fun q hq => upB q (.tail _ (hf q hq)) (f6 q hq)
  clear hB
  refine wpAny_execs_cons (turn0 hparts g0 F1 X T B NB (upF _ Kp.mF) Kp.dF (upF _ Kp.mDF) Kp.IF Kp.hl mchB dch1 hi ?_)
  intro CH ys1 h2 tk2 F2 N2 o2 I2
  refine wpAny_execs_cons (turn1 hparts g1 F2 X T B N2 C28 C35 (by walk_at "nm look") (.head _) I2 hupc hlc (by walk_at "nm look") (.tail _ (upF _ Kp.mH)) Kp.IH (by walk_at "nm look") (.tail _ (upF _ Kp.mG)) Kp.loG Kp.dG Kp.hG (.tail _ (upF _ Kp.mc)) Kp.dc (.tail _ mchB) dch1 ?_)
  intro t3 h3 tk3 F3 N3
  obtain ⟨z1, z2, z3, z4⟩ := back_sizes hupc hlc (c + i)
  refine wpAny_execs_cons (turn2 hparts g2 F3 X T B N3 (by walk_at "nm look") z1 z2 z3 ?_)
  intro t4 h4 tk4 F4 N4
  refine wpAny_execs_cons (turn3 hparts g3 F4 X T B N4 (by walk_at "nm look") z4 ?_)
  intro W9 it9 t5 h5 tk5 F5 N5 lt5 I5
  rw [back_is hupc hlc] at I5
  refine wpAny_execs_cons (turn4 hparts g4 (i := i) (ws := ownWords (chosenL l i)) F5 X T B N5 (by walk_at "nm look") (.head _) I5 (by rintro rfl; rw [chosen_zero]; exact own_zero) (.tail _ (.tail _ mchB)) dch1 ?_)
  intro WW itW kW nC h6 tk6 F6 N6 sub6 mWW ne6 I6
  rw [words_after hi] at I6
  have upC : ∀ q ∈ nB, q ∈ nC := fun q hq => sub6 q (.tail _ (.tail _ hq))
  have neW : ∀ q ∈ nB, q.1 ≠ WW := fun q hq => ne6 q (.tail _ (.tail _ hq)) (Nat.ne_of_lt (lt5 q (.tail _ hq)))
  have hlw : (wordsAt l i).length = (chosenL l i).length := by unfold wordsAt; exact List.length_map _
  refine wpAny_execs_cons (turn5 hparts g5 F6 X T B N6 (by walk_at "nm look") mWW I6 (by walk_at "nm look") (sub6 _ (.tail _ (.head _))) I2 (by rw [hlw, List.length_map]) (by rw [List.length_map]; exact hlc) ?_)
  intro h7 tk7 F7 N7
  obtain ⟨R1, NR1, hR1, hin1, -⟩ := news_part N7 (upC _ (upB _ (.tail _ m31) a316))
  have upR : ∀ q ∈ (I, oI) :: news, q.1 ≠ L + 1 + 1 + 1 + 1 + 1 + 1 → q.1 ≠ 31 → q ∈ R1 := fun q hq h6 h31 => hin1 q (upC q (upB q hq h6)) h31
  have upRF : ∀ q ∈ fixed, q ∈ R1 := fun q hq => upR q (.tail _ (hf q hq)) (f6 q hq) (Kp.hfx q hq).2.2.2
  have hps1 : St31 ps R1 := by
    rcases hps with h | ⟨c1, oc1, e1, m1, t1⟩
    · exact .inl h
    · exact .inr ⟨c1, oc1, e1, upR _ (.tail _ m1) (news_ne N1 m1 mch (hit_ne_cell t1 dch)) (news_ne N1 m1 m31 (by rintro rfl; subst e1; exact no_hit t1)), t1⟩
  have hWW31 : WW ≠ 31 := news_ne N7 mWW (upC _ (upB _ (.tail _ m31) a316)) lst_ne_tab
  have hws : ∀ x ∈ wordsAt l i, (0 < x.cps.size ∧ x.cps.size ≤ 30) ∧ ∀ c ∈ x.cps.toList, (c : Nat) < 2 ^ 21 := by
    intro x hx
    obtain ⟨f, hf9, rfl⟩ := List.mem_map.mp hx
    obtain ⟨w1, w2, w3⟩ := own_ok (up_flags hupc f hf9)
    exact ⟨⟨w1, w2⟩, fun c hc => Nat.lt_of_lt_of_le (w3 c hc).2 (by decide)⟩
  refine wpAny_execs_cons (turn6 hparts g6 F7 X T B C28 C35 NR1 hps1 hR1 (by walk_at "nm look") (hin1 _ mWW hWW31) I6 (by rw [hlw]; exact hlc) hws (upRF _ Kp.mW) Kp.dW Kp.hwd ?_)
  intro NU ys6 ps' R2 h8 tk8 F8 N8 sub8 hps8 hr8 o8 cl8 I8
  have offNU : ∀ q ∈ R2, q.1 ≠ NU := off1_mem o8.2
  have up2 : ∀ q ∈ (I, oI) :: news, q.1 ≠ L + 1 + 1 + 1 + 1 + 1 + 1 → q.1 ≠ 31 → q ∈ R2 := fun q hq h6 h31 => sub8 q (upR q hq h6 h31)
  have up2F : ∀ q ∈ fixed, q ∈ R2 := fun q hq => sub8 q (upRF q hq)
  have mSU2 : (SU, W.listOf itS kS) ∈ R2 := up2 _ (.tail _ mSU) aSU6 aSU31
  have mSI2 : (SI, W.listOf itG kG) ∈ R2 := up2 _ (.tail _ mSI) aSI6 aSI31
  have mWW2 : (WW, W.listOf itW kW) ∈ R2 := sub8 _ (hin1 _ mWW hWW31)
  have mch2 : (L + 1 + 1 + 1 + 1 + 1 + 1, och1) ∈ R2 := sub8 _ (hin1 _ (upC _ mchB) (Ne.symm a316))
  have aI6 : I ≠ L + 1 + 1 + 1 + 1 + 1 + 1 := Ne.symm (aI _ _ mch)
  have mI2 : (I, oI) ∈ R2 := up2 _ (.head _) aI6 (Ne.symm (aI _ _ m31))
  obtain ⟨R3, NR3, hR3, hin3, -⟩ := news_part N8 (.tail _ (.tail _ mSU2))
  have up3 : ∀ q ∈ R2, q.1 ≠ SU → q ∈ R3 := fun q hq h => hin3 q (.tail _ (.tail _ hq)) h
  have up3F : ∀ q ∈ fixed, q ∈ R3 := fun q hq => up3 q (up2F q hq) (Kp.hfx q hq).1
  have hWSU : WW ≠ SU := Ne.symm (neW _ (upB _ (.tail _ mSU) aSU6))
  have hWSI : WW ≠ SI := Ne.symm (neW _ (upB _ (.tail _ mSI) aSI6))
  refine wpAny_execs_cons (turn7 hparts g7 F8 X T B NR3 hR3 (by rw [hIS]; omega) (by walk_at "nm look") (hin3 _ (.head _) (Ne.symm (offNU _ mSU2))) I8 (up3F _ Kp.mS) Kp.dS (up3F _ Kp.mc) Kp.dc ?_)
  intro t9 h9 tk9 F9 N9
  obtain ⟨R4, NR4, hR4, hin4, -⟩ := news_part N9 (.tail _ (up3 _ mSI2 (Ne.symm Kp.hSS)))
  have up4 : ∀ q ∈ R3, q.1 ≠ SI → q ∈ R4 := fun q hq h => hin4 q (.tail _ hq) h
  have up4F : ∀ q ∈ fixed, q ∈ R4 := fun q hq => up4 q (up3F q hq) (Kp.hfx q hq).2.1
  have hitW : itW.size = (chosenL l i).length := by rw [← Array.length_toList, strs_len I6, hlw]
  refine wpAny_execs_cons (turn8 hparts g8 F9 X T B NR4 hR4 (by rw [hIG]; omega) (by walk_at "nm look") (up4 _ (up3 _ mWW2 hWSU) hWSI) hitW hlc (up4F _ Kp.mN) Kp.dN ?_)
  intro t10 h10 tk10 F10 N10
  refine wpAny_execs_nil ?_
  have upE : ∀ q ∈ R2, q.1 ≠ SU → q.1 ≠ SI → q ∈ R4 := fun q hq h h' => up4 q (up3 q hq h) h'
  obtain ⟨R5, NR5, hR5, hin5, -⟩ := news_part N10 (.tail _ (upE _ mI2 (Ne.symm (aI _ _ mSU)) (Ne.symm (aI _ _ mSI))))
  have N8' : News h₀ L h8 R2 := fun q hq => N8 q (.tail _ (.tail _ hq))
  refine turn_next F10 NR5 hR5 ⟨_, _, _, _, ps', och1, ?_, hin5 _ (.tail _ (hin4 _ (.head _) Kp.hSS)) (aI _ _ mSU), hin5 _ (.head _) (aI _ _ mSI), ?_, ?_, ?_, ⟨_, dch1⟩, ints_push IS, ints_push IG, by walk_at "nm look", by walk_at "nm look", fun _ => ⟨NU, ys6, by walk_at "nm look", ?_, ?_⟩⟩
  · exact fun q hq => hin5 q (.tail _ (up4F q hq)) (nI q (hf q hq))
  · exact hin5 _ (.tail _ (hin4 _ (.tail _ (hin3 _ (.tail _ (.head _)) (Ne.symm aSU31))) (Ne.symm aSI31))) (aI _ _ m31)
  · rcases hps8 with h | ⟨c9, oc9, e9, m9, t9⟩
    · exact .inl h
    · refine .inr ⟨c9, oc9, e9, hin5 _ (.tail _ (upE _ m9 ?_ ?_)) ?_, t9⟩
      · exact Ne.symm (news_ne N8' mSU2 m9 (lst_ne_hit t9))
      · exact Ne.symm (news_ne N8' mSI2 m9 (lst_ne_hit t9))
      · rcases cl8 c9 e9 with e | e
        · rcases hps with h | ⟨c1, oc1, e1, m1, t1⟩
          · rw [h] at e; exact absurd (congrArg Array.size e) (by simp)
          · rw [e1] at e
            obtain rfl := ps31_inj e
            exact aI _ _ m1
        · exact Ne.symm (e _ (upR _ (.head _) aI6 (Ne.symm (aI _ _ m31))))
  · exact hin5 _ (.tail _ (upE _ mch2 (Ne.symm aSU6) (Ne.symm aSI6))) (Ne.symm aI6)
  · exact hin5 _ (.tail _ (hin4 _ (.tail _ (hin3 _ (.head _) (Ne.symm (offNU _ mSU2)))) (Ne.symm (offNU _ mSI2)))) (Ne.symm (offNU _ mI2))
  · exact I8
end
end Mine
end
section
open PySem PySem.W PyProof.Rows PyProof.Rows.LCg PyProof.Rows.LCt
set_option Elab.async false
set_option maxRecDepth 100000
set_option maxHeartbeats 0
namespace Mine
theorem regKT12 : PySem.Challenge.rw_rw0097_01.foot = 7 ∧ K = K := by k_fill; exact ⟨rfl, rfl⟩
local macro_rules | `(tactic| walk_at "call ref") => `(tactic| (k_here; refine rest_here ?_))
local macro_rules | `(tactic| walk_at "pyIter ref") => `(tactic| (k_here; refine rest_here ?_))
local macro_rules | `(tactic| k_mem) => `(tactic| first | exact List.mem_cons_self | (with_reducible assumption) | (refine' List.mem_cons_of_mem _ ?_; k_mem))
section
variable {w : World} {p : Program} {lo : List Str} {mean : ExcName → Option Value} {mg mb : Str → Option Value}
theorem first_loop {nm : Str} {ar : Arguments} {bd : List Stmt} {sc : Scope} (hparts : partsAt 18 = some (nm, ar, bd, sc)) {st : Stmt} (hst : lawBd[7]? = some st)
    {L fa SU SI DF H G : Addr} {cd : Value} {h₀ : Heap} {s : Shared} {m : Str → Option Value} {fixed : List (Addr × Obj)} {oF oc oW oS oN oG : Obj} {itF itH : Array Value} {kF kH : Nat} {kvs : List (Int × Value)} {l : List (Int × Nat)} {c width : Int} {tc tw : Tok} {news : List (Addr × Obj)} {Q : Flow → Shared → Prop}
    (Kp : Kept w h₀ fixed L SU SI DF H G oF oc oW oS oN oG itF itH kF kH kvs l c width tc tw)
    (X : (K w.params).In h₀) (T : Top p lo mean mg mb h₀) (B : Below callerA h₀ [] h₀) (C28 : CodeHd h₀ 28 24) (C35 : CodeHd h₀ 35 31)
    (hJ : LoopJ fixed L SU SI H G width.toNat l c 0 m news) (F : Fr h₀ L s.heap m) (N : News h₀ L s.heap news)
    (hQ : ∀ m' news' h' tk', LoopJ fixed L SU SI H G width.toNat l c 8 m' news' → Fr h₀ L h' m' → News h₀ L h' news' → Q .next { s with heap := h', toks := tk' }) :
    wpAny (model P0 w) (callerA.deeper (envOfC nm sc L fa cd)) (exec st (envOfC nm sc L fa cd)) Q NoE s := by
  have hparts9 : partsAt 18 = some (nm, ar, bd, sc) := hparts
  cases hparts
  cases hst
  refine for_rule (fun _ => rfl) ?_
  k_steps
  unfold Rest
  rename IsRange _ _ _ _ _ _ _ _ => hR
  refine range_loopC (n := 8) hR (by decide) (by decide) rfl (by assumption) (by assumption) (LoopJ fixed L SU SI H G width.toNat l c) hJ ?_ ?_
  · intro i t m₁ news₁ h tk I oI hi hJ' F₁ N₁ nI
    rw [Int.zero_add]
    exact turn_all hparts9 Kp X T B C28 C35 hi hJ' F₁ N₁ nI
  · intro m' news' h tk hJ' F' N'
    refine wpAny_execs_nil ?_
    exact hQ _ _ _ _ hJ' F' N'
end
end Mine
end
section
open PySem PySem.W PyProof.Rows PyProof.Rows.LCg PyProof.Rows.LCt
set_option Elab.async false
set_option maxRecDepth 100000
set_option maxHeartbeats 0
namespace Mine
theorem regKT13 : PySem.Challenge.rw_rw0097_01.foot = 7 ∧ K = K := by k_fill; exact ⟨rfl, rfl⟩
local macro_rules | `(tactic| walk_at "call ref") => `(tactic| (k_here; refine rest_here ?_))
local macro_rules | `(tactic| walk_at "eval ListComp") => `(tactic| (k_here; refine rest_here ?_))
local macro_rules | `(tactic| walk_at "Exists") => `(tactic| (k_here; refine rest_here ?_))
local macro_rules | `(tactic| walk_at "CompSrc") => `(tactic| (refine rest_here ?_))
local macro_rules | `(tactic| walk_at "subscriptTail") => `(tactic| (k_here; refine rest_here ?_))
local macro_rules | `(tactic| walk_at "compareOp NotEq ref ref") => `(tactic| (k_here; refine rest_here ?_))
local macro_rules | `(tactic| k_mem) => `(tactic| first | exact List.mem_cons_self | (with_reducible assumption) | (refine' List.mem_cons_of_mem _ ?_; k_mem))
local macro_rules | `(tactic| k_all) => `(tactic| first | assumption | (intro p hp; (rename (∀ p ∈ _, @LT.lt Nat _ (Prod.fst p) _) => hRR); (have hh := hRR p hp); refine neN ?_; (try dsimp only); omega))
section
variable {w : World} {p : Program} {lo : List Str} {mean : ExcName → Option Value} {mg mb : Str → Option Value}
theorem piece8 {nm : Str} {ar : Arguments} {bd : List Stmt} {sc : Scope} (hparts : partsAt 18 = some (nm, ar, bd, sc)) {st : Stmt} (hst : lawBd[8]? = some st)
    {L fa SU NU : Addr} {cd : Value} {h₀ : Heap} {s : Shared} {m : Str → Option Value} {itS : Array Value} {kS : Nat} {zs ns : List Int} {ys : List Value} {oS oc : Obj} {c : Int} {tc : Tok} {news : List (Addr × Obj)} {Q : Flow → Shared → Prop}
    (F : Fr h₀ L s.heap m) (X : (K w.params).In h₀) (T : Top p lo mean mg mb h₀) (B : Below callerA h₀ [] h₀) (N : News h₀ L s.heap news)
    (mSU : (SU, W.listOf itS kS) ∈ news) (IS : IntsAre itS.toList zs) (hz : zs.length = 8) (mS : (L + 1 + 1 + 1 + 1, oS) ∈ news) (dS : oS.data = .cell (some (.ref SU))) (mc : (L + 1 + 1, oc) ∈ news) (dc : oc.data = .cell (some (.int c tc)))
    (eN : m "numbers" = some (.ref NU)) (mN : (NU, lst ys) ∈ news) (hI : IntsAre ys ns) (heq : ns = (List.range 3).map fun k => zs.getD (2 ^ k) 0 - c)
    (hQ : ∀ h' tk', Fr h₀ L h' m → News h₀ L h' news → Q .next { s with heap := h', toks := tk' }) :
    wpAny (model P0 w) (callerA.deeper (envOfC nm sc L fa cd)) (exec st (envOfC nm sc L fa cd)) Q NoE s := by
  cases hparts
  cases hst
  have F3 := frOf1 F eN
  k_steps
  try unfold Rest
  refine ListComp_U (F₀ := by k_asm) (by rfl) (by decide) (by rfl) (by decide) (by rfl) ?_
  k_steps
  try unfold Rest
  rename IsRange _ _ _ _ _ _ _ _ => hR
  refine CompSrc.range (n := 3) rfl (by k_asm) (by k_asm) hR (by decide) (by decide) (by rw [sizeLine_eq]; decide) (fun g => ?_)
  refine comp_ind (fun j ys' nw => nw = news ∧ IntsAre ys' ((List.range j).map fun k => zs.getD (2 ^ k) 0 - c)) ⟨rfl, .nil⟩ ?_ ?_
  · rintro j v I oI C oCo D m₂ ys' nw h tk E' hj ⟨t, rfl⟩ ⟨rfl, hI'⟩ hC hxv F₁ N₁ off ne
    rw [Int.zero_add] at hxv
    k_steps
    try unfold Rest
    have hpw : (2 : Int) ^ ((j : Int)).toNat = ((2 ^ j : Nat) : Int) := by rw [Int.toNat_natCast, Int.natCast_pow]; rfl
    have hp8 : 2 ^ j < 2 ^ 3 := Nat.pow_lt_pow_right (by decide) hj
    rw [hpw]
    refine item_anyK (N₁.isList (.tail _ (.tail _ (.tail _ mSU)))) IS (Int.natCast_nonneg _) (by rw [hz]; omega) (by omega) (fun t9 => ?_)
    rw [Int.toNat_natCast]
    k_steps
    refine CompEnd.intro (by k_asm) (by k_asm) _ (fun q hq => hq) off trivial ⟨rfl, ?_⟩
    rw [List.range_succ, List.map_append]
    exact ints_snoc hI'
  · rintro ys' nw ⟨rfl, hI'⟩
    k_steps
    try unfold Rest
    refine ke_ne_ints (ns := ns) (News.isList (by k_asm) (.tail _ mN)) (News.isList (by k_asm) (.head _)) hI hI' (by ke_room) ?_
    rw [heq, decide_eq_true rfl]
    k_steps
    refine hQ _ _ (frBack1 (by assumption) eN) ?_
    refine' cb_drop ?cbN ?cbS
    case cbN => assumption
    case cbS => exact fun q hq => .tail _ hq
end
end Mine
end
section
open PySem PySem.W PyProof.Rows PyProof.Rows.LCg PyProof.Rows.LCt
set_option Elab.async false
set_option maxRecDepth 100000
set_option maxHeartbeats 0
namespace Mine
theorem regKT14 : PySem.Challenge.rw_rw0097_01.foot = 7 ∧ K = K := by k_fill; exact ⟨rfl, rfl⟩
local macro_rules | `(tactic| walk_at "call ref") => `(tactic| (k_here; refine rest_here ?_))
local macro_rules | `(tactic| walk_at "eval ListComp") => `(tactic| (k_here; refine rest_here ?_))
local macro_rules | `(tactic| walk_at "Exists") => `(tactic| (k_here; refine rest_here ?_))
local macro_rules | `(tactic| walk_at "CompSrc") => `(tactic| (refine rest_here ?_))
local macro_rules | `(tactic| walk_at "subscriptTail") => `(tactic| (k_here; refine rest_here ?_))
local macro_rules | `(tactic| k_mem) => `(tactic| first | exact List.mem_cons_self | (with_reducible assumption) | (refine' List.mem_cons_of_mem _ ?_; k_mem))
local macro_rules | `(tactic| k_all) => `(tactic| first | assumption | (intro p hp; (rename (∀ p ∈ _, @LT.lt Nat _ (Prod.fst p) _) => hRR); (have hh := hRR p hp); refine neN ?_; (try dsimp only); omega))
section
variable {w : World} {p : Program} {lo : List Str} {mean : ExcName → Option Value} {mg mb : Str → Option Value}
theorem own0 {nm : Str} {ar : Arguments} {bd : List Stmt} {sc : Scope} (hparts : partsAt 18 = some (nm, ar, bd, sc)) {st : Stmt} (hst : loop2Bd[0]? = some st)
    {L fa DF : Addr} {cd : Value} {h₀ : Heap} {s : Shared} {m : Str → Option Value} {itF : Array Value} {kF j : Nat} {fs : List Int} {oF oO : Obj} {tk9 : Tok} {v₀ : Option Value} {R : List (Addr × Obj)} {Q : Flow → Shared → Prop}
    (F : Fr h₀ L s.heap m) (X : (K w.params).In h₀) (T : Top p lo mean mg mb h₀) (B : Below callerA h₀ [] h₀) (N : News h₀ L s.heap ((L + 1 + 1 + 1 + 1 + 1 + 1 + 1, oO) :: R)) (hR : ∀ p ∈ R, p.1 ≠ L + 1 + 1 + 1 + 1 + 1 + 1 + 1) (dO : oO.data = .cell v₀)
    (ek : m "k" = some (.int j tk9)) (mF : (L + 1, oF) ∈ R) (dF : oF.data = .cell (some (.ref DF))) (mDF : (DF, W.listOf itF kF) ∈ R) (IF : IntsAre itF.toList fs) (hl : fs.length = 3) (hj : j < 3) (hn : (fs.getD j 0).natAbs < 16 ^ 30) (hown : (ownT (fs.getD j 0)).cps.size ≤ 30)
    (hQ : ∀ D ys o' h' tk', Fr h₀ L h' m → News h₀ L h' ((L + 1 + 1 + 1 + 1 + 1 + 1 + 1, o') :: (D, lst ys) :: R) → Off1 D R → D ≠ L + 1 + 1 + 1 + 1 + 1 + 1 + 1 → o'.data = .cell (some (.ref D)) → IntsAre ys (ordsOf (ownT (fs.getD j 0))) → Q .next { s with heap := h', toks := tk' }) :
    wpAny (model P0 w) (callerA.deeper (envOfC nm sc L fa cd)) (exec st (envOfC nm sc L fa cd)) Q NoE s := by
  cases hparts
  cases hst
  have F3 := frOf1 F ek
  k_steps
  try unfold Rest
  refine ListComp_SU (F₀ := by k_asm) (by rfl) (by decide) (by rfl) (by decide) (by rfl) ?_
  k_steps
  try unfold Rest
  refine item_anyK (N.isList (.tail _ mDF)) IF (Int.natCast_nonneg _) (by rw [hl]; omega) (by omega) (fun t9 => ?_)
  rw [Int.toNat_natCast]
  k_steps
  try unfold Rest
  have hCb := spec_own (w := w) (p := p) (lo := lo) (mean := mean) (mg := mg) (mb := mb) (fs.getD j 0) t9 ((L + 1 + 1 + 1 + 1 + 1 + 1 + 1, oO) :: R) hn
  dsimp only [CbClaim, CbLists, CbRet] at hCb
  k_dflt (refine' hCb _ _ _ _ _ _ _ _ _ _ _ _ _ _ _ _ _ ?k1 ?k2 ?k3 ?k4 ?k5 ?kK ?kp ?kd ?ku ?kR)
  case k1 => k_asm
  case k2 => k_asm
  case k3 => k_asm
  case k4 => k_asm
  case k5 => k_asm
  case kK => exact rfl
  case kp => trivial
  case kd => decide
  case ku => decide
  case kR =>
    intro t2 h2 tk2 F2 N2
    clear hCb
    try dsimp only
    refine ⟨_, _, _, rfl, by rfl, F2, N2, ?_, ?_⟩
    · exact Nat.le_trans hown (by rw [sizeLine_eq]; decide)
    rintro s₂ ⟨g, rfl⟩
    refine comp_ind (fun i ys nw => nw = (L + 1 + 1 + 1 + 1 + 1 + 1 + 1, oO) :: R ∧ IntsAre ys ((ordsOf (ownT (fs.getD j 0))).take i)) ⟨rfl, .nil⟩ ?_ ?_
    · rintro i v I oI C oC D m₂ ys nw h tk E' hi ⟨c, u, hc, rfl⟩ ⟨rfl, hI⟩ hC hxv F₁ N₁ off ne
      k_steps
      refine CompEnd.intro (by assumption) (by assumption) _ (fun p hp => hp) off trivial ⟨rfl, ?_⟩
      rw [ordsOf_take hc]
      exact ints_snoc hI
    · rintro ys nw ⟨rfl, hI⟩
      rw [List.take_of_length_le (by unfold ordsOf; simp)] at hI
      k_steps
      rename (_ ∧ Off1 _ _) => h9
      rename News _ _ _ ((_, lst ys) :: (_, _) :: R) => N9
      refine hQ _ _ _ _ _ (frBack1 (by assumption) ek) (fun q hq => N9 q ?_) h9.2 (Ne.symm h9.1) (by assumption) hI
      rcases List.mem_cons.mp hq with rfl | hq
      · exact .tail _ (.head _)
      rcases List.mem_cons.mp hq with rfl | hq
      · exact .head _
      · exact .tail _ (.tail _ hq)
end
end Mine
end
section
open PySem PySem.W PyProof.Rows PyProof.Rows.LCg PyProof.Rows.LCt
set_option Elab.async false
set_option maxRecDepth 100000
set_option maxHeartbeats 0
namespace Mine
theorem regKT15 : PySem.Challenge.rw_rw0097_01.foot = 7 ∧ K = K := by k_fill; exact ⟨rfl, rfl⟩
local macro_rules | `(tactic| walk_at "call ref") => `(tactic| (k_here; refine rest_here ?_))
local macro_rules | `(tactic| walk_at "subscriptTail") => `(tactic| (k_here; refine rest_here ?_))
local macro_rules | `(tactic| walk_at "compareOp NotEq ref ref") => `(tactic| (k_here; refine rest_here ?_))
local macro_rules | `(tactic| k_mem) => `(tactic| first | exact List.mem_cons_self | (with_reducible assumption) | (refine' List.mem_cons_of_mem _ ?_; k_mem))
local macro_rules | `(tactic| k_all) => `(tactic| first | assumption | (intro p hp; (rename (∀ p ∈ _, @LT.lt Nat _ (Prod.fst p) _) => hRR); (have hh := hRR p hp); refine neN ?_; (try dsimp only); omega))
noncomputable def St24 (ps : Array Value) (rest : List (Addr × Obj)) : Prop := (ps = #[] ∨ ∃ c oc, ps = ps24 c ∧ (c, oc) ∈ rest ∧ HitOb q24 oc)
theorem ps24_inj {a b : Addr} (h : ps24 a = ps24 b) : a = b := by
  have := congrArg (fun x => x.toList[2]?) h
  simpa using this
theorem hit_ne_cell' {qn : Str} {oh o : Obj} {v : Option Value} (hh : HitOb qn oh) (h : o.data = .cell v) : oh ≠ o := by
  rintro rfl; obtain ⟨vs, t, e, -⟩ := hh; rw [h] at e; cases e
section
variable {w : World} {p : Program} {lo : List Str} {mean : ExcName → Option Value} {mg mb : Str → Option Value}
theorem own1 {nm : Str} {ar : Arguments} {bd : List Stmt} {sc : Scope} (hparts : partsAt 18 = some (nm, ar, bd, sc)) {st : Stmt} (hst : loop2Bd[1]? = some st)
    {L fa SU D : Addr} {cd : Value} {h₀ : Heap} {s : Shared} {m : Str → Option Value} {itS : Array Value} {kS j : Nat} {zs ns : List Int} {ys : List Value} {oS oc oW oO : Obj} {c width : Int} {tk9 tc tw : Tok} {ps : Array Value} {rest : List (Addr × Obj)} {Q : Flow → Shared → Prop}
    (F : Fr h₀ L s.heap m) (X : (K w.params).In h₀) (T : Top p lo mean mg mb h₀) (B : Below callerA h₀ [] h₀) (C28 : CodeHd h₀ 28 24) (C35 : CodeHd h₀ 35 31) (N : News h₀ L s.heap ((24, tabObj ps) :: rest)) (hps : St24 ps rest) (hr : ∀ p ∈ rest, p.1 ≠ 24)
    (ek : m "k" = some (.int j tk9)) (hj : j < 3) (mSU : (SU, W.listOf itS kS) ∈ rest) (IS : IntsAre itS.toList zs) (hz : zs.length = 8) (mS : (L + 1 + 1 + 1 + 1, oS) ∈ rest) (dS : oS.data = .cell (some (.ref SU))) (mc : (L + 1 + 1, oc) ∈ rest) (dc : oc.data = .cell (some (.int c tc)))
    (mW : (L + 1 + 1 + 1, oW) ∈ rest) (dW : oW.data = .cell (some (.int width tw))) (hwd : 1 ≤ width ∧ width ≤ 11) (mO : (L + 1 + 1 + 1 + 1 + 1 + 1 + 1, oO) ∈ rest) (dO : oO.data = .cell (some (.ref D))) (mD : (D, lst ys) ∈ rest) (ID : IntsAre ys ns)
    (heq : zs.getD (2 ^ j) 0 - c = valD width.toNat ns) (hne : 1 ≤ ns.length) (hl : ns.length ≤ 30) (hb : ∀ x ∈ ns, 0 ≤ x ∧ x < 2 ^ width.toNat) (hlast : 2 ^ (width.toNat * (ns.length - 1)) ≤ valD width.toNat ns)
    (hQ : ∀ ps' rest' h' tk', Fr h₀ L h' m → News h₀ L h' ((24, tabObj ps') :: rest') → (∀ q ∈ rest, q ∈ rest') → St24 ps' rest' → (∀ p ∈ rest', p.1 ≠ 24) → (∀ c, ps' = ps24 c → ps = ps24 c ∨ ∀ p ∈ rest, p.1 ≠ c) → Q .next { s with heap := h', toks := tk' }) :
    wpAny (model P0 w) (callerA.deeper (envOfC nm sc L fa cd)) (exec st (envOfC nm sc L fa cd)) Q NoE s := by
  cases hparts
  cases hst
  have F3 := frOf1 F ek
  k_steps
  try unfold Rest
  have hpw : (2 : Int) ^ ((j : Int)).toNat = ((2 ^ j : Nat) : Int) := by rw [Int.toNat_natCast, Int.natCast_pow]; rfl
  have hp8 : 2 ^ j < 2 ^ 3 := Nat.pow_lt_pow_right (by decide) hj
  rw [hpw]
  refine item_anyK (N.isList (.tail _ mSU)) IS (Int.natCast_nonneg _) (by rw [hz]; omega) (by omega) (fun t9 => ?_)
  rw [Int.toNat_natCast]
  k_steps
  try unfold Rest
  rw [heq]
  have hL := spec_i2d (w := w) (p := p) (lo := lo) (mean := mean) (mg := mg) (mb := mb) ns width (s.toks + 1 + 1) tw ps rest hps hr hne hl hwd hb hlast
  dsimp only [LClaim] at hL
  k_dflt (refine' hL _ _ _ _ _ _ _ _ _ _ _ _ _ _ _ _ _ ?k1 ?k2 ?k3 ?k4 ?k5 ?kK ?kC1 ?kC2 ?kd ?ku ?kR)
  case k1 => k_asm
  case k2 => k_asm
  case k3 => k_asm
  case k4 => exact N
  case k5 => k_asm
  case kK => exact rfl
  case kC1 => exact C28
  case kC2 => exact C35
  case kd => decide
  case ku => decide
  case kR =>
    clear hL
    rintro v9 h9 tk9 nw9 F9 N9 ⟨D9, it9, k9, c9, oc9, rfl, mD9, I9, hit9, m1, m2, m4, m3⟩
    have hcne : c9 ≠ 24 := news_ne N9 m2 m1 (by rintro rfl; exact no_hit hit9)
    have mO9 := m3 _ mO
    clear N mO mW mc mS mSU
    try dsimp only
    k_steps
    try unfold Rest
    refine ke_ne_ints (News.isList (by k_asm) mD9) (News.isList (by k_asm) (m3 _ mD)) I9 ID (by ke_room) ?_
    rw [decide_eq_true rfl]
    k_steps
    refine hQ (ps24 c9) ((c9, oc9) :: rest) _ _ (frBack1 (by assumption) ek) (fun q hq => ?_) (fun q hq => .tail _ hq) (.inr ⟨c9, oc9, rfl, .head _, hit9⟩) ?_ ?_
    · rcases List.mem_cons.mp hq with rfl | hq
      · exact N9 _ m1
      rcases List.mem_cons.mp hq with rfl | hq
      · exact N9 _ m2
      · exact N9 q (m3 q hq)
    · intro q hq
      rcases List.mem_cons.mp hq with rfl | hq
      · exact hcne
      · exact hr q hq
    · intro c' ec
      obtain rfl := ps24_inj ec
      rcases m4 with ⟨e4, -⟩ | m4
      · exact .inl e4
      · exact .inr m4
end
end Mine
end
section
open PySem PySem.W PyProof.Rows PyProof.Rows.LCg PyProof.Rows.LCt
set_option Elab.async false
set_option maxRecDepth 100000
set_option maxHeartbeats 0
namespace Mine
theorem regKT16 : PySem.Challenge.rw_rw0097_01.foot = 7 ∧ K = K := by k_fill; exact ⟨rfl, rfl⟩
local macro_rules | `(tactic| walk_at "call ref") => `(tactic| (k_here; refine rest_here ?_))
local macro_rules | `(tactic| walk_at "eval ListComp") => `(tactic| (k_here; refine rest_here ?_))
local macro_rules | `(tactic| walk_at "Exists") => `(tactic| (k_here; refine rest_here ?_))
local macro_rules | `(tactic| walk_at "CompSrc") => `(tactic| (refine rest_here ?_))
local macro_rules | `(tactic| walk_at "subscriptTail") => `(tactic| (k_here; refine rest_here ?_))
local macro_rules | `(tactic| walk_at "call builtin:sum") => `(tactic| (k_here; refine rest_here ?_))
local macro_rules | `(tactic| k_mem) => `(tactic| first | exact List.mem_cons_self | (with_reducible assumption) | (refine' List.mem_cons_of_mem _ ?_; k_mem))
local macro_rules | `(tactic| k_all) => `(tactic| first | assumption | (intro p hp; (rename (∀ p ∈ _, @LT.lt Nat _ (Prod.fst p) _) => hRR); (have hh := hRR p hp); refine neN ?_; (try dsimp only); omega))
local macro_rules | `(tactic| walk_at "binaryOp Pow int int") => `(tactic| (k_here; refine rest_here ?_))
theorem getD_in {ns : List Int} {P : Int → Prop} (h : ∀ x ∈ ns, P x) (h0 : P 0) (i : Nat) : P (ns.getD i 0) := by
  rw [List.getD_eq_getElem?_getD]
  rcases Nat.lt_or_ge i ns.length with hi | hi
  · rw [List.getElem?_eq_getElem hi]; exact h _ (List.getElem_mem hi)
  · rw [List.getElem?_eq_none hi]; exact h0
theorem range_small (n : Nat) (h : n ≤ 1000) : Builtin.Range.small 0 (n : Int) 1 = true ∧ Builtin.Range.rangeSize 0 (n : Int) 1 = (n : Int) := by
  refine ⟨?_, ?_⟩
  · have : ∀ n ≤ 1000, Builtin.Range.small 0 ((n : Nat) : Int) 1 = true := by decide +kernel
    exact this n h
  · have : ∀ n ≤ 1000, Builtin.Range.rangeSize 0 ((n : Nat) : Int) 1 = (n : Int) := by decide +kernel
    exact this n h
/-- the terms of a number's sum -/
noncomputable def termAt (wd : Nat) (ns : List Int) (i : Nat) : Int := ns.getD i 0 * 2 ^ (wd * i)
theorem sum_map_mul (a : Int) : ∀ l : List Int, (l.map fun x => a * x).sum = a * l.sum
  | [] => by simp
  | x :: l => by simp [sum_map_mul a l, Int.mul_add]
theorem sum_terms (wd : Nat) : ∀ (ns : List Int), ((List.range ns.length).map (termAt wd ns)).sum = valD wd ns
  | [] => rfl
  | a :: r => by
    rw [List.length_cons, List.range_succ_eq_map, List.map_cons, List.map_map, List.sum_cons]
    have e : (termAt wd (a :: r) ∘ Nat.succ) = fun i => 2 ^ wd * termAt wd r i := by
      funext i
      show (a :: r).getD (i + 1) 0 * 2 ^ (wd * (i + 1)) = _
      unfold termAt
      rw [List.getD_cons_succ, Nat.mul_add, Int.pow_add, Nat.mul_one]
      rw [Int.mul_comm (2 ^ wd), Int.mul_assoc]
    rw [e, show (List.range r.length).map (fun i => 2 ^ wd * termAt wd r i) = ((List.range r.length).map (termAt wd r)).map fun x => 2 ^ wd * x by rw [List.map_map]; rfl, sum_map_mul, sum_terms wd r]
    show (a :: r).getD 0 0 * 2 ^ (wd * 0) + 2 ^ wd * valD wd r = a + 2 ^ wd * valD wd r
    rw [Nat.mul_zero, Int.pow_zero, Int.mul_one]
    rfl
section
variable {w : World} {p : Program} {lo : List Str} {mean : ExcName → Option Value} {mg mb : Str → Option Value}
theorem own2 {nm : Str} {ar : Arguments} {bd : List Stmt} {sc : Scope} (hparts : partsAt 18 = some (nm, ar, bd, sc)) {st : Stmt} (hst : loop2Bd[2]? = some st)
    {L fa D : Addr} {cd : Value} {h₀ : Heap} {s : Shared} {m : Str → Option Value} {ns : List Int} {ys : List Value} {oW oO : Obj} {width pr : Int} {tw tp : Tok} {news : List (Addr × Obj)} {Q : Flow → Shared → Prop}
    (F : Fr h₀ L s.heap m) (X : (K w.params).In h₀) (T : Top p lo mean mg mb h₀) (B : Below callerA h₀ [] h₀) (N : News h₀ L s.heap news)
    (ep : m "product" = some (.int pr tp)) (mW : (L + 1 + 1 + 1, oW) ∈ news) (dW : oW.data = .cell (some (.int width tw))) (hwd : 1 ≤ width ∧ width ≤ 11) (mO : (L + 1 + 1 + 1 + 1 + 1 + 1 + 1, oO) ∈ news) (dO : oO.data = .cell (some (.ref D))) (mD : (D, lst ys) ∈ news) (ID : IntsAre ys ns)
    (hl : ns.length ≤ 30) (hb : ∀ x ∈ ns, 0 ≤ x ∧ x < 2 ^ 21) (hpr : Builtin.Int.intBits pr ≤ 10000)
    (hQ : ∀ t h' tk', Fr h₀ L h' (fun z => if z = "product" then some (.int (pr * valD width.toNat ns) t) else m z) → News h₀ L h' news → Q .next { s with heap := h', toks := tk' }) :
    wpAny (model P0 w) (callerA.deeper (envOfC nm sc L fa cd)) (exec st (envOfC nm sc L fa cd)) Q NoE s := by
  cases hparts
  cases hst
  have F3 := frOf1 F ep
  have hwd' : 1 ≤ width.toNat ∧ width.toNat ≤ 11 := by omega
  have hlen : ys.toArray.size = ns.length := by simpa using ints_len9 ID
  k_steps
  try unfold Rest
  refine ListComp_U (F₀ := by k_asm) (by rfl) (by decide) (by rfl) (by decide) (by rfl) ?_
  k_steps
  try unfold Rest
  rename IsRange _ _ _ _ _ _ _ _ => hR
  refine CompSrc.range (n := ns.length) rfl (by k_asm) (by k_asm) hR ?rs1 ?rs2 (by rw [sizeLine_eq]; omega) (fun g => ?_)
  case rs1 => exact (range_small _ (by omega)).1
  case rs2 => exact (range_small _ (by omega)).2
  refine comp_ind (fun j ys' nw => nw = news ∧ IntsAre ys' ((List.range j).map (termAt width.toNat ns))) ⟨rfl, .nil⟩ ?_ ?_
  · rintro j v I oI C oCo D' m₂ ys' nw h tk E' hj ⟨t, rfl⟩ ⟨rfl, hI'⟩ hC hxv F₁ N₁ off ne
    rw [Int.zero_add] at hxv
    k_steps
    try unfold Rest
    refine item_anyK (N₁.isList (.tail _ (.tail _ (.tail _ mD)))) ID (Int.natCast_nonneg _) (by omega) (by omega) (fun t9 => ?_)
    k_steps
    try unfold Rest
    have hx := getD_in (P := fun x => 0 ≤ x ∧ x < 2 ^ 21) hb (by decide) ((j : Int)).toNat
    have hwj : width * (j : Int) = ((width.toNat * j : Nat) : Int) := by rw [Int.natCast_mul, Int.toNat_of_nonneg (by omega)]
    have hwj2 : width.toNat * j ≤ 11 * 30 := Nat.mul_le_mul (by omega) (by omega)
    rw [hwj]
    refine pow_int (Int.natCast_nonneg _) ?_ ?_
    · have e2 : Builtin.Int.intBits 2 = 2 := by decide
      rw [e2]; omega
    k_steps
    try unfold Rest
    refine CompEnd.intro (by k_asm) (by k_asm) _ (fun q hq => hq) off trivial ⟨rfl, ?_⟩
    rw [Int.toNat_natCast, Int.toNat_natCast, List.range_succ, List.map_append]
    exact ints_snoc hI'
  · rintro ys' nw ⟨rfl, hI'⟩
    k_steps
    try unfold Rest
    refine LSm.sum_ints (by k_asm) (by k_asm) rfl (News.isList (by k_asm) (.head _)) hI' ?_
    intro h1 tk1 t1 F1 N1
    rw [sum_terms]
    have hv := valD_lt hwd' hb hl
    k_steps
    try unfold Rest
    refine imul_int ?_ (mulOk_of_bits hpr (bits_of hv) (by decide))
    k_steps
    refine hQ _ _ _ (frZ1 (by assumption) ep) ?_
    refine' cb_drop ?cbN ?cbS
    case cbN => assumption
    case cbS => exact fun q hq => .tail _ hq
end
end Mine
end
section
open PySem PySem.W PyProof.Rows PyProof.Rows.LCg PyProof.Rows.LCt
set_option Elab.async false
set_option maxRecDepth 100000
set_option maxHeartbeats 0
namespace Mine
theorem regKT17 : PySem.Challenge.rw_rw0097_01.foot = 7 ∧ K = K := by k_fill; exact ⟨rfl, rfl⟩
local macro_rules | `(tactic| walk_at "call ref") => `(tactic| (k_here; refine rest_here ?_))
local macro_rules | `(tactic| walk_at "pyIter ref") => `(tactic| (k_here; refine rest_here ?_))
local macro_rules | `(tactic| k_mem) => `(tactic| first | exact List.mem_cons_self | (with_reducible assumption) | (refine' List.mem_cons_of_mem _ ?_; k_mem))
/-- a flag's own number -/
noncomputable def ownV (wd : Nat) (f : Int) : Int := valD wd (ordsOf (ownT f))
theorem chosen_pow {l : List (Int × Nat)} {j : Nat} (hj : j < 3) : chosenL l (2 ^ j) = [l.getD j (0, 0)] := by
  have e : ∀ j < 3, (List.range 3).filter (bitOn (2 ^ j)) = [j] := by decide
  show ((List.range 3).filter (bitOn (2 ^ j))).map _ = _
  rw [e j hj]; rfl
theorem sum_pow {wd : Nat} {l : List (Int × Nat)} {c : Int} {j : Nat} (hj : j < 3) : ((List.range 8).map (sumAt wd l c)).getD (2 ^ j) 0 - c = ownV wd (l.getD j (0, 0)).1 := by
  have hp8 : 2 ^ j < 2 ^ 3 := Nat.pow_lt_pow_right (by decide) hj
  rw [List.getD_eq_getElem?_getD, List.getElem?_map, List.getElem?_range (by omega)]
  show sumAt wd l c (2 ^ j) - c = _
  unfold sumAt numsAt wordsAt ownV
  rw [chosen_pow hj]
  simp
  omega
theorem chosen_all {l : List (Int × Nat)} (hl : l.length = 3) : chosenL l 7 = l := by
  have e : (List.range 3).filter (bitOn 7) = [0, 1, 2] := by decide
  show ((List.range 3).filter (bitOn 7)).map _ = _
  rw [e]
  match l, hl with
  | [a, b, c], _ => rfl
theorem nums_all {wd : Nat} {l : List (Int × Nat)} {c : Int} (hl : l.length = 3) : numsAt wd l 7 = (List.range 3).map fun k => ((List.range 8).map (sumAt wd l c)).getD (2 ^ k) 0 - c := by
  have e : (List.range 3).map (fun k => ((List.range 8).map (sumAt wd l c)).getD (2 ^ k) 0 - c) = (List.range 3).map fun k => ownV wd (l.getD k (0, 0)).1 :=
    List.map_congr_left fun k hk => sum_pow (List.mem_range.mp hk)
  rw [e]
  unfold numsAt wordsAt
  rw [chosen_all hl]
  match l, hl with
  | [a, b, c], _ => rfl
theorem valD_low {wd : Nat} : ∀ {ns : List Int}, (∀ x ∈ ns, 0 < x) → ns ≠ [] → 2 ^ (wd * (ns.length - 1)) ≤ valD wd ns
  | [], _, h => absurd rfl h
  | [a], h, _ => by
    have := h a (.head _)
    show 2 ^ (wd * 0) ≤ a + 2 ^ wd * 0
    rw [Nat.mul_zero, Int.pow_zero]; omega
  | a :: b :: r, h, _ => by
    have ih := valD_low (wd := wd) (ns := b :: r) (fun x hx => h x (.tail _ hx)) (by simp)
    have ha := h a (.head _)
    show 2 ^ (wd * (r.length + 1)) ≤ a + 2 ^ wd * valD wd (b :: r)
    rw [Nat.mul_add, Nat.mul_one, Int.pow_add, Int.mul_comm]
    have : (2 : Int) ^ wd * 2 ^ (wd * r.length) ≤ 2 ^ wd * valD wd (b :: r) := Int.mul_le_mul_of_nonneg_left ih (Int.le_of_lt (Int.pow_pos (by decide)))
    omega
theorem own_ords {f : Int} {pl : Nat} (h : FlagAt f pl) : 1 ≤ (ordsOf (ownT f)).length ∧ (ordsOf (ownT f)).length ≤ 30 ∧ ∀ x ∈ ordsOf (ownT f), 0 < x ∧ x < 128 := by
  obtain ⟨h1, h2, h3⟩ := own_ok h
  have hlen : (ordsOf (ownT f)).length = (ownT f).cps.size := by unfold ordsOf; simp
  refine ⟨by omega, by omega, fun x hx => ?_⟩
  obtain ⟨c, hc, rfl⟩ := List.mem_map.mp hx
  have := h3 c hc
  exact ⟨by omega, by omega⟩
theorem two_pow_ge {wd : Nat} (h : 7 ≤ wd) : (128 : Int) ≤ 2 ^ wd := by
  have : (2 : Nat) ^ 7 ≤ 2 ^ wd := Nat.pow_le_pow_right (by decide) h
  have e : ((2 ^ wd : Nat) : Int) = (2 : Int) ^ wd := by rw [Int.natCast_pow]; rfl
  rw [← e]; omega
/-- the product after some flags -/
noncomputable def prodTo (wd : Nat) (fs : List Int) : Nat → Int
  | 0 => -6
  | j + 1 => prodTo wd fs j * ownV wd (fs.getD j 0)
theorem natAbs_mul_lt {a b : Int} {m n : Nat} (ha : a.natAbs < 2 ^ m) (hb : b.natAbs < 2 ^ n) : (a * b).natAbs < 2 ^ (m + n) := by
  rw [Int.natAbs_mul, Nat.pow_add]
  exact Nat.mul_lt_mul'' ha hb
theorem prod_lt {wd : Nat} {fs : List Int} (h : ∀ j < 3, (ownV wd (fs.getD j 0)).natAbs < 2 ^ 400) : ∀ j ≤ 3, (prodTo wd fs j).natAbs < 2 ^ (3 + 400 * j)
  | 0, _ => by show (-6 : Int).natAbs < 2 ^ 3; decide
  | j + 1, hj => by
    have ih := prod_lt h j (by omega)
    have := natAbs_mul_lt ih (h j (by omega))
    rw [show 3 + 400 * (j + 1) = 3 + 400 * j + 400 by omega]
    exact this
end Mine
end
section
open PySem PySem.W PyProof.Rows PyProof.Rows.LCg PyProof.Rows.LCt
set_option Elab.async false
set_option maxRecDepth 100000
set_option maxHeartbeats 0
namespace Mine
theorem regKT18 : PySem.Challenge.rw_rw0097_01.foot = 7 ∧ K = K := by k_fill; exact ⟨rfl, rfl⟩
local macro_rules | `(tactic| walk_at "call ref") => `(tactic| (k_here; refine rest_here ?_))
local macro_rules | `(tactic| walk_at "pyIter ref") => `(tactic| (k_here; refine rest_here ?_))
local macro_rules | `(tactic| k_mem) => `(tactic| first | exact List.mem_cons_self | (with_reducible assumption) | (refine' List.mem_cons_of_mem _ ?_; k_mem))
local macro_rules | `(tactic| walk_at "nm look") => `(tactic| first | assumption | exact if_pos rfl | (refine (if_neg (by decide)).trans ?_; walk_at "nm look"))
theorem flag_lt {f : Int} {pl : Nat} (h : FlagAt f pl) : f.natAbs < 16 ^ 30 := by
  rcases h with ⟨h1, rfl⟩ | ⟨rfl, m, hm, hb, rfl⟩
  · rw [Int.natAbs_pow]
    exact Nat.lt_of_lt_of_le (Nat.pow_lt_pow_right (by decide) h1) (by decide)
  · rw [Int.natAbs_mul]
    refine Nat.lt_of_le_of_lt (Nat.mul_le_mul_right _ (n := m.natAbs) (m := 2 ^ 40) (by omega)) (by decide)
structure Kept2 (fixed : List (Addr × Obj)) (L SU DF : Addr) (oF oc oW oS : Obj) (itF itS : Array Value) (kF kS : Nat) (l : List (Int × Nat)) (c width : Int) (tc tw : Tok) : Prop where
  hl : l.length = 3
  hup : Up 0 l
  mF : (L + 1, oF) ∈ fixed
  dF : oF.data = .cell (some (.ref DF))
  mDF : (DF, W.listOf itF kF) ∈ fixed
  IF : IntsAre itF.toList (l.map (·.1))
  mc : (L + 1 + 1, oc) ∈ fixed
  dc : oc.data = .cell (some (.int c tc))
  mW : (L + 1 + 1 + 1, oW) ∈ fixed
  dW : oW.data = .cell (some (.int width tw))
  hwd : 7 ≤ width ∧ width ≤ 11
  mS : (L + 1 + 1 + 1 + 1, oS) ∈ fixed
  dS : oS.data = .cell (some (.ref SU))
  mSU : (SU, W.listOf itS kS) ∈ fixed
  IS : IntsAre itS.toList ((List.range 8).map (sumAt width.toNat l c))
  hfx : ∀ q ∈ fixed, q.1 ≠ L + 1 + 1 + 1 + 1 + 1 + 1 + 1 ∧ q.1 ≠ 24
noncomputable def Loop2J (fixed : List (Addr × Obj)) (L : Addr) (wd : Nat) (l : List (Int × Nat)) (j : Nat) (m : Str → Option Value) (nw : List (Addr × Obj)) : Prop :=
  ∃ ps oO t, (∀ q ∈ fixed, q ∈ nw) ∧ (24, tabObj ps) ∈ nw ∧ St24 ps nw ∧ (L + 1 + 1 + 1 + 1 + 1 + 1 + 1, oO) ∈ nw ∧ (∃ v, oO.data = .cell v) ∧ m "product" = some (.int (prodTo wd (l.map (·.1)) j) t)
theorem loop2Bd_three : ∃ a0 a1 a2, loop2Bd = [a0, a1, a2] := ⟨_, _, _, rfl⟩
section
variable {w : World} {p : Program} {lo : List Str} {mean : ExcName → Option Value} {mg mb : Str → Option Value}
theorem own_all {nm : Str} {ar : Arguments} {bd : List Stmt} {sc : Scope} (hparts : partsAt 18 = some (nm, ar, bd, sc))
    {L fa SU DF I : Addr} {cd : Value} {h₀ : Heap} {s : Shared} {m : Str → Option Value} {fixed : List (Addr × Obj)} {oF oc oW oS oI : Obj} {itF itS : Array Value} {kF kS : Nat} {l : List (Int × Nat)} {c width : Int} {tc tw ti : Tok} {j : Nat} {news : List (Addr × Obj)} {Q : Flow → Shared → Prop}
    (Kp : Kept2 fixed L SU DF oF oc oW oS itF itS kF kS l c width tc tw)
    (X : (K w.params).In h₀) (T : Top p lo mean mg mb h₀) (B : Below callerA h₀ [] h₀) (C28 : CodeHd h₀ 28 24) (C35 : CodeHd h₀ 35 31) (hj : j < 3)
    (hJ : Loop2J fixed L width.toNat l j m news) (F : Fr h₀ L s.heap fun y => if y = "k" then some (.int j ti) else m y) (N : News h₀ L s.heap ((I, oI) :: news)) (nI : ∀ q ∈ news, q.1 ≠ I) :
    wpAny (model P0 w) (callerA.deeper (envOfC nm sc L fa cd)) (execs loop2Bd (envOfC nm sc L fa cd)) (TurnEnd h₀ L I (Loop2J fixed L width.toNat l (j + 1)) oI s Q) NoE s := by
  obtain ⟨ps, oO, tp, hf, m24, hps, mO, ⟨vO, dO⟩, eP⟩ := hJ
  obtain ⟨a0, a1, a2, hbd⟩ := loop2Bd_three
  have g0 : loop2Bd[0]? = some a0 := by rw [hbd]; rfl
  have g1 : loop2Bd[1]? = some a1 := by rw [hbd]; rfl
  have g2 : loop2Bd[2]? = some a2 := by rw [hbd]; rfl
  have N1 : News h₀ L s.heap news := fun q hq => N q (.tail _ hq)
  have a247 : (24 : Nat) ≠ L + 1 + 1 + 1 + 1 + 1 + 1 + 1 := news_ne N1 m24 mO (tab_ne_cell dO)
  have a7I : L + 1 + 1 + 1 + 1 + 1 + 1 + 1 ≠ I := nI _ mO
  obtain ⟨R0, NR0, hR0, hin0, -⟩ := news_part N (.tail _ mO)
  have up0 : ∀ q ∈ fixed, q ∈ R0 := fun q hq => hin0 q (.tail _ (hf q hq)) (Kp.hfx q hq).1
  have hfl : (l.map (·.1)).length = 3 := by rw [List.length_map, Kp.hl]
  have hwd1 : 1 ≤ width ∧ width ≤ 11 := ⟨by have := Kp.hwd.1; omega, Kp.hwd.2⟩
  have hfa : ∀ k < 3, FlagAt ((l.map (·.1)).getD k 0) ((l.getD k (0, 0)).2) := by
    intro k hk
    rw [map_getD]
    refine up_flags Kp.hup _ ?_
    rw [List.getD_eq_getElem?_getD, List.getElem?_eq_getElem (by rw [Kp.hl]; exact hk)]
    exact List.getElem_mem _
  obtain ⟨w1, w2, w3⟩ := own_ords (hfa j hj)
  have hob : ∀ x ∈ ordsOf (ownT ((l.map (·.1)).getD j 0)), 0 ≤ x ∧ x < 2 ^ 21 := fun x hx => ⟨by have := (w3 x hx).1; omega, by have := (w3 x hx).2; omega⟩
  rw [hbd]
  refine wpAny_execs_cons (own0 hparts g0 F X T B NR0 hR0 dO (by walk_at "nm look") (up0 _ Kp.mF) Kp.dF (up0 _ Kp.mDF) Kp.IF hfl hj (flag_lt (hfa j hj)) (own_ok (hfa j hj)).2.1 ?_)
  intro D ys oO1 h1 tk1 F1 N1' off1 hD7 dO1 ID
  have m241 : (24, tabObj ps) ∈ (L + 1 + 1 + 1 + 1 + 1 + 1 + 1, oO1) :: (D, lst ys) :: R0 := .tail _ (.tail _ (hin0 _ (.tail _ m24) a247))
  obtain ⟨R1, NR1, hR1, hin1, -⟩ := news_part N1' m241
  have up1 : ∀ q ∈ R0, q.1 ≠ 24 → q ∈ R1 := fun q hq h => hin1 q (.tail _ (.tail _ hq)) h
  have up1F : ∀ q ∈ fixed, q ∈ R1 := fun q hq => up1 q (up0 q hq) (Kp.hfx q hq).2
  have hps1 : St24 ps R1 := by
    rcases hps with h | ⟨c1, oc1, e1, m1, t1⟩
    · exact .inl h
    · exact .inr ⟨c1, oc1, e1, up1 _ (hin0 _ (.tail _ m1) (news_ne N1 m1 mO (hit_ne_cell' t1 dO))) (news_ne N1 m1 m24 (by rintro rfl; subst e1; exact no_hit t1)), t1⟩
  have mO1 : (L + 1 + 1 + 1 + 1 + 1 + 1 + 1, oO1) ∈ R1 := hin1 _ (.head _) (Ne.symm a247)
  have hD24 : D ≠ 24 := Ne.symm (off1_mem off1 _ (hin0 _ (.tail _ m24) a247))
  have mD1 : (D, lst ys) ∈ R1 := hin1 _ (.tail _ (.head _)) hD24
  refine wpAny_execs_cons (own1 hparts g1 F1 X T B C28 C35 NR1 hps1 hR1 (by walk_at "nm look") hj (up1F _ Kp.mSU) Kp.IS (by simp) (up1F _ Kp.mS) Kp.dS (up1F _ Kp.mc) Kp.dc (up1F _ Kp.mW) Kp.dW hwd1 mO1 dO1 mD1 ID ?_ w1 w2 ?_ ?_ ?_)
  · rw [sum_pow hj, map_getD]; rfl
  · intro x hx
    have h128 := two_pow_ge (wd := width.toNat) (by have := Kp.hwd.1; omega)
    have := w3 x hx
    exact ⟨by omega, by omega⟩
  · exact valD_low (fun x hx => (w3 x hx).1) (by intro e; rw [e] at w1; exact absurd w1 (by decide))
  intro ps' R2 h2 tk2 F2 N2 sub2 hps2 hr2 cl2
  have hpl := prod_lt (wd := width.toNat) (fs := l.map (·.1)) (fun k hk => by
    obtain ⟨v1, v2, v3⟩ := own_ords (hfa k hk)
    exact valD_lt ⟨by have := hwd1.1; omega, by have := hwd1.2; omega⟩ (fun x hx => ⟨by have := (v3 x hx).1; omega, by have := (v3 x hx).2; omega⟩) v2) j (by omega)
  refine wpAny_execs_cons (own2 hparts g2 F2 X T B N2 (by walk_at "nm look") (.tail _ (sub2 _ (up1F _ Kp.mW))) Kp.dW hwd1 (.tail _ (sub2 _ mO1)) dO1 (.tail _ (sub2 _ mD1)) ID w2 hob (Nat.le_trans (bits_of hpl) (by omega)) ?_)
  intro t3 h3 tk3 F3 N3
  refine wpAny_execs_nil ?_
  have mI2 : (I, oI) ∈ R2 := sub2 _ (up1 _ (hin0 _ (.head _) (Ne.symm a7I)) (Ne.symm (nI _ m24)))
  obtain ⟨R5, NR5, hR5, hin5, -⟩ := news_part N3 (.tail _ mI2)
  have N3' : News h₀ L h3 R2 := fun q hq => N3 q (.tail _ hq)
  have a24I : (24 : Nat) ≠ I := nI _ m24
  refine turn_next F3 NR5 hR5 ⟨ps', oO1, t3, ?_, hin5 _ (.head _) a24I, ?_, hin5 _ (.tail _ (sub2 _ mO1)) a7I, ⟨_, dO1⟩, by walk_at "nm look"⟩
  · exact fun q hq => hin5 q (.tail _ (sub2 _ (up1F q hq))) (nI q (hf q hq))
  · rcases hps2 with h | ⟨c9, oc9, e9, m9, t9⟩
    · exact .inl h
    · refine .inr ⟨c9, oc9, e9, hin5 _ (.tail _ m9) ?_, t9⟩
      rcases cl2 c9 e9 with e | e
      · rcases hps with h | ⟨c1, oc1, e1, m1, t1⟩
        · rw [h] at e; exact absurd (congrArg Array.size e) (by simp)
        · rw [e1] at e
          obtain rfl := ps24_inj e
          have q9 := nI _ m1
          exact q9
      · exact Ne.symm (e _ (up1 _ (hin0 _ (.head _) (Ne.symm a7I)) (Ne.symm a24I)))
theorem second_loop {nm : Str} {ar : Arguments} {bd : List Stmt} {sc : Scope} (hparts : partsAt 18 = some (nm, ar, bd, sc)) {st : Stmt} (hst : lawBd[10]? = some st)
    {L fa SU DF : Addr} {cd : Value} {h₀ : Heap} {s : Shared} {m : Str → Option Value} {fixed : List (Addr × Obj)} {oF oc oW oS : Obj} {itF itS : Array Value} {kF kS : Nat} {l : List (Int × Nat)} {c width : Int} {tc tw : Tok} {news : List (Addr × Obj)} {Q : Flow → Shared → Prop}
    (Kp : Kept2 fixed L SU DF oF oc oW oS itF itS kF kS l c width tc tw)
    (X : (K w.params).In h₀) (T : Top p lo mean mg mb h₀) (B : Below callerA h₀ [] h₀) (C28 : CodeHd h₀ 28 24) (C35 : CodeHd h₀ 35 31)
    (hJ : Loop2J fixed L width.toNat l 0 m news) (F : Fr h₀ L s.heap m) (N : News h₀ L s.heap news)
    (hQ : ∀ m' news' h' tk', Loop2J fixed L width.toNat l 3 m' news' → Fr h₀ L h' m' → News h₀ L h' news' → Q .next { s with heap := h', toks := tk' }) :
    wpAny (model P0 w) (callerA.deeper (envOfC nm sc L fa cd)) (exec st (envOfC nm sc L fa cd)) Q NoE s := by
  have hparts9 : partsAt 18 = some (nm, ar, bd, sc) := hparts
  cases hparts
  cases hst
  refine for_rule (fun _ => rfl) ?_
  k_steps
  unfold Rest
  rename IsRange _ _ _ _ _ _ _ _ => hR
  refine range_loop (n := 3) hR (by decide) (by decide) rfl (by rfl) (by rfl) (by assumption) (by assumption) (Loop2J fixed L width.toNat l) hJ ?_ ?_
  · intro i t m₁ news₁ h tk I oI hi hJ' F₁ N₁ nI
    rw [Int.zero_add] at F₁
    exact own_all hparts9 Kp X T B C28 C35 hi hJ' F₁ N₁ nI
  · intro m' news' h tk hJ' F' N'
    refine wpAny_execs_nil ?_
    exact hQ _ _ _ _ hJ' F' N'
end
end Mine
end
section
open PySem PySem.W PyProof.Rows PyProof.Rows.LCg PyProof.Rows.LCt
set_option Elab.async false
set_option maxRecDepth 100000
set_option maxHeartbeats 0
namespace Mine
section
variable {prog : Program} {w : World} {A : Around} {E : Value → Shared → Prop} {s : Shared} {h₀ : Heap} {L : Addr} {m : Str → Option Value} {env : Env} {news : List (Addr × Obj)}
noncomputable abbrev cell0 : Obj := { cls := .type "cell", data := .cell none }
noncomputable abbrev dict0 : Obj := { cls := .type "dict", data := .dict #[] }
/-- a comprehension's own names, one of them a cell -/
theorem newEnv_cell {M : Model} {scope : Scope} {x : Str} {globals : Addr} {cl : List (Str × Addr)} {qual : Str} {outer : Env} {Q : Env → Shared → Prop} (hcf : ∀ k, cellsFrom k scope.names cl = (x, k) :: cl) (hpc : ∀ h, pushCells h scope.names = h.push cell0)
    (h : Q (newEnv scope s.heap.objs.size globals ((x, s.heap.objs.size + 1) :: cl) qual none .none (some outer) builtinsNs) { s with heap := (s.heap.push dict0).push cell0 }) : wpAny M A (newFunctionEnv scope globals cl [] qual none .none (some outer)) Q E s := by
  simp only [newFunctionEnv, Option.isSome_some, if_true]
  refine wpAny_bind (wpAny_alloc ?_)
  refine wpAny_bind (wpAny_layCells _ (fun name kind cells => by cases hkc : kind == NameKind.cell <;> simp [hkc]) _ _ _ _ ?_)
  rw [hcf, hpc, show ({ s with heap := s.heap.push dict0 } : Shared).heap.objs.size = s.heap.objs.size + 1 from Heap.size_push ..]
  refine wpAny_bind (wpAny_pure ?_)
  exact wpAny_pure h
theorem four_new (F : Fr h₀ L s.heap m) (N : News h₀ L s.heap news) (a b c d : Obj) (ha : a.isFreed = false := by rfl) (hb : b.isFreed = false := by rfl) (hc : c.isFreed = false := by rfl) (hd : d.isFreed = false := by rfl) :
    Fr h₀ L ((((s.heap.push a).push b).push c).push d) m ∧ News h₀ L ((((s.heap.push a).push b).push c).push d) ((s.heap.objs.size, a) :: (s.heap.objs.size + 1 + 1, c) :: (s.heap.objs.size + 1 + 1 + 1, d) :: (s.heap.objs.size + 1, b) :: news) := by
  have F1 := F.push a
  have F2 := F1.push b
  have F3 := F2.push c
  have N1 := News.push F N a ha
  have N2 := News.push F1 N1 b hb
  have N3 := News.push F2 N2 c hc
  have N4 := News.push F3 N3 d hd
  rw [Heap.size_push, Heap.size_push, Heap.size_push] at N4
  refine ⟨F3.push d, fun q hq => N4 q ?_⟩
  rcases List.mem_cons.mp hq with rfl | hq
  · exact .tail _ (.tail _ (.tail _ (.head _)))
  rcases List.mem_cons.mp hq with rfl | hq
  · exact .tail _ (.head _)
  rcases List.mem_cons.mp hq with rfl | hq
  · exact .head _
  rcases List.mem_cons.mp hq with rfl | hq
  · exact .tail _ (.tail _ (.head _))
  · exact .tail _ (.tail _ (.tail _ (.tail _ hq)))
/-- what the turns of such a comprehension have at hand -/
noncomputable def CTurn (prog : Program) (w : World) (A : Around) (h₀ : Heap) (L : Addr) (m : Str → Option Value) (env : Env) (elt : PySem.Expr) (x : Str) (scope : Scope) (cl : List (Str × Addr)) (news : List (Addr × Obj)) (a : Int) (n : Nat) (J : Nat → List Value → Prop) (s₁ : Shared) : Prop :=
  ∀ i t I oI C oC Z oZ D ys h tk (E' : Value → Shared → Prop), i < n → J i ys → oZ.data = .cell (some (.int (a + (i : Nat)) t)) → Fr h₀ L h m → News h₀ L h ((I, oI) :: (C, oC) :: (Z, oZ) :: (D, lst ys) :: news) →
    wpAny (model prog w) A (eval elt (compEnvC scope ((x, Z) :: cl) C env)) (fun v s' => ∃ h' tk', s' = { s₁ with heap := h', toks := tk' } ∧ Fr h₀ L h' m ∧ News h₀ L h' ((I, oI) :: (C, oC) :: (Z, oZ) :: (D, lst ys) :: news) ∧ J (i + 1) (ys ++ [v])) E' { s₁ with heap := h, toks := tk }
theorem cell_loop {elt iter : PySem.Expr} {x : Str} {px : Pos} {scope : Scope} {cl : List (Str × Addr)} {pos : Pos} {a : Int} {n : Nat} {J : Nat → List Value → Prop} {s₁ : Shared} {H : Heap} {tk₀ : Nat} {I C Z D : Addr} {oI oC oZ : Obj} {v₀ : Option Value} {m' : Str → Option Value} {R : Result → Shared → Prop}
    (hh : A.handled = none) (hkind : scope.kind = .function) (hx : (compEnvC scope ((x, Z) :: cl) C env).kindOf x = some .cell) (hsz : n ≤ sizeLine) (hIC : I ≠ C) (hIZ : I ≠ Z) (hID : I ≠ D) (hCZ : C ≠ Z) (hCD : C ≠ D) (hZD : Z ≠ D) (offs : ∀ q ∈ news, q.1 ≠ I ∧ q.1 ≠ C ∧ q.1 ≠ Z ∧ q.1 ≠ D)
    (F : Fr h₀ L H m) (N : News h₀ L H ((I, oI) :: (C, oC) :: (Z, oZ) :: (D, lst []) :: news)) (st : IsRangeIter H I (a + ((0 : Nat) : Int) * 1) ((n : Int) - ((0 : Nat) : Int)) 1) (ns : NsObj oC m') (dZ : oZ.data = .cell v₀) (h0 : J 0 [])
    (turn : CTurn prog w A h₀ L m env elt x scope cl news a n J s₁)
    (hR : ∀ h tk ys oC, J n ys → Fr h₀ L h m → News h₀ L h ((C, oC) :: (D, lst ys) :: news) → NsObj oC m' → R (.ok .next) { s₁ with heap := h, toks := tk }) :
    codeAny (model prog w) A (.compStart (.ListComp elt [⟨.Name x px, iter, [], 0⟩] scope pos) 0 (.ref I) (.ref D) (compEnvC scope ((x, Z) :: cl) C env)) R { s₁ with heap := H, toks := tk₀ } := by
  have hI := (N (I, oI) (.head _)).2
  have hC := (N (C, oC) (.tail _ (.head _))).2
  have hZ := (N (Z, oZ) (.tail _ (.tail _ (.head _)))).2
  have hD := (N (D, lst []) (.tail _ (.tail _ (.tail _ (.head _))))).2
  have W := range_walks (prog := prog) (w := w) (I := I) hh a n
  have loop : codeAny (model prog w) A (.compLoop (.ListComp elt [⟨.Name x px, iter, [], 0⟩] scope pos) 0 (.ref I) (.ref D) (compEnvC scope ((x, Z) :: cl) C env)) R { s₁ with heap := H, toks := tk₀ } := by
    refine codeAny_compLoop_tests
      (fun k s' => ∃ h' tk i ys oI oC oZ v₀, s' = { s₁ with heap := h', toks := tk } ∧ i ≤ n ∧ k = n + 1 - i ∧ ys.length = i ∧ IsRangeIter h' I (a + (i : Nat) * 1) ((n : Int) - (i : Nat)) 1 ∧ Fr h₀ L h' m ∧
        News h₀ L h' ((I, oI) :: (C, oC) :: (Z, oZ) :: (D, lst ys) :: news) ∧ NsObj oC m' ∧ oZ.data = .cell v₀ ∧ J i ys) ?_ (n + 1)
      ⟨H, tk₀, 0, [], oI, oC, oZ, v₀, rfl, Nat.zero_le _, rfl, rfl, st, F, N, ns, dZ, h0⟩
    rintro k s' ⟨h', tk, i, ys, oI, oC, oZ, v₀, rfl, hi, rfl, hyl, st', F', N', ns', dZ', hJ⟩
    by_cases hlt : i < n
    · refine W.item i _ _ _ hlt st' fun v h₂ tk₂ hPv st₂ hk₂ => ?_
      obtain ⟨t, rfl⟩ := hPv
      have F₂ : Fr h₀ L h₂ m := fr_but F' hk₂ (Ne.symm hI.1) hI.2
      obtain ⟨oI₂, eI₂⟩ : ∃ o, h₂.get? I = some o := ⟨_, st₂⟩
      have N₂ : News h₀ L h₂ ([(I, oI₂), (C, oC)] ++ (Z, oZ) :: (D, lst ys) :: news) := by
        intro q hq
        rcases List.mem_cons.mp hq with rfl | hq
        · exact ⟨eI₂, hI⟩
        rcases List.mem_cons.mp hq with rfl | hq
        · exact ⟨hk₂ _ _ (by simpa using Ne.symm hIC) (N' _ (.tail _ (.head _))).1, hC⟩
        rcases List.mem_cons.mp hq with rfl | hq
        · exact ⟨hk₂ _ _ (by simpa using Ne.symm hIZ) (N' _ (.tail _ (.tail _ (.head _)))).1, hZ⟩
        rcases List.mem_cons.mp hq with rfl | hq
        · exact ⟨hk₂ _ _ (by simpa using Ne.symm hID) (N' _ (.tail _ (.tail _ (.tail _ (.head _))))).1, hD⟩
        · have z := N' q (.tail _ (.tail _ (.tail _ (.tail _ hq))))
          exact ⟨hk₂ _ _ (by simpa using (offs q hq).1) z.1, z.2⟩
      refine wpAny_assign_Name (wpAny_storeName_cell (by simpa [compEnvC, relabel] using hkind) hx (c := Z) (by simp [compEnvC]) ⟨oZ, (N₂ (Z, oZ) (.tail _ (.tail _ (.head _)))).1, dZ'⟩ (fun h₃ hv₃ hs₃ => ?_))
      obtain ⟨oZ₃, eZ₃, dZ₃⟩ := hv₃
      refine wpAny_tests_nil ?_
      simp only [if_true]
      have F₃ : Fr h₀ L h₃ m := F₂.change hs₃ hZ.1 hZ.2
      have N₃ : News h₀ L h₃ ([(I, oI₂), (C, oC)] ++ (Z, oZ₃) :: (D, lst ys) :: news) := by
        refine News.setAt N₂ ?_ ?_ hs₃ eZ₃
        · intro q hq
          rcases List.mem_cons.mp hq with rfl | hq
          · exact hIZ
          · rw [List.mem_singleton.mp hq]; exact hCZ
        · intro q hq
          rcases List.mem_cons.mp hq with rfl | hq
          · exact Ne.symm hZD
          · exact (offs q hq).2.2.1
      have st₃ : IsRangeIter h₃ I (a + ((i + 1 : Nat) : Int) * 1) ((n : Int) - ((i + 1 : Nat) : Int)) 1 := W.frame _ _ _ st₂ fun b hb o e => by
        rw [List.mem_singleton.mp hb] at e ⊢
        exact hs₃.extBut _ _ hIZ e
      refine wpAny_mono (turn i t I oI₂ C oC Z oZ₃ D ys h₃ _ _ hlt hJ dZ₃ F₃ N₃) (fun y s₄ h₄ => ?_) fun _ _ e => e
      obtain ⟨h₄, tk₄, rfl, F₄, N₄, J₄⟩ := h₄
      have zI := (N₄ (I, oI₂) (.head _)).1
      have st₄ : IsRangeIter h₄ I (a + ((i + 1 : Nat) : Int) * 1) ((n : Int) - ((i + 1 : Nat) : Int)) 1 := by
        have e3 : h₃.get? I = some oI₂ := (N₃ (I, oI₂) (.head _)).1
        have e4 : h₃.get? I = some _ := st₃
        show h₄.get? I = some _
        rw [zI, ← e3]; exact e4
      have zD := (N₄ (D, lst ys) (.tail _ (.tail _ (.tail _ (.head _))))).1
      refine append_at (hsz := by show ys.toArray.size ≤ sizeLine; rw [List.size_toArray, hyl]; exact Nat.le_trans hi hsz) zD fun h₅ hs₅ hD₅ => ?_
      have N₅ : News h₀ L h₅ ([(I, oI₂), (C, oC), (Z, oZ₃)] ++ (D, lst (ys ++ [y])) :: news) := by
        refine News.setAt (o := lst ys) N₄ ?_ ?_ hs₅ (hD₅.trans (congrArg some (lst_snoc ys y)))
        · intro q hq
          rcases List.mem_cons.mp hq with rfl | hq
          · exact hID
          rcases List.mem_cons.mp hq with rfl | hq
          · exact hCD
          · rw [List.mem_singleton.mp hq]; exact hZD
        · intro q hq
          exact (offs q hq).2.2.2
      refine ⟨n + 1 - (i + 1), by omega, h₅, tk₄, i + 1, ys ++ [y], oI₂, oC, oZ₃, _, rfl, hlt, rfl, by rw [List.length_append, List.length_singleton, hyl], W.frame _ _ _ st₄ fun b hb o e => by
        rw [List.mem_singleton.mp hb] at e ⊢
        exact hs₅.extBut _ _ hID e, F₄.change hs₅ hD.1 hD.2, N₅, ns', dZ₃, J₄⟩
    · obtain rfl : i = n := Nat.le_antisymm hi (Nat.not_lt.mp hlt)
      refine W.done _ _ _ st' fun h₂ tk₂ hk₂ => ?_
      have F₂ : Fr h₀ L h₂ m := fr_but F' hk₂ (Ne.symm hI.1) hI.2
      refine hR h₂ tk₂ ys oC hJ F₂ (fun q hq => ?_) ns'
      rcases List.mem_cons.mp hq with rfl | hq
      · exact ⟨hk₂ _ _ (by simpa using Ne.symm hIC) (N' _ (.tail _ (.head _))).1, hC⟩
      rcases List.mem_cons.mp hq with rfl | hq
      · exact ⟨hk₂ _ _ (by simpa using Ne.symm hID) (N' _ (.tail _ (.tail _ (.tail _ (.head _))))).1, hD⟩
      · have z := N' q (.tail _ (.tail _ (.tail _ (.tail _ hq))))
        exact ⟨hk₂ _ _ (by simpa using (offs q hq).1) z.1, z.2⟩
  exact codeAny_compStart_list loop (W.self 0 _ _ _ st loop)
theorem Assign_ListComp_C {elt iter : PySem.Expr} {x y : Str} {px py : Pos} {scope : Scope} {cl : List (Str × Addr)} {pos spos : Pos} {Q : Flow → Shared → Prop} {a b : Int} {n : Nat} (hLe : env.locals = L)
    (hsw : swapsWith (.ListComp elt [⟨.Name x px, iter, [], 0⟩] scope pos) (some (.Name y py)) spos.line env = pure true)
    (hclos : closureFor scope env = pure cl) (hcf : ∀ k, cellsFrom k scope.names cl = (x, k) :: cl) (hpc : ∀ h, pushCells h scope.names = h.push cell0) (hkind : scope.kind = .function)
    (hnames : ∀ z ∈ scope.names, z.2 = .local → scope.names.lookup z.1 = some .local) (hx : ∀ Z C, (compEnvC scope ((x, Z) :: cl) C env).kindOf x = some .cell)
    (hy : env.kindOf y = some .local) (hp : (env.scope.kind == .class || (env.scope.kind == .module && env.locals != env.globals)) = false)
    (J : Nat → List Value → Prop) (h0 : J 0 []) (hsm : Builtin.Range.small a b 1 = true) (hn : Builtin.Range.rangeSize a b 1 = ((n : Nat) : Int)) (hsz : n ≤ sizeLine)
    (h : wpAny (model prog w) A (eval iter env) (fun xv s₁ => ∃ r t u v, xv = .ref r ∧ A.handled = none ∧ Fr h₀ L s₁.heap m ∧ News h₀ L s₁.heap news ∧ IsRange s₁.heap r a b 1 t u v ∧ CTurn prog w A h₀ L m env elt x scope cl news a n J s₁ ∧
      ∀ ys D h tk, J n ys → Fr h₀ L h (fun z => if z = y then some (.ref D) else m z) → News h₀ L h ((D, lst ys) :: news) → Q .next { s₁ with heap := h, toks := tk }) E s)
    (hs : ∀ x, foldedSetIterable iter env x = pure x := by intro _; rfl) :
    wpAny (model prog w) A (exec (.Assign [.Name y py] (.ListComp elt [⟨.Name x px, iter, [], 0⟩] scope pos) spos) env) Q E s := by
  subst hLe
  rw [exec_Assign_Name_used _ _ _ _ hsw]
  refine wpAny_bind (wpAny_standAt (wpAny_bind ?_))
  show wpAny _ A (do let _ ← comprehension (.ListComp elt [⟨.Name x px, iter, [], 0⟩] scope pos) scope env _ (newList []) false (eval iter env) (some (assign (.Name y py) env))) _ _ s
  refine wpAny_bind (wpAny_mono (wpAny_comprehension_free (use := some (assign (.Name y py) env)) (Q := fun _ s' => Q .next s') rfl hs hclos hkind hnames
    (wpAny_mono h (fun xv s₁ h₁ => ?_) fun _ _ e => e)) (fun _ s' hq => wpAny_pure (wpAny_pure hq)) fun _ _ e => e)
  obtain ⟨r, t, u, v, rfl, hh, F, N, hr, turn, fin⟩ := h₁
  refine wpAny_pyIter_range hr hsm ?_
  refine wpAny_newObj_type (newEnv_cell hcf hpc ?_)
  obtain ⟨F4, N4⟩ := four_new F N { cls := .type "range_iterator", data := .fields #[rawInt a, rawInt (Builtin.Range.rangeSize a b 1), rawInt 1] } (lst []) dict0 cell0
  have st4 : IsRangeIter ((((s₁.heap.push { cls := .type "range_iterator", data := .fields #[rawInt a, rawInt (Builtin.Range.rangeSize a b 1), rawInt 1] }).push (lst [])).push dict0).push cell0) s₁.heap.objs.size (a + ((0 : Nat) : Int) * 1) ((n : Int) - ((0 : Nat) : Int)) 1 := by
    have := (N4 _ (.head _)).1
    show Heap.get? _ _ = some _
    rw [this, hn]; simp
  have hlt : ∀ q ∈ news, @LT.lt Nat _ q.1 s₁.heap.objs.size := fun q hq => Heap.lt_size (N q hq).1
  have hns : NsObj dict0 (fun _ => none) := by
    obtain ⟨o, e, z⟩ := ns_obj (Heap.Ns.new s₁.heap (.type "dict"))
    rw [Heap.get?_push_size _ rfl] at e
    cases e
    exact z
  have e1 : ∀ (h : Heap) (o : Obj), (h.push o).objs.size = h.objs.size + 1 := fun h o => Heap.size_push h o
  dsimp only
  simp only [e1]
  show codeAny (model prog w) A (.compStart (.ListComp elt [⟨.Name x px, iter, [], 0⟩] scope pos) 0 (.ref s₁.heap.objs.size) (.ref (s₁.heap.objs.size + 1)) (compEnvC scope ((x, s₁.heap.objs.size + 1 + 1 + 1) :: cl) (s₁.heap.objs.size + 1 + 1) env)) _
    { s₁ with heap := (((s₁.heap.push { cls := .type "range_iterator", data := .fields #[rawInt a, rawInt (Builtin.Range.rangeSize a b 1), rawInt 1] }).push (lst [])).push dict0).push cell0 }
  refine cell_loop (n := n) (J := J) (oZ := cell0) (m' := fun _ => none) hh hkind (hx _ _) hsz ?_ ?_ ?_ ?_ ?_ ?_ ?_ F4 N4 st4 hns rfl h0 turn ?_
  · show @Ne Nat _ _; omega
  · show @Ne Nat _ _; omega
  · show @Ne Nat _ _; omega
  · show @Ne Nat _ _; omega
  · show @Ne Nat _ _; omega
  · show @Ne Nat _ _; omega
  · intro q hq
    have := hlt q hq
    exact ⟨(by show @Ne Nat _ _; omega), (by show @Ne Nat _ _; omega), (by show @Ne Nat _ _; omega), (by show @Ne Nat _ _; omega)⟩
  · intro h tk ys oC hJ F' N' ns'
    show wpAny _ A (assign (.Name y py) env (.ref _)) _ _ _
    refine wpAny_assign_Name (wpAny_storeName_local hy F'.ns (fun h₂ hn₂ hs₂ => ?_) hp)
    have F₂ := F'.set hn₂ hs₂
    have N₂ := N'.set hs₂
    have hC := N₂ _ (.head _)
    refine ⟨_, ns'.ns hC.1, fun h'' hs'' => fin ys _ h'' _ hJ (F₂.change hs'' hC.2.1 hC.2.2) (fun q hq => ?_)⟩
    have z := N₂ q (.tail _ hq)
    refine ⟨hs''.extBut _ _ ?_ z.1, z.2⟩
    rcases List.mem_cons.mp hq with rfl | hq
    · show @Ne Nat _ (s₁.heap.objs.size + 1 + 1); omega
    · have := hlt q hq
      show @Ne Nat _ (s₁.heap.objs.size + 1 + 1); omega
end
end Mine
end
section
open PySem PySem.W PyProof.Rows PyProof.Rows.LCg PyProof.Rows.LCt
set_option Elab.async false
set_option maxRecDepth 100000
set_option maxHeartbeats 0
namespace Mine
theorem regKT19 : PySem.Challenge.rw_rw0097_01.foot = 7 ∧ K = K := by k_fill; exact ⟨rfl, rfl⟩
local macro_rules | `(tactic| walk_at "call ref") => `(tactic| (k_here; refine rest_here ?_))
local macro_rules | `(tactic| walk_at "eval ListComp") => `(tactic| (k_here; refine rest_here ?_))
local macro_rules | `(tactic| walk_at "Exists") => `(tactic| (k_here; refine rest_here ?_))
local macro_rules | `(tactic| walk_at "CompSrc") => `(tactic| (refine rest_here ?_))
local macro_rules | `(tactic| walk_at "subscriptTail") => `(tactic| (k_here; refine rest_here ?_))
local macro_rules | `(tactic| walk_at "call builtin:sum") => `(tactic| (k_here; refine rest_here ?_))
local macro_rules | `(tactic| walk_at "binaryOp Pow int int") => `(tactic| (k_here; refine rest_here ?_))
local macro_rules | `(tactic| walk_at "binaryOp Mult int int") => `(tactic| (k_here; refine rest_here ?_))
local macro_rules | `(tactic| k_mem) => `(tactic| first | exact List.mem_cons_self | (with_reducible assumption) | (refine' List.mem_cons_of_mem _ ?_; k_mem))
local macro_rules | `(tactic| k_all) => `(tactic| first | assumption | (intro p hp; (rename (∀ p ∈ _, @LT.lt Nat _ (Prod.fst p) _) => hRR); (have hh := hRR p hp); refine neN ?_; (try dsimp only); omega))
section
variable {w : World} {p : Program} {lo : List Str} {mean : ExcName → Option Value} {mg mb : Str → Option Value}
theorem bits_lt (a : Int) : a.natAbs < 2 ^ Builtin.Int.intBits a := by
  unfold Builtin.Int.intBits
  split
  · rename_i h; simp at h; subst h; decide
  · exact Nat.lt_log2_self
theorem bits_pow {a : Int} {n B : Nat} (h : Builtin.Int.intBits a ≤ B) (hn : n ≠ 0) : Builtin.Int.intBits (a ^ n) ≤ B * n := by
  refine bits_of ?_
  rw [Int.natAbs_pow, Nat.pow_mul]
  exact Nat.pow_lt_pow_left (Nat.lt_of_lt_of_le (bits_lt a) (Nat.pow_le_pow_right (by decide) h)) hn
/-- a sum of signed powers -/
noncomputable def powAt (gs zs : List Int) (e : Nat) : Int := ((List.range 8).map fun k => gs.getD k 0 * zs.getD k 0 ^ (e + 1)).sum
theorem piece11 {nm : Str} {ar : Arguments} {bd : List Stmt} {sc : Scope} (hparts : partsAt 18 = some (nm, ar, bd, sc)) {st : Stmt} (hst : lawBd[11]? = some st)
    {L fa SU SI : Addr} {cd : Value} {h₀ : Heap} {s : Shared} {m : Str → Option Value} {itS itG : Array Value} {kS kG : Nat} {zs gs : List Int} {oS oN : Obj} {news : List (Addr × Obj)} {Q : Flow → Shared → Prop}
    (F : Fr h₀ L s.heap m) (X : (K w.params).In h₀) (T : Top p lo mean mg mb h₀) (B : Below callerA h₀ [] h₀) (N : News h₀ L s.heap news)
    (mSU : (SU, W.listOf itS kS) ∈ news) (IS : IntsAre itS.toList zs) (hz : zs.length = 8) (mS : (L + 1 + 1 + 1 + 1, oS) ∈ news) (dS : oS.data = .cell (some (.ref SU)))
    (mSI : (SI, W.listOf itG kG) ∈ news) (IG : IntsAre itG.toList gs) (hg : gs.length = 8) (mN : (L + 1 + 1 + 1 + 1 + 1, oN) ∈ news) (dN : oN.data = .cell (some (.ref SI)))
    (bz : ∀ x ∈ zs, Builtin.Int.intBits x ≤ 1048600) (bg : ∀ x ∈ gs, Builtin.Int.intBits x ≤ 1)
    (hQ : ∀ D ys h' tk', Fr h₀ L h' (fun z => if z = "powers" then some (.ref D) else m z) → News h₀ L h' ((D, lst ys) :: news) → IntsAre ys ((List.range 3).map (powAt gs zs)) → Q .next { s with heap := h', toks := tk' }) :
    wpAny (model P0 w) (callerA.deeper (envOfC nm sc L fa cd)) (exec st (envOfC nm sc L fa cd)) Q NoE s := by
  cases hparts
  cases hst
  refine Assign_ListComp_C (L := L) (m := m) (news := news) (h₀ := h₀) (a := 1) (b := 4) (n := 3) (by rfl) (by rfl) (by rfl) (fun _ => by rfl) (fun _ => by rfl) (by rfl) (by decide) (fun _ _ => by rfl) (by rfl) (by rfl)
    (fun i ys => IntsAre ys ((List.range i).map (powAt gs zs))) .nil (by decide) (by decide) (by rw [sizeLine_eq]; decide) ?_
  k_steps
  try unfold Rest
  rename IsRange _ _ _ _ _ _ _ _ => hR
  refine ⟨_, _, _, _, rfl, rfl, by assumption, by assumption, hR, ?_, ?_⟩
  · intro i t I oI C oC Z oZ D ys h tk E' hi hJ dZ F₁ N₁
    k_steps
    try unfold Rest
    refine ListComp_U (F₀ := F₁) (by rfl) (by decide) (by rfl) (by decide) (by rfl) ?_
    k_steps
    try unfold Rest
    rename IsRange _ _ _ 8 _ _ _ _ => hR2
    refine CompSrc.range (n := 8) rfl (by k_asm) (by k_asm) hR2 (by decide) (by decide) (by rw [sizeLine_eq]; decide) (fun g2 => ?_)
    refine comp_ind (fun j ys' nw => nw = (I, oI) :: (C, oC) :: (Z, oZ) :: (D, lst ys) :: news ∧ IntsAre ys' ((List.range j).map fun k => gs.getD k 0 * zs.getD k 0 ^ (i + 1))) ⟨rfl, .nil⟩ ?_ ?_
    · rintro j v I2 oI2 C2 oC2 D2 m₂ ys' nw h2 tk2 E2 hj ⟨t2, rfl⟩ ⟨rfl, hI'⟩ hC2 hxv F₂ N₂ off ne
      rw [Int.zero_add] at hxv
      k_steps
      try unfold Rest
      have mem : ∀ q ∈ news, q ∈ (I2, oI2) :: (C2, oC2) :: (D2, lst ys') :: (I, oI) :: (C, oC) :: (Z, oZ) :: (D, lst ys) :: news := fun q hq => .tail _ (.tail _ (.tail _ (.tail _ (.tail _ (.tail _ (.tail _ hq))))))
      refine item_anyK (N₂.isList (mem _ mSI)) IG (Int.natCast_nonneg _) (by rw [hg]; omega) (by omega) (fun t7 => ?_)
      rw [Int.toNat_natCast]
      k_steps
      try unfold Rest
      refine item_anyK (N₂.isList (mem _ mSU)) IS (Int.natCast_nonneg _) (by rw [hz]; omega) (by omega) (fun t8 => ?_)
      rw [Int.toNat_natCast]
      k_steps
      try unfold Rest
      have hb1 : Builtin.Int.intBits (gs.getD j 0) ≤ 1 := getD_in (P := fun x => Builtin.Int.intBits x ≤ 1) bg (by decide) j
      have hb2 : Builtin.Int.intBits (zs.getD j 0) ≤ 1048600 := getD_in (P := fun x => Builtin.Int.intBits x ≤ 1048600) bz (by decide) j
      refine pow_int (by omega) ?_ ?_
      · have h3 : Builtin.Int.intBits (zs.getD j 0) * (i + 1) ≤ 1048600 * 3 := Nat.mul_le_mul hb2 (by omega)
        have h4 : ((Builtin.Int.intBits (zs.getD j 0) * (i + 1) : Nat) : Int) ≤ ((1048600 * 3 : Nat) : Int) := Int.ofNat_le.mpr h3
        have h5 : ((Builtin.Int.intBits (zs.getD j 0) : Nat) : Int) * (1 + (i : Int)) = ((Builtin.Int.intBits (zs.getD j 0) * (i + 1) : Nat) : Int) := by
          rw [Int.natCast_mul, Int.natCast_add, Int.add_comm]; rfl
        rw [h5]
        exact Int.le_trans h4 (by decide)
      have h6 : (1 + (i : Int)).toNat = i + 1 := by omega
      rw [h6]
      refine mul_int ?_ (mulOk_of_bits hb1 (bits_pow hb2 (n := i + 1) (by omega)) (by omega))
      k_steps
      refine CompEnd.intro (by k_asm) (by k_asm) _ (fun q hq => hq) off trivial ⟨rfl, ?_⟩
      have e8 : (List.range (j + 1)).map (fun k => gs.getD k 0 * zs.getD k 0 ^ (i + 1)) = (List.range j).map (fun k => gs.getD k 0 * zs.getD k 0 ^ (i + 1)) ++ [gs.getD j 0 * zs.getD j 0 ^ (i + 1)] := by rw [List.range_succ, List.map_append]; rfl
      rw [e8]
      exact ints_snoc hI'
    · rintro ys' nw ⟨rfl, hI'⟩
      k_steps
      try unfold Rest
      refine LSm.sum_ints (by k_asm) (by k_asm) rfl (News.isList (by k_asm) (.head _)) hI' ?_
      intro h1 tk1 t1 F1 N1
      refine ⟨_, _, rfl, F1, fun q hq => N1 q (.tail _ hq), ?_⟩
      have e : (List.range (i + 1)).map (powAt gs zs) = (List.range i).map (powAt gs zs) ++ [powAt gs zs i] := by rw [List.range_succ, List.map_append]; rfl
      rw [e]
      exact ints_snoc hJ
  · intro ys D h tk hJ F₁ N₁
    exact hQ D ys _ _ F₁ N₁ hJ
end
end Mine
end
section
open PySem PySem.W PyProof.Rows PyProof.Rows.LCg PyProof.Rows.LCt
set_option Elab.async false
set_option maxRecDepth 100000
set_option maxHeartbeats 0
namespace Mine
theorem regKT20 : PySem.Challenge.rw_rw0097_01.foot = 7 ∧ K = K := by k_fill; exact ⟨rfl, rfl⟩
local macro_rules | `(tactic| walk_at "call ref") => `(tactic| (k_here; refine rest_here ?_))
local macro_rules | `(tactic| walk_at "eval Subscript BinOp Constant") => `(tactic| (k_here; refine rest_here ?_))
local macro_rules | `(tactic| walk_at "compareOp Eq ref ref") => `(tactic| (k_here; refine rest_here ?_))
local macro_rules | `(tactic| k_mem) => `(tactic| first | exact List.mem_cons_self | (with_reducible assumption) | (refine' List.mem_cons_of_mem _ ?_; k_mem))
local macro_rules | `(tactic| k_all) => `(tactic| first | assumption | (intro p hp; (rename (∀ p ∈ _, @LT.lt Nat _ (Prod.fst p) _) => hRR); (have hh := hRR p hp); refine neN ?_; (try dsimp only); omega))
theorem frBack2' {h₀ h : Heap} {L : Addr} {m : Str → Option Value} {x0 x1 : Str} {v0 v1 : Value} (F : Fr h₀ L h (fun y => if y = x0 then some v0 else if y = x1 then some v1 else m y)) (e0 : m x0 = some v0) (e1 : m x1 = some v1) : Fr h₀ L h m := by
  have : (fun y => if y = x0 then some v0 else if y = x1 then some v1 else m y) = m := by
    funext y
    by_cases hy : y = x0
    · rw [if_pos hy, hy, e0]
    · rw [if_neg hy]
      by_cases hz : y = x1
      · rw [if_pos hz, hz, e1]
      · rw [if_neg hz]
  rw [this] at F; exact F
theorem news_swap {h₀ h : Heap} {L : Addr} {a b : Addr × Obj} {R : List (Addr × Obj)} (N : News h₀ L h (a :: b :: R)) : News h₀ L h (b :: a :: R) := fun q hq => N q (by
  rcases List.mem_cons.mp hq with rfl | hq
  · exact .tail _ (.head _)
  rcases List.mem_cons.mp hq with rfl | hq
  · exact .head _
  · exact .tail _ (.tail _ hq))
section
variable {w : World} {p : Program} {lo : List Str} {mean : ExcName → Option Value} {mg mb : Str → Option Value}
theorem piece0 {nm : Str} {ar : Arguments} {bd : List Stmt} {sc : Scope} (hparts : partsAt 18 = some (nm, ar, bd, sc)) {st : Stmt} (hst : lawBd[0]? = some st)
    {L fa : Addr} {cd : Value} {h₀ : Heap} {s : Shared} {m : Str → Option Value} {Q : Flow → Shared → Prop} {S : Addr} {its : Array Value} {xs : List Int} {o : Obj} {v₀ : Option Value} {R : List (Addr × Obj)}
    (F : Fr h₀ L s.heap m) (X : (K w.params).In h₀) (T : Top p lo mean mg mb h₀) (B : Below callerA h₀ [] h₀) (hI : IntsAre its.toList xs) (hl : xs.length ≤ 63) (hS : h₀.IsList S its) (hm : m "script" = some (.ref S)) (N : News h₀ L s.heap ((L + 1, o) :: R)) (hR : ∀ q ∈ R, q.1 ≠ L + 1) (d : o.data = .cell v₀)
    (hQ : ∀ DF itF kF fs o' h' tk', Fr h₀ L h' m → News h₀ L h' ((L + 1, o') :: (DF, W.listOf itF kF) :: R) → o'.data = .cell (some (.ref DF)) → IntsAre itF.toList fs → DrawnIs xs fs → Off1 DF ((L + 1, o) :: R) → Q .next { s with heap := h', toks := tk' }) :
    wpAny (model P0 w) (callerA.deeper (envOfC nm sc L fa cd)) (exec st (envOfC nm sc L fa cd)) Q NoE s := by
  cases hparts
  cases hst
  have F3 := frOf1 F hm
  k_steps
  unfold Rest
  k_dflt (refine' spec_drawn S its xs hI hl _ _ _ _ _ _ _ _ _ _ _ _ _ _ _ _ _ _ ?k1 ?k2 ?k3 ?k4 ?k5 ?kK ?kS ?kd ?ku ?kR)
  case k1 => k_asm
  case k2 => k_asm
  case k3 => k_asm
  case k4 => k_asm
  case k5 => k_asm
  case kK => exact rfl
  case kS => exact hS
  case kd => decide
  case ku => decide
  case kR =>
    rintro v9 h9 tk9 nw9 F9 N9 ⟨DF, itF, kF, fs, rfl, rfl, IF, hdr, oF⟩
    try dsimp only
    have oF' := oF
    simp only [Off1] at oF
    k_steps
    rename News _ _ _ ((DF, W.listOf itF kF) :: (_, _) :: R) => N8
    exact hQ DF itF kF fs _ _ _ (frBack1 (by assumption) hm) (news_swap N8) (by assumption) IF hdr oF'
theorem piece1 {nm : Str} {ar : Arguments} {bd : List Stmt} {sc : Scope} (hparts : partsAt 18 = some (nm, ar, bd, sc)) {st : Stmt} (hst : lawBd[1]? = some st)
    {L fa : Addr} {cd : Value} {h₀ : Heap} {s : Shared} {m : Str → Option Value} {Q : Flow → Shared → Prop} {S : Addr} {its : Array Value} {xs : List Int} {o : Obj} {v₀ : Option Value} {R : List (Addr × Obj)}
    (F : Fr h₀ L s.heap m) (X : (K w.params).In h₀) (T : Top p lo mean mg mb h₀) (B : Below callerA h₀ [] h₀) (hI : IntsAre its.toList xs) (hl : xs.length ≤ 63) (hS : h₀.IsList S its) (hm : m "script" = some (.ref S)) (N : News h₀ L s.heap ((L + 1 + 1, o) :: R)) (hR : ∀ q ∈ R, q.1 ≠ L + 1 + 1) (d : o.data = .cell v₀)
    (hQ : ∀ t o' h' tk', Fr h₀ L h' m → News h₀ L h' ((L + 1 + 1, o') :: R) → o'.data = .cell (some (.int (xs.getD 3 7) t)) → Q .next { s with heap := h', toks := tk' }) :
    wpAny (model P0 w) (callerA.deeper (envOfC nm sc L fa cd)) (exec st (envOfC nm sc L fa cd)) Q NoE s := by
  have hp9 : partsAt 18 = some (nm, ar, bd, sc) := hparts
  cases hparts
  cases hst
  k_steps
  unfold Rest
  refine eval_c hp9 (by rfl) hI hl hS F hm X T B N ?_
  intro t h' tk' F' N'
  k_steps
  exact hQ _ _ _ _ (by assumption) (by assumption) (by assumption)
theorem piece2 {nm : Str} {ar : Arguments} {bd : List Stmt} {sc : Scope} (hparts : partsAt 18 = some (nm, ar, bd, sc)) {st : Stmt} (hst : lawBd[2]? = some st)
    {L fa : Addr} {cd : Value} {h₀ : Heap} {s : Shared} {m : Str → Option Value} {Q : Flow → Shared → Prop} {c : Int} {tc : Tok} {oc o : Obj} {v₀ : Option Value} {R : List (Addr × Obj)}
    (F : Fr h₀ L s.heap m) (X : (K w.params).In h₀) (T : Top p lo mean mg mb h₀) (B : Below callerA h₀ [] h₀) (mc : (L + 1 + 1, oc) ∈ R) (dc : oc.data = .cell (some (.int c tc))) (N : News h₀ L s.heap ((L + 1 + 1 + 1, o) :: R)) (hR : ∀ q ∈ R, q.1 ≠ L + 1 + 1 + 1) (d : o.data = .cell v₀)
    (hQ : ∀ t o' h' tk', Fr h₀ L h' m → News h₀ L h' ((L + 1 + 1 + 1, o') :: R) → o'.data = .cell (some (.int (7 + c.fmod 5) t)) → Q .next { s with heap := h', toks := tk' }) :
    wpAny (model P0 w) (callerA.deeper (envOfC nm sc L fa cd)) (exec st (envOfC nm sc L fa cd)) Q NoE s := by
  cases hparts
  cases hst
  k_steps
  exact hQ _ _ _ _ (by assumption) (by assumption) (by assumption)
theorem piece9 {nm : Str} {ar : Arguments} {bd : List Stmt} {sc : Scope} (hparts : partsAt 18 = some (nm, ar, bd, sc)) {st : Stmt} (hst : lawBd[9]? = some st)
    {L fa : Addr} {cd : Value} {h₀ : Heap} {s : Shared} {m : Str → Option Value} {Q : Flow → Shared → Prop} {news : List (Addr × Obj)}
    (F : Fr h₀ L s.heap m) (X : (K w.params).In h₀) (T : Top p lo mean mg mb h₀) (B : Below callerA h₀ [] h₀) (N : News h₀ L s.heap news)
    (hQ : ∀ t h' tk', Fr h₀ L h' (fun z => if z = "product" then some (.int (-6) t) else m z) → News h₀ L h' news → Q .next { s with heap := h', toks := tk' }) :
    wpAny (model P0 w) (callerA.deeper (envOfC nm sc L fa cd)) (exec st (envOfC nm sc L fa cd)) Q NoE s := by
  cases hparts
  cases hst
  k_steps
  exact hQ _ _ _ (by assumption) (by assumption)
theorem piece5 {nm : Str} {ar : Arguments} {bd : List Stmt} {sc : Scope} (hparts : partsAt 18 = some (nm, ar, bd, sc)) {st : Stmt} (hst : lawBd[5]? = some st)
    {L fa : Addr} {cd : Value} {h₀ : Heap} {s : Shared} {m : Str → Option Value} {Q : Flow → Shared → Prop} {o : Obj} {v₀ : Option Value} {R : List (Addr × Obj)}
    (F : Fr h₀ L s.heap m) (X : (K w.params).In h₀) (T : Top p lo mean mg mb h₀) (B : Below callerA h₀ [] h₀) (N : News h₀ L s.heap ((L + 1 + 1 + 1 + 1, o) :: R)) (hR : ∀ q ∈ R, q.1 ≠ L + 1 + 1 + 1 + 1) (d : o.data = .cell v₀)
    (hQ : ∀ D o' h' tk', Fr h₀ L h' m → News h₀ L h' ((L + 1 + 1 + 1 + 1, o') :: (D, W.listOf #[] 0) :: R) → (∀ q ∈ (L + 1 + 1 + 1 + 1, o) :: R, @Ne Nat q.1 D) → o'.data = .cell (some (.ref D)) → Q .next { s with heap := h', toks := tk' }) :
    wpAny (model P0 w) (callerA.deeper (envOfC nm sc L fa cd)) (exec st (envOfC nm sc L fa cd)) Q NoE s := by
  cases hparts
  cases hst
  k_steps
  rename (_ ∧ AllLt _ R) => l9
  rename News _ _ _ ((_, W.listOf #[] 0) :: (_, _) :: R) => N8
  refine hQ _ _ _ _ (by assumption) (news_swap N8) (fun q hq => ?_) (by assumption)
  rcases List.mem_cons.mp hq with rfl | hq
  · exact Nat.ne_of_lt l9.1
  · exact Nat.ne_of_lt (allLt_mem l9.2 q hq)
theorem piece6 {nm : Str} {ar : Arguments} {bd : List Stmt} {sc : Scope} (hparts : partsAt 18 = some (nm, ar, bd, sc)) {st : Stmt} (hst : lawBd[6]? = some st)
    {L fa : Addr} {cd : Value} {h₀ : Heap} {s : Shared} {m : Str → Option Value} {Q : Flow → Shared → Prop} {o : Obj} {v₀ : Option Value} {R : List (Addr × Obj)}
    (F : Fr h₀ L s.heap m) (X : (K w.params).In h₀) (T : Top p lo mean mg mb h₀) (B : Below callerA h₀ [] h₀) (N : News h₀ L s.heap ((L + 1 + 1 + 1 + 1 + 1, o) :: R)) (hR : ∀ q ∈ R, q.1 ≠ L + 1 + 1 + 1 + 1 + 1) (d : o.data = .cell v₀)
    (hQ : ∀ D o' h' tk', Fr h₀ L h' m → News h₀ L h' ((L + 1 + 1 + 1 + 1 + 1, o') :: (D, W.listOf #[] 0) :: R) → (∀ q ∈ (L + 1 + 1 + 1 + 1 + 1, o) :: R, @Ne Nat q.1 D) → o'.data = .cell (some (.ref D)) → Q .next { s with heap := h', toks := tk' }) :
    wpAny (model P0 w) (callerA.deeper (envOfC nm sc L fa cd)) (exec st (envOfC nm sc L fa cd)) Q NoE s := by
  cases hparts
  cases hst
  k_steps
  rename (_ ∧ AllLt _ R) => l9
  rename News _ _ _ ((_, W.listOf #[] 0) :: (_, _) :: R) => N8
  refine hQ _ _ _ _ (by assumption) (news_swap N8) (fun q hq => ?_) (by assumption)
  rcases List.mem_cons.mp hq with rfl | hq
  · exact Nat.ne_of_lt l9.1
  · exact Nat.ne_of_lt (allLt_mem l9.2 q hq)
theorem piece12 {nm : Str} {ar : Arguments} {bd : List Stmt} {sc : Scope} (hparts : partsAt 18 = some (nm, ar, bd, sc)) {st : Stmt} (hst : lawBd[12]? = some st)
    {L fa : Addr} {cd : Value} {h₀ : Heap} {s : Shared} {m : Str → Option Value} {Q : Flow → Shared → Prop} {D : Addr} {ys : List Value} {pr : Int} {tp : Tok} {news : List (Addr × Obj)}
    (F : Fr h₀ L s.heap m) (X : (K w.params).In h₀) (T : Top p lo mean mg mb h₀) (B : Below callerA h₀ [] h₀) (N : News h₀ L s.heap news) (eD : m "powers" = some (.ref D)) (mD : (D, lst ys) ∈ news) (ID : IntsAre ys [0, 0, pr]) (eP : m "product" = some (.int pr tp))
    (hQ : ∀ h' tk', Fr h₀ L h' m → News h₀ L h' news → Q (.ret (.bool true)) { s with heap := h', toks := tk' }) :
    wpAny (model P0 w) (callerA.deeper (envOfC nm sc L fa cd)) (exec st (envOfC nm sc L fa cd)) Q NoE s := by
  cases hparts
  cases hst
  have F3 := frOf2 F eD eP
  k_steps
  try unfold Rest
  rename News _ _ _ ((_, W.listOf #[_, _, _] 0) :: news) => N8
  refine ke_eq_ints (ys := [_, _, _]) (News.isList N8 (.tail _ mD)) (News.isList N8 (.head _)) ID (.cons _ _ (.cons _ _ (.cons _ _ .nil))) (by ke_room) ?_
  rw [decide_eq_true rfl]
  exact hQ _ _ (frBack2' (by assumption) eD eP) (fun q hq => N8 q (.tail _ hq))
theorem piece3 {nm : Str} {ar : Arguments} {bd : List Stmt} {sc : Scope} (hparts : partsAt 18 = some (nm, ar, bd, sc)) {st : Stmt} (hst : lawBd[3]? = some st)
    {L fa : Addr} {cd : Value} {h₀ : Heap} {s : Shared} {m : Str → Option Value} {Q : Flow → Shared → Prop} {news : List (Addr × Obj)}
    (F : Fr h₀ L s.heap m) (X : (K w.params).In h₀) (T : Top p lo mean mg mb h₀) (B : Below callerA h₀ [] h₀) (C28 : CodeHd h₀ 28 24) (C35 : CodeHd h₀ 35 31) (N : News h₀ L s.heap news)
    (hQ : ∀ H itH kH h' tk', Fr h₀ L h' (fun z => if z = "hidden" then some (.ref H) else m z) → News h₀ L h' ((H, W.listOf itH kH) :: news) → IntsAre itH.toList hidZ → (∀ q ∈ news, @LT.lt Nat _ q.1 H) → Q .next { s with heap := h', toks := tk' }) :
    wpAny (model P0 w) (callerA.deeper (envOfC nm sc L fa cd)) (exec st (envOfC nm sc L fa cd)) Q NoE s := by
  cases hparts
  cases hst
  k_steps
  unfold Rest
  have hL := spec_hidden (w := w) (p := p) (lo := lo) (mean := mean) (mg := mg) (mb := mb) news
  dsimp only [LClaim] at hL
  k_dflt (refine' hL _ _ _ _ _ _ _ _ _ _ _ _ _ _ _ _ _ ?k1 ?k2 ?k3 ?k4 ?k5 ?kK ?kC1 ?kC2 ?kd ?ku ?kR)
  case k1 => k_asm
  case k2 => k_asm
  case k3 => k_asm
  case k4 => k_asm
  case k5 => k_asm
  case kK => exact rfl
  case kC1 => exact C28
  case kC2 => exact C35
  case kd => decide
  case ku => decide
  case kR =>
    rintro v3 h3 tk3 nw3 F3' N3 ⟨H, itH, kH, rfl, rfl, IH, lH⟩
    clear hL
    k_steps
    exact hQ H itH kH _ _ (by assumption) (by assumption) IH lH
theorem piece4 {nm : Str} {ar : Arguments} {bd : List Stmt} {sc : Scope} (hparts : partsAt 18 = some (nm, ar, bd, sc)) {st : Stmt} (hst : lawBd[4]? = some st)
    {L fa : Addr} {cd : Value} {h₀ : Heap} {s : Shared} {m : Str → Option Value} {Q : Flow → Shared → Prop} {news : List (Addr × Obj)}
    (F : Fr h₀ L s.heap m) (X : (K w.params).In h₀) (T : Top p lo mean mg mb h₀) (B : Below callerA h₀ [] h₀) (C28 : CodeHd h₀ 28 24) (C35 : CodeHd h₀ 35 31) (N : News h₀ L s.heap news)
    (hQ : ∀ G oG kvs h' tk', Fr h₀ L h' (fun z => if z = "gaps" then some (.ref G) else m z) → News h₀ L h' ((G, oG) :: news) → oG.IsDictOf (PySem.intKind P0 w) kvs → GapsOk gapF kvs → (G == sysModules) = false → (∀ q ∈ news, @LT.lt Nat _ q.1 G) → Q .next { s with heap := h', toks := tk' }) :
    wpAny (model P0 w) (callerA.deeper (envOfC nm sc L fa cd)) (exec st (envOfC nm sc L fa cd)) Q NoE s := by
  cases hparts
  cases hst
  k_steps
  unfold Rest
  have hL := spec_gaps (w := w) (p := p) (lo := lo) (mean := mean) (mg := mg) (mb := mb) news
  dsimp only [LClaim] at hL
  k_dflt (refine' hL _ _ _ _ _ _ _ _ _ _ _ _ _ _ _ _ _ ?k1 ?k2 ?k3 ?k4 ?k5 ?kK ?kC1 ?kC2 ?kd ?ku ?kR)
  case k1 => k_asm
  case k2 => k_asm
  case k3 => k_asm
  case k4 => k_asm
  case k5 => k_asm
  case kK => exact rfl
  case kC1 => exact C28
  case kC2 => exact C35
  case kd => decide
  case ku => decide
  case kR =>
    rintro v3 h3 tk3 nw3 F3' N3 ⟨G, oG, kvs, rfl, rfl, dG, hG, loG, lG⟩
    clear hL
    k_steps
    exact hQ G oG kvs _ _ (by assumption) (by assumption) dG hG loG lG
end
end Mine
end
section
open PySem PySem.W PyProof.Rows PyProof.Rows.LCg PyProof.Rows.LCt
set_option Elab.async false
set_option maxRecDepth 100000
set_option maxHeartbeats 0
namespace Mine
theorem cubes (c x y z : Int) (e : Nat) (he : e < 3) : (1 * c^(e+1) + ((-1) * (c+x)^(e+1) + ((-1) * (c+y)^(e+1) + (1 * (c+(x+y))^(e+1) + ((-1) * (c+z)^(e+1) + (1 * (c+(x+z))^(e+1) + (1 * (c+(y+z))^(e+1) + ((-1) * (c+(x+(y+z)))^(e+1)))))))) = if e = 2 then -6*x*y*z else 0) := by
  match e, he with
  | 0, _ => rw [if_neg (by decide)]; grind
  | 1, _ => rw [if_neg (by decide)]; grind
  | 2, _ => rw [if_pos rfl]; grind
theorem pow_at {wd : Nat} {x y z : Int × Nat} {c : Int} {e : Nat} (he : e < 3) : powAt ((List.range 8).map (sgnAt [x, y, z])) ((List.range 8).map (sumAt wd [x, y, z] c)) e = if e = 2 then -6 * ownV wd x.1 * ownV wd y.1 * ownV wd z.1 else 0 := by
  have r8 : List.range 8 = [0, 1, 2, 3, 4, 5, 6, 7] := rfl
  have s : ∀ i, sumAt wd [x, y, z] c i = c + ((chosenL [x, y, z] i).map fun q => ownV wd q.1).sum := by
    intro i; unfold sumAt numsAt wordsAt; rw [List.map_map]; rfl
  have c0 : chosenL [x, y, z] 0 = [] := rfl
  have c1 : chosenL [x, y, z] 1 = [x] := rfl
  have c2 : chosenL [x, y, z] 2 = [y] := rfl
  have c3 : chosenL [x, y, z] 3 = [x, y] := rfl
  have c4 : chosenL [x, y, z] 4 = [z] := rfl
  have c5 : chosenL [x, y, z] 5 = [x, z] := rfl
  have c6 : chosenL [x, y, z] 6 = [y, z] := rfl
  have c7 : chosenL [x, y, z] 7 = [x, y, z] := rfl
  unfold powAt
  rw [r8]
  simp only [List.map_cons, List.map_nil, List.sum_cons, List.sum_nil, List.getD_cons_zero, List.getD_cons_succ, s, c0, c1, c2, c3, c4, c5, c6, c7, Int.add_zero, sgnAt, List.length_cons, List.length_nil]
  have := cubes c (ownV wd x.1) (ownV wd y.1) (ownV wd z.1) e he
  rw [← this]
  rfl
theorem pow_law {wd : Nat} {l : List (Int × Nat)} {c : Int} (hl : l.length = 3) : (List.range 3).map (powAt ((List.range 8).map (sgnAt l)) ((List.range 8).map (sumAt wd l c))) = [0, 0, prodTo wd (l.map (·.1)) 3] := by
  match l, hl with
  | [x, y, z], _ =>
    show [powAt _ _ 0, powAt _ _ 1, powAt _ _ 2] = _
    rw [pow_at (by decide), pow_at (by decide), pow_at (by decide)]
    rfl
theorem bits_max_add {a b : Int} {n : Nat} (ha : Builtin.Int.intBits a ≤ n) (hb : Builtin.Int.intBits b ≤ n) : Builtin.Int.intBits (a + b) ≤ n + 1 := by
  refine bits_of ?_
  have h1 := Nat.lt_of_lt_of_le (bits_lt a) (Nat.pow_le_pow_right (by decide : 0 < 2) ha)
  have h2 := Nat.lt_of_lt_of_le (bits_lt b) (Nat.pow_le_pow_right (by decide : 0 < 2) hb)
  rw [Nat.pow_succ]
  generalize 2 ^ n = P at *
  omega
theorem sum_bits {n : Nat} : ∀ {ns : List Int}, (∀ x ∈ ns, Builtin.Int.intBits x ≤ n) → Builtin.Int.intBits ns.sum ≤ n + ns.length
  | [], _ => by rw [List.sum_nil]; exact Nat.le_trans (by decide) (Nat.zero_le _)
  | a :: r, h => by
    rw [List.sum_cons, List.length_cons]
    exact bits_max_add (Nat.le_trans (h a (.head _)) (Nat.le_add_right _ _)) (sum_bits fun x hx => h x (.tail _ hx))
theorem sums_bits {wd : Nat} (hwd : 1 ≤ wd ∧ wd ≤ 11) {l : List (Int × Nat)} (hl : l.length = 3) (hup : Up 0 l) {c : Int} (hc : Builtin.Int.intBits c ≤ 1048576) : ∀ x ∈ (List.range 8).map (sumAt wd l c), Builtin.Int.intBits x ≤ 1048600 := by
  intro x hx
  obtain ⟨i, hi, rfl⟩ := List.mem_map.mp hx
  unfold sumAt
  have h1 : ∀ v ∈ numsAt wd l i, Builtin.Int.intBits v ≤ 400 := by
    intro v hv
    obtain ⟨wrd, hw, rfl⟩ := List.mem_map.mp hv
    obtain ⟨f, hf, rfl⟩ := List.mem_map.mp hw
    obtain ⟨v1, v2, v3⟩ := own_ords (up_flags hup f ((chosen_sub hl i).subset hf))
    exact bits_of (valD_lt hwd (fun x hx => ⟨by have := (v3 x hx).1; omega, by have := (v3 x hx).2; omega⟩) v2)
  have h2 : (numsAt wd l i).length ≤ 3 := by
    unfold numsAt wordsAt
    rw [List.length_map, List.length_map]
    have := (chosen_sub hl i).length_le
    omega
  have h3 := sum_bits h1
  refine Nat.le_trans (bits_max_add hc (Nat.le_trans h3 ?_)) (by decide)
  omega
theorem sgn_bits {l : List (Int × Nat)} (hl : l.length = 3) : ∀ x ∈ (List.range 8).map (sgnAt l), Builtin.Int.intBits x ≤ 1 := by
  intro x hx
  obtain ⟨i, hi, rfl⟩ := List.mem_map.mp hx
  have := (chosen_sub hl i).length_le
  have key : ∀ n ≤ 3, Builtin.Int.intBits ((-1) ^ n) ≤ 1 := by decide
  exact key _ (by omega)
end Mine
end
section
open PySem PySem.W PyProof.Rows PyProof.Rows.LCg PyProof.Rows.LCt
set_option Elab.async false
set_option maxRecDepth 100000
set_option maxHeartbeats 0
namespace Mine
local macro_rules | `(tactic| k_mem) => `(tactic| first | exact List.mem_cons_self | (with_reducible assumption) | (refine' List.mem_cons_of_mem _ ?_; k_mem))
theorem news_nil {h₀ h : Heap} {L : Addr} : News h₀ L h [] := fun _ hq => nomatch hq
theorem news_add {h₀ h : Heap} {L : Addr} {big R : List (Addr × Obj)} {a : Addr × Obj} (N : News h₀ L h big) (ha : a ∈ big) (NR : News h₀ L h R) : News h₀ L h (a :: R) := fun q hq => by
  rcases List.mem_cons.mp hq with rfl | hq
  · exact N _ ha
  · exact NR q hq
theorem all_nil {P : Addr × Obj → Prop} : ∀ q ∈ ([] : List (Addr × Obj)), P q := fun _ hq => nomatch hq
theorem all_add {P : Addr × Obj → Prop} {R : List (Addr × Obj)} {a : Addr × Obj} (ha : P a) (NR : ∀ q ∈ R, P q) : ∀ q ∈ a :: R, P q := fun q hq => by
  rcases List.mem_cons.mp hq with rfl | hq
  · exact ha
  · exact NR q hq
local macro_rules | `(tactic| walk_at "nm look") => `(tactic| first | assumption | exact if_pos rfl | (refine (if_neg (by decide)).trans ?_; walk_at "nm look"))
local macro_rules | `(tactic| walk_at "lt one") => `(tactic| first | assumption | exact Nat.lt_succ_self _ | (refine Nat.lt_succ_of_lt ?_; walk_at "lt one"))
local macro_rules | `(tactic| walk_at "ne one") => `(tactic| ((show @Ne Nat _ _); (try dsimp only); first | assumption | exact Ne.symm (by assumption) | exact Nat.ne_of_lt (by walk_at "lt one") | exact Nat.ne_of_gt (by walk_at "lt one") | decide))
local macro_rules | `(tactic| walk_at "led mv") => `(tactic| first | exact news_nil | (refine' news_add ?lmN ?lmM ?_; (case lmN => assumption); (case lmM => k_mem); walk_at "led mv"))
local macro_rules | `(tactic| walk_at "led ne") => `(tactic| first | exact all_nil | (refine all_add (by walk_at "ne one") ?_; walk_at "led ne"))
local macro_rules | `(tactic| walk_at "led in") => `(tactic| first | exact all_nil | (refine all_add (by k_mem) ?_; walk_at "led in"))
local macro_rules | `(tactic| walk_at "led fx") => `(tactic| first | exact all_nil | (refine all_add ⟨(by walk_at "ne one"), (by walk_at "ne one"), (by walk_at "ne one"), (by walk_at "ne one")⟩ ?_; walk_at "led fx"))
local macro_rules | `(tactic| walk_at "led fy") => `(tactic| first | exact all_nil | (refine all_add ⟨(by walk_at "ne one"), (by walk_at "ne one")⟩ ?_; walk_at "led fy"))
theorem lawBd_13 : ∃ a0 a1 a2 a3 a4 a5 a6 a7 a8 a9 a10 a11 a12, lawBd = [a0, a1, a2, a3, a4, a5, a6, a7, a8, a9, a10, a11, a12] := ⟨_, _, _, _, _, _, _, _, _, _, _, _, _, rfl⟩
theorem fmod5 (c : Int) : 0 ≤ c.fmod 5 ∧ c.fmod 5 ≤ 4 := by
  rw [Int.fmod_eq_emod_of_nonneg _ (by decide)]; omega
/-- the end of the law's frame -/
noncomputable def LawEnd (h₀ : Heap) (L : Addr) (s : Shared) (f : Flow) (s' : Shared) : Prop := f = .ret (.bool true) ∧ ∃ h tk m nw ps ps', s' = { s with heap := h, toks := tk } ∧ Fr h₀ L h m ∧ News h₀ L h nw ∧ (24, tabObj ps) ∈ nw ∧ (31, tabObj ps') ∈ nw
theorem law_walk {nm : Str} {ar : Arguments} {bd : List Stmt} {sc : Scope} (hparts : partsAt 18 = some (nm, ar, bd, sc)) {w : World} {p : Program} {lo : List Str} {mean : ExcName → Option Value} {mg mb : Str → Option Value}
    {L fa S : Addr} {cd : Value} {h₀ : Heap} {s : Shared} {m : Str → Option Value} {o1 o2 o3 o4 o5 o6 o7 : Obj} {its : Array Value} {xs : List Int} (hI : IntsAre its.toList xs) (hl : xs.length ≤ 63) (hb : ∀ x ∈ xs, Builtin.Int.intBits x ≤ 1048576)
    (hS : h₀.IsList S its) (F : Fr h₀ L s.heap m) (hm : m "script" = some (.ref S)) (X : (K w.params).In h₀) (T : Top p lo mean mg mb h₀) (B : Below callerA h₀ [] h₀) (C28 : CodeHd h₀ 28 24) (C35 : CodeHd h₀ 35 31)
    (d1 : o1.data = .cell none) (d2 : o2.data = .cell none) (d3 : o3.data = .cell none) (d4 : o4.data = .cell none) (d5 : o5.data = .cell none) (d6 : o6.data = .cell none) (d7 : o7.data = .cell none) (l24 : @LT.lt Nat _ 24 L ∧ @LT.lt Nat _ 31 L)
    (N : News h₀ L s.heap [(L + 1 + 1 + 1 + 1 + 1 + 1 + 1, o7), (L + 1 + 1 + 1 + 1 + 1 + 1, o6), (L + 1 + 1 + 1 + 1 + 1, o5), (L + 1 + 1 + 1 + 1, o4), (L + 1 + 1 + 1, o3), (L + 1 + 1, o2), (L + 1, o1), (24, tabObj #[]), (31, tabObj #[])]) :
    wpAny (model P0 w) (callerA.deeper (envOfC nm sc L fa cd)) (execs bd (envOfC nm sc L fa cd)) (LawEnd h₀ L s) NoE s := by
  have hbd : bd = lawBd := by cases hparts; rfl
  subst hbd
  obtain ⟨a0, a1, a2, a3, a4, a5, a6, a7, a8, a9, a10, a11, a12, hbd⟩ := lawBd_13
  have g0 : lawBd[0]? = some a0 := by rw [hbd]; rfl
  have g1 : lawBd[1]? = some a1 := by rw [hbd]; rfl
  have g2 : lawBd[2]? = some a2 := by rw [hbd]; rfl
  have g3 : lawBd[3]? = some a3 := by rw [hbd]; rfl
  have g4 : lawBd[4]? = some a4 := by rw [hbd]; rfl
  have g5 : lawBd[5]? = some a5 := by rw [hbd]; rfl
  have g6 : lawBd[6]? = some a6 := by rw [hbd]; rfl
  have g7 : lawBd[7]? = some a7 := by rw [hbd]; rfl
  have g8 : lawBd[8]? = some a8 := by rw [hbd]; rfl
  have g9 : lawBd[9]? = some a9 := by rw [hbd]; rfl
  have g10 : lawBd[10]? = some a10 := by rw [hbd]; rfl
  have g11 : lawBd[11]? = some a11 := by rw [hbd]; rfl
  have g12 : lawBd[12]? = some a12 := by rw [hbd]; rfl
  have hbc : Builtin.Int.intBits (xs.getD 3 7) ≤ 1048576 := by
    rw [List.getD_eq_getElem?_getD]
    rcases Nat.lt_or_ge 3 xs.length with h | h
    · rw [List.getElem?_eq_getElem h]; exact hb _ (List.getElem_mem h)
    · rw [List.getElem?_eq_none h]; exact Nat.le_trans (show Builtin.Int.intBits 7 ≤ 3 by decide) (by decide)
  rw [show execs lawBd (envOfC nm sc L fa cd) = execs [a0, a1, a2, a3, a4, a5, a6, a7, a8, a9, a10, a11, a12] (envOfC nm sc L fa cd) by rw [hbd]]
  obtain ⟨l24, l31⟩ := l24
  -- flags
  refine wpAny_execs_cons (piece0 hparts g0 (R := [(L + 1 + 1 + 1 + 1 + 1 + 1 + 1, o7), (L + 1 + 1 + 1 + 1 + 1 + 1, o6), (L + 1 + 1 + 1 + 1 + 1, o5), (L + 1 + 1 + 1 + 1, o4), (L + 1 + 1 + 1, o3), (L + 1 + 1, o2), (24, tabObj #[]), (31, tabObj #[])]) F X T B hI hl hS hm (by walk_at "led mv") (by walk_at "led ne") d1 ?_)
  intro DF itF kF fs oF h1 tk1 F1 N1 dF IF hdr offF
  obtain ⟨l, hl3, hup, rfl⟩ := drawn_up hdr
  simp only [Off1, and_true] at offF
  obtain ⟨e1, e2, e3, e4, e5, e6, e7, e8, e9⟩ := offF
  -- c
  refine wpAny_execs_cons (piece1 hparts g1 (R := [(L + 1, oF), (DF, W.listOf itF kF), (L + 1 + 1 + 1 + 1 + 1 + 1 + 1, o7), (L + 1 + 1 + 1 + 1 + 1 + 1, o6), (L + 1 + 1 + 1 + 1 + 1, o5), (L + 1 + 1 + 1 + 1, o4), (L + 1 + 1 + 1, o3), (24, tabObj #[]), (31, tabObj #[])]) F1 X T B hI hl hS hm (by walk_at "led mv") (by walk_at "led ne") d2 ?_)
  intro tc oc h2 tk2 F2 N2 dc
  -- width
  refine wpAny_execs_cons (piece2 hparts g2 (R := [(L + 1 + 1, oc), (L + 1, oF), (DF, W.listOf itF kF), (L + 1 + 1 + 1 + 1 + 1 + 1 + 1, o7), (L + 1 + 1 + 1 + 1 + 1 + 1, o6), (L + 1 + 1 + 1 + 1 + 1, o5), (L + 1 + 1 + 1 + 1, o4), (24, tabObj #[]), (31, tabObj #[])]) F2 X T B (by k_mem) dc (by walk_at "led mv") (by walk_at "led ne") d3 ?_)
  intro tw oW h3 tk3 F3 N3 dW
  have hwd : 7 ≤ 7 + (xs.getD 3 7).fmod 5 ∧ 7 + (xs.getD 3 7).fmod 5 ≤ 11 := by have := fmod5 (xs.getD 3 7); omega
  generalize hcc : xs.getD 3 7 = c at *
  generalize 7 + c.fmod 5 = width at *
  -- hidden, gaps
  refine wpAny_execs_cons (piece3 hparts g3 F3 X T B C28 C35 N3 ?_)
  intro H itH kH h4 tk4 F4 N4 IH lH
  simp only [List.forall_mem_cons] at lH
  obtain ⟨b1, b2, b3, b4, b5, b6, b7, b8, b9, b10, -⟩ := lH
  refine wpAny_execs_cons (piece4 hparts g4 F4 X T B C28 C35 N4 ?_)
  intro G oG kvs h5 tk5 F5 N5 dG hG loG lG
  simp only [List.forall_mem_cons] at lG
  obtain ⟨r1, r2, r3, r4, r5, r6, r7, r8, r9, r10, r11, -⟩ := lG
  -- sums, signs
  refine wpAny_execs_cons (piece5 hparts g5 (R := [(G, oG), (H, W.listOf itH kH), (L + 1 + 1 + 1, oW), (L + 1 + 1, oc), (L + 1, oF), (DF, W.listOf itF kF), (L + 1 + 1 + 1 + 1 + 1 + 1 + 1, o7), (L + 1 + 1 + 1 + 1 + 1 + 1, o6), (L + 1 + 1 + 1 + 1 + 1, o5), (24, tabObj #[]), (31, tabObj #[])]) F5 X T B (by walk_at "led mv") (by walk_at "led ne") d4 ?_)
  intro SU oS h6 tk6 F6 N6 nSU dS
  simp only [List.forall_mem_cons] at nSU
  obtain ⟨u1, u2, u3, u4, u5, u6, u7, u8, u9, u10, u11, u12, -⟩ := nSU
  refine wpAny_execs_cons (piece6 hparts g6 (R := [(L + 1 + 1 + 1 + 1, oS), (SU, W.listOf #[] 0), (G, oG), (H, W.listOf itH kH), (L + 1 + 1 + 1, oW), (L + 1 + 1, oc), (L + 1, oF), (DF, W.listOf itF kF), (L + 1 + 1 + 1 + 1 + 1 + 1 + 1, o7), (L + 1 + 1 + 1 + 1 + 1 + 1, o6), (24, tabObj #[]), (31, tabObj #[])]) F6 X T B (by walk_at "led mv") (by walk_at "led ne") d5 ?_)
  intro SI oN h7 tk7 F7 N7 nSI dN
  simp only [List.forall_mem_cons] at nSI
  obtain ⟨v1, v2, v3, v4, v5, v6, v7, v8, v9, v10, v11, v12, v13, -⟩ := nSI
  -- the first loop
  have Kp : Kept w h₀ [(L + 1, oF), (DF, W.listOf itF kF), (H, W.listOf itH kH), (G, oG), (L + 1 + 1, oc), (L + 1 + 1 + 1, oW), (L + 1 + 1 + 1 + 1, oS), (L + 1 + 1 + 1 + 1 + 1, oN), (L + 1 + 1 + 1 + 1 + 1 + 1 + 1, o7), (24, tabObj #[])] L SU SI DF H G oF oc oW oS oN oG itF itH kF kH kvs l c width tc tw :=
    { hl := hl3, hup := hup, mF := by k_mem, dF := dF, mDF := by k_mem, IF := IF, mH := by k_mem, IH := IH, mG := by k_mem, loG := loG, dG := dG, hG := hG, mc := by k_mem, dc := dc, mW := by k_mem, dW := dW, hwd := ⟨by omega, by omega⟩, mS := by k_mem, dS := dS, mN := by k_mem, dN := dN, hfx := by walk_at "led fx", hSS := by walk_at "ne one" }
  refine wpAny_execs_cons (first_loop hparts g7 Kp X T B C28 C35 ⟨#[], 0, #[], 0, #[], o6, (by walk_at "led in"), (by k_mem), (by k_mem), (by k_mem), .inl rfl, (by k_mem), ⟨_, d6⟩, .nil, .nil, (by walk_at "nm look"), (by walk_at "nm look"), fun h => absurd h (by decide)⟩ F7 N7 ?_)
  intro m8 news8 h8 tk8 hJ8 F8 N8
  obtain ⟨itS, kS, itG, kG, ps, och, hf8, mSU, mSI, m31, -, -, -, IS, IG, -, -, hnum⟩ := hJ8
  obtain ⟨NU, ysN, eN, mN, IN⟩ := hnum (by decide)
  have iF := hf8 (L + 1, oF) (by k_mem)
  have iDF := hf8 (DF, W.listOf itF kF) (by k_mem)
  have ic := hf8 (L + 1 + 1, oc) (by k_mem)
  have iW := hf8 (L + 1 + 1 + 1, oW) (by k_mem)
  have iS := hf8 (L + 1 + 1 + 1 + 1, oS) (by k_mem)
  have iN := hf8 (L + 1 + 1 + 1 + 1 + 1, oN) (by k_mem)
  have i7 := hf8 (L + 1 + 1 + 1 + 1 + 1 + 1 + 1, o7) (by k_mem)
  have i24 := hf8 (24, tabObj #[]) (by k_mem)
  -- the numbers
  refine wpAny_execs_cons (piece8 hparts g8 F8 X T B N8 mSU IS (by simp) iS dS ic dc eN mN IN (nums_all hl3) ?_)
  intro h9 tk9 F9 N9
  refine wpAny_execs_cons (piece9 hparts g9 F9 X T B N9 ?_)
  intro tp h10 tk10 F10 N10
  -- the second loop
  have Kp2 : Kept2 [(L + 1, oF), (DF, W.listOf itF kF), (L + 1 + 1, oc), (L + 1 + 1 + 1, oW), (L + 1 + 1 + 1 + 1, oS), (SU, W.listOf itS kS), (L + 1 + 1 + 1 + 1 + 1, oN), (SI, W.listOf itG kG), (31, tabObj ps)] L SU DF oF oc oW oS itF itS kF kS l c width tc tw :=
    { hl := hl3, hup := hup, mF := by k_mem, dF := dF, mDF := by k_mem, IF := IF, mc := by k_mem, dc := dc, mW := by k_mem, dW := dW, hwd := hwd, mS := by k_mem, dS := dS, mSU := by k_mem, IS := IS, hfx := by walk_at "led fy" }
  refine wpAny_execs_cons (second_loop hparts g10 Kp2 X T B C28 C35 ⟨#[], o7, tp, (by walk_at "led in"), i24, .inl rfl, i7, ⟨_, d7⟩, (by walk_at "nm look")⟩ F10 N10 ?_)
  intro m11 news11 h11 tk11 hJ11 F11 N11
  obtain ⟨ps2, oO, t11, hf11, m24, -, -, -, eP⟩ := hJ11
  -- the powers
  refine wpAny_execs_cons (piece11 hparts g11 F11 X T B N11 (hf11 (SU, W.listOf itS kS) (by k_mem)) IS (by simp) (hf11 (L + 1 + 1 + 1 + 1, oS) (by k_mem)) dS (hf11 (SI, W.listOf itG kG) (by k_mem)) IG (by simp) (hf11 (L + 1 + 1 + 1 + 1 + 1, oN) (by k_mem)) dN (sums_bits ⟨by omega, by omega⟩ hl3 hup hbc) (sgn_bits hl3) ?_)
  intro D ysP h12 tk12 F12 N12 IP
  rw [pow_law hl3] at IP
  refine wpAny_execs_cons (piece12 hparts g12 F12 X T B N12 (by walk_at "nm look") (.head _) IP (by walk_at "nm look") ?_)
  intro h13 tk13 F13 N13
  exact ⟨rfl, _, _, _, _, ps2, ps, rfl, F13, N13, .tail _ m24, .tail _ (hf11 (31, tabObj ps) (by k_mem))⟩
end Mine
end
section
open PySem PySem.W PyProof.Rows PyProof.Rows.LCg PyProof.Rows.LCt
set_option Elab.async false
set_option maxRecDepth 100000
set_option maxHeartbeats 0
namespace Mine
theorem regKL : PySem.Challenge.rw_rw0097_01.foot = 7 ∧ K = K := by k_fill; exact ⟨rfl, rfl⟩
theorem law_holds : PySem.Challenge.rw_rw0097_01.Holds := by
  w_on
  refine holds_law (by kernel_rfl) fun said => ?_
  refine holds_open (q := q) (loose := loose) (Xt := fun s => xlAt q [] s && recOk (RowW.records PySem.Challenge.rw_rw0097_01.row.toRowW) s) (XP := XL q []) (Yf := Hook.obs HK) (Ya := Hook.val HK) (YP := Hook.says HK) (N := 28300) ?hl (Hook.of HK) (Hook.keeps HK) (fun s e => xl_of s (Bool.and_eq_true_iff.mp e).1) XL.keeps (by rfl) (by rfl) (by rfl) (fun s e => recFacts_of (Bool.and_eq_true_iff.mp e).2) (by rfl) (by first | assumption | decide +kernel) (by decide +kernel) ⟨rfl, rfl, rfl, rfl, rfl, by decide +kernel⟩ ?hw ?hc
  case hw => w_witness2
  case hl => exact h_left
  case hc =>
    k_fill
    intro w s₀ s₁ mg mb G Y fa o pm cd doc dV kV ho hd hcd hD hmg hg args vals as hpre hlay hrd hwl hlo
    have KX := kIn_of Y
    kn_any hmg
    have X := (Ground.X G).1
    have V := (Ground.X G).2
    refine Ground.open G ?_
    intro T B D TE TW
    try (refine guard_noD D (by decide +kernel) ?_; clear D)
    kn_lay T hmg ho hd cd
    clear hmg
    wrow_args hpre hlay hrd hwl hlo
    all_goals (first | refine callC_kw (enter_call ?_) | refine enter_call ?_)
    all_goals w_top on
    all_goals kn_posts
    all_goals w_call any ho hd hcd hD T F
    all_goals clear hd
    all_goals kn_ghosts F T
    all_goals k_drop
    rename IntsAre _ _ => hI9
    rename (PyData.list (List.map PyData.int _)).layable0 = true => hL9
    rename ¬ _ < _ => hlen9
    rename Fr _ _ _ _ => F9
    rename News _ _ _ _ => N9
    rename Below _ _ _ _ => B9
    rename Top topProg _ _ _ _ _ => T9
    rename Frag.In _ (ghostOf _ _) => X9
    rename _ ∧ _ => l9
    have hb9 : ∀ x ∈ _, Builtin.Int.intBits x ≤ 1048576 := fun x hx => PyData.bits_item_of_ints hL9 hx
    refine noE (wpAny_mono (law_walk (by rfl) hI9 (by omega) hb9 lifted F9 (by rfl) X9 T9 B9 (by assumption) (by assumption) ?d1 ?d2 ?d3 ?d4 ?d5 ?d6 ?d7 l9 N9) ?_ (fun _ _ y => y.elim))
    case d1 => assumption
    case d2 => assumption
    case d3 => assumption
    case d4 => assumption
    case d5 => assumption
    case d6 => assumption
    case d7 => assumption
    rintro f s' ⟨rfl, h, tk, m', nw, ps, ps', rfl, FE, NE, m24, m31⟩
    clear F9 N9
    refine ⟨?_, GrownAt.of NE m24, GrownAt.of NE m31, trivial⟩
    dsimp only
    k_end
    wrow_close
end Mine
end
set_option Elab.async false in
set_option maxRecDepth 100000 in
theorem PySem.Challenge.cw_rw0097_01_holds : PySem.Challenge.rw_rw0097_01.Holds := by
  exact Mine.law_holds
