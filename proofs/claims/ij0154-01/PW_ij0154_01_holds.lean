import PyProof.Rows.All
import Wide.All
import OpenK.AllK
import Wide.FinOn
import PySem.Challenge.RW_ij0154_01
section
open PySem PySem.W PyProof.Rows
set_option Elab.async false
set_option maxRecDepth 100000
set_option maxHeartbeats 8000000
namespace Mine
/-- the row's own program -/
noncomputable def pw : Program := PySem.Challenge.pw_ij0154_01
noncomputable def stmtAt (i : Nat) : Stmt := pw.main.body.getD i default
/-- the method of the class that stands in the text -/
noncomputable def inClass : Stmt → Nat → Stmt
  | .ClassDef _ _ _ b _ _ _ _ _ _ _, i => b.getD i default
  | _, _ => default
/-- a function's object, by its def -/
noncomputable def fnO (q : String) (md : String) (mt : Nat) (c : Addr) (df : Value) : Stmt → Obj
  | .FunctionDef n ps b _ _ _ sc _ _ _ => ⟨.type "function", none, .func { name := n, qualname := Str.ofString q, params := ps, body := .stmts b, scope := sc, globals := (nat_lit 3), closure := [], defaults := df, kwdefaults := .none, pyModule := .str (Str.ofString md) mt, code := .ref c }, #[]⟩
  | _ => default
/-- the heap that the top leaves, as far as the law comes to it -/
noncomputable def KKf (P : Params) (s1 sI s4 s6 s8 s9 s10 s11 s12 s13 : Stmt) : Frag := [
  (nat_lit 2, { cls := Value.none, data := Data.dict #[] }),
  (nat_lit 3, { cls := Value.type "dict", data := Data.dict #[{ hash := PyData.keyHash P (Str.ofString "__name__"), key := Value.str (Str.ofString "__name__") (nat_lit 165), val := Value.str (Str.ofString "law_ij0154_01") (nat_lit 253) }, { hash := PyData.keyHash P (Str.ofString "__doc__"), key := Value.str (Str.ofString "__doc__") (nat_lit 166), val := Value.none }, { hash := PyData.keyHash P (Str.ofString "__package__"), key := Value.str (Str.ofString "__package__") (nat_lit 167), val := Value.none }, { hash := PyData.keyHash P (Str.ofString "__loader__"), key := Value.str (Str.ofString "__loader__") (nat_lit 168), val := Value.builtin "__main__.__loader__#opaque" }, { hash := PyData.keyHash P (Str.ofString "__spec__"), key := Value.str (Str.ofString "__spec__") (nat_lit 169), val := Value.none }, { hash := PyData.keyHash P (Str.ofString "__annotations__"), key := Value.str (Str.ofString "__annotations__") (nat_lit 170), val := Value.ref (nat_lit 6) }, { hash := PyData.keyHash P (Str.ofString "__builtins__"), key := Value.str (Str.ofString "__builtins__") (nat_lit 171), val := Value.ref (nat_lit 4) }, { hash := PyData.keyHash P (Str.ofString "__file__"), key := Value.str (Str.ofString "__file__") (nat_lit 173), val := Value.str (Str.ofString "/claim/cut.py") (nat_lit 172) }, { hash := PyData.keyHash P (Str.ofString "__cached__"), key := Value.str (Str.ofString "__cached__") (nat_lit 174), val := Value.none }, { hash := PyData.keyHash P (Str.ofString "get_parent_map"), key := Value.str (Str.ofString "get_parent_map") (nat_lit 198), val := Value.ref (nat_lit 21) }, { hash := PyData.keyHash P (Str.ofString "_SelectorContext"), key := Value.str (Str.ofString "_SelectorContext") (nat_lit 228), val := Value.ref (nat_lit 38) }, { hash := PyData.keyHash P (Str.ofString "cmp_to_key"), key := Value.str (Str.ofString "cmp_to_key") (nat_lit 239), val := Value.ref (nat_lit 49) }, { hash := PyData.keyHash P (Str.ofString "_initial_missing"), key := Value.str (Str.ofString "_initial_missing") (nat_lit 240), val := Value.ref (nat_lit 50) }, { hash := PyData.keyHash P (Str.ofString "reduce"), key := Value.str (Str.ofString "reduce") (nat_lit 252), val := Value.ref (nat_lit 58) }, { hash := PyData.keyHash P (Str.ofString "_law_context"), key := Value.str (Str.ofString "_law_context") (nat_lit 263), val := Value.ref (nat_lit 65) }, { hash := PyData.keyHash P (Str.ofString "_law_way"), key := Value.str (Str.ofString "_law_way") (nat_lit 269), val := Value.ref (nat_lit 70) }, { hash := PyData.keyHash P (Str.ofString "_law_shared"), key := Value.str (Str.ofString "_law_shared") (nat_lit 278), val := Value.ref (nat_lit 77) }, { hash := PyData.keyHash P (Str.ofString "_law_compare"), key := Value.str (Str.ofString "_law_compare") (nat_lit 289), val := Value.ref (nat_lit 84) }, { hash := PyData.keyHash P (Str.ofString "_law_round"), key := Value.str (Str.ofString "_law_round") (nat_lit 300), val := Value.ref (nat_lit 91) }, { hash := PyData.keyHash P (Str.ofString "law"), key := Value.str (Str.ofString "law") (nat_lit 306), val := Value.ref (nat_lit 96) }] (nat_lit 20) }),
  (nat_lit 6, { cls := Value.type "dict", data := Data.dict #[] }),
  (nat_lit 15, { cls := Value.type "tuple", data := Data.seq #[] }),
  (nat_lit 17, { cls := Value.type "tuple", data := Data.seq #[Value.str (Str.ofString "context") (nat_lit 192), Value.str (Str.ofString "parent_map") (nat_lit 193), Value.str (Str.ofString "p") (nat_lit 194), Value.str (Str.ofString "e") (nat_lit 195)] }),
  (nat_lit 18, { cls := Value.type "tuple", data := Data.seq #[] }),
  (nat_lit 20, { cls := Value.type "code", data := Data.fields #[Value.str (Str.ofString "get_parent_map") (nat_lit 189), Value.str (Str.ofString "get_parent_map") (nat_lit 190), Value.str (Str.ofString "/claim/cut.py") (nat_lit 191), Value.int 2 (nat_lit 0), Value.int 1 (nat_lit 0), Value.int 0 (nat_lit 0), Value.int 0 (nat_lit 0), Value.int 3 (nat_lit 0), Value.ref (nat_lit 15), Value.bool true, Value.int 181 (nat_lit 0), Value.ref (nat_lit 16), Value.none, Value.ref (nat_lit 17), Value.ref (nat_lit 18), Value.ref (nat_lit 19), Value.int 196 (nat_lit 0), Value.int 2 (nat_lit 0), Value.str (Str.ofString "/claim/cut.py") (nat_lit 197)] }),
  (nat_lit 21, fnO "get_parent_map" "cpy313.xml.etree.ElementPath" (nat_lit 187) (nat_lit 20) .none s1),
  (nat_lit 29, { cls := Value.type "tuple", data := Data.seq #[] }),
  (nat_lit 31, { cls := Value.type "tuple", data := Data.seq #[Value.str (Str.ofString "self") (nat_lit 215), Value.str (Str.ofString "root") (nat_lit 216)] }),
  (nat_lit 32, { cls := Value.type "tuple", data := Data.seq #[] }),
  (nat_lit 34, { cls := Value.type "code", data := Data.fields #[Value.str (Str.ofString "__init__") (nat_lit 212), Value.str (Str.ofString "_SelectorContext.__init__") (nat_lit 213), Value.str (Str.ofString "/claim/cut.py") (nat_lit 214), Value.int 13 (nat_lit 0), Value.int 2 (nat_lit 0), Value.int 0 (nat_lit 0), Value.int 0 (nat_lit 0), Value.int 3 (nat_lit 0), Value.ref (nat_lit 29), Value.bool true, Value.int 181 (nat_lit 0), Value.ref (nat_lit 30), Value.none, Value.ref (nat_lit 31), Value.ref (nat_lit 32), Value.ref (nat_lit 33), Value.int 217 (nat_lit 0), Value.int 13 (nat_lit 0), Value.str (Str.ofString "/claim/cut.py") (nat_lit 218)] }),
  (nat_lit 35, fnO "_SelectorContext.__init__" "cpy313.xml.etree.ElementPath" (nat_lit 187) (nat_lit 34) .none sI),
  (nat_lit 36, { cls := Value.type "tuple", data := Data.seq #[Value.str (Str.ofString "root") (nat_lit 220)] }),
  (nat_lit 37, { cls := Value.type "dict", data := Data.dict #[{ hash := PyData.keyHash P (Str.ofString "__module__"), key := Value.str (Str.ofString "__module__") (nat_lit 206), val := Value.str (Str.ofString "cpy313.xml.etree.ElementPath") (nat_lit 187) }, { hash := PyData.keyHash P (Str.ofString "__firstlineno__"), key := Value.str (Str.ofString "__firstlineno__") (nat_lit 210), val := Value.int 10 (nat_lit 209) }, { hash := PyData.keyHash P (Str.ofString "parent_map"), key := Value.str (Str.ofString "parent_map") (nat_lit 211), val := Value.none }, { hash := PyData.keyHash P (Str.ofString "__init__"), key := Value.str (Str.ofString "__init__") (nat_lit 219), val := Value.ref (nat_lit 35) }, { hash := PyData.keyHash P (Str.ofString "__static_attributes__"), key := Value.str (Str.ofString "__static_attributes__") (nat_lit 221), val := Value.ref (nat_lit 36) }, { hash := PyData.keyHash P (Str.ofString "__dict__"), key := Value.str (Str.ofString "__dict__") (nat_lit 223), val := Value.ref (nat_lit 39) }, { hash := PyData.keyHash P (Str.ofString "__weakref__"), key := Value.str (Str.ofString "__weakref__") (nat_lit 225), val := Value.ref (nat_lit 40) }, { hash := PyData.keyHash P (Str.ofString "__doc__"), key := Value.str (Str.ofString "__doc__") (nat_lit 226), val := Value.none }] (nat_lit 4) }),
  (nat_lit 38, { cls := Value.type "type", data := Data.cls { name := Str.ofString "_SelectorContext", bases := [Value.type "object"], mro := [Value.ref (nat_lit 38), Value.type "object"], ns := (nat_lit 37), qualname := Str.ofString "_SelectorContext" }, slots := #[none, none, some (Value.str (Str.ofString "_SelectorContext") (nat_lit 199)), some (Value.str (Str.ofString "_SelectorContext") (nat_lit 207)), some (Value.builtin "object.__new__"), some (Value.bool true)] }),
  (nat_lit 39, { cls := Value.type "getset_descriptor", data := Data.fields #[Value.str (Str.ofString "__dict__") (nat_lit 222), Value.ref (nat_lit 38), Value.builtin "function.__dict__", Value.builtin "function.__dict__#set"] }),
  (nat_lit 40, { cls := Value.type "getset_descriptor", data := Data.fields #[Value.str (Str.ofString "__weakref__") (nat_lit 224), Value.ref (nat_lit 38), Value.builtin "ExceptionGroup.__weakref__", Value.none] }),
  (nat_lit 43, { cls := Value.type "tuple", data := Data.seq #[] }),
  (nat_lit 45, { cls := Value.type "tuple", data := Data.seq #[Value.str (Str.ofString "mycmp") (nat_lit 234), Value.str (Str.ofString "K") (nat_lit 235)] }),
  (nat_lit 46, { cls := Value.type "tuple", data := Data.seq #[Value.str (Str.ofString "mycmp") (nat_lit 236)] }),
  (nat_lit 48, { cls := Value.type "code", data := Data.fields #[Value.str (Str.ofString "cmp_to_key") (nat_lit 231), Value.str (Str.ofString "cmp_to_key") (nat_lit 232), Value.str (Str.ofString "/claim/cut.py") (nat_lit 233), Value.int 16 (nat_lit 0), Value.int 1 (nat_lit 0), Value.int 0 (nat_lit 0), Value.int 0 (nat_lit 0), Value.int 3 (nat_lit 0), Value.ref (nat_lit 43), Value.bool true, Value.int 181 (nat_lit 0), Value.ref (nat_lit 44), Value.none, Value.ref (nat_lit 45), Value.ref (nat_lit 46), Value.ref (nat_lit 47), Value.int 237 (nat_lit 0), Value.int 16 (nat_lit 0), Value.str (Str.ofString "/claim/cut.py") (nat_lit 238)] }),
  (nat_lit 49, fnO "cmp_to_key" "cpy313.functools" (nat_lit 229) (nat_lit 48) .none s4),
  (nat_lit 50, { cls := Value.type "object" }),
  (nat_lit 51, { cls := Value.type "tuple", data := Data.seq #[Value.ref (nat_lit 50)] }),
  (nat_lit 52, { cls := Value.type "tuple", data := Data.seq #[] }),
  (nat_lit 54, { cls := Value.type "tuple", data := Data.seq #[Value.str (Str.ofString "function") (nat_lit 244), Value.str (Str.ofString "sequence") (nat_lit 245), Value.str (Str.ofString "initial") (nat_lit 246), Value.str (Str.ofString "it") (nat_lit 247), Value.str (Str.ofString "value") (nat_lit 248), Value.str (Str.ofString "element") (nat_lit 249)] }),
  (nat_lit 55, { cls := Value.type "tuple", data := Data.seq #[] }),
  (nat_lit 57, { cls := Value.type "code", data := Data.fields #[Value.str (Str.ofString "reduce") (nat_lit 241), Value.str (Str.ofString "reduce") (nat_lit 242), Value.str (Str.ofString "/claim/cut.py") (nat_lit 243), Value.int 42 (nat_lit 0), Value.int 3 (nat_lit 0), Value.int 0 (nat_lit 0), Value.int 0 (nat_lit 0), Value.int 3 (nat_lit 0), Value.ref (nat_lit 52), Value.bool true, Value.int 181 (nat_lit 0), Value.ref (nat_lit 53), Value.none, Value.ref (nat_lit 54), Value.ref (nat_lit 55), Value.ref (nat_lit 56), Value.int 250 (nat_lit 0), Value.int 42 (nat_lit 0), Value.str (Str.ofString "/claim/cut.py") (nat_lit 251)] }),
  (nat_lit 58, fnO "reduce" "cpy313.functools" (nat_lit 229) (nat_lit 57) (.ref (nat_lit 51)) s6),
  (nat_lit 59, { cls := Value.type "tuple", data := Data.seq #[] }),
  (nat_lit 61, { cls := Value.type "tuple", data := Data.seq #[Value.str (Str.ofString "families") (nat_lit 258), Value.str (Str.ofString "root") (nat_lit 259)] }),
  (nat_lit 62, { cls := Value.type "tuple", data := Data.seq #[Value.str (Str.ofString "families") (nat_lit 260)] }),
  (nat_lit 64, { cls := Value.type "code", data := Data.fields #[Value.str (Str.ofString "_law_context") (nat_lit 255), Value.str (Str.ofString "_law_context") (nat_lit 256), Value.str (Str.ofString "/claim/cut.py") (nat_lit 257), Value.int 55 (nat_lit 0), Value.int 1 (nat_lit 0), Value.int 0 (nat_lit 0), Value.int 0 (nat_lit 0), Value.int 3 (nat_lit 0), Value.ref (nat_lit 59), Value.bool true, Value.int 181 (nat_lit 0), Value.ref (nat_lit 60), Value.none, Value.ref (nat_lit 61), Value.ref (nat_lit 62), Value.ref (nat_lit 63), Value.int 261 (nat_lit 0), Value.int 55 (nat_lit 0), Value.str (Str.ofString "/claim/cut.py") (nat_lit 262)] }),
  (nat_lit 65, fnO "_law_context" "law_ij0154_01" (nat_lit 253) (nat_lit 64) .none s8),
  (nat_lit 66, { cls := Value.type "tuple", data := Data.seq #[] }),
  (nat_lit 69, { cls := Value.type "code", data := Data.fields #[Value.str (Str.ofString "_law_way") (nat_lit 264), Value.str (Str.ofString "_law_way") (nat_lit 265), Value.str (Str.ofString "/claim/cut.py") (nat_lit 266), Value.int 59 (nat_lit 0), Value.int 3 (nat_lit 0), Value.int 0 (nat_lit 0), Value.int 0 (nat_lit 0), Value.int 3 (nat_lit 0), Value.ref (nat_lit 66), Value.bool true, Value.int 181 (nat_lit 0), Value.ref (nat_lit 67), Value.none, Value.none, Value.none, Value.ref (nat_lit 68), Value.int 267 (nat_lit 0), Value.int 59 (nat_lit 0), Value.str (Str.ofString "/claim/cut.py") (nat_lit 268)] }),
  (nat_lit 70, fnO "_law_way" "law_ij0154_01" (nat_lit 253) (nat_lit 69) .none s9),
  (nat_lit 71, { cls := Value.type "tuple", data := Data.seq #[] }),
  (nat_lit 73, { cls := Value.type "tuple", data := Data.seq #[Value.str (Str.ofString "one") (nat_lit 273), Value.str (Str.ofString "other") (nat_lit 274), Value.str (Str.ofString "size") (nat_lit 275)] }),
  (nat_lit 74, { cls := Value.type "tuple", data := Data.seq #[] }),
  (nat_lit 76, { cls := Value.type "code", data := Data.fields #[Value.str (Str.ofString "_law_shared") (nat_lit 270), Value.str (Str.ofString "_law_shared") (nat_lit 271), Value.str (Str.ofString "/claim/cut.py") (nat_lit 272), Value.int 65 (nat_lit 0), Value.int 2 (nat_lit 0), Value.int 0 (nat_lit 0), Value.int 0 (nat_lit 0), Value.int 3 (nat_lit 0), Value.ref (nat_lit 71), Value.bool true, Value.int 181 (nat_lit 0), Value.ref (nat_lit 72), Value.none, Value.ref (nat_lit 73), Value.ref (nat_lit 74), Value.ref (nat_lit 75), Value.int 276 (nat_lit 0), Value.int 65 (nat_lit 0), Value.str (Str.ofString "/claim/cut.py") (nat_lit 277)] }),
  (nat_lit 77, fnO "_law_shared" "law_ij0154_01" (nat_lit 253) (nat_lit 76) .none s10),
  (nat_lit 78, { cls := Value.type "tuple", data := Data.seq #[] }),
  (nat_lit 80, { cls := Value.type "tuple", data := Data.seq #[Value.str (Str.ofString "table") (nat_lit 282), Value.str (Str.ofString "ways") (nat_lit 283), Value.str (Str.ofString "compare") (nat_lit 284)] }),
  (nat_lit 81, { cls := Value.type "tuple", data := Data.seq #[Value.str (Str.ofString "table") (nat_lit 285), Value.str (Str.ofString "ways") (nat_lit 286)] }),
  (nat_lit 83, { cls := Value.type "code", data := Data.fields #[Value.str (Str.ofString "_law_compare") (nat_lit 279), Value.str (Str.ofString "_law_compare") (nat_lit 280), Value.str (Str.ofString "/claim/cut.py") (nat_lit 281), Value.int 70 (nat_lit 0), Value.int 2 (nat_lit 0), Value.int 0 (nat_lit 0), Value.int 0 (nat_lit 0), Value.int 3 (nat_lit 0), Value.ref (nat_lit 78), Value.bool true, Value.int 181 (nat_lit 0), Value.ref (nat_lit 79), Value.none, Value.ref (nat_lit 80), Value.ref (nat_lit 81), Value.ref (nat_lit 82), Value.int 287 (nat_lit 0), Value.int 70 (nat_lit 0), Value.str (Str.ofString "/claim/cut.py") (nat_lit 288)] }),
  (nat_lit 84, fnO "_law_compare" "law_ij0154_01" (nat_lit 253) (nat_lit 83) .none s11),
  (nat_lit 85, { cls := Value.type "tuple", data := Data.seq #[] }),
  (nat_lit 87, { cls := Value.type "tuple", data := Data.seq #[Value.str (Str.ofString "row") (nat_lit 293), Value.str (Str.ofString "ways") (nat_lit 294)] }),
  (nat_lit 88, { cls := Value.type "tuple", data := Data.seq #[Value.str (Str.ofString "row") (nat_lit 295), Value.str (Str.ofString "ways") (nat_lit 296), Value.str (Str.ofString "road") (nat_lit 297)] }),
  (nat_lit 90, { cls := Value.type "code", data := Data.fields #[Value.str (Str.ofString "_law_round") (nat_lit 290), Value.str (Str.ofString "_law_round") (nat_lit 291), Value.str (Str.ofString "/claim/cut.py") (nat_lit 292), Value.int 79 (nat_lit 0), Value.int 2 (nat_lit 0), Value.int 0 (nat_lit 0), Value.int 0 (nat_lit 0), Value.int 3 (nat_lit 0), Value.ref (nat_lit 85), Value.bool true, Value.int 181 (nat_lit 0), Value.ref (nat_lit 86), Value.none, Value.ref (nat_lit 87), Value.ref (nat_lit 88), Value.ref (nat_lit 89), Value.int 298 (nat_lit 0), Value.int 79 (nat_lit 0), Value.str (Str.ofString "/claim/cut.py") (nat_lit 299)] }),
  (nat_lit 91, fnO "_law_round" "law_ij0154_01" (nat_lit 253) (nat_lit 90) .none s12),
  (nat_lit 92, { cls := Value.type "tuple", data := Data.seq #[] }),
  (nat_lit 95, { cls := Value.type "code", data := Data.fields #[Value.str (Str.ofString "law") (nat_lit 301), Value.str (Str.ofString "law") (nat_lit 302), Value.str (Str.ofString "/claim/cut.py") (nat_lit 303), Value.int 84 (nat_lit 0), Value.int 1 (nat_lit 0), Value.int 0 (nat_lit 0), Value.int 0 (nat_lit 0), Value.int 3 (nat_lit 0), Value.ref (nat_lit 92), Value.bool true, Value.int 181 (nat_lit 0), Value.ref (nat_lit 93), Value.none, Value.none, Value.none, Value.ref (nat_lit 94), Value.int 304 (nat_lit 0), Value.int 84 (nat_lit 0), Value.str (Str.ofString "/claim/cut.py") (nat_lit 305)] }),
  (nat_lit 96, fnO "law" "law_ij0154_01" (nat_lit 253) (nat_lit 95) .none s13)]
theorem KKf_congr {P : Params} {a1 aI a4 a6 a8 a9 a10 a11 a12 a13 b1 bI b4 b6 b8 b9 b10 b11 b12 b13 : Stmt} (h1 : a1 = b1) (hI : aI = bI) (h4 : a4 = b4) (h6 : a6 = b6) (h8 : a8 = b8) (h9 : a9 = b9) (h10 : a10 = b10) (h11 : a11 = b11) (h12 : a12 = b12) (h13 : a13 = b13) :
    KKf P a1 aI a4 a6 a8 a9 a10 a11 a12 a13 = KKf P b1 bI b4 b6 b8 b9 b10 b11 b12 b13 := by
  subst h1 hI h4 h6 h8 h9 h10 h11 h12 h13; rfl
/-- the same, the defs written out -/
noncomputable def KK (P : Params) : Frag := by
  refine (?f : ∀ K : Frag, KKf P (stmtAt 1) (inClass (stmtAt 2) 1) (stmtAt 4) (stmtAt 6) (stmtAt 8) (stmtAt 9) (stmtAt 10) (stmtAt 11) (stmtAt 12) (stmtAt 13) = K → Frag) (KKf P _ _ _ _ _ _ _ _ _ _) (KKf_congr (by conv => { lhs; whnf }) (by conv => { lhs; whnf }) (by conv => { lhs; whnf }) (by conv => { lhs; whnf }) (by conv => { lhs; whnf }) (by conv => { lhs; whnf }) (by conv => { lhs; whnf }) (by conv => { lhs; whnf }) (by conv => { lhs; whnf }) (by conv => { lhs; whnf }))
  exact fun K _ => K
end Mine
end
section
open PySem PySem.W PySem.Calls PyProof.Rows
set_option Elab.async false
set_option maxRecDepth 100000
set_option maxHeartbeats 8000000
namespace Mine
/-- an object of the written heap, by its address -/
noncomputable def lk (P : Params) (a : Addr) : Obj := ((KK P).lookup a).getD default
/-- the written heap but for the five code tables that the call may turn -/
noncomputable def KR : Params → Frag := fun P => (nat_lit 2, lk P 2) :: (nat_lit 3, lk P 3) :: (nat_lit 6, lk P 6) :: (nat_lit 15, lk P 15) :: (nat_lit 17, lk P 17) :: (nat_lit 18, lk P 18) :: (nat_lit 20, lk P 20) :: (nat_lit 21, lk P 21) :: (nat_lit 29, lk P 29) :: (nat_lit 31, lk P 31) :: (nat_lit 32, lk P 32) :: (nat_lit 34, lk P 34) :: (nat_lit 35, lk P 35) :: (nat_lit 36, lk P 36) :: (nat_lit 37, lk P 37) :: (nat_lit 38, lk P 38) :: (nat_lit 39, lk P 39) :: (nat_lit 40, lk P 40) :: (nat_lit 43, lk P 43) :: (nat_lit 45, lk P 45) :: (nat_lit 46, lk P 46) :: (nat_lit 48, lk P 48) :: (nat_lit 49, lk P 49) :: (nat_lit 50, lk P 50) :: (nat_lit 51, lk P 51) :: (nat_lit 52, lk P 52) :: (nat_lit 54, lk P 54) :: (nat_lit 55, lk P 55) :: (nat_lit 57, lk P 57) :: (nat_lit 58, lk P 58) :: (nat_lit 59, lk P 59) :: (nat_lit 61, lk P 61) :: (nat_lit 62, lk P 62) :: (nat_lit 64, lk P 64) :: (nat_lit 65, lk P 65) :: (nat_lit 66, lk P 66) :: (nat_lit 69, lk P 69) :: (nat_lit 70, lk P 70) :: (nat_lit 71, lk P 71) :: (nat_lit 73, lk P 73) :: (nat_lit 74, lk P 74) :: (nat_lit 76, lk P 76) :: (nat_lit 77, lk P 77) :: (nat_lit 78, lk P 78) :: (nat_lit 80, lk P 80) :: (nat_lit 81, lk P 81) :: (nat_lit 83, lk P 83) :: (nat_lit 84, lk P 84) :: (nat_lit 85, lk P 85) :: (nat_lit 87, lk P 87) :: (nat_lit 88, lk P 88) :: (nat_lit 90, lk P 90) :: (nat_lit 91, lk P 91) :: (nat_lit 92, lk P 92) :: (nat_lit 95, lk P 95) :: (nat_lit 96, lk P 96) :: []
/-- the room that is left: no exception is handled, and the stack is not deep -/
noncomputable def Sm (A : Around) (d u : Nat) : Prop := A.handled = none ∧ A.depth ≤ d ∧ A.units ≤ u
noncomputable abbrev AM (d u : Nat) : Around := { depth := d, units := u }
theorem sm_AM (d u : Nat) : Sm (AM d u) d u := ⟨rfl, Nat.le_refl _, Nat.le_refl _⟩
theorem Sm.le {A : Around} {d u d' u' : Nat} (h : Sm A d u) (h1 : d ≤ d') (h2 : u ≤ u') : Sm A d' u' := ⟨h.1, Nat.le_trans h.2.1 h1, Nat.le_trans h.2.2 h2⟩
theorem In_of {A : Around} {d u : Nat} {Γ : Ctx} (hA : Sm A d u) (h : Γ.In A) : Γ.In (AM d u) :=
  ⟨h.1.trans hA.1, Nat.le_trans h.2.1 hA.2.1, fun _ e => (nomatch e), fun _ e => (nomatch e), Nat.le_trans h.2.2.2.2 hA.2.2⟩
theorem wk {α : Type} {M : Model} {A : Around} {d u : Nat} {t : Sem α} {Q : α → Shared → Prop} {E : Value → Shared → Prop} {s : Shared} (hA : Sm A d u) (h : wpAny M (AM d u) t Q E s) : wpAny M A t Q E s :=
  fun Γ p hΓ => h Γ p (In_of hA hΓ)
section
variable {prog : Program} {w : World} {A : Around} {R : Result → Shared → Prop} {s : Shared}
theorem enterF {f : Addr} {fo : Obj} {name qual : Str} {params : Arguments} {body : List Stmt} {scope : Scope} {cl : List (Str × Addr)} {dV kV doc pm cdv ct : Value} {an : Option Addr} {args : Args} {binds : List (Str × Value)} {d u : Nat}
    (hA : Sm A d u) (hroom : d < recursionLimit) (ho : s.heap.get? f = some fo) (hdat : fo.data = .func (fnX name qual params body scope cl dV kV doc pm an cdv ct)) (hlim : s.heap.NoLimit) (hcd : s.heap.CodeRec cdv qual)
    (hbind : BindsTo s (fnX name qual params body scope cl dV kV doc pm an cdv ct) args binds) (hcell : ∀ x ∈ scope.names, x.2 ≠ .cell) (hloc : ∀ y ∈ binds, scope.names.lookup y.1 = some .local)
    (h : ∀ h₁, Fr s.heap s.heap.objs.size h₁ (fun y => binds.reverse.lookup y) →
      wpAny (model prog w) (AM (d + 1) (u + 3)) (execs body (envX qual scope s.heap.objs.size f cdv cl)) (fun fl s' => R (.ok (.ret (match fl with | .ret v => v | _ => .none))) s') (fun _ _ => False)
        { s with heap := h₁, toks := s.toks + binds.length })
    (hco : scope.isCoroutine = false := by rfl) (hgen : scope.isGenerator = false := by rfl) (hk : scope.kind = .function := by rfl) : codeAny (model prog w) A (.call (.ref f) args) R s :=
  codeAny_call_def (fd := fnX name qual params body scope cl dV kV doc pm an cdv ct) (body := body) (binds := binds) (Nat.lt_of_le_of_lt hA.2.1 hroom) ho hdat hlim hcd rfl hbind hcell hloc
    (fun h₁ hns hk₁ => wpAny_mono (wk (d := d + 1) (u := u + 3) ⟨hA.1, Nat.succ_le_succ hA.2.1, Nat.add_le_add_right hA.2.2 3⟩ (h h₁ ⟨hns, hk₁, Nat.le_refl _⟩)) (fun _ _ x => x) (fun _ _ x => x.elim)) hco hgen hk
end
theorem set_set {x : Str} {v u : Option Value} {m : Str → Option Value} : (fun y => if y = x then v else if y = x then u else m y) = fun y => if y = x then v else m y := by
  funext y; split <;> rfl
end Mine
end
section
open PySem PySem.W PySem.Calls PyProof.Rows PySem.Builtin
set_option Elab.async false
set_option maxRecDepth 100000
set_option maxHeartbeats 8000000
namespace Mine
/-- the objects of one's own, over a heap that is kept -/
structure Own (h₀ h : Heap) (news : List (Addr × Obj)) : Prop where
  keep : ∀ b o, h₀.get? b = some o → h.get? b = some o
  nw : ∀ p ∈ news, h.get? p.1 = some p.2 ∧ h₀.get? p.1 = none
  nd : (news.map (·.1)).Nodup
namespace Own
variable {h₀ h h' : Heap} {news : List (Addr × Obj)}
theorem start (h : Heap) : Own h h [] := ⟨fun _ _ e => e, fun _ hp => (nomatch hp), List.nodup_nil⟩
theorem «at» (D : Own h₀ h news) (i : Nat) (a : Addr) (o : Obj) (hi : news[i]? = some (a, o)) : h.get? a = some o := (D.nw _ (List.mem_of_getElem? hi)).1
theorem no (D : Own h₀ h news) (i : Nat) (a : Addr) (o : Obj) (hi : news[i]? = some (a, o)) : h₀.get? a = none := (D.nw _ (List.mem_of_getElem? hi)).2
theorem add (D : Own h₀ h news) {a : Addr} {o : Obj} (ho : h.get? a = some o) (hn : h₀.get? a = none) (hd : a ∉ news.map (·.1)) : Own h₀ h ((a, o) :: news) :=
  ⟨D.keep, fun p hp => (List.mem_cons.mp hp).elim (fun q => q ▸ ⟨ho, hn⟩) (D.nw p), List.nodup_cons.mpr ⟨hd, D.nd⟩⟩
theorem ext (D : Own h₀ h news) (k : ∀ b o, h.get? b = some o → h'.get? b = some o) : Own h₀ h' news := ⟨fun b o e => k _ _ (D.keep b o e), fun p hp => ⟨k _ _ (D.nw p hp).1, (D.nw p hp).2⟩, D.nd⟩
theorem alloc (D : Own h₀ h news) {o : Obj} (hf : o.isFreed = false) : Own h₀ (h.push o) ((h.objs.size, o) :: news) := by
  refine (D.ext fun b ob e => Heap.get?_push_of_some _ e).add (Heap.get?_push_size _ hf) ?_ fun hm => ?_
  · cases q : h₀.get? h.objs.size with
    | none => rfl
    | some ob => exact absurd (Heap.lt_size (D.keep _ _ q)) (Nat.lt_irrefl _)
  · obtain ⟨p, hp, e⟩ := List.mem_map.mp hm
    have := Heap.lt_size (D.nw p hp).1
    rw [e] at this
    exact Nat.lt_irrefl _ this
theorem set_keys {a : Addr} {o o' : Obj} (l : List (Addr × Obj)) : ∀ (i : Nat), l[i]? = some (a, o) → (l.set i (a, o')).map (·.1) = l.map (·.1) := by
  induction l with
  | nil => intro i e; simp at e
  | cons x l ih =>
    intro i e
    cases i with
    | zero =>
      rw [List.getElem?_cons_zero] at e
      cases e
      rfl
    | succ i =>
      rw [List.getElem?_cons_succ] at e
      rw [List.set_cons_succ, List.map_cons, List.map_cons, ih i e]
/-- one object of one's own is another now, the rest is kept -/
theorem extBut (D : Own h₀ h news) {i : Nat} {a : Addr} {o o' : Obj} (hi : news[i]? = some (a, o)) (k : Heap.ExtBut a h h') (ho : h'.get? a = some o') : Own h₀ h' (news.set i (a, o')) := by
  have hn := D.no i a o hi
  refine ⟨fun b ob e => k b ob (fun q => ?_) (D.keep b ob e), fun p hp => ?_, by rw [set_keys news i hi]; exact D.nd⟩
  · rw [q, hn] at e; cases e
  · have hlt : i < news.length := (List.getElem?_eq_some_iff.mp hi).1
    by_cases q : p.1 = a
    · obtain ⟨j, hj⟩ := List.mem_iff_getElem?.mp hp
      have hji : j = i := by
        have e1 : ((news.set i (a, o')).map (·.1))[j]? = some a := by rw [List.getElem?_map, hj]; simp [q]
        have e2 : (news.map (·.1))[i]? = some a := by rw [List.getElem?_map, hi]; rfl
        rw [set_keys news i hi] at e1
        have hjl : j < (news.map (·.1)).length := (List.getElem?_eq_some_iff.mp e1).1
        have hil : i < (news.map (·.1)).length := (List.getElem?_eq_some_iff.mp e2).1
        have v1 := (List.getElem?_eq_some_iff.mp e1).2
        have v2 := (List.getElem?_eq_some_iff.mp e2).2
        have pw := List.pairwise_iff_getElem.mp D.nd
        rcases Nat.lt_trichotomy j i with hlt | heq | hgt
        · exact absurd (v1.trans v2.symm) (pw j i hjl hil hlt)
        · exact heq
        · exact absurd (v2.trans v1.symm) (pw i j hil hjl hgt)
      subst hji
      rw [List.getElem?_set_self hlt] at hj
      cases hj
      exact ⟨ho, hn⟩
    · have hm : p ∈ news := by
        rcases List.mem_or_eq_of_mem_set hp with hm | rfl
        · exact hm
        · exact absurd rfl q
      exact ⟨k _ _ q (D.nw p hm).1, (D.nw p hm).2⟩
theorem update (D : Own h₀ h news) {i : Nat} {a : Addr} {o : Obj} {f : Obj → Obj} (hi : news[i]? = some (a, o)) (hf : (f o).isFreed = false) : Own h₀ (h.update a f) (news.set i (a, f o)) :=
  D.extBut hi (Heap.SameBut.update ..).extBut (Heap.get?_update_self _ (D.at i a o hi) hf)
theorem old (D : Own h₀ h news) {a : Addr} {o : Obj} (e : h₀.get? a = some o) : h.get? a = some o := D.keep a o e
theorem drop (D : Own h₀ h news) {l : List (Addr × Obj)} (q : List.Sublist l news) : Own h₀ h l := ⟨D.keep, fun p hp => D.nw p (q.subset hp), D.nd.sublist (q.map _)⟩
/-- all but these is the ground from now on -/
theorem anew (D : Own h₀ h news) : Own (hideAll h (news.map (·.1))) h news :=
  ⟨fun b o e => of_hideAll _ e, fun p hp => ⟨(D.nw p hp).1, hideAll_none _ (List.mem_map_of_mem hp)⟩, D.nd⟩
end Own
end Mine
end
section
open PySem PySem.W PySem.Calls PyProof.Rows PySem.Builtin
set_option Elab.async false
set_option maxRecDepth 100000
set_option maxHeartbeats 4000000
namespace Mine
/-- the ground: the written heap, the globals, the built-ins -/
structure Gd (w : World) (p : Program) (loose : List Str) (mg mb : Str → Option Value) (h : Heap) : Prop where
  X : (KR w.params).In h
  T : TopRead p loose mg mb h
  bm : ∃ bm ob, mg "__builtins__" = some (.ref bm) ∧ bm ≠ builtinsNs ∧ h.get? bm = some ob ∧ ob.cls = .type "module" ∧ ob.dict = some builtinsNs ∧ ob.data = .plain
namespace Gd
variable {w : World} {p : Program} {loose : List Str} {mg mb : Str → Option Value} {h h' : Heap} {P : Addr} {ps : Array Value}
theorem keeps (G : Gd w p loose mg mb h) (k : ∀ b o, h.get? b = some o → h'.get? b = some o) : Gd w p loose mg mb h' :=
  ⟨G.X.keeps k, G.T.keeps k, let ⟨bm, ob, h1, h2, h3, r⟩ := G.bm; ⟨bm, ob, h1, h2, k _ _ h3, r⟩⟩
/-- a table of code may grow -/
theorem extBut (G : Gd w p loose mg mb h) (hK : (KR w.params).lookup P = none) (hP : h.get? P = some (tabObj ps)) (k : Heap.ExtBut P h h') : Gd w p loose mg mb h' := by
  have ne : ∀ a o, h.get? a = some o → (∀ vs, o.data ≠ .fields vs) → a ≠ P := fun a o e n q => by
    rw [q, hP] at e; cases e; exact n _ rfl
  have nsK : ∀ {a m}, h.Ns a m → h'.Ns a m := fun {a m} x => by
    obtain ⟨o, es, ep, e, hd, r⟩ := x
    exact ⟨o, es, ep, k _ _ (ne a o e (by rw [hd]; intro vs q; cases q)) e, hd, r⟩
  refine ⟨fun a o e => k a o (fun q => ?_) (G.X a o e), ⟨nsK G.T.g, nsK G.T.b, let ⟨mc, a, r⟩ := G.T.nolimit; ⟨mc, nsK a, r⟩, G.T.builtins, G.T.free⟩, ?_⟩
  · rw [q, hK] at e; cases e
  · obtain ⟨bm, ob, h1, h2, h3, h4, h5, h6⟩ := G.bm
    exact ⟨bm, ob, h1, h2, k _ _ (ne bm ob h3 (by rw [h6]; intro vs q; cases q)) h3, h4, h5, h6⟩
theorem builtinsAt (G : Gd w p loose mg mb h) (hP : h.get? P = some (tabObj ps)) : h.BuiltinsAt mg P := by
  obtain ⟨bm, ob, h1, h2, h3, h4, h5, h6⟩ := G.bm
  refine ⟨bm, ob, h1, h2, fun q => ?_, fun q => ?_, h3, h4, h5, h6⟩
  · obtain ⟨o, es, ep, e, hd, r⟩ := G.T.g
    rw [q, e] at h3; cases h3; rw [hd] at h6; cases h6
  · rw [q, hP] at h3; cases h3; cases h6
theorem ne_tab (G : Gd w p loose mg mb h) (hP : h.get? P = some (tabObj ps)) : mainGlobals ≠ P := fun q => by
  obtain ⟨o, es, ep, e, hd, r⟩ := G.T.g
  rw [q, hP] at e; cases e; cases hd
end Gd
end Mine
end
section
open PySem PySem.W PySem.Calls PyProof.Rows PySem.Builtin
set_option Elab.async false
set_option maxRecDepth 100000
set_option maxHeartbeats 8000000
namespace Mine
theorem c_turned : notOverATurnedClass [.type "object"] = pure () := by kernel_rfl
theorem c_ext : extendedBase [.type "object"] = pure (.type "object") := by kernel_rfl
theorem c_best : Slots.bestBase [.type "object"] = pure (.type "object") := by kernel_rfl
theorem c_slotNames : Slots.slotNamesOf (.type "object") = pure [] := by kernel_rfl
theorem c_dict : Slots.givesDict (.type "object") = pure false := by kernel_rfl
theorem c_weak : Slots.givesWeak (.type "object") = pure false := by kernel_rfl
theorem c_var : Slots.varSize (.type "object") = pure false := by kernel_rfl
theorem c_lin : linearize [.type "object"] mroOf = pure [.type "object"] := by kernel_rfl
theorem c_hook : mroHook? (.type "type") = pure none := by kernel_rfl
theorem c_made : Bind.madeBy (.type "object") = pure (some "object.__new__") := by kernel_rfl
theorem c_note (a : Addr) : noteSubclassOfBuiltin "object" a = pure () := by kernel_rfl
theorem c_isType : isType (.type "object") = pure true := by kernel_rfl
end Mine
end
section
open PySem PySem.W PySem.Calls PyProof.Rows PySem.Builtin
set_option Elab.async false
set_option maxRecDepth 100000
set_option maxHeartbeats 8000000
namespace Mine
noncomputable abbrev dObj (es : List DictEntry) (n : Nat) : Obj := { cls := .type "dict", data := .dict es.toArray n }
noncomputable abbrev ent (n : String) (hs : Int) (tk : Tok) (v : Value) : DictEntry := ⟨hs, .str (Str.ofString n) tk, v⟩
section
variable {prog : Program} {w : World} {A : Around} {E : Value → Shared → Prop} {h₀ h : Heap} {g : Array GenState} {d : Drawn} {t : Nat} {os : OsState} {news : List (Addr × Obj)}
/-- a read of an object of one's own -/
theorem m_load (D : Own h₀ h news) {a : Addr} {o : Obj} (i : Nat) (hi : news[i]? = some (a, o)) {Q : Obj → Shared → Prop} (hq : Q o ⟨h, g, d, t, os⟩) : wpAny (model prog w) A (load a) Q E ⟨h, g, d, t, os⟩ :=
  wpAny_load (D.at i a o hi) hq
theorem m_loadPart (D : Own h₀ h news) {a : Addr} {o : Obj} {part : Option Value} (i : Nat) (hi : news[i]? = some (a, o)) {Q : Obj → Shared → Prop} (hq : Q o ⟨h, g, d, t, os⟩) : wpAny (model prog w) A (loadPart a part) Q E ⟨h, g, d, t, os⟩ :=
  wpAny_loadPart (D.at i a o hi) hq
theorem m_alloc (D : Own h₀ h news) {o : Obj} {Q : Addr → Shared → Prop} (hf : o.isFreed = false) (hq : ∀ a h', Own h₀ h' ((a, o) :: news) → Q a ⟨h', g, d, t, os⟩) : wpAny (model prog w) A (alloc o) Q E ⟨h, g, d, t, os⟩ :=
  wpAny_alloc (hq _ _ (D.alloc hf))
theorem m_update (D : Own h₀ h news) {a : Addr} {o : Obj} {f : Obj → Obj} (i : Nat) (hi : news[i]? = some (a, o)) (hf : (f o).isFreed = false) {Q : Unit → Shared → Prop} (hq : ∀ h', Own h₀ h' (news.set i (a, f o)) → Q () ⟨h', g, d, t, os⟩) :
    wpAny (model prog w) A (update a f) Q E ⟨h, g, d, t, os⟩ := wpAny_update (D.at i a o hi) (hq _ (D.update hi hf))
theorem m_updatePart (D : Own h₀ h news) {a : Addr} {o : Obj} {f : Obj → Obj} {part : Option Value} (i : Nat) (hi : news[i]? = some (a, o)) (hf : (f o).isFreed = false) {Q : Unit → Shared → Prop} (hq : ∀ h', Own h₀ h' (news.set i (a, f o)) → Q () ⟨h', g, d, t, os⟩) :
    wpAny (model prog w) A (updatePart a part f) Q E ⟨h, g, d, t, os⟩ := wpAny_updatePart (D.at i a o hi) (hq _ (D.update hi hf))
theorem m_nsGet (D : Own h₀ h news) {a : Addr} {o : Obj} {name : Str} {r : Option Value} (i : Nat) (hi : news[i]? = some (a, o)) (e : nsLook name o = pure r) {Q : Option Value → Shared → Prop} (hq : Q r ⟨h, g, d, t, os⟩) :
    wpAny (model prog w) A (nsGet a name) Q E ⟨h, g, d, t, os⟩ := wpAny_bind (m_loadPart D i hi (wpAny_of_eq e hq))
theorem m_nsSet (D : Own h₀ h news) {a : Addr} {name : Str} {v : Value} {es : List DictEntry} {n : Nat} {c : Value} {od : Option Addr} {sl : Array (Option Value)} (o' : Int → Tok → Obj) (i : Nat) (hi : news[i]? = some (a, ⟨c, od, .dict es.toArray n, sl⟩))
    (hg : aRefKeyMayBeTheName name es.toArray = false) (e : ∀ hs tk, Obj.putName name hs (.str name tk) v ⟨c, od, .dict es.toArray n, sl⟩ = o' hs tk) (hf : ∀ hs tk, (o' hs tk).isFreed = false) {Q : Unit → Shared → Prop}
    (hq : ∀ h' hs, Own h₀ h' (news.set i (a, o' hs t)) → Q () ⟨h', g, d, t + 1, os⟩) : wpAny (model prog w) A (nsSet a name v) Q E ⟨h, g, d, t, os⟩ := by
  unfold nsSet strHash
  refine wpAny_bind (wpAny_bind (wpAny_askSetting (wpAny_pure ?_)))
  refine wpAny_bind (wpAny_mkText ?_)
  refine wpAny_bind (m_loadPart D i hi ?_)
  dsimp only
  rw [hg]
  refine m_updatePart D i hi (by rw [e]; exact hf _ _) fun h' D' => hq h' _ (by rw [e] at D'; exact D')
theorem m_nsDel (D : Own h₀ h news) {a : Addr} {o : Obj} {name : Str} (o' : Obj) (i : Nat) (hi : news[i]? = some (a, o)) (hh : nsHas name o = pure true) (e : Obj.dropName name o = o') (hf : o'.isFreed = false) {Q : Bool → Shared → Prop}
    (hq : ∀ h', Own h₀ h' (news.set i (a, o')) → Q true ⟨h', g, d, t, os⟩) : wpAny (model prog w) A (nsDel a name) Q E ⟨h, g, d, t, os⟩ := by
  unfold nsDel
  refine wpAny_bind (m_loadPart D i hi (wpAny_bind (wpAny_of_eq hh ?_)))
  refine wpAny_ite ?_
  rw [if_pos rfl]
  exact wpAny_bind (m_updatePart D i hi (by rw [e]; exact hf) fun h' D' => wpAny_pure (hq h' (by rw [e] at D'; exact D')))
theorem m_slot (D : Own h₀ h news) {a : Addr} {o : Obj} {k : Nat} {v : Option Value} (o' : Obj) (i : Nat) (hi : news[i]? = some (a, o)) (hk : k < 100) (e : { o with slots := (o.slots ++ Array.replicate (k + 1 - o.slots.size) none).setIfInBounds k v } = o') (hf : o'.isFreed = false) {Q : Unit → Shared → Prop}
    (hq : ∀ h', Own h₀ h' (news.set i (a, o')) → Q () ⟨h', g, d, t, os⟩) : wpAny (model prog w) A (setSlotAt a k v) Q E ⟨h, g, d, t, os⟩ := by
  unfold setSlotAt
  have : ¬ k ≥ sizeLine := by rw [sizeLine_eq]; omega
  dsimp only
  rw [if_neg this]
  exact m_updatePart D i hi (by rw [e]; exact hf) fun h' D' => hq h' (by rw [e] at D'; exact D')
theorem m_slotAt (D : Own h₀ h news) {a : Addr} {o : Obj} {k : Nat} {r : Option Value} (i : Nat) (hi : news[i]? = some (a, o)) (e : (o.slots[k]?).join = r) {Q : Option Value → Shared → Prop} (hq : Q r ⟨h, g, d, t, os⟩) : wpAny (model prog w) A (slotAt a k) Q E ⟨h, g, d, t, os⟩ :=
  wpAny_bind (m_loadPart D i hi (wpAny_pure (by rw [e]; exact hq)))
theorem m_updCls (D : Own h₀ h news) {a : Addr} {c : Value} {od : Option Addr} {sl : Array (Option Value)} {cd : ClassData} {f : ClassData → ClassData} (o' : Obj) (i : Nat) (hi : news[i]? = some (a, ⟨c, od, .cls cd, sl⟩)) (e : Obj.mapCls f ⟨c, od, .cls cd, sl⟩ = o') (hp : o'.data.pastItsLine = none) (hf : o'.isFreed = false) {Q : Unit → Shared → Prop}
    (hq : ∀ h', Own h₀ h' (news.set i (a, o')) → Q () ⟨h', g, d, t, os⟩) : wpAny (model prog w) A (updateCls a f) Q E ⟨h, g, d, t, os⟩ := by
  unfold updateCls
  refine wpAny_bind (wpAny_load (D.at i a _ hi) ?_)
  dsimp only
  refine wpAny_bind (m_update D i hi (by rw [e]; exact hf) fun h' D' => ?_)
  rw [e] at D'
  unfold lookBehind
  have hlt : i < news.length := (List.getElem?_eq_some_iff.mp hi).1
  refine wpAny_bind (m_loadPart D' i (by rw [List.getElem?_set_self hlt]) ?_)
  rw [hp]
  exact wpAny_pure (hq h' D')
end
end Mine
end
section
open PySem PySem.W PySem.Calls PyProof.Rows PySem.Builtin PySem.W.X
set_option Elab.async false
set_option maxRecDepth 100000
set_option maxHeartbeats 8000000
namespace Mine
section
variable {prog : Program} {w : World} {A : Around} {E : Value → Shared → Prop} {h : Heap} {g : Array GenState} {d : Drawn} {t : Nat} {os : OsState}
theorem s_isSub {c : Addr} {oD : Obj} {cd : ClassData} {Q : Bool → Shared → Prop} (hD : h.get? c = some oD) (hDt : oD.data = .cls cd) (hm : cd.mro = [.ref c, .type "object"]) (hq : Q true ⟨h, g, d, t, os⟩) : wpAny (model prog w) A (isSubtype (.ref c) (.ref c)) Q E ⟨h, g, d, t, os⟩ := by
  unfold isSubtype mroOf classData
  refine wpAny_bind (wpAny_bind (wpAny_bind (wpAny_load hD ?_)))
  rw [hDt]
  refine wpAny_pure (wpAny_pure ?_)
  rw [hm]
  show wpAny _ _ (pure (List.contains _ _)) _ _ _
  rw [show List.contains [Value.ref c, Value.type "object"] (Value.ref c) = true by simp]
  exact wpAny_pure hq
theorem super_cls {c : Addr} {oD : Obj} {cd : ClassData} {Q : Value → Shared → Prop} (hD : h.get? c = some oD) (hDt : oD.data = .cls cd) (hm : cd.mro = [.ref c, .type "object"])
    (hq : ∀ h', h'.get? h.objs.size = some { cls := .type "super", dict := none, data := .fields #[.ref c, .ref c, .ref c], slots := #[] } → (∀ y o, h.get? y = some o → h'.get? y = some o) → Q (.ref h.objs.size) ⟨h', g, d, t, os⟩) :
    wpAny (model prog w) A (call (.type "super") [.ref c, .ref c]) Q E ⟨h, g, d, t, os⟩ := by
  refine ks_callType_codesW (Q₁ := fun obj s₁ => obj = .ref h.objs.size ∧ s₁ = ⟨h.push { cls := .type "super", data := .fields #[.none, .none, .none] }, g, d, t, os⟩) F.ks_called_super (ks_wpAny_checkTypeCall_super hD hDt) F.ks_entry_super_init
    (ks_code_super_new _ _ ⟨rfl, rfl⟩) fun obj s₁ h₁ => ?_
  obtain ⟨rfl, rfl⟩ := h₁
  have up : ∀ y o, h.get? y = some o → (h.push { cls := .type "super", data := .fields #[.none, .none, .none] }).get? y = some o := fun y o e => Heap.get?_push_of_some _ e
  have hso : (h.push { cls := .type "super", data := .fields #[.none, .none, .none] }).get? h.objs.size = some { cls := .type "super", dict := none, data := .fields #[.none, .none, .none], slots := #[] } := Heap.get?_push_at rfl rfl
  have hD' := up _ _ hD
  refine ⟨⟨_, hso, rfl⟩, F.ks_initArgs_super _ _ _, ?_⟩
  unfold Builtin.«super.__init__» noKeywords
  repeat (first | (with_reducible refine ks_wpAny_isType_cls hD' hDt ?_) | (with_reducible refine s_isSub hD' hDt hm ?_) | (with_reducible refine ks_wpAny_super_set3 hso ?_) | wp_step)
  all_goals first
    | (intro h' e k; exact ⟨rfl, hq h' e fun y o ey => k y o (Nat.ne_of_lt (Heap.lt_size ey)) (up y o ey)⟩)
    | (refine ks_wpAny_super_set3 hso ?_; intro h' e k; exact ⟨rfl, hq h' e fun y o ey => k y o (Nat.ne_of_lt (Heap.lt_size ey)) (up y o ey)⟩)
theorem b_own : builtinOwn "object" "__init_subclass__" = some (.builtin "object.__init_subclass__") := by kernel_rfl
theorem b_type : ∃ T, typeOf (.builtin "object.__init_subclass__") = pure (.type T) ∧ T = "classmethod_descriptor" := ⟨_, by kernel_rfl, rfl⟩
theorem b_get : typeLookup (.type "classmethod_descriptor") "__get__" = pure (some (.builtin "classmethod_descriptor.__get__")) := by rw [typeLookup_type, builtinLookup_eq_fast]; kernel_rfl
theorem b_ownS : classOwn (.type "object") "__init_subclass__" = pure (some (.builtin "object.__init_subclass__")) := by kernel_rfl
theorem b_typeV : typeOf (.builtin "object.__init_subclass__") = pure (.type "classmethod_descriptor") := by kernel_rfl
theorem super_ga {so c : Addr} {oD : Obj} {cd : ClassData} {tk : Tok} {Q : Fin → Shared → Prop}
    (hso : h.get? so = some { cls := .type "super", dict := none, data := .fields #[.ref c, .ref c, .ref c], slots := #[] }) (hno : Looks (model prog w) h (opaqueClassAbove (.ref c)) none)
    (hD : h.get? c = some oD) (hDt : oD.data = .cls cd) (hm : cd.mro = [.ref c, .type "object"])
    (hq : wpAny (model prog w) A (call (.builtin "classmethod_descriptor.__get__") [.builtin "object.__init_subclass__", .none, .ref c]) (fun v s' => Q (.done (.ret v)) s') E ⟨h, g, d, t, os⟩) :
    wpAny (model prog w) A (Builtin.«super.__getattribute__» ⟨[.ref so, .str (Str.ofString "__init_subclass__") tk], []⟩) Q E ⟨h, g, d, t, os⟩ := by
  have hdt : ({ cls := .type "super", dict := none, data := .fields #[.ref c, .ref c, .ref c], slots := #[] } : Obj).data = .fields #[.ref c, .ref c, .ref c] := rfl
  have f0 : (#[.ref c, .ref c, .ref c] : Array Value)[0]? = some (.ref c) := rfl
  have f1 : (#[.ref c, .ref c, .ref c] : Array Value)[1]? = some (.ref c) := rfl
  have f2 : (#[.ref c, .ref c, .ref c] : Array Value)[2]? = some (.ref c) := rfl
  have hn : (Str.ofString "__init_subclass__" == ("__class__" : Str)) = false := by decide +kernel
  have hl : (([.ref c, .type "object"] : List Value).dropWhile (· != .ref c)).drop 1 = [.type "object"] := by simp [List.dropWhile_cons]
  have hC : Looks (model prog w) h (mroOf (.ref c)) [.ref c, .type "object"] := fun A Q E s k q => by
    unfold mroOf classData
    refine wpAny_bind (wpAny_bind (wpAny_load (k _ _ hD) ?_))
    rw [hDt]
    exact wpAny_pure (wpAny_pure (hm ▸ q))
  have e1 := b_typeV
  have e2 := b_get
  have e3 := b_ownS
  have e4 : (Value.ref c == Value.ref c) = true := by simp
  unfold Builtin.«super.__getattribute__»
  repeat (first
    | (with_reducible refine wpAny_of_eq (by assumption) ?_) | (with_reducible refine wpAny_field hso hdt f0 ?_) | (with_reducible refine wpAny_field hso hdt f1 ?_) | (with_reducible refine wpAny_field hso hdt f2 ?_)
    | (with_reducible refine ks_wpAny_notOpaque hno ?_)
    | (with_reducible refine Looks.at hC ?_; rw [hl])
    | (simp only [hn, Bool.or_false, Bool.false_eq_true, if_false])
    | ((fail_if_success (with_reducible show wpAny _ _ (call _ _ _) _ _ _)); wp_step)
    | dsimp only)
  rw [if_pos e4]
  refine wpAny_mono hq (fun v s' q => ?_) fun _ _ q => q
  repeat wp_step
  exact q
/-- the attribute `__init_subclass__` of super over a class right under object -/
theorem getattr_super {so c : Addr} {oD : Obj} {cd : ClassData} {Q : Value → Shared → Prop}
    (hso : h.get? so = some { cls := .type "super", dict := none, data := .fields #[.ref c, .ref c, .ref c], slots := #[] }) (hno : Looks (model prog w) h (opaqueClassAbove (.ref c)) none)
    (hD : h.get? c = some oD) (hDt : oD.data = .cls cd) (hm : cd.mro = [.ref c, .type "object"])
    (hq : wpAny (model prog w) A.in1 (call (.builtin "classmethod_descriptor.__get__") [.builtin "object.__init_subclass__", .none, .ref c]) (fun v s' => wpAny (model prog w) A (handedOut v) Q E s') (fun _ _ => False) ⟨h, g, d, t + 1, os⟩) :
    wpAny (model prog w) A (getAttr (.ref so) "__init_subclass__") Q E ⟨h, g, d, t, os⟩ := by
  have hlk := F.ks_slot_super_ga.lookup
  have hT : ∀ t', (⟨h, g, d, t', os⟩ : Shared).TypeIs (.ref so) "super" := fun _ => ⟨_, hso, rfl⟩
  unfold getAttr getAttrBy
  refine wpAny_bind (wpAny_mkText (wpAny_holding (wpAny_bind (wpAny_typeOf (hT _) (wpAny_bind (wpAny_of_eq hlk ?_))))))
  show wpAny _ _ (getAttrByItsOwn (.ref so) (.str _ t) (.type "super") (.builtin "super.__getattribute__") true false) _ _ _
  unfold getAttrByItsOwn hookBefore callGetattribute boundAndCalled
  refine wpAny_bind (wpAny_of_eq (show (if onTheHeap (.type "super") then typeLookup (.type "super") "__getattr__" else pure none) = pure none from rfl) ?_)
  refine wpAny_bind (wpAny_attempt (wpAny_holding ?_))
  show wpAny _ _ (bindSpecial (.builtin "super.__getattribute__") (.ref so) >>= _) _ _ _
  refine wpAny_bind (wpAny_of_eq (F.ks_slot_super_ga.bind _) ?_)
  refine wpAny_mono (Q := fun v s' => wpAny (model prog w) A (handedOut v) Q E s') (E := fun _ _ => False)
    (wpAny_call_entry F.ks_slot_super_ga (hT _) F.ks_entry_super_ga (super_ga hso hno hD hDt hm (wpAny_mono hq (fun v s' q => ⟨_, rfl, q⟩) fun _ _ q => q)) (F.ks_gaArgs_super _ _)) (fun v s' hv => ?_) fun _ _ z => z.elim
  exact hv
end
end Mine
end
section
open PySem PySem.W PySem.Calls PyProof.Rows PySem.Builtin PySem.W.X PySem.W.XRun
set_option Elab.async false
set_option maxRecDepth 100000
set_option maxHeartbeats 8000000
namespace Mine
/-- a pure end: more objects, nothing else -/
noncomputable def More (s : Shared) (P : Value → Heap → Prop) (v : Value) (s' : Shared) : Prop := ∃ h' tk, s' = { s with heap := h', toks := tk } ∧ (∀ b o, s.heap.get? b = some o → h'.get? b = some o) ∧ P v h'
noncomputable abbrev bfO (c : Addr) : Obj := { cls := .type "builtin_function_or_method", data := .fields #[.builtin "object.__init_subclass__", .ref c] }
theorem mem_keep {h h' : Heap} {news : List (Addr × Obj)} (D : Mem h h' [] news) : ∀ b o, h.get? b = some o → h'.get? b = some o := fun b o e => D.old b o e (by simp [away])
local macro_rules | `(tactic| x_close) => `(tactic| first | exact ⟨_, _, rfl, mem_keep (by assumption), trivial⟩ | exact ⟨_, _, rfl, fun _ _ e => e, trivial⟩ | exact ⟨_, _, rfl, mem_keep (by assumption), _, rfl, Mem.at (by assumption) 0 _ _ rfl⟩)
/-- the class K, all but its own names -/
noncomputable abbrev kCd (c ns : Addr) : ClassData := { name := Str.ofString "K", bases := [.type "object"], mro := [.ref c, .type "object"], ns := ns, qualname := Str.ofString "cmp_to_key.<locals>.K", hasDict := false, slotNames := [Str.ofString "obj"] }
theorem get_init {w : World} {s : Shared} {c ns : Addr} {sl : Array (Option Value)} (X : (KR w.params).In s.heap) (hD : s.heap.get? c = some (⟨.type "type", none, .cls (kCd c ns), sl⟩ : Obj)) :
    wpAny (model PySem.Challenge.rw_ij0154_01.prog w) (AM 900 4000) (call (.builtin "classmethod_descriptor.__get__") [.builtin "object.__init_subclass__", .none, .ref c]) (More s fun v h' => ∃ f, v = .ref f ∧ h'.get? f = some (bfO c)) (fun _ _ => False) s := by
  revert X; k_fill; intro X
  x_run
theorem run_init {w : World} {s : Shared} {c ns f : Addr} {sl : Array (Option Value)} (X : (KR w.params).In s.heap) (hD : s.heap.get? c = some (⟨.type "type", none, .cls (kCd c ns), sl⟩ : Obj)) (hf : s.heap.get? f = some (⟨.type "builtin_function_or_method", none, .fields #[.builtin "object.__init_subclass__", .ref c], #[]⟩ : Obj)) :
    wpAny (model PySem.Challenge.rw_ij0154_01.prog w) (AM 900 4000) (call (.ref f) []) (More s fun _ _ => True) (fun _ _ => False) s := by
  revert X; k_fill; intro X
  x_run
/-- how a class right under object greets its maker -/
theorem greet {w : World} {s : Shared} {A : Around} {c ns : Addr} {sl : Array (Option Value)} {Q : Unit → Shared → Prop} {E : Value → Shared → Prop} (hA : Sm A 700 3800) (X : (KR w.params).In s.heap) (hno : Looks (model PySem.Challenge.rw_ij0154_01.prog w) s.heap (opaqueClassAbove (.ref c)) none)
    (hD : s.heap.get? c = some (⟨.type "type", none, .cls (kCd c ns), sl⟩ : Obj)) (hq : ∀ h' tk, (∀ b o, s.heap.get? b = some o → h'.get? b = some o) → Q () { s with heap := h', toks := tk }) :
    wpAny (model PySem.Challenge.rw_ij0154_01.prog w) A (do
      let sup ← call (.type "super") [.ref c, .ref c]
      let f ← holding [sup] (getAttr sup "__init_subclass__")
      let _ ← call f []
      pure ()) Q E s := by
  obtain ⟨h, g, d, t, os⟩ := s
  refine wpAny_bind (super_cls hD rfl rfl fun h1 e1 k1 => ?_)
  refine wpAny_bind (wpAny_holding ?_)
  refine getattr_super e1 (hno.keeps k1) (k1 _ _ hD) rfl rfl ?_
  have h1A : Sm A.in1 900 4000 := ⟨hA.1, Nat.le_trans (m := 700) hA.2.1 (by decide), Nat.le_trans (m := 3801) (Nat.add_le_add_right hA.2.2 1) (by decide)⟩
  refine wk h1A (wpAny_mono (get_init (ns := ns) (sl := sl) (X.keeps k1) (k1 _ _ hD)) (fun v s' q => ?_) fun _ _ q => q)
  obtain ⟨h2, tk2, rfl, k2, f, rfl, hf⟩ := q
  refine wpAny_pure (wpAny_bind ?_)
  refine wk (hA.le (by decide) (by decide)) (d := 900) (u := 4000) (wpAny_mono (run_init (ns := ns) (sl := sl) ((X.keeps k1).keeps k2) (k2 _ _ (k1 _ _ hD)) hf) (fun v s' q => ?_) fun _ _ q => q.elim)
  obtain ⟨h3, tk3, rfl, k3, -⟩ := q
  exact wpAny_pure (hq _ _ fun b o e => k3 _ _ (k2 _ _ (k1 _ _ e)))
end Mine
end
section
open PySem PySem.W PySem.Calls PyProof.Rows PySem.Builtin PySem.W.X
set_option Elab.async false
set_option maxRecDepth 100000
set_option maxHeartbeats 1000000
namespace Mine
theorem c_iterDict : typeLookup (.type "dict") "__iter__" = pure (some (.builtin "dict.__iter__")) := by rw [typeLookup_type, builtinLookup_eq_fast]; kernel_rfl
local macro_rules | `(tactic| walk_at "c_stop") => `(tactic| first
  | (with_reducible show wpAny _ _ (extendedBase _) _ _ _) | (with_reducible show wpAny _ _ (notOverATurnedClass _) _ _ _) | (with_reducible show wpAny _ _ (Slots.read _ _ _) _ _ _) | (with_reducible show wpAny _ _ (Slots.install _ _ _ _) _ _ _)
  | (with_reducible show wpAny _ _ (nsGet _ _) _ _ _) | (with_reducible show wpAny _ _ (nsSet _ _ _) _ _ _) | (with_reducible show wpAny _ _ (nsSetByValue _ _ _) _ _ _) | (with_reducible show wpAny _ _ (nsDel _ _) _ _ _) | (with_reducible show wpAny _ _ (setSlotAt _ _ _) _ _ _) | (with_reducible show wpAny _ _ (slotAt _ _) _ _ _)
  | (with_reducible show wpAny _ _ (linearize _ _) _ _ _) | (with_reducible show wpAny _ _ (mroHook? _) _ _ _) | (with_reducible show wpAny _ _ (updateCls _ _) _ _ _) | (with_reducible show wpAny _ _ (Bind.refreshMaker _) _ _ _)
  | (with_reducible show wpAny _ _ (noteSubclassOfBuiltin _ _) _ _ _) | (with_reducible show wpAny _ _ (newObj _ _ _) _ _ _) | (with_reducible show wpAny _ _ (newFields _ _) _ _ _) | (with_reducible show wpAny _ _ (dictEntries _ _) _ _ _)
  | (with_reducible show wpAny _ _ (seqItems? _) _ _ _) | (with_reducible show wpAny _ _ (forIn _ _ _) _ _ _) | (with_reducible show wpAny _ _ (alloc _) _ _ _) | (with_reducible show wpAny _ _ (Sem.tryCatch _ _) _ _ _) | (with_reducible show wpAny _ _ (collect _) _ _ _))
theorem wpf_cons {α β : Type} {M : Model} {A : Around} {E : Value → Shared → Prop} {s : Shared} {a : α} {l : List α} {b : β} {f : α → β → Sem (ForInStep β)} {Q : β → Shared → Prop} (h : wpAny M A (f a b) (fun r s' => match r with | .done b' => Q b' s' | .yield b' => wpAny M A (forIn l b' f) Q E s') E s) : wpAny M A (forIn (a :: l) b f) Q E s := by
  rw [List.forIn_cons]
  refine wpAny_bind (wpAny_mono h (fun r s' q => ?_) fun _ _ q => q)
  cases r with
  | done b' => exact wpAny_pure q
  | yield b' => exact q
theorem wpf_nil {α β : Type} {M : Model} {A : Around} {E : Value → Shared → Prop} {s : Shared} {b : β} {f : α → β → Sem (ForInStep β)} {Q : β → Shared → Prop} (h : Q b s) : wpAny M A (forIn ([] : List α) b f) Q E s := by
  rw [List.forIn_nil]; exact wpAny_pure h
local macro_rules | `(tactic| walk_at "c_go") => `(tactic| repeat (first | (with_reducible refine wpAny_of_eq (by assumption) ?_) | (with_reducible refine wpf_cons ?_) | (with_reducible refine wpf_nil ?_) | ((fail_if_success (walk_at "c_stop")); first | assumption | wp_step)))
section
variable {prog : Program} {w : World} {A : Around} {E : Value → Shared → Prop} {h₀ h : Heap} {g : Array GenState} {d : Drawn} {t : Nat} {os : OsState} {news : List (Addr × Obj)}
theorem c_seq {a : Addr} {o : Obj} {xs : Array Value} {n : Nat} {Q : Option (Array Value) → Shared → Prop} (ho : h.get? a = some o) (hd : o.data = .seq xs n) (hq : Q (some xs) ⟨h, g, d, t, os⟩) : wpAny (model prog w) A (seqItems? (.ref a)) Q E ⟨h, g, d, t, os⟩ := by
  unfold seqItems?
  refine wpAny_bind (wpAny_load ho ?_)
  obtain ⟨c, od, dt, sl⟩ := o
  cases hd
  exact wpAny_pure hq
theorem c_ident : Slots.isIdentifier (Str.ofString "obj") = some true := by decide +kernel
theorem c_mangle : Slots.mangle (Str.ofString "K") (Str.ofString "obj") = Str.ofString "obj" := by kernel_rfl
theorem m_newObj (D : Own h₀ h news) {T : String} {data : Data} {Q : Value → Shared → Prop} (hq : ∀ a h', Own h₀ h' ((a, { cls := .type T, data := data }) :: news) → Q (.ref a) ⟨h', g, d, t, os⟩) (hf : ({ cls := .type T, data := data } : Obj).isFreed = false) (hd : sizeOk data := by size_fits) :
    wpAny (model prog w) A (newObj (.type T) data) Q E ⟨h, g, d, t, os⟩ := wpAny_newObj_type (hq _ _ (D.alloc hf)) hd
noncomputable abbrev cO (cd : ClassData) (sl : Array (Option Value)) : Obj := { cls := .type "type", data := .cls cd, slots := sl }
theorem m_classOwn (D : Own h₀ h news) {c ns : Addr} {cd : ClassData} {sl : Array (Option Value)} {on : Obj} {name : Str} {r : Option Value} (i j : Nat) (hi : news[i]? = some (c, cO cd sl)) (hns : cd.ns = ns) (hj : news[j]? = some (ns, on)) (e : nsLook name on = pure r)
    {Q : Option Value → Shared → Prop} (hq : Q r ⟨h, g, d, t, os⟩) : wpAny (model prog w) A (classOwn (.ref c) name) Q E ⟨h, g, d, t, os⟩ := by
  unfold classOwn classData
  refine wpAny_bind (wpAny_bind (m_load D i hi (wpAny_pure ?_)))
  rw [hns]
  exact m_nsGet D j hj e hq
theorem m_mroOf (D : Own h₀ h news) {c : Addr} {cd : ClassData} {sl : Array (Option Value)} (i : Nat) (hi : news[i]? = some (c, cO cd sl)) {Q : List Value → Shared → Prop} (hq : Q cd.mro ⟨h, g, d, t, os⟩) : wpAny (model prog w) A (mroOf (.ref c)) Q E ⟨h, g, d, t, os⟩ := by
  unfold mroOf classData
  exact wpAny_bind (wpAny_bind (m_load D i hi (wpAny_pure (wpAny_pure hq))))
/-- a look-up in a class right under object -/
theorem m_lookup (D : Own h₀ h news) {c ns : Addr} {cd : ClassData} {sl : Array (Option Value)} {on : Obj} {name : Str} {r r₂ : Option Value} (i j : Nat) (hi : news[i]? = some (c, cO cd sl)) (hm : cd.mro = [.ref c, .type "object"]) (hns : cd.ns = ns) (hj : news[j]? = some (ns, on)) (e : nsLook name on = pure r)
    (e2 : builtinOwn "object" name = r₂) {Q : Option Value → Shared → Prop} (hq : Q (r.or r₂) ⟨h, g, d, t, os⟩) : wpAny (model prog w) A (typeLookup (.ref c) name) Q E ⟨h, g, d, t, os⟩ := by
  unfold typeLookup
  refine wpAny_bind (m_mroOf D i hi ?_)
  rw [hm]
  refine wpAny_bind (wpf_cons ?_)
  refine wpAny_bind (m_classOwn D i j hi hns hj e ?_)
  cases r with
  | some v => exact wpAny_pure (wpAny_pure hq)
  | none =>
    refine wpAny_pure (wpf_cons ?_)
    unfold classOwn
    refine wpAny_bind (wpAny_pure ?_)
    rw [e2]
    cases r₂ with
    | some v => exact wpAny_pure (wpAny_pure hq)
    | none => exact wpAny_pure (wpf_nil (wpAny_pure hq))
noncomputable abbrev mdO (c : Addr) (tk : Tok) : Obj := { cls := .type "member_descriptor", data := .fields #[.str (Str.ofString "obj") tk, .ref c, .builtin "proto.slot", .builtin "proto.slot#set", rawInt 0] }
theorem m_nsSetByValue (D : Own h₀ h news) {a : Addr} {name : Str} {v : Value} {es : List DictEntry} {n : Nat} {c : Value} {od : Option Addr} {sl : Array (Option Value)} (o' : Int → Tok → Obj) (i : Nat) (hi : news[i]? = some (a, ⟨c, od, .dict es.toArray n, sl⟩)) (hsz : es.length < 1000)
    (hg : aRefKeyMayBeTheName name es.toArray = false) (e : ∀ hs tk, Obj.putName name hs (.str name tk) v ⟨c, od, .dict es.toArray n, sl⟩ = o' hs tk) (hf : ∀ hs tk, (o' hs tk).isFreed = false) {Q : Unit → Shared → Prop}
    (hq : ∀ h' hs, Own h₀ h' (news.set i (a, o' hs t)) → Q () ⟨h', g, d, t + 1, os⟩) : wpAny (model prog w) A (nsSetByValue a name v) Q E ⟨h, g, d, t, os⟩ := by
  unfold nsSetByValue
  refine wpAny_bind (m_loadPart D i hi ?_)
  dsimp only
  have : ¬ (decide (es.toArray.size > sizeLine) && noSuchName name es.toArray) = true := by
    rw [List.size_toArray, sizeLine_eq, decide_eq_false (by omega)]; simp
  rw [if_neg this]
  exact m_nsSet D o' i hi hg e hf hq
theorem forIn_same {α β : Type} {M : Model} {s : Shared} {l : List α} {b : β} {f : α → β → Sem (ForInStep β)} {Q : β → Shared → Prop} (hf : ∀ e ∈ l, wpAny M A (f e b) (fun r s' => r = .yield b ∧ s' = s) E s) (hq : Q b s) : wpAny M A (forIn l.toArray b f) Q E s := by
  rw [← Array.forIn_toList]
  induction l with
  | nil => exact wpf_nil hq
  | cons x l ih =>
    refine wpf_cons (wpAny_mono (hf x (.head _)) (fun r s' q => ?_) fun _ _ q => q)
    obtain ⟨rfl, rfl⟩ := q
    exact ih fun e he => hf e (.tail _ he)
theorem n_int : typeLookup (.type "int") "__set_name__" = pure none := by rw [typeLookup_type, builtinLookup_eq_fast]; kernel_rfl
theorem n_str : typeLookup (.type "str") "__set_name__" = pure none := by rw [typeLookup_type, builtinLookup_eq_fast]; kernel_rfl
theorem n_list : typeLookup (.type "list") "__set_name__" = pure none := by rw [typeLookup_type, builtinLookup_eq_fast]; kernel_rfl
theorem n_tuple : typeLookup (.type "tuple") "__set_name__" = pure none := by rw [typeLookup_type, builtinLookup_eq_fast]; kernel_rfl
theorem n_func : typeLookup (.type "function") "__set_name__" = pure none := by rw [typeLookup_type, builtinLookup_eq_fast]; kernel_rfl
theorem n_none : typeLookup (.type "NoneType") "__set_name__" = pure none := by rw [typeLookup_type, builtinLookup_eq_fast]; kernel_rfl
theorem n_md : typeLookup (.type "member_descriptor") "__set_name__" = pure none := by rw [typeLookup_type, builtinLookup_eq_fast]; kernel_rfl
theorem m_dictEntries (D : Own h₀ h news) {a : Addr} {c : Value} {od : Option Addr} {sl : Array (Option Value)} {es : Array DictEntry} {n : Nat} (i : Nat) (hi : news[i]? = some (a, ⟨c, od, .dict es n, sl⟩)) {Q : Array DictEntry → Shared → Prop} (hq : Q es ⟨h, g, d, t, os⟩) :
    wpAny (model prog w) A (dictEntries a) Q E ⟨h, g, d, t, os⟩ := wpAny_dictEntries (D.at i a _ hi) rfl hq
theorem slots_read {Q : Slots.Plan → Shared → Prop} {es : Array DictEntry} {slA : Addr} {l4 nl : Nat} {en : DictEntry} (hf : es.find? (fun e => e.key.isStr (Str.ofString "__slots__")) = some en) (hv : en.val = .ref slA) (ho : es.any (fun e => e.key.isStr (Str.ofString "obj")) = false)
    (hsl : h.get? slA = some { cls := .type "list", data := .seq #[.str (Str.ofString "obj") l4] nl })
    (hq : ∀ h', (∀ b o, h.get? b = some o → h'.get? b = some o) → Q { names := [Str.ofString "obj"], dict := false, weak := false, inherited := [] } ⟨h', g, d, t, os⟩) : wpAny (model prog w) A (Slots.read (Str.ofString "K") [.type "object"] es) Q E ⟨h, g, d, t, os⟩ := by
  unfold Slots.read
  have e1 := c_best
  have e2 := c_slotNames
  have e3 := c_dict
  have e4 := c_weak
  have e5 := c_var
  have e6 := c_ident
  walk_at "c_go"
  rw [hf]
  walk_at "c_go"
  rw [hv]
  walk_at "c_go"
  with_reducible show wpAny _ _ (collect _) _ _ _
  refine wpAny_collect_seq (s := ⟨h, g, d, t, os⟩) slA (.inl rfl) hsl rfl rfl (fun h' hk => ?_) (by rw [sizeLine_eq, List.size_toArray]; exact Nat.le_of_ble_eq_true rfl)
  walk_at "c_go"
  rw [c_ident]
  walk_at "c_go"
  rw [← Array.forIn_toList]
  rw [show (((false, false, (#[] : Array Str), ([] : List Str)).snd.snd.fst.push (Str.ofString "obj"))).toList = [Str.ofString "obj"] from rfl]
  walk_at "c_go"
  rw [c_mangle, ho]
  walk_at "c_go"
  exact hq h' hk
theorem no_opaque {w : World} {h : Heap} (X : (KR w.params).In h) (c : Addr) : Looks (model PySem.Challenge.rw_ij0154_01.prog w) h (opaqueClassAbove (.ref c)) none := .of_peek X (by kernel_rfl)
theorem type_new (hA : Sm A 700 3800) {Q : Fin → Shared → Prop} {h : Heap} {nsA bT slA stA f0 f1 f2 f3 f4 f5 : Addr} {i1 i2 i3 i4 i5 i6 i7 i8 i9 i10 i11 i12 : Int} {k1 k2 k3 k4 k5 k6 k7 k8 k9 k10 k11 k12 l1 l2 l3 l4 tn n0 nb nl : Nat} {ln : Int} {dst d0 d1 d2 d3 d4 d5 : Data} {sst : Array (Option Value)}
    (X : (KR w.params).In h) (hns : h.get? nsA = some (dObj [ent "__module__" i1 k1 (.str (Str.ofString "cpy313.functools") l1), ent "__qualname__" i2 k2 (.str (Str.ofString "cmp_to_key.<locals>.K") l2), ent "__firstlineno__" i3 k3 (.int ln l3),
      ent "__slots__" i4 k4 (.ref slA), ent "__init__" i5 k5 (.ref f0), ent "__lt__" i6 k6 (.ref f1), ent "__gt__" i7 k7 (.ref f2), ent "__eq__" i8 k8 (.ref f3), ent "__le__" i9 k9 (.ref f4), ent "__ge__" i10 k10 (.ref f5),
      ent "__hash__" i11 k11 .none, ent "__static_attributes__" i12 k12 (.ref stA)] n0))
    (hb : h.get? bT = some { cls := .type "tuple", data := .seq #[.type "object"] nb }) (hne : nsA ≠ sysModules)
    (hsl : h.get? slA = some { cls := .type "list", data := .seq #[.str (Str.ofString "obj") l4] nl }) (hst : h.get? stA = some { cls := .type "tuple", data := dst, slots := sst })
    (hf0 : h.get? f0 = some { cls := .type "function", data := d0 }) (hf1 : h.get? f1 = some { cls := .type "function", data := d1 }) (hf2 : h.get? f2 = some { cls := .type "function", data := d2 })
    (hf3 : h.get? f3 = some { cls := .type "function", data := d3 }) (hf4 : h.get? f4 = some { cls := .type "function", data := d4 }) (hf5 : h.get? f5 = some { cls := .type "function", data := d5 })
    (hq : ∀ c ns md h' tk i13 i14 j1 j2 j3, (∀ b o, h.get? b = some o → h'.get? b = some o) → h.get? c = none → h.get? ns = none → h.get? md = none → h'.get? c = some (cO (kCd c ns) #[some (.ref bT), none, some (.str (Str.ofString "K") tn), some (.str (Str.ofString "cmp_to_key.<locals>.K") l2), some (.builtin "object.__new__"), some (.bool false)]) →
      h'.get? ns = some (dObj [ent "__module__" i1 k1 (.str (Str.ofString "cpy313.functools") l1), ent "__firstlineno__" i3 k3 (.int ln l3),
      ent "__slots__" i4 k4 (.ref slA), ent "__init__" i5 k5 (.ref f0), ent "__lt__" i6 k6 (.ref f1), ent "__gt__" i7 k7 (.ref f2), ent "__eq__" i8 k8 (.ref f3), ent "__le__" i9 k9 (.ref f4), ent "__ge__" i10 k10 (.ref f5),
      ent "__hash__" i11 k11 .none, ent "__static_attributes__" i12 k12 (.ref stA), ent "obj" i13 j1 (.ref md), ent "__doc__" i14 j2 .none] 3) → h'.get? md = some (mdO c j3) → Q (.done (.ret (.ref c))) ⟨h', g, d, tk, os⟩) :
    wpAny (model PySem.Challenge.rw_ij0154_01.prog w) A (Builtin.«type.__new__» ⟨[.type "type", .str (Str.ofString "K") tn, .ref bT, .ref nsA], []⟩) Q E ⟨h, g, d, t, os⟩ := by
  have D : Own h h [] := .start h
  unfold Builtin.«type.__new__»
  have hTb : (⟨h, g, d, t, os⟩ : Shared).TypeIs (.ref bT) "tuple" := ⟨_, hb, rfl⟩
  have hTn : (⟨h, g, d, t, os⟩ : Shared).TypeIs (.ref nsA) "dict" := ⟨_, hns, rfl⟩
  have e1 := c_turned
  have e2 := c_ext
  have e3 := c_isType
  have e4 := PySem.F.isi_meta_object
  have e5 := PySem.F.sub_type_type
  have e6 := PySem.W.KPt.sub_tt
  have e7 := PySem.F.kt_sub_dict
  have e8 := c_iterDict
  have hbeq : (nsA == sysModules) = false := by simp [hne]
  generalize hes : [ent "__module__" i1 k1 (.str (Str.ofString "cpy313.functools") l1), ent "__qualname__" i2 k2 (.str (Str.ofString "cmp_to_key.<locals>.K") l2), ent "__firstlineno__" i3 k3 (.int ln l3),
      ent "__slots__" i4 k4 (.ref slA), ent "__init__" i5 k5 (.ref f0), ent "__lt__" i6 k6 (.ref f1), ent "__gt__" i7 k7 (.ref f2), ent "__eq__" i8 k8 (.ref f3), ent "__le__" i9 k9 (.ref f4), ent "__ge__" i10 k10 (.ref f5),
      ent "__hash__" i11 k11 .none, ent "__static_attributes__" i12 k12 (.ref stA)] = es at hns
  have q1 : es.toArray.find? (fun e => e.key.isStr (Str.ofString "__slots__")) = some (ent "__slots__" i4 k4 (.ref slA)) := by rw [← hes]; kernel_rfl
  have q2 : es.toArray.any (fun e => e.key.isStr (Str.ofString "obj")) = false := by rw [← hes]; kernel_rfl
  have q3 : es.toArray.isEmpty = false := by rw [← hes]; kernel_rfl
  have q4 : es.toArray.any (fun e => e.key.isStr (Str.ofString "__module__")) = true := by rw [← hes]; kernel_rfl
  have q5 : es.toArray.any (fun e => e.key.isStr (Str.ofString "__del__")) = false := by rw [← hes]; kernel_rfl
  have q6 : es.toArray.size = 12 := by rw [← hes]; rfl
  walk_at "c_go"
  refine c_seq hb rfl ?_
  rw [show ((some #[Value.type "object"]).getD #[]).toList = [Value.type "object"] from rfl]
  wp_delta
  rw [show (if [Value.type "object"].isEmpty = true then [Value.type "object"] else [Value.type "object"]) = [Value.type "object"] from rfl]
  walk_at "c_go"
  refine wpAny_dictEntries hns rfl ?_
  walk_at "c_go"
  refine slots_read q1 rfl q2 hsl fun h1 hk1 => ?_
  replace D := D.ext hk1
  walk_at "c_go"
  refine m_newObj D (fun ns h2 D => ?_) rfl (by show es.toArray.size ≤ sizeLine + 1; rw [q6, sizeLine_eq]; exact Nat.le_of_ble_eq_true rfl)
  walk_at "c_go"
  rw [show ((fun n : Str => es.toArray.any fun x => x.key.isStr n) (Str.ofString "__module__")) = true from q4]
  walk_at "c_go"
  rw [show ((Str.ofString "K").cps.any fun c => decide (55296 ≤ c) && decide (c ≤ 57343)) = false by kernel_rfl]
  walk_at "c_go"
  rw [show ((Str.ofString "K").cps.contains 0) = false by kernel_rfl]
  walk_at "c_go"
  refine m_nsGet D 0 rfl (r := some (.str (Str.ofString "cmp_to_key.<locals>.K") l2)) (by rw [← hes]; kernel_rfl) ?_
  walk_at "c_go"
  refine m_nsGet D 0 rfl (r := some (.str (Str.ofString "cmp_to_key.<locals>.K") l2)) (by rw [← hes]; kernel_rfl) ?_
  walk_at "c_go"
  refine m_nsGet D 0 rfl (r := none) (by rw [← hes]; kernel_rfl) ?_
  walk_at "c_go"
  refine m_alloc D rfl fun c h3 D => ?_
  walk_at "c_go"
  refine m_slot D (cO _ #[some (.ref bT)]) 0 rfl (by decide) (by rfl) rfl fun h4 D => ?_
  simp only [List.set_cons_zero, List.set_cons_succ] at D
  walk_at "c_go"
  refine m_slot D (cO _ #[some (.ref bT), none, some (.str (Str.ofString "K") tn)]) 0 rfl (by decide) (by rfl) rfl fun h5 D => ?_
  simp only [List.set_cons_zero, List.set_cons_succ] at D
  walk_at "c_go"
  refine m_slot D (cO _ #[some (.ref bT), none, some (.str (Str.ofString "K") tn), some (.str (Str.ofString "cmp_to_key.<locals>.K") l2)]) 0 rfl (by decide) (by rfl) rfl fun h6 D => ?_
  simp only [List.set_cons_zero, List.set_cons_succ] at D
  walk_at "c_go"
  generalize hes1 : [ent "__module__" i1 k1 (.str (Str.ofString "cpy313.functools") l1), ent "__firstlineno__" i3 k3 (.int ln l3),
      ent "__slots__" i4 k4 (.ref slA), ent "__init__" i5 k5 (.ref f0), ent "__lt__" i6 k6 (.ref f1), ent "__gt__" i7 k7 (.ref f2), ent "__eq__" i8 k8 (.ref f3), ent "__le__" i9 k9 (.ref f4), ent "__ge__" i10 k10 (.ref f5),
      ent "__hash__" i11 k11 .none, ent "__static_attributes__" i12 k12 (.ref stA)] = es1
  refine m_nsDel D (dObj es1 1) 1 rfl (by rw [← hes]; kernel_rfl) (by rw [← hes, ← hes1]; kernel_rfl) rfl fun h7 D => ?_
  simp only [List.set_cons_zero, List.set_cons_succ] at D
  walk_at "c_go"
  refine m_nsGet D 1 rfl (r := none) (by rw [← hes1]; kernel_rfl) ?_
  walk_at "c_go"
  refine m_nsGet D 1 rfl (r := none) (by rw [← hes1]; kernel_rfl) ?_
  walk_at "c_go"
  refine m_nsGet D 1 rfl (r := none) (by rw [← hes1]; kernel_rfl) ?_
  walk_at "c_go"
  refine m_nsGet D 1 rfl (r := none) (by rw [← hes1]; kernel_rfl) ?_
  walk_at "c_go"
  refine m_nsGet D 1 rfl (r := none) (by rw [← hes1]; kernel_rfl) ?_
  walk_at "c_go"
  have e9 := c_lin
  have e10 := c_hook
  have e11 := c_made
  have e12 := c_weak
  have e13 := c_dict
  have e14 := c_note
  walk_at "c_go"
  rw [show List.filter (fun x => x != Value.ref c) (Value.ref c :: [Value.type "object"]) = [Value.type "object"] by simp]
  rw [show ((fun n : Str => es.toArray.any fun x => x.key.isStr n) (Str.ofString "__del__")) = false from q5]
  refine wpAny_of_eq (a := false) (by kernel_rfl) ?_
  walk_at "c_go"
  refine m_updCls D (cO { name := Str.ofString "K", bases := [Value.type "object"], mro := [.ref c, .type "object"], ns := ns, qualname := Str.ofString "cmp_to_key.<locals>.K" } #[some (.ref bT), none, some (.str (Str.ofString "K") tn), some (.str (Str.ofString "cmp_to_key.<locals>.K") l2)]) 0 rfl rfl rfl rfl fun h8 D => ?_
  simp only [List.set_cons_zero, List.set_cons_succ] at D
  walk_at "c_go"
  refine m_slot D (cO _ #[some (.ref bT), none, some (.str (Str.ofString "K") tn), some (.str (Str.ofString "cmp_to_key.<locals>.K") l2), some (.builtin "object.__new__")]) 0 rfl (by decide) (by rfl) rfl fun h9 D => ?_
  simp only [List.set_cons_zero, List.set_cons_succ] at D
  walk_at "c_go"
  unfold Bind.refreshMaker
  refine wpAny_bind (m_slotAt D 0 rfl rfl ?_)
  walk_at "c_go"
  refine m_lookup D 0 1 rfl rfl rfl rfl (r := none) (by rw [← hes1]; kernel_rfl) (r₂ := some (.builtin "object.__new__")) (by kernel_rfl) ?_
  dsimp only [Option.none_or]
  walk_at "c_go"
  rw [show "object.__new__".endsWith ".__new__" = true by decide +kernel]
  walk_at "c_go"
  unfold Slots.install
  walk_at "c_go"
  refine m_nsGet D 1 rfl (r := none) (by rw [← hes1]; kernel_rfl) ?_
  walk_at "c_go"
  refine m_newObj D (fun md h10 D => ?_) rfl (by show _ ≤ sizeLine + 2; rw [sizeLine_eq]; exact Nat.le_of_ble_eq_true rfl)
  replace D : Own h h10 [(md, mdO c t), (c, _), (ns, _)] := D
  walk_at "c_go"
  refine m_nsSetByValue D (fun hs tk => dObj (es1 ++ [ent "obj" hs tk (.ref md)]) 2) 2 rfl (by rw [← hes1]; exact Nat.lt_of_lt_of_le (Nat.lt_succ_self 11) (by decide)) (by rw [← hes1]; kernel_rfl) (fun hs tk => by rw [← hes1]; kernel_rfl) (fun _ _ => rfl) fun h11 i13 D => ?_
  simp only [List.set_cons_zero, List.set_cons_succ] at D
  generalize hes2 : es1 ++ [ent "obj" i13 (t + 1) (.ref md)] = es2 at D
  walk_at "c_go"
  refine m_updCls D (cO { name := Str.ofString "K", bases := [Value.type "object"], mro := [.ref c, .type "object"], ns := ns, qualname := Str.ofString "cmp_to_key.<locals>.K", hasDict := false, slotNames := [Str.ofString "obj"] } _) 1 rfl rfl rfl rfl fun h12 D => ?_
  simp only [List.set_cons_zero, List.set_cons_succ] at D
  walk_at "c_go"
  refine m_slot D (cO _ #[some (.ref bT), none, some (.str (Str.ofString "K") tn), some (.str (Str.ofString "cmp_to_key.<locals>.K") l2), some (.builtin "object.__new__"), some (.bool false)]) 1 rfl (by decide) (by rfl) rfl fun h13 D => ?_
  simp only [List.set_cons_zero, List.set_cons_succ] at D
  walk_at "c_go"
  refine m_nsGet D 2 rfl (r := none) (by rw [← hes2, ← hes1]; kernel_rfl) ?_
  walk_at "c_go"
  refine m_nsSet D (fun hs tk => dObj (es2 ++ [ent "__doc__" hs tk .none]) 3) 2 rfl (by rw [← hes2, ← hes1]; kernel_rfl) (fun hs tk => by rw [← hes2, ← hes1]; kernel_rfl) (fun _ _ => rfl) fun h14 i14 D => ?_
  simp only [List.set_cons_zero, List.set_cons_succ] at D
  generalize hes3 : es2 ++ [ent "__doc__" i14 _ .none] = es3 at D
  walk_at "c_go"
  refine m_nsGet D 2 rfl (r := some (.ref f3)) (by rw [← hes3, ← hes2, ← hes1]; kernel_rfl) ?_
  walk_at "c_go"
  refine m_nsGet D 2 rfl (r := some .none) (by rw [← hes3, ← hes2, ← hes1]; kernel_rfl) ?_
  walk_at "c_go"
  refine wpAny_of_eq (e14 c) ?_
  walk_at "c_go"
  have u0 : ∀ (tk : Nat), (⟨h14, g, d, tk, os⟩ : Shared).TypeIs (.ref f0) "function" := fun _ => ⟨_, D.old hf0, rfl⟩
  have u1 : ∀ (tk : Nat), (⟨h14, g, d, tk, os⟩ : Shared).TypeIs (.ref f1) "function" := fun _ => ⟨_, D.old hf1, rfl⟩
  have u2 : ∀ (tk : Nat), (⟨h14, g, d, tk, os⟩ : Shared).TypeIs (.ref f2) "function" := fun _ => ⟨_, D.old hf2, rfl⟩
  have u3 : ∀ (tk : Nat), (⟨h14, g, d, tk, os⟩ : Shared).TypeIs (.ref f3) "function" := fun _ => ⟨_, D.old hf3, rfl⟩
  have u4 : ∀ (tk : Nat), (⟨h14, g, d, tk, os⟩ : Shared).TypeIs (.ref f4) "function" := fun _ => ⟨_, D.old hf4, rfl⟩
  have u5 : ∀ (tk : Nat), (⟨h14, g, d, tk, os⟩ : Shared).TypeIs (.ref f5) "function" := fun _ => ⟨_, D.old hf5, rfl⟩
  have ul : ∀ (tk : Nat), (⟨h14, g, d, tk, os⟩ : Shared).TypeIs (.ref slA) "list" := fun _ => ⟨_, D.old hsl, rfl⟩
  have ut : ∀ (tk : Nat), (⟨h14, g, d, tk, os⟩ : Shared).TypeIs (.ref stA) "tuple" := fun _ => ⟨_, D.old hst, rfl⟩
  have um : ∀ (tk : Nat), (⟨h14, g, d, tk, os⟩ : Shared).TypeIs (.ref md) "member_descriptor" := fun _ => ⟨_, D.at 0 _ _ rfl, rfl⟩
  have hk2 : ∀ e ∈ es3, (∃ s t, e.key = Value.str s t) ∧ laidUnderItsOwnName e.key e.val = false ∧ ∃ T, (∀ tk, (⟨h14, g, d, tk, os⟩ : Shared).TypeIs e.val T) ∧ typeLookup (.type T) "__set_name__" = pure none := by
    rw [← hes3, ← hes2, ← hes1]
    refine List.forall_mem_cons.mpr ⟨⟨⟨_, _, rfl⟩, rfl, _, fun _ => rfl, n_str⟩, ?_⟩
    refine List.forall_mem_cons.mpr ⟨⟨⟨_, _, rfl⟩, rfl, _, fun _ => rfl, n_int⟩, ?_⟩
    refine List.forall_mem_cons.mpr ⟨⟨⟨_, _, rfl⟩, rfl, _, ul, n_list⟩, ?_⟩
    refine List.forall_mem_cons.mpr ⟨⟨⟨_, _, rfl⟩, rfl, _, u0, n_func⟩, ?_⟩
    refine List.forall_mem_cons.mpr ⟨⟨⟨_, _, rfl⟩, rfl, _, u1, n_func⟩, ?_⟩
    refine List.forall_mem_cons.mpr ⟨⟨⟨_, _, rfl⟩, rfl, _, u2, n_func⟩, ?_⟩
    refine List.forall_mem_cons.mpr ⟨⟨⟨_, _, rfl⟩, rfl, _, u3, n_func⟩, ?_⟩
    refine List.forall_mem_cons.mpr ⟨⟨⟨_, _, rfl⟩, rfl, _, u4, n_func⟩, ?_⟩
    refine List.forall_mem_cons.mpr ⟨⟨⟨_, _, rfl⟩, rfl, _, u5, n_func⟩, ?_⟩
    refine List.forall_mem_cons.mpr ⟨⟨⟨_, _, rfl⟩, rfl, _, fun _ => rfl, n_none⟩, ?_⟩
    refine List.forall_mem_cons.mpr ⟨⟨⟨_, _, rfl⟩, rfl, _, ut, n_tuple⟩, ?_⟩
    refine List.forall_mem_cons.mpr ⟨⟨⟨_, _, rfl⟩, rfl, _, um, n_md⟩, ?_⟩
    refine List.forall_mem_cons.mpr ⟨⟨⟨_, _, rfl⟩, rfl, _, fun _ => rfl, n_none⟩, ?_⟩
    exact fun _ h => nomatch h
  refine wpAny_tryCatch ?_
  refine wpAny_holding ?_
  refine wpAny_bind (m_dictEntries D 2 rfl ?_)
  refine wpAny_bind (forIn_same (fun e he => ?_) ?_)
  · obtain ⟨s', t', e1⟩ := (hk2 e he).1
    rw [e1]
    exact wpAny_bind (wpAny_pure (wpAny_pure ⟨rfl, rfl⟩))
  refine wpAny_ite ?_
  rw [if_neg Bool.false_ne_true]
  refine wpAny_bind (m_dictEntries D 2 rfl ?_)
  refine wpAny_bind (forIn_same (fun e he => ?_) ?_)
  · obtain ⟨-, e1, T, hT, hn⟩ := hk2 e he
    rw [e1, if_neg Bool.false_ne_true]
    exact wpAny_bind (wpAny_specialOf (hT _) hn (wpAny_pure ⟨rfl, rfl⟩))
  clear hk2
  refine greet (ns := ns) hA (X.keeps (D.keep)) (no_opaque (X.keeps (D.keep)) c) (D.at 1 _ _ rfl) fun h15 tk k15 => ?_
  refine wpAny_pure (hq c ns md h15 tk i13 i14 (t + 1) (t + 1 + 1) t (fun b o e => k15 _ _ (D.keep _ _ e)) (D.no 1 _ _ rfl) (D.no 2 _ _ rfl) (D.no 0 _ _ rfl) (k15 _ _ (D.at 1 _ _ rfl)) ?_ (k15 _ _ (D.at 0 _ _ rfl)))
  subst hes1
  subst hes2
  subst hes3
  exact k15 _ _ (D.at 2 _ _ rfl)
end
end Mine
end
section
open PySem PySem.W PySem.Calls PyProof.Rows PySem.Builtin PySem.W.X
set_option Elab.async false
set_option maxRecDepth 100000
set_option maxHeartbeats 8000000
namespace Mine
theorem t_isType : isType (.type "type") = pure true := by kernel_rfl
theorem t_made : Bind.madeBy (.type "type") = pure (some "type.__new__") := by kernel_rfl
theorem t_mro : mroOf (.type "type") = pure [.type "type", .type "object"] := by rw [mroOf_type]; kernel_rfl
theorem t_check (a b c : Value) : checkBuiltinCall "type.__new__" ⟨[.type "type", a, b, c], []⟩ = pure () := by kernel_rfl
theorem t_type (a b c : Value) : checkTypeCall "type" ⟨[a, b, c], []⟩ = pure () := by kernel_rfl
theorem t_slotI : Slot "type" "__init__" "type.__init__" := .of (owner := "type") (n := "__init__") (by rw [typeLookup_type, builtinLookup_eq_fast]; kernel_rfl) (by decide +kernel) (by decide +kernel) (by decide +kernel)
  (by first | exact .inl (by decide +kernel) | exact .inr (by decide +kernel)) (by rw [isSubtype_type]; kernel_rfl)
theorem t_args (o a b c : Value) : argsOk "type.__init__" ⟨[o, a, b, c], []⟩ := by unfold argsOk; kernel_rfl
theorem t_entry : entryFor table "type.__new__" = some Builtin.«type.__new__» := entryFor_of_tree (by kernel_rfl)
theorem t_entryI : entryFor table "type.__init__" = some Builtin.«type.__init__» := entryFor_of_tree (by kernel_rfl)
theorem t_plain : plainId "type.__new__" = true := by decide +kernel
section
variable {prog : Program} {w : World} {A : Around} {E : Value → Shared → Prop} {s : Shared}
/-- a class statement's call of type -/
theorem call_type {n b ns : Value} {Q : Value → Shared → Prop}
    (h : wpAny (model prog w) A.in1.in1 (Builtin.«type.__new__» ⟨[.type "type", n, b, ns], []⟩) (fun f s' => ∃ c, f = .done (.ret (.ref c)) ∧ s'.TypeIs (.ref c) "type" ∧ Q (.ref c) s') E s) :
    wpAny (model prog w) A (call (.type "type") [n, b, ns]) Q E s := by
  refine wpAny_call (codeAny_of_tree ?_)
  show wpAny _ _ (callAny (.type "type") _) _ _ _
  refine wpAny_pure ⟨Code.quiet_builtin _ (by decide +kernel), codeAny_builtin F.entry_type_call ?_⟩
  rw [Around.under_plain (weight_type_call_type "type" _ []) rfl]
  have e1 := t_mro
  have e2 := t_made
  repeat (any_goals (first | assumption | ((with_reducible show wpAny _ _ (checkTypeCall _ _) _ _ _); refine wpAny_of_eq (t_type n b ns) ?_) | (with_reducible refine wpAny_of_eq (by assumption) ?_) | ((fail_if_success (with_reducible show wpAny _ _ (call _ _ _) _ _ _)); wp_step)))
  refine wpAny_call (codeAny_of_tree ?_)
  show wpAny _ _ (do checkBuiltinCall "type.__new__" ⟨[.type "type", n, b, ns], []⟩; again (.builtin "type.__new__" ⟨[.type "type", n, b, ns], []⟩)) _ _ _
  refine wpAny_bind (wpAny_of_eq (t_check n b ns) (wpAny_pure ⟨plainId_quiet t_plain _, codeAny_builtin t_entry ?_⟩))
  rw [Around.under_plainId t_plain _]
  refine wpAny_mono h (fun f s' q => ?_) fun _ _ q => q
  obtain ⟨c, rfl, hT, hq⟩ := q
  show wpAny _ _ _ _ _ _
  have e4 := PySem.F.sub_type_type
  have e5 := t_slotI.lookup
  have e6 := t_slotI.bind (.ref c)
  repeat (any_goals (first | assumption | (with_reducible refine wpAny_of_eq (by assumption) ?_) | ((fail_if_success (with_reducible show wpAny _ _ (call _ _ _) _ _ _)); wp_step)))
  refine wpAny_call_entry t_slotI hT t_entryI ?_ (t_args _ _ _ _)
  unfold Builtin.«type.__init__»
  repeat (any_goals (first | assumption | wp_step))
  refine ⟨_, rfl, ?_⟩
  repeat (any_goals (first | assumption | wp_step))
end
end Mine
end
section
open PySem PySem.W PySem.Calls PyProof.Rows PySem.Builtin PySem.W.X PySem.W.XRun
set_option Elab.async false
set_option maxRecDepth 100000
set_option maxHeartbeats 8000000
namespace Mine
noncomputable abbrev pfO : Obj := ⟨.type "builtin_function_or_method", none, .fields #[.builtin "type.__prepare__", .type "type"], #[]⟩
theorem mem_none {h h' : Heap} {c news : List (Addr × Obj)} (D : Mem h h' c news) (i : Nat) (a : Addr) (o : Obj) (hi : news[i]? = some (a, o)) : h.get? a = none := (D.nw _ (List.mem_of_getElem? hi)).2
local macro_rules | `(tactic| x_close) => `(tactic| first | exact ⟨_, _, rfl, mem_keep (by assumption), _, rfl, mem_none (by assumption) 0 _ _ rfl, Mem.at (by assumption) 0 _ _ rfl⟩)
theorem get_prep {w : World} {s : Shared} {tk : Nat} (X : (KR w.params).In s.heap) :
    wpAny (model PySem.Challenge.rw_ij0154_01.prog w) (AM 900 4000) (call (.builtin "type.__getattribute__") [.type "type", .str (Str.ofString "__prepare__") tk]) (More s fun v h' => ∃ a, v = .ref a ∧ s.heap.get? a = none ∧ h'.get? a = some pfO) (fun _ _ => False) s := by
  revert X; k_fill; intro X
  x_run
theorem p_plain : plainId "type.__prepare__" = true := by decide +kernel
theorem p_entry : entryFor table "type.__prepare__" = some Builtin.«type.__prepare__» := entryFor_of_tree (by kernel_rfl)
theorem p_check (x y : Value) : checkBoundCall "type.__prepare__" ⟨[.type "type", x, y], []⟩ = pure () := by kernel_rfl
theorem call_prep {w : World} {A : Around} {Q : Value → Shared → Prop} {E : Value → Shared → Prop} {s : Shared} {x y : Value} {a : Nat} (ha : s.heap.get? a = some (⟨.type "builtin_function_or_method", none, .fields #[.builtin "type.__prepare__", .type "type"], #[]⟩ : Obj))
    (h : Q (.ref s.heap.objs.size) { s with heap := s.heap.push ⟨.type "dict", none, .dict #[] 0, #[]⟩ }) :
    wpAny (model PySem.Challenge.rw_ij0154_01.prog w) A (call (.ref a) [x, y]) Q E s := by
  refine wpAny_call (codeAny_of_tree ?_)
  show wpAny _ _ (load a >>= _) _ _ _
  refine wpAny_bind (wpAny_load ha ?_)
  show wpAny _ _ (checkBoundCall "type.__prepare__" ⟨[.type "type", x, y], []⟩ >>= _) _ _ _
  refine wpAny_bind (wpAny_of_eq (p_check x y) ?_)
  refine wpAny_pure ⟨plainId_quiet p_plain _, codeAny_builtin p_entry ?_⟩
  show wpAny _ _ (newDict >>= _) _ _ _
  unfold newDict
  first
  | exact wpAny_bind (wpAny_newObj_type (wpAny_pure h))
  | exact wpAny_bind (wpAny_alloc (wpAny_pure h))
  | exact wpAny_bind (wpAny_bind (wpAny_newObj_type (wpAny_pure (wpAny_pure h))))
theorem p_ga : typeLookup (.type "type") "__getattribute__" = pure (some (.builtin "type.__getattribute__")) := by rw [typeLookup_type, builtinLookup_eq_fast]; kernel_rfl
theorem p_bind : bindSpecial (.builtin "type.__getattribute__") (.type "type") = pure (.builtin "type.__getattribute__", [.type "type"]) := by kernel_rfl
theorem p_type : typeOf (.type "type") = pure (.type "type") := by kernel_rfl
/-- how type is asked to prepare a namespace -/
theorem prepare {w : World} {A : Around} {s : Shared} {Q : Option Value → Shared → Prop} {E : Value → Shared → Prop} (hA : Sm A 700 3800) (X : (KR w.params).In s.heap)
    (hq : ∀ a h' tk, (∀ b o, s.heap.get? b = some o → h'.get? b = some o) → s.heap.get? a = none → h'.get? a = some pfO → Q (some (.ref a)) { s with heap := h', toks := tk }) :
    wpAny (model PySem.Challenge.rw_ij0154_01.prog w) A (getAttr? (.type "type") "__prepare__") Q E s := by
  obtain ⟨h, g, d, t, os⟩ := s
  unfold getAttr? getAttrBy? getAttrBy
  refine wpAny_bind (wpAny_mkText (wpAny_bind (wpAny_attempt (wpAny_holding (wpAny_bind (wpAny_of_eq p_type (wpAny_bind (wpAny_of_eq p_ga ?_))))))))
  show wpAny _ _ (getAttrByItsOwn (.type "type") (.str _ t) (.type "type") (.builtin "type.__getattribute__") false false) _ _ _
  unfold getAttrByItsOwn hookBefore callGetattribute boundAndCalled
  refine wpAny_bind (wpAny_of_eq (show (if onTheHeap (.type "type") then typeLookup (.type "type") "__getattr__" else pure none) = pure none from rfl) ?_)
  refine wpAny_bind (wpAny_attempt (wpAny_holding ?_))
  show wpAny _ _ (bindSpecial (.builtin "type.__getattribute__") (.type "type") >>= _) _ _ _
  refine wpAny_bind (wpAny_of_eq p_bind ?_)
  refine wk (hA.le (by decide) (by decide)) (d := 900) (u := 4000) (wpAny_mono (get_prep X) (fun v s' q => ?_) fun _ _ q => q.elim)
  obtain ⟨h', tk, rfl, k, a, rfl, ha, ho⟩ := q
  exact wpAny_pure (wpAny_pure (hq a h' tk k ha ho))
end Mine
end
section
open PySem PySem.W PySem.Calls PyProof.Rows PySem.Builtin
set_option Elab.async false
set_option maxRecDepth 100000
set_option maxHeartbeats 4000000
namespace Mine
section
variable {prog : Program} {w : World} {A : Around} {E : Value → Shared → Prop} {h₀ h : Heap} {g : Array GenState} {d : Drawn} {t : Nat} {os : OsState} {news : List (Addr × Obj)}
theorem hideAll_keeps {h₀ h : Heap} {news : List (Addr × Obj)} (D : Own h₀ h news) : ∀ b o, h₀.get? b = some o → (hideAll h (news.map (·.1))).get? b = some o := fun b o e => hideAll_get _ (D.keep b o e) fun hm => by
  obtain ⟨p, hp, q⟩ := List.mem_map.mp hm
  have := (D.nw p hp).2
  rw [q, e] at this; cases this
/-- the code of a class that is made in a call -/
theorem class_code (D : Own h₀ h news) {env : Env} {c P : Addr} {pos : Pos} {fl : Nat} {name qual : Str} {scope : Scope} {Q : Value → Shared → Prop} (i : Nat) (hi : news[i]? = some (P, tabObj #[])) (hc : env.code = .ref c) (C : CodeHd h c P)
    (hq : ∀ c' P' h' tk, Own h₀ h' ((P', tabObj #[]) :: news.set i (P, tabObj #[rawInt pos.line, rawInt pos.col, .ref c'])) → CodeHd h' c' P' → c' ∉ ((P', tabObj #[]) :: news).map (·.1) → Q (.ref c') ⟨h', g, d, tk, os⟩) :
    wpAny (model prog w) A (classCode env pos fl name qual scope) Q E ⟨h, g, d, t, os⟩ := by
  have hP := D.at i _ _ hi
  obtain ⟨o, vs, file, tf, flags, tg, inF, text, tt, op, ho, hd, h11, h2, h7, h9, h10, hop, hpd, htr, hne⟩ := C.code hP trivial
  unfold classCode codeAt
  rw [hc, if_neg (show ¬ ((Value.ref c == Value.none) = true) from Bool.false_ne_true)]
  refine wpAny_bind (wpAny_fieldsOf ho hd ?_)
  rw [h11]
  refine wpAny_bind (wpAny_fieldsOf hop hpd ?_)
  rw [h2, h7, h9, h10]
  refine wpAny_bind (wpAny_newCodeX fun c' P' h' tk hk hc' hP' hcode' htab' hrec' => ?_)
  have D' := D.ext hk
  have fresh : ∀ b, h.objs.size ≤ b → h₀.get? b = none ∧ b ∉ news.map (·.1) := fun b hb => by
    refine ⟨?_, fun hm => ?_⟩
    · cases q : h₀.get? b with
      | none => rfl
      | some ob => exact absurd (Heap.lt_size (D.keep _ _ q)) (Nat.not_lt.mpr hb)
    · obtain ⟨p, hp, e⟩ := List.mem_map.mp hm
      have := Heap.lt_size (D.nw p hp).1
      rw [e] at this
      exact absurd this (Nat.not_lt.mpr hb)
  have hop' := hk _ _ hP
  refine wpAny_bind (wpAny_updateFieldsOfTheText hop' rfl ?_)
  have hf : (Obj.mapFields (fun vs => if (codeAmong pos vs.toList).isSome = true then vs else vs ++ #[rawInt pos.line, rawInt pos.col, .ref c']) (tabObj #[])) = tabObj #[rawInt pos.line, rawInt pos.col, .ref c'] := rfl
  have D2 := (D'.update hi (f := Obj.mapFields (fun vs => if (codeAmong pos vs.toList).isSome = true then vs else vs ++ #[rawInt pos.line, rawInt pos.col, .ref c'])) (by rw [hf]; rfl))
  rw [hf] at D2
  have hlt : i < news.length := (List.getElem?_eq_some_iff.mp hi).1
  refine wpAny_bind (wpAny_fieldsOf (D2.at i P _ (List.getElem?_set_self hlt)) rfl ?_)
  have e3 : codeAmong pos [rawInt pos.line, rawInt pos.col, .ref c'] = some (.ref c') := codeAmong_snoc (pos := pos) (c := .ref c') [] trivial rfl
  rw [e3]
  have hPP : P ∈ news.map (·.1) := List.mem_map.mpr ⟨_, List.mem_of_getElem? hi, rfl⟩
  have hcP : c' ≠ P := fun q => (fresh c' hc').2 (q ▸ hPP)
  have hP'P : P' ≠ P := fun q => (fresh P' hP').2 (q ▸ hPP)
  have sb : Heap.SameBut P h' (h'.update P (Obj.mapFields (fun vs => if (codeAmong pos vs.toList).isSome = true then vs else vs ++ #[rawInt pos.line, rawInt pos.col, .ref c']))) := Heap.SameBut.update ..
  have CH := CodeHd.of hcode' htab'
  refine wpAny_pure (hq c' P' _ tk (D2.add ((sb.2 _ hP'P).trans htab'.2) (fresh P' hP').1 (by rw [Own.set_keys news i hi]; exact (fresh P' hP').2)) ?_ ?_)
  · obtain ⟨o, vs, file, tf, flags, tg, inF, text, tt, e, r⟩ := CH
    exact ⟨o, vs, file, tf, flags, tg, inF, text, tt, (sb.2 _ hcP).trans e, r⟩
  · intro hm
    rcases List.mem_cons.mp hm with q | q
    · obtain ⟨o, vs, file, tf, flags, tg, inF, text, tt, e, r1, r2, r3, r4, r5, r6, r7, r8, hne⟩ := CH
      exact hne q
    · exact (fresh c' hc').2 q
/-- what a code that is just made is -/
theorem code_is {h : Heap} {c' P' : Addr} {qual : Str} (hrec : h.CodeRec (.ref c') qual) (ht : h.TableAt c' P' #[]) : ∃ oc vs tq, h.get? c' = some oc ∧ (oc.cls = .type "code" ∧ oc.data = .fields vs) ∧ vs[1]? = some (.str qual tq) := by
  obtain ⟨c₂, oc, vs, tq, e2, hoc, hd, hv⟩ := hrec
  cases e2
  obtain ⟨⟨o, vs', e1, hcl, -⟩, -⟩ := ht
  rw [hoc] at e1; cases e1
  exact ⟨oc, vs, tq, hoc, ⟨hcl, hd⟩, hv⟩
/-- a def in a call, with what its code is -/
theorem fun_made {s : Shared} {env : Env} {c P : Addr} {ps : Array Value} {name qual : Str} {params : Arguments} {body : List Stmt} {scope : Scope} {pos : Pos} {fl : Nat} {clos : List (Str × Addr)} {mg : Str → Option Value} {Q : Value → Shared → Prop}
    (hcl : closureFor scope env = pure clos) (hge0 : env.globals = mainGlobals) (hg : s.heap.Ns mainGlobals mg) (hcode : env.code = .ref c) (C : CodeHd s.heap c P) (hP : s.heap.get? P = some (tabObj ps)) (ht : TriplesOk ps.toList)
    (hnf : codeAmong pos ps.toList = none) (hgP : mainGlobals ≠ P) (hb : s.heap.BuiltinsAt mg P)
    (h : ∀ c' ctv doc h' tk, Heap.ExtBut P s.heap h' → s.heap.objs.size ≤ c' → (∃ oc vs tq, h'.get? c' = some oc ∧ (oc.cls = .type "code" ∧ oc.data = .fields vs) ∧ vs[1]? = some (.str qual tq)) → h'.get? P = some (tabObj (ps ++ #[rawInt pos.line, rawInt pos.col, .ref c'])) →
      Q (.ref h'.objs.size) { s with heap := h'.push (fnMade name qual params body scope clos doc ((mg "__name__").getD .none) c' ctv), toks := tk }) :
    wpAny (model prog w) A (makeFunction name qual params (.stmts body) scope env [] [] [] pos fl) Q E s := by
  obtain ⟨bm, ob, hbm, hne0, _, hneP, hbo, hcls, hdict, hdata⟩ := hb
  rw [makeFunction_eq]
  simp only [List.zip_nil_right, List.filterMap_nil, List.isEmpty_nil, if_true, pure_bind]
  unfold makeTail
  rw [hcl, hge0]
  refine wpAny_bind (wpAny_pure ?_)
  have go : ∀ (h1 : Heap) (tk1 : Nat), (∀ b o, s.heap.get? b = some o → h1.get? b = some o) → s.heap.objs.size ≤ h1.objs.size → ∀ {k : Value → Sem Value},
      (∀ c' h' tk, Heap.ExtBut P s.heap h' → s.heap.objs.size ≤ c' → (∃ oc vs tq, h'.get? c' = some oc ∧ (oc.cls = .type "code" ∧ oc.data = .fields vs) ∧ vs[1]? = some (.str qual tq)) → h'.get? P = some (tabObj (ps ++ #[rawInt pos.line, rawInt pos.col, .ref c'])) → wpAny (model prog w) A (k (.ref c')) Q E { s with heap := h', toks := tk }) →
      wpAny (model prog w) A (functionCode env pos fl name qual params scope (.stmts body) >>= k) Q E { s with heap := h1, toks := tk1 } := fun h1 tk1 k1 ks k hk =>
    wpAny_bind (wpAny_functionCodeX hcode ((C.keeps k1).code (k1 _ _ hP) ht) ((C.keeps k1).tab (k1 _ _ hP)) hnf fun c' h' tk hx hge hlt _ hrec htb ⟨P', _, _, hT⟩ =>
      hk c' h' tk (fun b o hb' e => hx b o hb' (k1 _ _ e)) (Nat.le_trans ks hge) (code_is hrec hT) htb.2)
  cases clos with
  | nil =>
    simp only [List.isEmpty_nil, if_true]
    refine wpAny_bind (wpAny_pure ?_)
    refine go s.heap s.toks (fun _ _ e => e) (Nat.le_refl _) fun c' h' tk hx hge hrec htb => ?_
    try dsimp only
    refine wpAny_bind (wpAny_builtinsFor (hg.extBut hx hgP) hbm hne0 (hx _ _ hneP hbo) hcls hdict hdata ?_)
    refine wpAny_bind (wpAny_nsGet (hg.extBut hx hgP) ?_)
    cases hdoc : docOf body with
    | none => exact wpAny_bind (wpAny_pure (wpAny_newObj_type (h c' .none .none h' tk hx hge hrec htb) (by size_fits)))
    | some x => exact wpAny_bind (wpAny_mkText (wpAny_newObj_type (h c' .none _ h' _ hx hge hrec htb) (by size_fits)))
  | cons q r =>
    simp only [List.isEmpty_cons, Bool.false_eq_true, if_false]
    refine wpAny_bind (wpAny_newTextTuple ?_)
    refine go _ _ (fun _ _ e => Heap.get?_push_of_some _ e) (by rw [Heap.size_push]; exact Nat.le_succ _) fun c' h' tk hx hge hrec htb => ?_
    try dsimp only
    refine wpAny_bind (wpAny_builtinsFor (hg.extBut hx hgP) hbm hne0 (hx _ _ hneP hbo) hcls hdict hdata ?_)
    refine wpAny_bind (wpAny_nsGet (hg.extBut hx hgP) ?_)
    cases hdoc : docOf body with
    | none => exact wpAny_bind (wpAny_pure (wpAny_newObj_type (h c' _ .none h' tk hx hge hrec htb) (by size_fits)))
    | some x => exact wpAny_bind (wpAny_mkText (wpAny_newObj_type (h c' _ _ h' _ hx hge hrec htb) (by size_fits)))
/-- a def that is made in a call: its code goes into a table of one's own -/
theorem make_fun (D : Own h₀ h news) {env : Env} {c P : Addr} {ps : Array Value} {name qual : Str} {params : Arguments} {body : List Stmt} {scope : Scope} {pos : Pos} {fl : Nat} {clos : List (Str × Addr)} {mg : Str → Option Value} {Q : Value → Shared → Prop} (i : Nat) (hi : news[i]? = some (P, tabObj ps))
    (hcl : closureFor scope env = pure clos) (hge0 : env.globals = mainGlobals) (hg : h.Ns mainGlobals mg) (hcode : env.code = .ref c) (C : CodeHd h c P) (ht : TriplesOk ps.toList) (hnf : codeAmong pos ps.toList = none) (hgP : mainGlobals ≠ P) (hb : h.BuiltinsAt mg P)
    (hq : ∀ f c' oc vs tq ctv doc h' tk, Own h₀ h' ((f, fnMade name qual params body scope clos doc ((mg "__name__").getD .none) c' ctv) :: (c', oc) :: news.set i (P, tabObj (ps ++ #[rawInt pos.line, rawInt pos.col, .ref c']))) → (oc.cls = .type "code" ∧ oc.data = .fields vs) → vs[1]? = some (.str qual tq) →
      Heap.ExtBut P h h' → Q (.ref f) ⟨h', g, d, tk, os⟩) :
    wpAny (model prog w) A (makeFunction name qual params (.stmts body) scope env [] [] [] pos fl) Q E ⟨h, g, d, t, os⟩ := by
  refine fun_made hcl hge0 hg hcode C (D.at i _ _ hi) ht hnf hgP hb fun c' ctv doc h' tk hx hge hrec htb => ?_
  obtain ⟨oc, vs, tq, hoc, hd, hv⟩ := hrec
  have D1 := D.extBut hi hx htb
  have hn : h₀.get? c' = none := by
    cases q : h₀.get? c' with
    | none => rfl
    | some ob => exact absurd (Heap.lt_size (D.keep _ _ q)) (Nat.not_lt.mpr hge)
  have hk : c' ∉ (news.set i (P, tabObj (ps ++ #[rawInt pos.line, rawInt pos.col, .ref c']))).map (·.1) := fun hm => by
    rw [Own.set_keys news i hi] at hm
    obtain ⟨p, hp, e⟩ := List.mem_map.mp hm
    have := Heap.lt_size (D.nw p hp).1
    rw [e] at this
    exact absurd this (Nat.not_lt.mpr hge)
  exact hq _ c' oc vs tq ctv doc _ tk ((D1.add hoc hn hk).alloc rfl) hd hv fun b o hb e => Heap.get?_push_of_some _ (hx b o hb e)
end
end Mine
end
section
open PySem PySem.W PySem.Calls PyProof.Rows PySem.Builtin
set_option Elab.async false
set_option maxRecDepth 100000
set_option maxHeartbeats 2000000
namespace Mine
theorem store_cls {env : Env} {name : Str} {v : Value} (hk : env.scope.kind = .class) (hn : env.kindOf name = some .local ∨ (env.kindOf name = none ∧ compilersOwnNames.contains name = true)) : storeName env name v = localSet env name v := by
  unfold storeName
  rcases hn with e | ⟨e, e2⟩
  · simp only [e, Env.blockKind, hk, ScopeKind.isAnnotationScope]
    rfl
  · simp only [e, e2, Env.blockKind, hk, ScopeKind.isAnnotationScope]
    rfl
section
variable {prog : Program} {w : World} {A : Around} {E : Value → Shared → Prop} {h₀ h : Heap} {g : Array GenState} {d : Drawn} {t : Nat} {os : OsState} {news : List (Addr × Obj)}
/-- a name is laid into the body's own namespace -/
theorem m_store (D : Own h₀ h news) {env : Env} {name : Str} {v : Value} {es : List DictEntry} {n : Nat} (o' : Int → Tok → Obj) (i : Nat) (hi : news[i]? = some (env.locals, dObj es n)) (hk : env.scope.kind = .class) (hn : env.kindOf name = some .local ∨ (env.kindOf name = none ∧ compilersOwnNames.contains name = true))
    (hg : aRefKeyMayBeTheName name es.toArray = false) (e : ∀ hs tk, Obj.putName name hs (.str name tk) v (dObj es n) = o' hs tk) (hf : ∀ hs tk, (o' hs tk).isFreed = false) {Q : Unit → Shared → Prop}
    (hq : ∀ h' hs, Own h₀ h' (news.set i (env.locals, o' hs t)) → Q () ⟨h', g, d, t + 1, os⟩) : wpAny (model prog w) A (storeName env name v) Q E ⟨h, g, d, t, os⟩ := by
  rw [store_cls hk hn]
  unfold localSet
  refine wpAny_bind (m_load D i hi ?_)
  exact m_nsSet D o' i hi hg e hf hq
/-- a name that the body's own namespace lacks is a global -/
theorem m_loadG (D : Own h₀ h news) {env : Env} {name : Str} {v : Value} {es : List DictEntry} {n : Nat} {mg : Str → Option Value} (i : Nat) (hi : news[i]? = some (env.locals, dObj es n)) (hk : env.scope.kind = .class) (hn : env.kindOf name = none ∧ compilersOwnNames.contains name = true)
    (e : nsLook name (dObj es n) = pure none) (hg : h.Ns env.globals mg) (hv : mg name = some v) {Q : Value → Shared → Prop} (hq : Q v ⟨h, g, d, t, os⟩) : wpAny (model prog w) A (loadName env name) Q E ⟨h, g, d, t, os⟩ := by
  unfold loadName
  simp only [hn.1, hn.2, Env.blockKind, hk, ScopeKind.isAnnotationScope, Bool.false_and, Bool.false_eq_true, if_false, Bool.not_true]
  unfold localGet
  refine wpAny_bind (wpAny_bind (m_load D i hi (m_nsGet D i hi e ?_)))
  exact loadGlobal_global hg hv hq
end
end Mine
end
section
open PySem PySem.W PySem.Calls PyProof.Rows PySem.Builtin
set_option Elab.async false
set_option maxRecDepth 100000
set_option maxHeartbeats 2000000
namespace Mine
local macro_rules | `(tactic| walk_at "c_stop") => `(tactic| first
  | (with_reducible show wpAny _ _ (getAttr? _ _) _ _ _) | (with_reducible show wpAny _ _ (classCode _ _ _ _ _ _) _ _ _) | (with_reducible show wpAny _ _ (builtinsFor _ _) _ _ _) | (with_reducible show wpAny _ _ (newBodyFrame _ _ _ _) _ _ _)
  | (with_reducible show wpAny _ _ (enterFrame _) _ _ _) | (with_reducible show wpAny _ _ (storeName _ _ _) _ _ _) | (with_reducible show wpAny _ _ (loadName _ _) _ _ _) | (with_reducible show wpAny _ _ (run _ _) _ _ _) | (with_reducible show wpAny _ _ (call _ _ _) _ _ _)
  | (with_reducible show wpAny _ _ (newTextTuple _) _ _ _) | (with_reducible show wpAny _ _ (closureFor _ _) _ _ _) | (with_reducible show wpAny _ _ (forIn _ _ _) _ _ _) | (with_reducible show wpAny _ _ (specialOf _ _) _ _ _)
  | (with_reducible show wpAny _ _ (Sem.onRaise _ _) _ _ _))
local macro_rules | `(tactic| walk_at "c_go") => `(tactic| repeat (first | (with_reducible refine wpAny_of_eq (by assumption) ?_) | (with_reducible refine wpf_cons ?_) | (with_reducible refine wpf_nil ?_) | ((fail_if_success (walk_at "c_stop")); first | assumption | wp_step)))
section
variable {w : World} {A : Around} {s : Shared} {p : Program} {loose : List Str} {mg mb : Str → Option Value} {E : Value → Shared → Prop} {h₀ h : Heap} {g : Array GenState} {d : Drawn} {t : Nat} {os : OsState}
theorem c_getDict : typeLookup (.type "dict") "__getitem__" = pure (some (.builtin "dict.__getitem__")) := by rw [typeLookup_type, builtinLookup_eq_fast]; kernel_rfl
/-- the statements of the class in cmp_to_key -/
noncomputable def stK (P : Params) : List Stmt := match (lk P 49).data with
  | .func fd => (match fd.body with | .stmts (.ClassDef _ _ _ b _ _ _ _ _ _ _ :: _) => b | _ => [])
  | _ => []
noncomputable def meth (P : Params) (i : Nat) : Stmt := (stK P).getD i (.Pass ⟨0, 0, 0, 0⟩)
noncomputable def dName : Stmt → Str | .FunctionDef n .. => n | _ => Str.empty
noncomputable def dParams : Stmt → Arguments | .FunctionDef _ p .. => p | _ => ⟨[], [], none, [], [], none, []⟩
noncomputable def dBody : Stmt → List Stmt | .FunctionDef _ _ b .. => b | _ => []
noncomputable def dScope : Stmt → Scope | .FunctionDef _ _ _ _ _ _ sc .. => sc | _ => default
/-- a method of the class in cmp_to_key, as made -/
noncomputable abbrev fnK (P : Params) (i : Nat) (cl : List (Str × Addr)) (doc pm : Value) (c' : Addr) (ctv : Value) : Obj :=
  ⟨.type "function", none, .func (fnX (dName (meth P i)) (Str.ofString "cmp_to_key.<locals>.K." ++ dName (meth P i)) (dParams (meth P i)) (dBody (meth P i)) (dScope (meth P i)) cl .none .none doc pm none (.ref c') ctv), #[]⟩
noncomputable abbrev fO (dd : Data) : Obj := ⟨.type "function", none, dd, #[]⟩
noncomputable abbrev tO (nb : Nat) : Obj := { cls := .type "tuple", data := .seq #[.type "object"] nb }
noncomputable abbrev lO (l4 nl : Nat) : Obj := { cls := .type "list", data := .seq #[.str (Str.ofString "obj") l4] nl }
/-- what the body of the class leaves -/
inductive BodyEnd (P : Params) (h₀ h : Heap) (nsA bT f0 f1 f2 f3 f4 f5 slA c0 c1 : Addr) (cl : List (Str × Addr)) : Prop
  | mk : ∀ n i1 k1 l1 i2 k2 l2 i3 k3 l3 i4 k4 i5 k5 i6 k6 i7 k7 i8 k8 i9 k9 i10 k10 i11 k11 l4 nl nb doc0 pm0 ctv0 doc1 pm1 ctv1 oc0 vs0 t0 oc1 vs1 t1 d2 d3 d4 d5, (Own h₀ h [(nsA, dObj [ent "__module__" i1 k1 (.str (Str.ofString "cpy313.functools") l1), ent "__qualname__" i2 k2 (.str (Str.ofString "cmp_to_key.<locals>.K") l2), ent "__firstlineno__" i3 k3 (.int 18 l3),   ent "__slots__" i4 k4 (.ref slA), ent "__init__" i5 k5 (.ref f0), ent "__lt__" i6 k6 (.ref f1), ent "__gt__" i7 k7 (.ref f2), ent "__eq__" i8 k8 (.ref f3), ent "__le__" i9 k9 (.ref f4), ent "__ge__" i10 k10 (.ref f5), ent "__hash__" i11 k11 .none] n),   (f5, fO d5), (f4, fO d4), (f3, fO d3), (f2, fO d2), (f1, fnK P 3 cl doc1 pm1 c1 ctv1), (c1, oc1), (f0, fnK P 2 [] doc0 pm0 c0 ctv0), (c0, oc0), (slA, lO l4 nl), (bT, tO nb)]) → (((Obj.cls oc0 = .type "code" ∧ Obj.data oc0 = .fields vs0) ∧ (vs0 : Array Value)[1]? = some (.str (Str.ofString "cmp_to_key.<locals>.K.__init__") t0))) → (Obj.data oc1 = .fields vs1) → ((vs1 : Array Value)[1]? = some (.str (Str.ofString "cmp_to_key.<locals>.K.__lt__") t1)) → BodyEnd P h₀ h nsA bT f0 f1 f2 f3 f4 f5 slA c0 c1 cl
/-- what the class statement leaves: the class and what its use wants -/
inductive ClsEnd (P : Params) (h₀ h : Heap) (c : Addr) (cl : List (Str × Addr)) : Prop
  | mk : ∀ ns md f0 f1 f2 f3 f4 f5 slA stA c0 c1 n i1 k1 l1 i3 k3 l3 i4 k4 i5 k5 i6 k6 i7 k7 i8 k8 i9 k9 i10 k10 i11 k11 i12 k12 i13 k13 i14 k14 tm sl doc0 pm0 ctv0 doc1 pm1 ctv1, ((∀ a ∈ [c, ns, md, f0, f1, c0, c1], h₀.get? a = none ∧ a ≠ 44)) → (h.get? c = some (⟨.type "type", none, .cls (kCd c ns), sl⟩ : Obj)) → (sl = #[sl[0]!, none, sl[2]!, sl[3]!, some (.builtin "object.__new__"), some (.bool false)]) → (h.get? ns = some (dObj [ent "__module__" i1 k1 (.str (Str.ofString "cpy313.functools") l1), ent "__firstlineno__" i3 k3 (.int 18 l3),   ent "__slots__" i4 k4 (.ref slA), ent "__init__" i5 k5 (.ref f0), ent "__lt__" i6 k6 (.ref f1), ent "__gt__" i7 k7 (.ref f2), ent "__eq__" i8 k8 (.ref f3), ent "__le__" i9 k9 (.ref f4), ent "__ge__" i10 k10 (.ref f5), ent "__hash__" i11 k11 .none,   ent "__static_attributes__" i12 k12 (.ref stA), ent "obj" i13 k13 (.ref md), ent "__doc__" i14 k14 .none] n)) → (h.get? md = some (mdO c tm)) → (h.get? f0 = some (fnK P 2 [] doc0 pm0 c0 ctv0)) → (h.get? f1 = some (fnK P 3 cl doc1 pm1 c1 ctv1)) → (∃ (oc : Obj) (vs : Array Value) (t : Tok), h.get? c0 = some oc ∧ oc.cls = .type "code" ∧ oc.data = .fields vs ∧ vs[1]? = some (.str (Str.ofString "cmp_to_key.<locals>.K.__init__") t)) → (h.CodeRec (.ref c1) (Str.ofString "cmp_to_key.<locals>.K.__lt__")) → ClsEnd P h₀ h c cl
theorem ClsEnd.extBut {P : Params} {h₀ h h' : Heap} {c L : Addr} {cl : List (Str × Addr)} {o : Obj} (x : ClsEnd P h₀ h c cl) (hL : h₀.get? L = some o) (k : Heap.ExtBut L h h') : ClsEnd P h₀ h' c cl := by
  obtain ⟨ns, md, f0, f1, f2, f3, f4, f5, slA, stA, c0, c1, n, i1, k1, l1, i3, k3, l3, i4, k4, i5, k5, i6, k6, i7, k7, i8, k8, i9, k9, i10, k10, i11, k11, i12, k12, i13, k13, i14, k14, tm, sl, doc0, pm0, ctv0, doc1, pm1, ctv1, hn, a1, a2, a3, a4, a5, a6, a7, a8⟩ := x
  have ne : ∀ a ∈ [c, ns, md, f0, f1, c0, c1], a ≠ L := fun a ha q => by
    have := (hn a ha).1
    rw [q, hL] at this; cases this
  refine ⟨ns, md, f0, f1, f2, f3, f4, f5, slA, stA, c0, c1, n, i1, k1, l1, i3, k3, l3, i4, k4, i5, k5, i6, k6, i7, k7, i8, k8, i9, k9, i10, k10, i11, k11, i12, k12, i13, k13, i14, k14, tm, sl, doc0, pm0, ctv0, doc1, pm1, ctv1, hn,
    k _ _ (ne _ (by simp)) a1, a2, k _ _ (ne _ (by simp)) a3, k _ _ (ne _ (by simp)) a4, k _ _ (ne _ (by simp)) a5, k _ _ (ne _ (by simp)) a6, ?_, ?_⟩
  · obtain ⟨oc, vs, t, e2, r⟩ := a7
    exact ⟨oc, vs, t, k _ _ (ne _ (by simp)) e2, r⟩
  · obtain ⟨c₂, oc, vs, t, e, e2, r⟩ := a8
    cases e
    exact ⟨_, oc, vs, t, rfl, k _ _ (ne _ (by simp)) e2, r⟩
theorem mg_some {h : Heap} (X : (KR w.params).In h) (Gg : h.Ns mainGlobals mg) : (mg (Str.ofString "__name__")).isSome = true := by
  obtain ⟨v, e⟩ : ∃ v, nsIn (KR w.params) mainGlobals (Str.ofString "__name__") = some (some v) := ⟨_, by rfl⟩
  rw [mg_of X Gg e]; rfl
theorem build_class {env : Env} {qual : Str} {body : List Stmt} {scope : Scope} {statics : List Str} {fl : Nat} {pos : Pos} {Q : Value → Shared → Prop} {clos : List (Str × Addr)} (hA : Sm A 620 3100) (G : Gd w p loose mg mb h₀) (D : Own h₀ h [(44, tabObj #[])]) (C : CodeHd h₀ 48 44)
    (v1 : env.globals = mainGlobals) (v2 : env.code = .ref 48) (v3 : env.builtins = builtinsNs) (hk : scope.kind = .class) (n1 : (scope.names.lookup ("__class__" : Str) == some NameKind.cell) = false) (n2 : (scope.names.lookup ("__classdict__" : Str) == some NameKind.cell) = false)
    (n3 : scope.names.lookup ("__name__" : Str) = none) (n4 : scope.names.lookup ("__module__" : Str) = some .local) (n5 : scope.names.lookup ("__qualname__" : Str) = none) (n6 : scope.names.lookup ("__firstlineno__" : Str) = none) (n7 : scope.names.lookup ("__static_attributes__" : Str) = none)
    (hclo : closureFor scope env = pure clos) (hq8 : qual = Str.ofString "cmp_to_key.<locals>.K") (hfl : fl = 18)
    (hbody : ∀ (h₀' h' : Heap) (tk : Nat) (c' P' nsA bT fr : Addr) (vm : Value) (i1 i2 i3 : Int) (k1 k2 k3 l2 l3 nb : Nat), Gd w p loose mg mb h₀' → (∀ b o, h₀.get? b = some o → h₀'.get? b = some o) → CodeHd h₀' c' P' →
      Own h₀' h' [(P', tabObj #[]), (nsA, dObj [ent "__module__" i1 k1 vm, ent "__qualname__" i2 k2 (.str qual l2), ent "__firstlineno__" i3 k3 (.int fl l3)] 3), (bT, tO nb)] →
      wpAny (model PySem.Challenge.rw_ij0154_01.prog w) A (run (.body body { scope := scope, locals := nsA, globals := mainGlobals, cells := clos, qual := qual ++ Str.ofString ".", code := .ref c', frame := some fr, builtins := builtinsNs }) none)
        (fun _ s' => ∃ f0 f1 f2 f3 f4 f5 slA c0 c1 h'' tk', s' = ⟨h'', g, d, tk', os⟩ ∧ BodyEnd w.params h₀' h'' nsA bT f0 f1 f2 f3 f4 f5 slA c0 c1 clos) (fun _ _ => False) ⟨h', g, d, tk, os⟩)
    (hQ : ∀ h' tk c, (∀ b o, h₀.get? b = some o → h'.get? b = some o) → h₀.get? c = none → c ≠ 44 → ClsEnd w.params h₀ h' c clos → (∃ c', h'.get? 44 = some (tabObj #[rawInt pos.line, rawInt pos.col, .ref c'])) → Q (.ref c) ⟨h', g, d, tk, os⟩) :
    wpAny (model PySem.Challenge.rw_ij0154_01.prog w) A (buildClass (Str.ofString "K") qual [.type "object"] [] body scope statics fl env pos none) Q E ⟨h, g, d, t, os⟩ := by
  unfold buildClass
  have e1 := c_isType
  have e2 := PySem.F.isi_meta_object
  have e3 := PySem.F.sub_type_type
  have e4 := t_isType
  refine wpAny_bind (m_newObj D (fun bT h1 D => ?_) rfl (by show _ ≤ sizeLine; rw [sizeLine_eq]; exact Nat.le_of_ble_eq_true rfl))
  refine wpAny_bind (wpf_cons ?_)
  walk_at "c_go"
  rw [show ((([] : List Value), false).fst ++ [Value.type "object"], ([], false).snd).fst = [Value.type "object"] from rfl]
  walk_at "c_go"
  refine prepare (hA.le (by decide) (by decide)) (G.X.keeps D.keep) fun pf h2 tk2 k2 hpn hpf => ?_
  replace D := D.ext k2
  have kD := D.keep
  walk_at "c_go"
  refine call_prep hpf ?_
  have hnn : Heap.get? _ _ = none := Heap.get?_none_of_le (h := h2) (Nat.le_refl _)
  have k3 : ∀ b o, h2.get? b = some o → (h2.push ⟨.type "dict", none, .dict #[] 0, #[]⟩).get? b = some o := fun _ _ e => Heap.get?_push_of_some _ e
  have hno : (h2.push ⟨.type "dict", none, .dict #[] 0, #[]⟩).get? h2.objs.size = some ⟨.type "dict", none, .dict #[] 0, #[]⟩ := Heap.get?_push_size _ rfl
  have h2s : 2 < h2.objs.size := Heap.lt_size (G.X.keeps kD 2 _ rfl)
  dsimp only
  generalize h2.push ⟨.type "dict", none, .dict #[] 0, #[]⟩ = h3 at *
  generalize h2.objs.size = nsA at *
  replace D := (D.ext k3).add hno (by
    cases q : h₀.get? nsA with
    | none => rfl
    | some o => have := (D.keep _ _ q); rw [hnn] at this; cases this) (fun hm => by
    obtain ⟨p, hp, e⟩ := List.mem_map.mp hm
    have := (D.nw p hp).1
    rw [e, hnn] at this; cases this)
  have hTn : ∀ tk, (⟨h3, g, d, tk, os⟩ : Shared).TypeIs (.ref nsA) "dict" := fun _ => ⟨_, hno, rfl⟩
  have hsm : nsA ≠ sysModules := fun q => by
    rw [q] at h2s; exact absurd h2s (by decide)
  have hbeq : (nsA == sysModules) = false := by simp [hsm]
  have eg := c_getDict
  walk_at "c_go"
  refine wpAny_specialOf (hTn _) eg ?_
  walk_at "c_go"
  refine class_code D 2 rfl v2 (C.keeps D.keep) fun c' P' h4 tk4 D C' hc' => ?_
  walk_at "c_go"
  have Gh := G.keeps D.keep
  obtain ⟨bm, ob, b1, b2, b3, b4, b5, b6⟩ := Gh.bm
  rw [v1]
  refine wpAny_builtinsFor Gh.T.g b1 b2 b3 b4 b5 b6 ?_
  walk_at "c_go"
  unfold newBodyFrame
  refine wpAny_bind (wpAny_nsGet Gh.T.g ?_)
  refine wpAny_alloc ?_
  show wpAny _ _ _ _ _ ⟨h4.push _, _, _, _, _⟩
  generalize hh5 : h4.push _ = h5
  have k5 : ∀ b o, h4.get? b = some o → h5.get? b = some o := fun b o e => hh5 ▸ Heap.get?_push_of_some _ e
  replace D := D.ext k5
  generalize h4.objs.size = fr
  refine wpAny_bind (wpAny_of_eq hclo ?_)
  walk_at "c_go"
  refine wpAny_enterFrame (G.keeps D.keep).T.nolimit (Nat.lt_of_le_of_lt hA.2.1 (by decide)) ?_
  have Ch5 := C'.keeps k5
  obtain ⟨vm, hvm⟩ : ∃ vm, mg (Str.ofString "__name__") = some vm := by
    cases q : mg (Str.ofString "__name__") with
    | some v => exact ⟨v, rfl⟩
    | none =>
      have := mg_some G.X G.T.g
      rw [q] at this; cases this
  have h44 := D.at 3 _ _ rfl
  have n44 : (44 : Addr) ∉ [P', nsA, bT] := by
    have := D.nd
    simp only [List.set_cons_succ, List.set_cons_zero, List.map_cons, List.map_nil, List.nodup_cons, List.mem_cons, List.not_mem_nil, or_false, not_or] at this
    simp only [List.mem_cons, List.not_mem_nil, or_false, not_or]
    exact ⟨Ne.symm this.1.2.2, Ne.symm this.2.1.2, Ne.symm this.2.2.1⟩
  replace D : Own h₀ h5 [(P', tabObj #[]), (nsA, dObj [] 0), (bT, tO 0)] := D.drop (List.Sublist.cons₂ _ (List.Sublist.cons₂ _ (List.Sublist.cons₂ _ (List.Sublist.cons _ List.Sublist.slnil))))
  have kk := hideAll_keeps D
  have D0 := D.anew
  generalize hg' : hideAll h5 _ = h₀' at kk D0
  have g44 : h₀'.get? 44 = some (tabObj #[rawInt pos.line, rawInt pos.col, .ref c']) := by rw [← hg']; exact hideAll_get _ h44 n44
  have G' := G.keeps kk
  have C0 : CodeHd h₀' c' P' := by
    obtain ⟨o, vs, file, tf, flags, tg, inF, text, tt, e, r⟩ := Ch5
    refine ⟨o, vs, file, tf, flags, tg, inF, text, tt, ?_, r⟩
    rw [← hg']
    exact hideAll_get _ e fun q => hc' (List.mem_cons.mpr ((List.mem_cons.mp q).imp (fun x => x) fun q => List.mem_cons.mpr ((List.mem_cons.mp q).imp (fun x => x) fun q => List.mem_cons.mpr ((List.mem_cons.mp q).imp (fun x => x) fun q => nomatch q))))
  generalize hce : ({ scope := scope, locals := nsA, globals := mainGlobals, cells := (Option.map (fun x => (Str.ofString "__class__", x)) (none : Option Addr)).toList ++ (Option.map (fun x => (Str.ofString "__classdict__", x)) (none : Option Addr)).toList ++ clos, qual := qual ++ Str.ofString ".", code := Value.ref c', frame := some fr, builtins := builtinsNs } : Env) = cenv
  have c1 : cenv.locals = nsA := by rw [← hce]
  have c2 : cenv.scope.kind = .class := by rw [← hce]; exact hk
  have c3 : cenv.kindOf ("__name__" : Str) = none := by rw [← hce]; exact n3
  have c4 : cenv.kindOf ("__module__" : Str) = some .local := by rw [← hce]; exact n4
  have c5 : cenv.kindOf ("__qualname__" : Str) = none := by rw [← hce]; exact n5
  have c6 : cenv.kindOf ("__firstlineno__" : Str) = none := by rw [← hce]; exact n6
  have c7 : cenv.kindOf ("__static_attributes__" : Str) = none := by rw [← hce]; exact n7
  have c8 : cenv.globals = mainGlobals := by rw [← hce]
  refine wpAny_bind (wpAny_onRaise (wpAny_bind (m_loadG (env := cenv) (name := ("__name__" : Str)) (es := []) D0 1 (by rw [c1]; rfl) c2 ⟨c3, by decide +kernel⟩ (by kernel_rfl) (by rw [c8]; exact (G'.keeps D0.keep).T.g) hvm ?_)))
  refine wpAny_bind (m_store (env := cenv) (es := []) D0 (fun hs tk => dObj [ent "__module__" hs tk vm] 1) 1 (by rw [c1]; rfl) c2 (.inl c4) (by kernel_rfl) (fun _ _ => by kernel_rfl) (fun _ _ => rfl) fun h6 i1 D1 => ?_)
  rw [c1] at D1
  refine wpAny_bind (wpAny_mkText ?_)
  refine wpAny_bind (m_store (env := cenv) D1 (fun hs tk => dObj [ent "__module__" i1 tk4 vm, ent "__qualname__" hs tk (.str qual (tk4 + 1))] 2) 1 (by rw [c1]; rfl) c2 (.inr ⟨c5, by decide +kernel⟩) (by kernel_rfl) (fun _ _ => by kernel_rfl) (fun _ _ => rfl) fun h7 i2 D2 => ?_)
  rw [c1] at D2
  refine wpAny_bind (wpAny_mkInt ?_)
  refine wpAny_bind (m_store (env := cenv) D2 (fun hs tk => dObj [ent "__module__" i1 tk4 vm, ent "__qualname__" i2 (tk4 + 1 + 1) (.str qual (tk4 + 1)), ent "__firstlineno__" hs tk (.int fl (tk4 + 1 + 1 + 1))] 3) 1 (by rw [c1]; rfl) c2 (.inr ⟨c6, by decide +kernel⟩) (by kernel_rfl) (fun _ _ => by kernel_rfl) (fun _ _ => rfl) fun h8 i3 D3 => ?_)
  rw [c1] at D3
  walk_at "c_go"
  subst hce
  refine wpAny_mono (hbody h₀' _ _ c' P' nsA bT fr vm i1 i2 i3 _ _ _ _ _ _ G' kk C0 D3) (fun _ s' q => ?_) fun _ _ q => q.elim
  clear D0 D1 D2 D3 hbody
  obtain ⟨f0, f1, f2, f3, f4, f5, slA, q0, q1, h9, tk9, rfl, B⟩ := q
  obtain ⟨n, j1, y1, l1, j2, y2, l2, j3, y3, l3, j4, y4, j5, y5, j6, y6, j7, y7, j8, y8, j9, y9, j10, y10, j11, y11, l4, nl, nb, doc0, pm0, ctv0, doc1, pm1, ctv1, oc0, vs0, t0, oc1, vs1, t1, d2, d3, d4, d5, D, ⟨hd0, hv0⟩, hd1, hv1⟩ := B
  dsimp only
  refine wpAny_bind (wpAny_onRaise (wpAny_bind (wpAny_mkStrs fun fs => ?_)))
  refine wpAny_bind (wpAny_newTextTuple ?_)
  replace D := D.alloc (o := { cls := .type "tuple", data := .seq fs.toArray }) rfl
  generalize h9.push _ = h10 at D
  generalize h9.objs.size = stA at D
  refine wpAny_bind (m_store D (fun hs tk => dObj [ent "__module__" j1 y1 (.str (Str.ofString "cpy313.functools") l1), ent "__qualname__" j2 y2 (.str (Str.ofString "cmp_to_key.<locals>.K") l2), ent "__firstlineno__" j3 y3 (.int 18 l3),
      ent "__slots__" j4 y4 (.ref slA), ent "__init__" j5 y5 (.ref f0), ent "__lt__" j6 y6 (.ref f1), ent "__gt__" j7 y7 (.ref f2), ent "__eq__" j8 y8 (.ref f3), ent "__le__" j9 y9 (.ref f4), ent "__ge__" j10 y10 (.ref f5), ent "__hash__" j11 y11 .none, ent "__static_attributes__" hs tk (.ref stA)] (n + 1))
    1 rfl c2 (.inr ⟨c7, by decide +kernel⟩) (by kernel_rfl) (fun _ _ => by kernel_rfl) (fun _ _ => rfl) fun h11 j12 D => ?_)
  simp only [List.set_cons_zero, List.set_cons_succ] at D
  refine wpAny_pure ?_
  refine wpAny_ite ?_
  rw [if_neg Bool.false_ne_true]
  refine wpAny_bind ?_
  show wpAny _ _ (call (.type "type") [.str (Str.ofString "K") t, .ref bT, .ref nsA]) _ _ _
  have hsm' : nsA ≠ sysModules := hsm
  have hk0 := D.keep
  refine call_type (type_new (A := A.in1.in1) (ln := 18) ⟨hA.1, Nat.le_trans (m := 620) hA.2.1 (by decide), Nat.le_trans (m := 3102) (Nat.add_le_add_right hA.2.2 2) (by decide)⟩ (G'.keeps D.keep).X (D.at 1 _ _ rfl) (D.at 11 _ _ rfl) hsm' (D.at 10 _ _ rfl) (D.at 0 _ _ rfl)
    (D.at 8 _ _ rfl) (D.at 6 _ _ rfl) (D.at 5 _ _ rfl) (D.at 4 _ _ rfl) (D.at 3 _ _ rfl) (D.at 2 _ _ rfl) fun c ns md h12 tk12 i13 i14 y13 y14 y15 k12 hcn hnn2 hmn hc hns hmd => ?_)
  refine ⟨c, rfl, ⟨_, hc, rfl⟩, ?_⟩
  have kall : ∀ b o, h₀'.get? b = some o → h12.get? b = some o := fun b o e => k12 _ _ (hk0 _ _ e)
  refine wpAny_pure (hQ h12 tk12 c (fun b o e => kall _ _ (kk _ _ e)) ?_ ?_ ?_ ⟨c', kall _ _ g44⟩)
  · cases q : h₀.get? c with
    | none => rfl
    | some o => have := hk0 _ _ (kk _ _ q); rw [hcn] at this; cases this
  · intro q
    have := hk0 _ _ g44
    rw [← q, hcn] at this; cases this
  · refine ⟨ns, md, f0, f1, f2, f3, f4, f5, slA, stA, q0, q1, _, _, _, _, _, _, _, _, _, _, _, _, _, _, _, _, _, _, _, _, _, _, _, _, _, _, _, _, _, _, _, doc0, pm0, ctv0, doc1, pm1, ctv1, ?_, hc, rfl, hns, hmd, k12 _ _ (D.at 8 _ _ rfl), k12 _ _ (D.at 6 _ _ rfl),
      ⟨oc0, vs0, t0, k12 _ _ (D.at 9 _ _ rfl), hd0.1, hd0.2, hv0⟩, ⟨_, oc1, vs1, t1, rfl, k12 _ _ (D.at 7 _ _ rfl), hd1, hv1⟩⟩
    have fr2 : ∀ a, h₀'.get? a = none → h₀.get? a = none ∧ a ≠ 44 := fun a e => by
      refine ⟨?_, fun q => ?_⟩
      · cases q : h₀.get? a with
        | none => rfl
        | some o => have := kk _ _ q; rw [e] at this; cases this
      · rw [q, g44] at e; cases e
    have fr : ∀ a, h11.get? a = none → h₀.get? a = none ∧ a ≠ 44 := fun a e => fr2 a (by
      cases q : h₀'.get? a with
      | none => rfl
      | some o => have := hk0 _ _ q; rw [e] at this; cases this)
    intro a ha
    simp only [List.mem_cons, List.not_mem_nil, or_false] at ha
    rcases ha with rfl | rfl | rfl | rfl | rfl | rfl | rfl
    · exact fr _ hcn
    · exact fr _ hnn2
    · exact fr _ hmn
    · exact fr2 _ (D.no 8 _ _ rfl)
    · exact fr2 _ (D.no 6 _ _ rfl)
    · exact fr2 _ (D.no 9 _ _ rfl)
    · exact fr2 _ (D.no 7 _ _ rfl)
end
end Mine
end
section
open PySem PySem.W PySem.Calls PyProof.Rows PySem.Builtin
set_option Elab.async false
set_option maxRecDepth 100000
set_option maxHeartbeats 2000000
set_option pp.deepTerms false
set_option pp.deepTerms.threshold 6
namespace Mine
section
variable {w : World} {A : Around} {R : Result → Shared → Prop} {s : Shared} {p : Program} {loose : List Str} {mg mb : Str → Option Value}
theorem Own.perm {h₀ h : Heap} {l l' : List (Addr × Obj)} (D : Own h₀ h l) (q : l.Perm l') : Own h₀ h l' := ⟨D.keep, fun p hp => D.nw p (q.mem_iff.mpr hp), (q.map _).nodup_iff.mp D.nd⟩
theorem Own.re {h₀ h : Heap} {l : List (Addr × Obj)} (D : Own h₀ h l) {a : Addr} {o o' : Obj} (i : Nat) (hi : l[i]? = some (a, o)) (e : o = o') : Own h₀ h (l.set i (a, o')) := by
  subst e
  have : l.set i (a, o) = l := by
    obtain ⟨hlt, e⟩ := List.getElem?_eq_some_iff.mp hi
    rw [← e]; exact List.set_getElem_self hlt
  rw [this]; exact D
theorem cls_def {E : Value → Shared → Prop} {h₀ h : Heap} {g : Array GenState} {d : Drawn} {t : Nat} {os : OsState} {l : List (Addr × Obj)} {P' nsA c : Addr} {ps : Array Value} {es : List DictEntry} {n : Nat} {env : Env} {name : Str} {params : Arguments} {body : List Stmt} {scope : Scope} {pos : Pos} {clos : List (Str × Addr)} {Q : Flow → Shared → Prop}
    (D : Own h₀ h ((P', tabObj ps) :: (nsA, dObj es n) :: l)) (G : Gd w p loose mg mb h₀) (C : CodeHd h₀ c P') (hl : env.locals = nsA) (hk : env.scope.kind = .class) (hge : env.globals = mainGlobals) (hc : env.code = .ref c)
    (hd0 : params.defaults = []) (hk0 : params.kw_defaults = []) (ha : annTrees params none env = []) (hcl : closureFor scope env = pure clos) (ht : TriplesOk ps.toList) (hnf : codeAmong pos ps.toList = none) (hn : env.kindOf name = some .local) (hg : aRefKeyMayBeTheName name es.toArray = false)
    (e : ∀ hs tk v, Obj.putName name hs (.str name tk) v (dObj es n) = dObj (es ++ [⟨hs, .str name tk, v⟩]) (n + 1))
    (hq : ∀ f c' oc vs tq ctv doc hs tks h' tk', Own h₀ h' ((P', tabObj (ps ++ #[rawInt pos.line, rawInt pos.col, .ref c'])) :: (nsA, dObj (es ++ [⟨hs, .str name tks, .ref f⟩]) (n + 1)) :: (f, fnMade name (qualnameIn env name name) params body scope clos doc ((mg "__name__").getD .none) c' ctv) :: (c', oc) :: l) →
      (oc.cls = .type "code" ∧ oc.data = .fields vs) → vs[1]? = some (.str (qualnameIn env name name) tq) → Q .next ⟨h', g, d, tk', os⟩) :
    wpAny (model PySem.Challenge.rw_ij0154_01.prog w) A (exec (.FunctionDef name params body [] none [] scope none name pos) env) Q E ⟨h, g, d, t, os⟩ := by
  have Gh := G.keeps D.keep
  have hP := D.at 0 _ _ rfl
  refine nestDef_K hd0 hk0 ha ?_
  refine make_fun D 0 rfl hcl hge Gh.T.g hc (C.keeps D.keep) ht hnf (Gh.ne_tab hP) (Gh.builtinsAt hP) fun f c' oc vs tq ctv doc h' tk D' hd hv hx => ?_
  simp only [List.set_cons_zero] at D'
  refine m_store D' (fun hs tk => dObj (es ++ [⟨hs, .str name tk, .ref f⟩]) (n + 1)) 3 (by rw [hl]; rfl) hk (.inl hn) hg (fun _ _ => e _ _ _) (fun _ _ => rfl) fun h'' hs D2 => ?_
  rw [hl] at D2
  simp only [List.set_cons_zero, List.set_cons_succ] at D2
  refine hq f c' oc vs tq ctv doc hs tk h'' _ (D2.perm ?_) hd hv
  exact (List.Perm.cons _ (List.Perm.swap _ _ _)).trans ((List.Perm.swap _ _ _).trans (List.Perm.cons _ ((List.Perm.cons _ (List.Perm.swap _ _ _)).trans (List.Perm.swap _ _ _))))
theorem spliced_one {prog : Program} {E : Value → Shared → Prop} {x : Sem Value} {Q : List Value → Shared → Prop} (h : wpAny (model prog w) A x (fun v s' => Q [v] s') E s) : wpAny (model prog w) A (spliced [(false, x)]) Q E s := by
  refine wpAny_bind (wpAny_mono h (fun v s' q => ?_) fun _ _ q => q)
  repeat wp_step
  exact q
theorem evalArgs_one {prog : Program} {E : Value → Shared → Prop} {f : Value} {x : Sem Value} {Q : Args → Shared → Prop} (h : wpAny (model prog w) A x (fun v s' => Q ⟨[v], []⟩ s') E s) : wpAny (model prog w) A (evalArgs f false [(false, x)] []) Q E s := by
  unfold evalArgs
  show wpAny _ A (spliced [(false, x)] >>= fun pos => _) Q E s
  refine wpAny_bind (wpAny_bind (wpAny_mono h (fun v s' q => ?_) fun _ _ q => q))
  repeat wp_step
  exact q
theorem cmpkey_spec {f : Addr} (hA : Sm A 600 3000) (G : Gd w p loose mg mb s.heap) (C : CodeHd s.heap 48 44) (hP : s.heap.get? 44 = some (tabObj #[]))
    (hR : ∀ h' tk c cl, Heap.ExtBut 44 s.heap h' → ClsEnd w.params s.heap h' c [(Str.ofString "mycmp", cl)] → h'.IsCell cl (some (.ref f)) → s.heap.get? cl = none → (∃ a b c', h'.get? 44 = some (tabObj #[a, b, .ref c'])) → R (.ok (.ret (.ref c))) { s with heap := h', toks := tk }) :
    codeAny (model PySem.Challenge.rw_ij0154_01.prog w) A (.call (.ref 49) ⟨[.ref f], []⟩) R s := by
  have X := G.X
  revert X; k_fill; intro X
  refine codeAny_call_cells (binds := [(Str.ofString "mycmp", .ref f)]) (Nat.lt_of_le_of_lt hA.2.1 (by decide)) (X 49 _ rfl) rfl G.T.nolimit (codeRec_of X (by k_is)) rfl rfl rfl ?_ (fun s₁ I => ?_)
  · intro x hx
    rw [List.mem_singleton] at hx
    subst hx
    exact .inr ⟨rfl, rfl⟩
  refine wk (d := 601) (u := 3003) ⟨hA.1, Nat.succ_le_succ hA.2.1, Nat.add_le_add_right hA.2.2 3⟩ (wpAny_mono (Q := fun f s' => R (.ok (.ret (match f with | .ret v => v | _ => .none))) s') (E := fun _ _ => False) ?_ (fun _ _ q => q) fun _ _ q => q.elim)
  obtain ⟨h₁, tk, rfl, k₁⟩ := I.done
  have hcell : h₁.IsCell (s.heap.objs.size + 1) (some (.ref f)) := I.cell (Str.ofString "mycmp") _ rfl
  have hns := I.toInCall.ns
  clear I
  generalize hL : s.heap.objs.size = L at *
  generalize henv : callEnvC _ L 49 = env
  have v1 : env.globals = mainGlobals := by rw [← henv]; rfl
  have v2 : env.code = .ref 48 := by rw [← henv]; rfl
  have v3 : env.builtins = builtinsNs := by rw [← henv]; rfl
  have v4 : env.scope.kind = .function := by rw [← henv]; rfl
  have v5 : env.kindOf (Str.ofString "object") = some .globalImplicit := by rw [← henv]; rfl
  have v6 : env.kindOf (Str.ofString "K") = some .local := by rw [← henv]; rfl
  have v7 : env.locals = L := by rw [← henv]; rfl
  refine wpAny_execs_cons ?_
  rw [arm_exec_ClassDef]
  refine wpAny_bind (wpAny_evalAll_nil ?_)
  refine wpAny_bind (wpAny_standAt ?_)
  have G1 := G.keeps k₁
  unfold buildClassGuard
  rw [v3]
  refine wpAny_bind (wpAny_bind (wpAny_nsGet G1.T.b ?_))
  rw [G1.T.builtins _ (by decide +kernel), show bootBuiltins (Str.ofString "__build_class__") = some (.builtin "__build_class__") by kernel_rfl]
  refine wpAny_pure ?_
  refine wpAny_bind (wpAny_holding (wpAny_bind ?_))
  refine evalArgs_one ?_
  refine Name_function_global v4 v5 (loadGlobal_builtin (by rw [v1]; exact G1.T.g) (mg_none_of (K := KR w.params) G1.X G1.T.g (by kernel_rfl)) (by rw [v3]; exact G1.T.b) ((G1.T.builtins (Str.ofString "object") (by decide +kernel)).trans (show bootBuiltins (Str.ofString "object") = some (.type "object") by kernel_rfl)) ?_) (by decide)
  refine wpAny_bind (wpAny_standAt (wpAny_holding ?_))
  have hP1 := k₁ _ _ hP
  have C1 := C.keeps k₁
  have D : Own (hideAll h₁ [44]) h₁ [(44, tabObj #[])] := ⟨fun b o e => of_hideAll _ e, fun p hp => by rw [List.mem_singleton] at hp; subst hp; exact ⟨hP1, hideAll_none _ (.head _)⟩, by simp⟩
  have G0 : Gd w p loose mg mb (hideAll h₁ [44]) := G1.extBut (by kernel_rfl) hP1 fun b o hb e => hideAll_get _ e (by simpa using hb)
  have C0 : CodeHd (hideAll h₁ [44]) 48 44 := by
    obtain ⟨o, vs, file, tf, flags, tg, inF, text, tt, e, r⟩ := C1
    exact ⟨o, vs, file, tf, flags, tg, inF, text, tt, hideAll_get _ e (by decide), r⟩
  refine build_class (clos := [(Str.ofString "mycmp", L + 1)]) ⟨rfl, Nat.le_of_ble_eq_true rfl, Nat.le_of_ble_eq_true rfl⟩ G0 D C0 v1 v2 v3 rfl (by kernel_rfl) (by kernel_rfl) (by kernel_rfl) (by kernel_rfl) (by kernel_rfl) (by kernel_rfl) (by kernel_rfl) (by rw [← henv]; rfl) (by rw [← henv]; kernel_rfl) rfl ?hbody ?hQ
  case hbody =>
    intro h₀' h' tk' c' P' nsA bT fr vm i1 i2 i3 k1 k2 k3 l2 l3 nb G' kk C' D
    have hqn : qualnameIn env (Str.ofString "K") (Str.ofString "K") = Str.ofString "cmp_to_key.<locals>.K" := by rw [← henv]; kernel_rfl
    rw [hqn] at D ⊢
    generalize hce : Env.mk _ nsA mainGlobals _ _ _ _ _ _ = cenv
    have c1 : cenv.locals = nsA := by rw [← hce]
    have c2 : cenv.scope.kind = .class := by rw [← hce]
    have c3 : cenv.globals = mainGlobals := by rw [← hce]
    have c4 : cenv.code = .ref c' := by rw [← hce]
    refine wpAny_run (codeAny_body (by kernel_rfl) (by kernel_rfl) (wpAny_mono (E := fun _ _ => False) ?_ (fun _ _ q => q) fun _ _ q => q.elim))
    refine wpAny_execs_cons (wpAny_Assign_Name (wpAny_Constant_str ?_))
    show wpAny _ _ _ _ _ ⟨h', s.gens, s.drawn, tk' + 1, s.os⟩
    refine m_store D (fun hs tk => dObj [ent "__module__" i1 k1 (.str (Str.ofString "cpy313.functools") tk'), ent "__qualname__" i2 k2 (.str (Str.ofString "cmp_to_key.<locals>.K") l2), ent "__firstlineno__" i3 k3 (.int 18 l3)] 3) 1 (by rw [c1]; rfl) c2 (.inl (by rw [← hce]; rfl)) (by kernel_rfl) (fun _ _ => by kernel_rfl) (fun _ _ => rfl) fun h2 i4 D1 => ?_
    rw [c1] at D1
    simp only [List.set_cons_zero, List.set_cons_succ] at D1
    dsimp only
    refine wpAny_execs_cons (wpAny_Assign_Name (wpAny_List (spliced_one (wpAny_Constant_str (k := 0) (pos := ⟨0, 0, 0, 0⟩) ⟨Nat.le_of_ble_eq_true rfl, ?_⟩))))
    show wpAny _ _ (storeName cenv _ (.ref h2.objs.size)) _ _ ⟨h2.push (lO (tk' + 1 + 1) 0), s.gens, s.drawn, tk' + 1 + 1 + 1, s.os⟩
    replace D1 := D1.alloc (o := lO (tk' + 1 + 1) 0) rfl
    generalize h2.push _ = h3 at D1 ⊢
    generalize h2.objs.size = slA at D1 ⊢
    refine m_store D1 (fun hs tk => dObj [ent "__module__" i1 k1 (.str (Str.ofString "cpy313.functools") tk'), ent "__qualname__" i2 k2 (.str (Str.ofString "cmp_to_key.<locals>.K") l2), ent "__firstlineno__" i3 k3 (.int 18 l3), ent "__slots__" hs tk (.ref slA)] 4) 2 (by rw [c1]; rfl) c2 (.inl (by rw [← hce]; rfl)) (by kernel_rfl) (fun _ _ => by kernel_rfl) (fun _ _ => rfl) fun h4 i5 D2 => ?_
    rw [c1] at D2
    simp only [List.set_cons_zero, List.set_cons_succ] at D2
    dsimp only
    replace D2 := D2.perm (l' := [(P', tabObj #[]), (nsA, _), (slA, _), (bT, _)]) ((List.Perm.swap _ _ _).trans (List.Perm.cons _ (List.Perm.swap _ _ _)))
    refine wpAny_execs_cons (cls_def (clos := []) D2 G' C' c1 c2 c3 c4 rfl rfl rfl (by rw [← hce]; rfl) (by exact True.intro) (by kernel_rfl) (by rw [← hce]; rfl) (by kernel_rfl) (fun _ _ _ => by kernel_rfl) fun f0 q0 o0 vs0 tq0 ct0 doc0 j0 y0 hh0 tk0 E0 hd0 hv0 => ?_)
    simp only [List.cons_append, List.nil_append] at E0
    refine wpAny_execs_cons (cls_def (clos := [(Str.ofString "mycmp", L + 1)]) E0 G' C' c1 c2 c3 c4 rfl rfl rfl (by rw [← hce]; rfl) (by exact True.intro) (by kernel_rfl) (by rw [← hce]; rfl) (by kernel_rfl) (fun _ _ _ => by kernel_rfl) fun f1 q1 o1 vs1 tq1 ct1 doc1 j1 y1 hh1 tk1 E1 hd1 hv1 => ?_)
    simp only [List.cons_append, List.nil_append] at E1
    refine wpAny_execs_cons (cls_def (clos := [(Str.ofString "mycmp", L + 1)]) E1 G' C' c1 c2 c3 c4 rfl rfl rfl (by rw [← hce]; rfl) (by exact True.intro) (by kernel_rfl) (by rw [← hce]; rfl) (by kernel_rfl) (fun _ _ _ => by kernel_rfl) fun f2 q2 o2 vs2 tq2 ct2 doc2 j2 y2 hh2 tk2 E2 hd2 hv2 => ?_)
    simp only [List.cons_append, List.nil_append] at E2
    refine wpAny_execs_cons (cls_def (clos := [(Str.ofString "mycmp", L + 1)]) E2 G' C' c1 c2 c3 c4 rfl rfl rfl (by rw [← hce]; rfl) (by exact True.intro) (by kernel_rfl) (by rw [← hce]; rfl) (by kernel_rfl) (fun _ _ _ => by kernel_rfl) fun f3 q3 o3 vs3 tq3 ct3 doc3 j3 y3 hh3 tk3 E3 hd3 hv3 => ?_)
    simp only [List.cons_append, List.nil_append] at E3
    refine wpAny_execs_cons (cls_def (clos := [(Str.ofString "mycmp", L + 1)]) E3 G' C' c1 c2 c3 c4 rfl rfl rfl (by rw [← hce]; rfl) (by exact True.intro) (by kernel_rfl) (by rw [← hce]; rfl) (by kernel_rfl) (fun _ _ _ => by kernel_rfl) fun f4 q4 o4 vs4 tq4 ct4 doc4 j4 y4 hh4 tk4 E4 hd4 hv4 => ?_)
    simp only [List.cons_append, List.nil_append] at E4
    refine wpAny_execs_cons (cls_def (clos := [(Str.ofString "mycmp", L + 1)]) E4 G' C' c1 c2 c3 c4 rfl rfl rfl (by rw [← hce]; rfl) (by exact True.intro) (by kernel_rfl) (by rw [← hce]; rfl) (by kernel_rfl) (fun _ _ _ => by kernel_rfl) fun f5 q5 o5 vs5 tq5 ct5 doc5 j5 y5 hh5 tk5 E5 hd5 hv5 => ?_)
    simp only [List.cons_append, List.nil_append] at E5
    dsimp only
    refine wpAny_execs_cons (wpAny_Assign_Name (wpAny_Constant_none ?_))
    refine m_store E5 (fun hs tk => dObj [ent "__module__" i1 k1 (.str (Str.ofString "cpy313.functools") tk'), ent "__qualname__" i2 k2 (.str (Str.ofString "cmp_to_key.<locals>.K") l2), ent "__firstlineno__" i3 k3 (.int 18 l3), ent "__slots__" i5 (tk' + 1 + 1 + 1) (.ref slA),
      ent "__init__" j0 y0 (.ref f0), ent "__lt__" j1 y1 (.ref f1), ent "__gt__" j2 y2 (.ref f2), ent "__eq__" j3 y3 (.ref f3), ent "__le__" j4 y4 (.ref f4), ent "__ge__" j5 y5 (.ref f5), ent "__hash__" hs tk .none] 11) 1 (by rw [c1]; rfl) c2 (.inl (by rw [← hce]; rfl)) (by kernel_rfl) (fun _ _ => by kernel_rfl) (fun _ _ => rfl) fun h6 j6 D6 => ?_
    rw [c1] at D6
    simp only [List.set_cons_zero, List.set_cons_succ] at D6
    dsimp only
    refine wpAny_execs_nil ?_
    have D7 := D6.drop (l := [(nsA, _), (f5, _), (f4, _), (f3, _), (f2, _), (f1, _), (q1, _), (f0, _), (q0, _), (slA, _), (bT, _)]) (by
      repeat (first | exact List.Sublist.slnil | exact List.Sublist.refl _ | apply List.Sublist.cons_cons | apply List.Sublist.cons))
    have D8 := D7.re 5 rfl (show _ = fnK w.params 3 [(Str.ofString "mycmp", L + 1)] doc1 ((mg "__name__").getD .none) q1 ct1 by rw [← hce]; kernel_rfl)
    have D9 := D8.re 7 rfl (show _ = fnK w.params 2 [] doc0 ((mg "__name__").getD .none) q0 ct0 by rw [← hce]; kernel_rfl)
    exact ⟨f0, f1, f2, f3, f4, f5, slA, q0, q1, h6, _, rfl, _, _, _, _, _, _, _, _, _, _, _, _, _, _, _, _, _, _, _, _, _, _, _, _, _, _, _, _, _, doc0, _, ct0, doc1, _, ct1, o0, vs0, tq0, o1, vs1, tq1, _, _, _, _, D9,
      ⟨hd0, hv0.trans (by rw [← hce]; kernel_rfl)⟩, hd1.2, hv1.trans (by rw [← hce]; kernel_rfl)⟩
  case hQ =>
    intro h' tk' c kc hcn hc44 CE h44
    have h44L : 44 < L := hL ▸ Heap.lt_size hP
    refine wpAny_bind (wpAny_pure (wpAny_bind (wpAny_standAt (wpAny_bind (wpAny_bindName ?_)))))
    have baseL : ∀ b o, b ≠ 44 → h₁.get? b = some o → h'.get? b = some o := fun b o hb e => kc b o (hideAll_get _ e (by simpa using hb))
    have hnsL : h'.Ns L _ := hns.extBut (b := 44) (fun b o hb e => baseL b o hb e) (Nat.ne_of_gt h44L)
    refine wpAny_storeName_local v6 (by rw [v7]; exact hnsL) (fun h2 hn2 hs2 => ?_) (by rw [v4]; rfl)
    rw [v7] at hn2 hs2
    refine wpAny_pure ?_
    dsimp only
    refine wpAny_execs_cons (wpAny_Return_some (wpAny_Name (wpAny_loadName_local v4 v6 (by rw [v7]; exact hn2) (if_pos rfl) ?_) (by decide)))
    obtain ⟨oL, -, -, eL, -⟩ := hns
    have eL' : (hideAll h₁ [44]).get? L = some oL := hideAll_get _ eL (by simpa using Nat.ne_of_gt h44L)
    have cell' : h'.IsCell (L + 1) (some (.ref f)) := by
      obtain ⟨oc, ec, hc⟩ := hcell
      exact ⟨oc, baseL _ _ (Nat.ne_of_gt (Nat.lt_succ_of_lt h44L)) ec, hc⟩
    have old : ∀ b o, s.heap.get? b = some o → b < L := fun b o e => hL ▸ Heap.lt_size e
    have CE' := CE.extBut eL' hs2.extBut
    obtain ⟨a44, e44⟩ := h44
    refine hR h2 _ c (L + 1) (fun b o hb e => (hs2.2 b (Nat.ne_of_lt (old b o e))).trans (baseL b o hb (k₁ _ _ e))) ?_ (cell'.sameBut hs2 (Nat.ne_of_gt (Nat.lt_succ_self L))) ?_ ⟨_, _, a44, (hs2.2 44 (Nat.ne_of_lt h44L)).trans e44⟩
    · obtain ⟨ns, md, f0, f1, f2, f3, f4, f5, slA, stA, c0, c1, n, i1, k1, l1, i3, k3, l3, i4, k4, i5, k5, i6, k6, i7, k7, i8, k8, i9, k9, i10, k10, i11, k11, i12, k12, i13, k13, i14, k14, tm, sl, doc0, pm0, ctv0, doc1, pm1, ctv1, hn, b1, b2, b3, b4, b5, b6, b7, b8⟩ := CE'
      refine ⟨ns, md, f0, f1, f2, f3, f4, f5, slA, stA, c0, c1, n, i1, k1, l1, i3, k3, l3, i4, k4, i5, k5, i6, k6, i7, k7, i8, k8, i9, k9, i10, k10, i11, k11, i12, k12, i13, k13, i14, k14, tm, sl, doc0, pm0, ctv0, doc1, pm1, ctv1, fun a ha => ?_, b1, b2, b3, b4, b5, b6, b7, b8⟩
      refine ⟨?_, (hn a ha).2⟩
      cases q : s.heap.get? a with
      | none => rfl
      | some o =>
        have e1 := (hn a ha).1
        rw [hideAll_get _ (k₁ _ _ q) (by simpa using (hn a ha).2)] at e1; cases e1
    · cases q : s.heap.get? (L + 1) with
      | none => rfl
      | some o => exact absurd (old _ _ q) (Nat.not_lt.mpr (Nat.le_succ L))
end
end Mine
end
section
open PySem PySem.W PySem.Calls PyProof.Rows PySem.Builtin PySem.W.X PySem.W.XRun
set_option Elab.async false
set_option maxRecDepth 100000
set_option maxHeartbeats 8000000
namespace Mine
noncomputable abbrev kInst (c dA : Addr) (v : Value) : Obj := ⟨.ref c, some dA, .plain, #[some v]⟩
local macro_rules | `(tactic| x_close) => `(tactic| first | exact ⟨_, _, rfl, mem_keep (by assumption), _, _, rfl, mem_none (by assumption) 1 _ _ rfl, Mem.at (by assumption) 1 _ _ rfl⟩ | exact ⟨_, _, rfl, mem_keep (by assumption), rfl⟩ | exact ⟨_, _, rfl, fun _ _ e => e, rfl⟩)
theorem K_obj {w : World} {s : Shared} {c ns md f0 f1 f2 f3 f4 f5 slA stA i dA : Addr} {s0 s2 s3 : Option Value} {n k1 k3 k4 k5 k6 k7 k8 k9 k10 k11 k12 k13 k14 l1 l3 tm : Nat} {x : Int} {tk tn : Nat}
    {h1 h3 h4 h5 h6 h7 h8 h9 h10 h11 h12 h13 h14 : Int} (X : (KR w.params).In s.heap)
    (hc : s.heap.get? c = some (⟨.type "type", none, .cls (kCd c ns), #[s0, none, s2, s3, some (.builtin "object.__new__"), some (.bool false)]⟩ : Obj))
    (hns : s.heap.get? ns = some (⟨.type "dict", none, .dict #[ent "__module__" h1 k1 (.str (Str.ofString "cpy313.functools") l1), ent "__firstlineno__" h3 k3 (.int 18 l3),
      ent "__slots__" h4 k4 (.ref slA), ent "__init__" h5 k5 (.ref f0), ent "__lt__" h6 k6 (.ref f1), ent "__gt__" h7 k7 (.ref f2), ent "__eq__" h8 k8 (.ref f3), ent "__le__" h9 k9 (.ref f4), ent "__ge__" h10 k10 (.ref f5), ent "__hash__" h11 k11 .none,
      ent "__static_attributes__" h12 k12 (.ref stA), ent "obj" h13 k13 (.ref md), ent "__doc__" h14 k14 .none] n, #[]⟩ : Obj))
    (hmd : s.heap.get? md = some (⟨.type "member_descriptor", none, .fields #[.str (Str.ofString "obj") tm, .ref c, .builtin "proto.slot", .builtin "proto.slot#set", rawInt 0], #[]⟩ : Obj))
    (hi : s.heap.get? i = some (⟨.ref c, some dA, .plain, #[some (.int x tk)]⟩ : Obj)) :
    wpAny (model PySem.Challenge.rw_ij0154_01.prog w) (AM 700 3600) (runValue (.builtin "proto.getattr_hooked" ⟨[.ref i, .str (Str.ofString "obj") tn], []⟩)) (More s fun v _ => v = .int x tk) (fun _ _ => False) s := by
  revert X; k_fill; intro X
  x_run
end Mine
end
section
open PySem PySem.W PySem.Calls PyProof.Rows
open Mine
local macro_rules | `(tactic| walk_at "z_k") => `(tactic| (walk1; (try dsimp only)))
local macro_rules | `(tactic| walk_at "z_i") => `(tactic| ((with_reducible show ite _ _ _); walk_at "z_k"))
local macro_rules | `(tactic| walk_at "z_n0") => `(tactic| ((with_reducible show wpAny _ _ _ _ _ _); (fail_if_success (with_reducible show wpAny _ _ (exec (Stmt.While _ _ _ _) _) _ _ _)); (fail_if_success (with_reducible show wpAny _ _ (exec (Stmt.For _ _ _ _ _) _) _ _ _)); (fail_if_success (with_reducible show wpAny _ _ (eval (Expr.ListComp _ _ _ _) _) _ _ _))))
local macro_rules | `(tactic| walk_at "z_no") => `(tactic| (walk_at "z_n0"; (fail_if_success (with_reducible show wpAny _ _ (eval (Expr.Lambda _ _ _ _) _) _ _ _)); (fail_if_success (with_reducible show wpAny _ _ (call (Value.ref _) _) _ _ _))))
local macro_rules | `(tactic| walk_at "z_nc") => `(tactic| (walk_at "z_no"; (fail_if_success (with_reducible show wpAny _ _ (callWith _ (Value.ref _) _ _ _) _ _ _))))
section
open PySem PySem.W PySem.Calls PyProof.Rows
open Mine
local macro_rules | `(tactic| walk_at "z_loc") => `(tactic| first | assumption | exact if_pos rfl | (refine (if_neg (by decide)).trans ?_; walk_at "z_loc"))
local macro_rules | `(tactic| walk_at "eval Name") => `(tactic| (k_here; refine nameX_L (by assumption) (by walk_at "z_loc") ?_))
local macro_rules | `(tactic| walk_at "z_go") => `(tactic| repeat' first | (walk_at "z_n0"; walk_at "z_k") | walk_at "z_i")
section
open PySem PySem.W PySem.Calls PyProof.Rows
set_option Elab.async false
set_option maxRecDepth 100000
set_option maxHeartbeats 8000000
namespace Mine
/-- how long the common beginning of two rows is -/
noncomputable def cp : List Int → List Int → Nat
  | a :: xs, b :: ys => if a = b then cp xs ys + 1 else 0
  | _, _ => 0
theorem cp_le : ∀ xs ys : List Int, cp xs ys ≤ xs.length ∧ cp xs ys ≤ ys.length
  | [], _ => by simp [cp]
  | _ :: _, [] => by simp [cp]
  | a :: xs, b :: ys => by
    have h := cp_le xs ys
    unfold cp
    split <;> simp only [List.length_cons] <;> omega
/-- one step further along two rows -/
theorem cp_step : ∀ (xs ys : List Int) (k : Nat), k ≤ cp xs ys → (k < cp xs ys ↔ (k < xs.length ∧ k < ys.length ∧ xs.getD k 0 = ys.getD k 0))
  | [], ys, k, h => by simp [cp]
  | _ :: _, [], k, h => by simp [cp]
  | a :: xs, b :: ys, 0, h => by
    unfold cp
    by_cases e : a = b <;> simp [e]
  | a :: xs, b :: ys, k + 1, h => by
    unfold cp at h ⊢
    by_cases e : a = b
    · rw [if_pos e] at h ⊢
      simp only [List.length_cons, List.getD_cons_succ, Nat.add_lt_add_iff_right]
      exact cp_step xs ys k (Nat.le_of_succ_le_succ h)
    · rw [if_neg e] at h
      exact absurd h (Nat.not_succ_le_zero _)
theorem pick_to {vs : List Value} {k : Nat} : slicePick vs.toArray none (some (k : Int)) none = (vs.take k).toArray := by
  have e : sliceBounds none (some (k : Int)) none vs.toArray.size = (((0 : Nat) : Int), ((min k vs.toArray.size : Nat) : Int), 1) := by
    simp only [sliceBounds, Option.getD_none, show (1 : Int) > 0 by decide, if_true, if_neg (show ¬ ((k : Int) < 0) by omega)]
    congr 1
    congr 1
    omega
  rw [kmk_pick_nat _ e]
  show ((vs.drop 0).take (min k vs.toArray.size - 0)).toArray = _
  rw [List.drop_zero, Nat.sub_zero, List.size_toArray, kmk_take_min]
local macro_rules | `(tactic| walk_at "z_go") => `(tactic| repeat' first | ((with_reducible show wpAny _ _ _ _ _ _); walk1; (try dsimp only)) | ((with_reducible show ite _ _ _); walk1; (try dsimp only)))
section
variable {w : World} {A : Around} {R : Result → Shared → Prop} {s : Shared} {p : Program} {loose : List Str} {mg mb : Str → Option Value}
theorem shared_spec {a b : Addr} {va vb : List Value} {xs ys : List Int} (hA : Sm A 600 3000) (X : (KR w.params).In s.heap) (T : TopRead p loose mg mb s.heap)
    (ha : s.heap.IsList a va.toArray) (ia : IntsAre va xs) (hb : s.heap.IsList b vb.toArray) (ib : IntsAre vb ys) (la : xs.length < 1000) (lb : ys.length < 1000)
    (h : ∀ h' tk r, (∀ b o, s.heap.get? b = some o → h'.get? b = some o) → h'.get? r = some (listOf (va.take (cp xs ys)).toArray 0) → s.heap.get? r = none → R (.ok (.ret (.ref r))) { s with heap := h', toks := tk }) :
    codeAny (model PySem.Challenge.rw_ij0154_01.prog w) A (.call (.ref 77) ⟨[.ref a, .ref b], []⟩) R s := by
  revert X; k_fill; intro X
  refine enterF (binds := [(Str.ofString "one", .ref a), (Str.ofString "other", .ref b)]) hA (by decide) (X 77 _ rfl) rfl T.nolimit (codeRec_of X (by k_is)) (BindsTo.of_eq rfl) (by decide) (locs rfl) (fun h₁ F => ?_)
  generalize hm : (fun y => List.lookup y (List.reverse [(Str.ofString "one", Value.ref a), (Str.ofString "other", Value.ref b)])) = m at F
  have m1 : m (Str.ofString "one") = some (.ref a) := by rw [← hm]; rfl
  have m2 : m (Str.ofString "other") = some (.ref b) := by rw [← hm]; rfl
  generalize s.heap.objs.size = L at F ⊢
  have N : News s.heap L h₁ [] := News.nil
  generalize s.toks + _ = tk at *
  walk1; walk1; walk1; walk1; walk1
  refine wpAny_While (codeAny_whileLoop (fun n s' => ∃ k h' tk t, s' = { s with heap := h', toks := tk } ∧ Fr s.heap L h' (fun y => if y = Str.ofString "size" then some (.int (k : Nat) t) else m y) ∧ News s.heap L h' [] ∧ k + n = cp xs ys)
    ?turn (cp xs ys) ?start)
  case start => exact ⟨0, _, _, _, rfl, by assumption, by assumption, by omega⟩
  case turn =>
    rintro n s' ⟨k, h', tk, t, rfl, F', N', hk⟩
    have kle : k ≤ cp xs ys := by omega
    have kb := cp_le xs ys
    have st := cp_step xs ys k kle
    have fin : k = cp xs ys → ∀ (tk : Nat) (h'' : Heap) (m' : Str → Option Value), Fr s.heap L h'' m' → News s.heap L h'' [] → ∀ {value slice : PySem.Expr},
        (subscripted slice false (.ref a) (.ref h''.objs.size) = operate [.ref h''.objs.size, .ref a] (getItem (.ref a) (.ref h''.objs.size))) → (∀ r, letTemporaryGo value (.ref a) r = pure ()) →
        wpAny (model PySem.Challenge.rw_ij0154_01.prog w) (AM (600 + 1) (3000 + 3)) (subscriptTail value slice (.ref a) (.ref h''.objs.size)) (fun v s' => R (.ok (.ret v)) s') (fun _ _ => False)
          { s with heap := h''.push { cls := .type "slice", data := .fields #[.none, .int (k : Int) t, .none] }, toks := tk } := by
      intro e tk h'' m' F'' N'' value slice hs ht
      refine slice_list (s := { s with heap := h'', toks := tk }) F'' N'' (F''.lst ha) IsPart.none (IsPart.int _ _) (fun h3 F3 N3 => ?_) hs ht ?_
      · rw [pick_to, e] at N3
        exact h _ _ _ (fun b o q => F3.keep b o q) (N3 _ (.head _)).1 (N3 _ (.head _)).2.2
      · rw [List.size_toArray, ia.length, sizeLine_eq]; omega
    walk_at "z_go"
    · rename_i c1 _ _ c2 _ F3 N3
      rw [Int.toNat_natCast] at c2
      have hlt := st.mpr ⟨by split at c1 <;> omega, by split at c1 <;> omega, c2⟩
      rw [set_set] at F3
      exact ⟨n - 1, by omega, k + 1, _, _, _, rfl, F3, N3, by omega⟩
    · rename_i F3 N3 c1 _ _ c2
      rw [Int.toNat_natCast] at c2
      exact fin (by exact Nat.le_antisymm kle (Nat.not_lt.mp fun q => c2 (st.mp q).2.2)) _ _ _ F3 N3 (by with_unfolding_all rfl) (by intro _; with_unfolding_all rfl)
    · rename_i F3 N3 c1
      exact fin (by have : ¬ k < cp xs ys := fun q => c1 (by have := st.mp q; split <;> omega); omega) _ _ _ F3 N3 (by with_unfolding_all rfl) (by intro _; with_unfolding_all rfl)
end
end Mine
end
section
open PySem PySem.W PySem.Calls PyProof.Rows
set_option Elab.async false
set_option maxRecDepth 100000
set_option maxHeartbeats 2000000
namespace Mine
section
variable {prog : Program} {w : World} {A : Around} {R : Result → Shared → Prop} {s : Shared}
/-- enter a function some of whose names are captured -/
theorem enterC {f : Addr} {fo : Obj} {name qual : Str} {params : Arguments} {body : List Stmt} {scope : Scope} {dV kV doc pm cdv ct : Value} {an : Option Addr} {args : Args} {binds : List (Str × Value)} {d u : Nat}
    (hA : Sm A d u) (hroom : d < recursionLimit) (ho : s.heap.get? f = some fo) (hdat : fo.data = .func (fnX name qual params body scope [] dV kV doc pm an cdv ct)) (hlim : s.heap.NoLimit) (hcd : s.heap.CodeRec cdv qual)
    (hbind : BindsTo s (fnX name qual params body scope [] dV kV doc pm an cdv ct) args binds)
    (hkind : ∀ n, ∀ x ∈ binds, scope.names.lookup x.1 = some .local ∨ (scope.names.lookup x.1 = some .cell ∧ ((cellsFrom n scope.names []).lookup x.1).isSome = true))
    (hnd : ((cellsFrom 0 scope.names []).map (·.1)).Nodup)
    (h : ∀ h₁ tk cells, Fr s.heap s.heap.objs.size h₁ (bindL (envOfC qual scope s.heap.objs.size f cdv).kindOf binds fun _ => none) → News s.heap s.heap.objs.size h₁ cells →
      CellsAre (bindC (envOfC qual scope s.heap.objs.size f cdv).kindOf binds fun _ => none) (cellsFrom (s.heap.objs.size + 1) scope.names []) cells →
      wpAny (model prog w) (AM (d + 1) (u + 3)) (execs body (envOfC qual scope s.heap.objs.size f cdv)) (fun fl s' => R (.ok (.ret (match fl with | .ret v => v | _ => .none))) s') (fun _ _ => False)
        { s with heap := h₁, toks := tk })
    (hco : scope.isCoroutine = false := by rfl) (hgen : scope.isGenerator = false := by rfl) (hk : scope.kind = .function := by rfl) : codeAny (model prog w) A (.call (.ref f) args) R s := by
  refine codeAny_call_function (Nat.lt_of_le_of_lt hA.2.1 hroom) ho hdat hco hgen rfl hcd (hbind _ _ _ _ ?_)
  refine wpAny_newFunctionEnv_cells hk (hkind _) fun env' he s' x => ?_
  subst he
  refine ⟨hlim.keeps x.toInCall.keep, codeAny_func ?_⟩
  obtain ⟨h₁, tk, rfl, _⟩ := x.done
  have hk₁ := x.toInCall.keep
  obtain ⟨cells, NC, Y⟩ := Cl.news (h₀ := s.heap) (Nat.le_refl _) fun n c hm => ⟨x.cell n c (lookup_of_mem_nodup (cellsFrom_names scope.names 0 (s.heap.objs.size + 1) [] [] rfl ▸ hnd) hm), x.above n c hm⟩
  exact wpAny_mono (wk (d := d + 1) (u := u + 3) ⟨hA.1, Nat.succ_le_succ hA.2.1, Nat.add_le_add_right hA.2.2 3⟩ (h h₁ tk cells ⟨x.toInCall.ns, hk₁, Nat.le_refl _⟩ NC Y)) (fun _ _ q => q) (fun _ _ q => q.elim)
end
end Mine
end
section
open PySem PySem.W PySem.Calls PyProof.Rows PyProof.Rows.LCg PyProof.Rows.LCt
set_option Elab.async false
set_option maxRecDepth 100000
set_option maxHeartbeats 2000000
namespace Mine
section
variable {prog : Program} {w : World} {A : Around} {s : Shared} {h₀ : Heap} {L : Addr} {m : Str → Option Value} {env : Env} {ct elt : Expr} {x : Str} {scope : Scope} {cl : List (Str × Addr)} {S : List (Addr × Obj) → Prop} {P : Nat → Value → Prop} {Fin : List Value → List (Addr × Obj) → Prop}
theorem compEnd_mono {s₁ : Shared} {I C D : Addr} {oI oC oD : Obj} {r r' : Value → List (Addr × Obj) → Prop} (k : ∀ y l, r y l → r' y l) {y : Value} {s₂ : Shared} (h : CompEnd h₀ L m s₁ I oI C oC D oD S r y s₂) : CompEnd h₀ L m s₁ I oI C oC D oD S r' y s₂ :=
  let ⟨h', tk, l, e, a, b, c, d, q⟩ := h; ⟨h', tk, l, e, a, b, c, d, k _ _ q⟩
/-- a comprehension with a test, by an invariant of its turns -/
theorem compT_ind (Inv : Nat → List Value → List (Addr × Obj) → Prop) {n : Nat}
    (step : ∀ i ys news v I oI C oC D m₂ h tk (E' : Value → Shared → Prop), i < n → Inv i ys news → P i v → NsObj oC m₂ → m₂ x = some v → Fr h₀ L h m → News h₀ L h ((I, oI) :: (C, oC) :: (D, lst ys) :: news) → Off3 I C D news → ((@Ne Nat I C) ∧ (@Ne Nat I D) ∧ (@Ne Nat C D)) →
      wpAny (model prog w) A (isTrue ct (compEnvC scope cl C env) (eval ct (compEnvC scope cl C env))) (fun ok s' => if ok = true then
        wpAny (model prog w) A (eval elt (compEnvC scope cl C env)) (CompEnd h₀ L m { s with heap := h, toks := tk } I oI C oC D (lst ys) S (fun y news' => Inv (i + 1) (ys ++ [y]) news')) E' s'
        else CompEnd h₀ L m { s with heap := h, toks := tk } I oI C oC D (lst ys) S (fun _ news' => Inv (i + 1) ys news') Value.none s') E' { s with heap := h, toks := tk })
    (fin : ∀ ys news, Inv n ys news → Fin ys news) {ys : List Value} {news : List (Addr × Obj)} (h0 : Inv 0 ys news) : CompRestT prog w A h₀ L m env ct elt x scope cl s S P Fin n 0 ys news := by
  have key : ∀ k i ys news, i + k = n → Inv i ys news → CompRestT prog w A h₀ L m env ct elt x scope cl s S P Fin k i ys news := by
    intro k
    induction k with
    | zero => intro i ys news hi hI; exact fin ys news (by rw [← hi]; exact hI)
    | succ k ih =>
      intro i ys news hi hI v I oI C oC D m₂ h tk E' a1 a2 a3 a4 a5 a6 a7
      refine wpAny_mono (step i ys news v I oI C oC D m₂ h tk E' (by (first | lia | omega)) hI a1 a2 a3 a4 a5 a6 a7) (fun ok s' q => ?_) fun _ _ q => q
      cases ok with
      | true =>
        simp only [if_true] at q ⊢
        exact wpAny_mono q (fun y s'' z => compEnd_mono (fun y l r => ih _ _ _ (by (first | lia | omega)) r) z) fun _ _ z => z
      | false =>
        simp only [Bool.false_eq_true, if_false] at q ⊢
        exact compEnd_mono (fun y l r => ih _ _ _ (by (first | lia | omega)) r) q
  exact key n 0 ys news (Nat.zero_add n) h0
/-- a comprehension without a test -/
theorem compU_ind (Inv : Nat → List Value → List (Addr × Obj) → Prop) {n : Nat}
    (step : ∀ i ys news v I oI C oC D m₂ h tk (E' : Value → Shared → Prop), i < n → Inv i ys news → P i v → NsObj oC m₂ → m₂ x = some v → Fr h₀ L h m → News h₀ L h ((I, oI) :: (C, oC) :: (D, lst ys) :: news) → Off3 I C D news → ((@Ne Nat I C) ∧ (@Ne Nat I D) ∧ (@Ne Nat C D)) →
      wpAny (model prog w) A (eval elt (compEnvC scope cl C env)) (CompEnd h₀ L m { s with heap := h, toks := tk } I oI C oC D (lst ys) S (fun y news' => Inv (i + 1) (ys ++ [y]) news')) E' { s with heap := h, toks := tk })
    (fin : ∀ ys news, Inv n ys news → Fin ys news) {ys : List Value} {news : List (Addr × Obj)} (h0 : Inv 0 ys news) : CompRest prog w A h₀ L m env elt x scope cl s S P Fin n 0 ys news := by
  have key : ∀ k i ys news, i + k = n → Inv i ys news → CompRest prog w A h₀ L m env elt x scope cl s S P Fin k i ys news := by
    intro k
    induction k with
    | zero => intro i ys news hi hI; exact fin ys news (by rw [← hi]; exact hI)
    | succ k ih =>
      intro i ys news hi hI v I oI C oC D m₂ h tk E' a1 a2 a3 a4 a5 a6 a7
      exact wpAny_mono (step i ys news v I oI C oC D m₂ h tk E' (by (first | lia | omega)) hI a1 a2 a3 a4 a5 a6 a7) (fun y s'' z => compEnd_mono (fun y l r => ih _ _ _ (by (first | lia | omega)) r) z) fun _ _ z => z
  exact key n 0 ys news (Nat.zero_add n) h0
end
theorem range_size (n : Nat) : Builtin.Range.rangeSize 0 (n : Int) 1 = ((n : Nat) : Int) := by
  unfold Builtin.Range.rangeSize
  split <;> (first | lia | omega)
end Mine
end
section
open PySem PySem.W PySem.Calls PyProof.Rows PyProof.Rows.LCg PyProof.Rows.LCt
set_option Elab.async false
set_option maxRecDepth 100000
set_option maxHeartbeats 2000000
namespace Mine
section
variable {prog : Program} {w : World} {A : Around} {s : Shared} {h₀ : Heap} {L : Addr} {m : Str → Option Value} {env : Env} {x : Str} {px pos : Pos} {body : List Stmt} {news : List (Addr × Obj)}
/-- how a turn of a for statement ends -/
inductive ForBack (h₀ : Heap) (L : Addr) (g : Array GenState) (d : Drawn) (os : OsState) (I : Addr) (oI : Obj) (Inv : (Str → Option Value) → List (Addr × Obj) → Prop) (f : Flow) (s₃ : Shared) : Prop
  | mk : f = .next → ∀ (h' : Heap) (tk' : Nat) (m' : Str → Option Value) (news' : List (Addr × Obj)), s₃ = ⟨h', g, d, tk', os⟩ → Fr h₀ L h' m' → News h₀ L h' ((I, oI) :: news') → (∀ p ∈ news', (@Ne Nat p.1 I)) → Inv m' news' → ForBack h₀ L g d os I oI Inv f s₃
/-- a for statement with k turns to go -/
inductive ForAt (h₀ : Heap) (L : Addr) (s : Shared) (I : Addr) (n : Nat) (St : Nat → Heap → Prop) (Inv : Nat → (Str → Option Value) → List (Addr × Obj) → Prop) (k : Nat) (s' : Shared) : Prop
  | mk : ∀ (i : Nat) (h : Heap) (tk : Nat) (m : Str → Option Value) (news : List (Addr × Obj)), s' = { s with heap := h, toks := tk } → i ≤ n → k = n - i → St i h → Fr h₀ L h m → News h₀ L h news → (∀ p ∈ news, (@Ne Nat p.1 I)) → Inv i m news → ForAt h₀ L s I n St Inv k s'
/-- a for statement over an iterator at hand, by an invariant of its turns -/
theorem for_walks {I : Addr} {oI0 : Obj} {fp : List Addr} {n i0 : Nat} {P : Nat → Value → Prop} {St : Nat → Heap → Prop} (W : Walks prog w A I fp [I] n P St) (Inv : Nat → (Str → Option Value) → List (Addr × Obj) → Prop) {Q : Flow → Shared → Prop} {E : Value → Shared → Prop}
    (F : Fr h₀ L s.heap m) (N : News h₀ L s.heap ((I, oI0) :: news)) (off : ∀ p ∈ news, (@Ne Nat p.1 I)) (st : St i0 s.heap) (hi0 : i0 ≤ n) (h0 : Inv i0 m news)
    (stI : ∀ i h, St i h → ∃ o, h.get? I = some o)
    (stK : ∀ i i' h h' o m news, St i h → h.get? I = some o → h'.get? I = some o → Inv i' m news → Fr h₀ L h' m → News h₀ L h' news → St i h')
    (step : ∀ i m news v oI h tk, i < n → P i v → Inv i m news → Fr h₀ L h m → News h₀ L h ((I, oI) :: news) → (∀ p ∈ news, (@Ne Nat p.1 I)) → (@Ne Nat I L) →
      wpAny (model prog w) A (assign (.Name x px) env v) (fun _ s₂ => wpAny (model prog w) A (execs body env) (fun f s₃ => ForBack h₀ L s.gens s.drawn s.os I oI (Inv (i + 1)) f s₃)
        (fun _ _ => False) s₂) (fun _ _ => False) { s with heap := h, toks := tk })
    (fin : ∀ m news h tk, Inv n m news → Fr h₀ L h m → News h₀ L h news → Q .next { s with heap := h, toks := tk }) :
    codeAny (model prog w) A (.forLoop (.Name x px) (.ref I) body [] env) (fun r s' => match r with | .ok f => Q f s' | .error e => cameBackBy (model prog w) A env E e s') s := by
  have hI0 := N (I, oI0) (.head _)
  have hIL : (@Ne Nat I L) := hI0.2.1
  have hIn : h₀.get? I = none := hI0.2.2
  refine codeAny_forLoop (ForAt h₀ L s I n St Inv) ?turn (n - i0)
    ⟨i0, _, _, m, news, rfl, hi0, rfl, st, F, fun p hp => N p (.tail _ hp), off, h0⟩
  rintro k s' ⟨i, h, tk, m', news', rfl, hi, rfl, st, F', N', off, hInv⟩
  by_cases hlt2 : i < n
  · refine W.item i _ _ _ hlt2 st fun v h₂ tk₂ hv st₂ hk₂ => ?_
    obtain ⟨oI, eI⟩ := stI _ _ st₂
    have F₂ := fr_but F' hk₂ (Ne.symm hIL) hIn
    have N₂ : News h₀ L h₂ ((I, oI) :: news') := fun p hp => by
      rcases List.mem_cons.mp hp with rfl | hp
      · exact ⟨eI, hIL, hIn⟩
      · exact news_but N' hk₂ off p hp
    refine wpAny_mono (step i m' news' v oI h₂ tk₂ hlt2 hv hInv F₂ N₂ off hIL) (fun _ s₃ z => ?_) fun _ _ z => z.elim
    refine wpAny_mono z (fun f s₄ z => ?_) fun _ _ z => z.elim
    obtain ⟨rfl, h₄, tk₄, m₄, news₄, rfl, F₄, N₄, off₄, hI₄⟩ := z
    have N₅ : News h₀ L h₄ news₄ := fun p hp => N₄ p (.tail _ hp)
    exact ⟨n - (i + 1), by omega, i + 1, h₄, tk₄, m₄, news₄, rfl, hlt2, rfl, stK _ _ _ _ _ _ _ st₂ eI (N₄ (I, oI) (.head _)).1 hI₄ F₄ N₅, F₄, N₅, off₄, hI₄⟩
  · obtain rfl : i = n := Nat.le_antisymm hi (Nat.not_lt.mp hlt2)
    refine W.done _ _ _ st fun h₂ tk₂ hk₂ => ?_
    exact wpAny_execs_nil (fin m' news' h₂ tk₂ hInv (fr_but F' hk₂ (Ne.symm hIL) hIn) (news_but N' hk₂ off))
/-- a for statement over a list, by an invariant of its turns -/
theorem for_ind (Inv : Nat → (Str → Option Value) → List (Addr × Obj) → Prop) {ax : Addr} {its : Array Value} {Q : Flow → Shared → Prop} {E : Value → Shared → Prop}
    (hh : A.handled = none) (F : Fr h₀ L s.heap m) (N : News h₀ L s.heap news) (S : ∀ i m news, Inv i m news → SrcAt h₀ ax its news) (h0 : Inv 0 m news)
    (step : ∀ i m news v I oI h tk, i < its.size → its[i]? = some v → Inv i m news → Fr h₀ L h m → News h₀ L h ((I, oI) :: news) → (∀ p ∈ news, (@Ne Nat p.1 I)) → (@Ne Nat I L) →
      wpAny (model prog w) A (assign (.Name x px) env v) (fun _ s₂ => wpAny (model prog w) A (execs body env) (fun f s₃ => ForBack h₀ L s.gens s.drawn s.os I oI (Inv (i + 1)) f s₃)
        (fun _ _ => False) s₂) (fun _ _ => False) { s with heap := h, toks := tk })
    (fin : ∀ m news h tk, Inv its.size m news → Fr h₀ L h m → News h₀ L h news → Q .next { s with heap := h, toks := tk }) :
    wpAny (model prog w) A (pyIter (.ref ax)) (fun it s₂ => codeAny (model prog w) A (.forLoop (.Name x px) it body [] env) (fun r s' => match r with | .ok f => Q f s' | .error e => cameBackBy (model prog w) A env E e s') s₂) E s := by
  have hl := (S 0 m news h0).list F.keep N
  have hlt : ax < s.heap.objs.size := by obtain ⟨_, e, _⟩ := hl; exact Heap.lt_size e
  refine wpAny_pyIter_list hl ?_
  have up : ∀ b o, s.heap.get? b = some o → (s.heap.push { cls := .type "list_iterator", data := .fields #[.ref ax, .int 0 0] }).get? b = some o := fun b o e => Heap.get?_push_of_some _ e
  generalize hI : s.heap.objs.size = I
  have hIn : h₀.get? I = none := by
    cases q : h₀.get? I with
    | none => rfl
    | some o => exact absurd (Heap.lt_size (F.keep _ _ q)) (by rw [hI]; exact Nat.lt_irrefl _)
  have hIL : (@Ne Nat I L) := hI ▸ Nat.ne_of_gt F.ns.lt
  have W : Walks prog w A I [I, ax] [I] its.size (fun i v => its[i]? = some v) (fun i h => h.IsListIter I ax i ∧ h.IsList ax its) := Walks.list hh I ax (by rw [← hI]; exact Nat.ne_of_lt hlt) its
  refine for_walks (oI0 := { cls := .type "list_iterator", data := .fields #[.ref ax, .int 0 0] }) W Inv (F.keeps up) (fun p hp => ?_) (fun p hp => hI ▸ Nat.ne_of_lt (Heap.lt_size (N p hp).1)) ⟨⟨_, by rw [← hI]; exact Heap.get?_push_size _ rfl, rfl, rfl⟩, hl.push _⟩ (Nat.zero_le _) h0 (fun i h st => let ⟨⟨o, e, _⟩, _⟩ := st; ⟨o, e⟩) (fun i i' h h' o m news st e e' hInv F' N' => ?_)
    (fun i m news v oI h tk hi hv hInv F' N' off hIL' => step i m news v I oI h tk hi hv hInv F' N' off hIL') fin
  · rcases List.mem_cons.mp hp with rfl | hp
    · exact ⟨by rw [← hI]; exact Heap.get?_push_size _ rfl, hIL, hIn⟩
    · exact N.grown up p hp
  · obtain ⟨⟨o2, e2, r⟩, -⟩ := st
    rw [e] at e2; cases e2
    exact ⟨⟨o, e', r⟩, (S _ _ _ hInv).list F'.keep N'⟩
end
end Mine
end
section
open PySem PySem.W PySem.Calls PyProof.Rows
set_option Elab.async false
set_option maxRecDepth 100000
set_option maxHeartbeats 2000000
namespace Mine
noncomputable abbrev cellO (v : Value) : Obj := { cls := .type "cell", data := .cell (some v) }
theorem isList_at {h : Heap} {r : Addr} {a : Array Value} {e : Nat} (x : h.get? r = some (listOf a e)) : h.IsList r a := ⟨_, x, rfl, e, rfl⟩
theorem fr_none {h₀ h : Heap} {L r : Addr} {m : Str → Option Value} (F : Fr h₀ L h m) (hn : h.get? r = none) : r ≠ L ∧ h₀.get? r = none := by
  refine ⟨fun e => ?_, ?_⟩
  · obtain ⟨o, _, _, e2, _⟩ := F.ns
    rw [e, e2] at hn; cases hn
  · cases q : h₀.get? r with
    | none => rfl
    | some o => rw [F.keep _ _ q] at hn; cases hn
theorem news_cons {h₀ h' : Heap} {L r : Addr} {o : Obj} {news : List (Addr × Obj)} (N : News h₀ L h' news) (hr : h'.get? r = some o) (hn : r ≠ L ∧ h₀.get? r = none) : News h₀ L h' ((r, o) :: news) := by
  intro q hq
  rcases List.mem_cons.mp hq with rfl | hq
  · exact ⟨hr, hn⟩
  · exact N q hq
theorem news_ne {h₀ h : Heap} {L r : Addr} {news : List (Addr × Obj)} (N : News h₀ L h news) (hn : h.get? r = none) : ∀ p ∈ news, p.1 ≠ r := fun p hp e => by
  have := (N p hp).1
  rw [e, hn] at this; cases this
section
variable {M : Model} {A : Around} {E : Value → Shared → Prop} {s : Shared} {h₀ : Heap} {L a c : Addr} {m : Str → Option Value} {cn x : Str} {cs : Scope} {ccd v : Value} {cl : List (Str × Addr)} {pos : Pos} {Q : Value → Shared → Prop}
theorem nameX_FBd {oc : Obj} (F : Fr h₀ L s.heap m) (hc : cl.lookup x = some c) (hv : h₀.get? c = some oc) (hd : oc.data = .cell (some v)) (h : Q v s)
    (hk : cs.kind = .function := by rfl) (hx : (envX cn cs L a ccd cl).kindOf x = some .free := by rfl) (hb : (x == ("__debug__" : Str)) = false := by decide) (hn : (x == ("__classdict__" : Str)) = false := by decide) :
    wpAny M A (eval (.Name x pos) (envX cn cs L a ccd cl)) Q E s := wpAny_Name (wpAny_loadName_free hk hx hc ⟨_, F.keep _ _ hv, hd⟩ h hn) hb
theorem nameX_FB (F : Fr h₀ L s.heap m) (hc : cl.lookup x = some c) (hv : h₀.get? c = some (cellO v)) (h : Q v s)
    (hk : cs.kind = .function := by rfl) (hx : (envX cn cs L a ccd cl).kindOf x = some .free := by rfl) (hb : (x == ("__debug__" : Str)) = false := by decide) (hn : (x == ("__classdict__" : Str)) = false := by decide) :
    wpAny M A (eval (.Name x pos) (envX cn cs L a ccd cl)) Q E s := wpAny_Name (wpAny_loadName_free hk hx hc ⟨_, F.keep _ _ hv, rfl⟩ h hn) hb
end
section
variable {prog : Program} {w : World} {A : Around} {E : Value → Shared → Prop} {s : Shared} {value slice : Expr} {l : Addr} {t : Tok} {Q : Value → Shared → Prop}
theorem it_ref {g : Nat → Addr} {n k : Nat} (hl : s.heap.IsList l ((List.range n).map fun j => Value.ref (g j)).toArray) (hk : k < n) (hn : n ≤ 20) (h : Q (.ref (g k)) s)
    (hs : subscripted slice false (.ref l) (.int (k : Int) t) = operate [.ref l, .int (k : Int) t] (getItem (.ref l) (.int (k : Int) t)) := by with_unfolding_all rfl) :
    wpAny (model prog w) A (subscriptTail value slice (.ref l) (.int (k : Int) t)) Q E s :=
  tail_any hl.typeIs PySem.F.slot_list_getitem.lookup (wpAny_getItem_list hl (by (first | lia | omega)) (by (first | lia | omega)) (x := .ref (g k)) (by simp [hk]) h) hs
theorem it_int {vs : List Value} {ns : List Int} {k : Nat} (hl : s.heap.IsList l vs.toArray) (hi : IntsAre vs ns) (hk : k < ns.length) (hn : ns.length ≤ 1000) (h : ∀ t', Q (.int (ns.getD k 0) t') s)
    (hs : subscripted slice false (.ref l) (.int (k : Int) t) = operate [.ref l, .int (k : Int) t] (getItem (.ref l) (.int (k : Int) t)) := by with_unfolding_all rfl) :
    wpAny (model prog w) A (subscriptTail value slice (.ref l) (.int (k : Int) t)) Q E s := by
  obtain ⟨t', e⟩ := hi.get k (ns.getD k 0) (by rw [List.getD_eq_getElem?_getD, List.getElem?_eq_getElem hk]; rfl)
  exact tail_any hl.typeIs PySem.F.slot_list_getitem.lookup (wpAny_getItem_list hl (by (first | lia | omega)) (by (first | lia | omega)) (x := .int (ns.getD k 0) t') (by simpa using e) (h t')) hs
theorem it_wrap {vs : List Value} {ns : List Int} {k : Int} {i : Nat} (hl : s.heap.IsList l vs.toArray) (hi : IntsAre vs ns) (hk : (0 ≤ k ∧ k = (i : Int)) ∨ (k < 0 ∧ k + ns.length = (i : Int))) (hlt : i < ns.length) (hn : ns.length ≤ 1000) (h : ∀ t', Q (.int (ns.getD i 0) t') s)
    (hs : subscripted slice false (.ref l) (.int k t) = operate [.ref l, .int k t] (getItem (.ref l) (.int k t)) := by with_unfolding_all rfl) :
    wpAny (model prog w) A (subscriptTail value slice (.ref l) (.int k t)) Q E s := by
  have e := hi.length
  obtain ⟨t', et⟩ := hi.get i (ns.getD i 0) (by rw [List.getD_eq_getElem?_getD, List.getElem?_eq_getElem hlt]; rfl)
  rcases hk with ⟨h0, rfl⟩ | ⟨h0, h1⟩
  · exact it_int hl hi hlt hn h hs
  · refine tail_any hl.typeIs PySem.F.slot_list_getitem.lookup (wpAny_getItem_list_neg hl h0 (by rw [List.size_toArray]; (first | lia | omega)) (by (first | lia | omega)) (x := .int (ns.getD i 0) t') ?_ (h t')) hs
    rw [List.size_toArray, e, h1, Int.toNat_natCast]
    simpa using et
theorem it_wrapR {vs : List Value} {k : Int} {i : Nat} {a : Addr} (hl : s.heap.IsList l vs.toArray) (ha : vs[i]? = some (.ref a)) (hk : (0 ≤ k ∧ k = (i : Int)) ∨ (k < 0 ∧ k + vs.length = (i : Int))) (hlt : i < vs.length) (hn : vs.length ≤ 1000) (h : Q (.ref a) s)
    (hs : subscripted slice false (.ref l) (.int k t) = operate [.ref l, .int k t] (getItem (.ref l) (.int k t)) := by with_unfolding_all rfl) :
    wpAny (model prog w) A (subscriptTail value slice (.ref l) (.int k t)) Q E s := by
  rcases hk with ⟨h0, rfl⟩ | ⟨h0, h1⟩
  · exact tail_any hl.typeIs PySem.F.slot_list_getitem.lookup (wpAny_getItem_list hl (by (first | lia | omega)) (by (first | lia | omega)) (x := .ref a) (by simpa using ha) h) hs
  · refine tail_any hl.typeIs PySem.F.slot_list_getitem.lookup (wpAny_getItem_list_neg hl h0 (by rw [List.size_toArray]; (first | lia | omega)) (by (first | lia | omega)) (x := .ref a) ?_ h) hs
    rw [List.size_toArray, h1, Int.toNat_natCast]
    simpa using ha
theorem len_ints {vs : List Value} {ns : List Int} (hl : s.heap.IsList l vs.toArray) (hi : IntsAre vs ns) (hn : ns.length ≤ 1000) (h : ∀ t tk, Q (.int (ns.length : Int) t) { s with toks := tk }) : wpAny (model prog w) A (call (.builtin "len") [.ref l]) Q E s := by
  have e := hi.length
  refine call_len_list hl (by rw [List.size_toArray]; (first | lia | omega)) ?_
  have := h (s.toks + 1) (s.toks + 1 + 1)
  rw [List.size_toArray, e]
  exact this
theorem len_nat {vs : List Value} {ns : List Int} {n : Nat} (hl : s.heap.IsList l vs.toArray) (hi : IntsAre vs ns) (he : ns.length = n) (hn : n ≤ 1000) (h : ∀ t tk, Q (.int (n : Int) t) { s with toks := tk }) : wpAny (model prog w) A (call (.builtin "len") [.ref l]) Q E s := by
  subst he
  exact len_ints hl hi hn h
theorem it_map {f : Int → Option Value} {k : Int} {v : Value} {h₀ : Heap} {L : Addr} {m : Str → Option Value} (F : Fr h₀ L s.heap m) (hm : h₀.IntMap l f) (hk : f k = some v) (h : ∀ tk, Q v { s with toks := tk })
    (hs : subscripted slice false (.ref l) (.int k t) = operate [.ref l, .int k t] (getItem (.ref l) (.int k t)) := by with_unfolding_all rfl) :
    wpAny (model prog w) A (subscriptTail value slice (.ref l) (.int k t)) Q E s := by
  have hm' : s.heap.IntMap l f := let ⟨o, es, ep, ho, r⟩ := hm; ⟨o, es, ep, F.keep _ _ ho, r⟩
  exact tail_any hm'.typeIs PySem.F.slot_dict_getitem.lookup (wpAny_getItem_intMap hm' hk (h _)) hs
theorem meth_base {name : Str} {id : String} {pl : Sem Bool} {Q : Value × List Value → Shared → Prop} {its : Array Value} {e : Nat} {h₀ : Heap} {L : Addr} {m : Str → Option Value} (F : Fr h₀ L s.heap m) (ho : h₀.get? l = some (listOf its e)) (slot : Slot "list" name id) (hty : typeOf (.builtin id) = pure (.type "method_descriptor"))
    (h : Q (.builtin id, [.ref l]) s) : wpAny (model prog w) A (getMethod (.ref l) name pl) Q E s :=
  getMethod_builtin ⟨_, F.keep _ _ ho, rfl⟩ PySem.F.plainAttrs_list slot hty (fun a e => by cases e; exact ⟨_, F.keep _ _ ho, rfl⟩) h
theorem len_list' {vs : List Value} (hl : s.heap.IsList l vs.toArray) (hn : vs.length ≤ 1000) (h : ∀ t tk, Q (.int (vs.length : Int) t) { s with toks := tk }) : wpAny (model prog w) A (call (.builtin "len") [.ref l]) Q E s := by
  refine call_len_list hl (by rw [List.size_toArray]; (first | lia | omega)) ?_
  have := h (s.toks + 1) (s.toks + 1 + 1)
  rw [List.size_toArray]
  exact this
end
end Mine
end
section
open PySem PySem.W PySem.Calls PyProof.Rows PyProof.Rows.LCg PyProof.Rows.LCt
set_option Elab.async false
set_option maxRecDepth 100000
set_option maxHeartbeats 2000000
namespace Mine
section
variable {prog : Program} {w : World} {A : Around} {R : Result → Shared → Prop} {s : Shared}
/-- enter a lambda -/
theorem enterL {f : Addr} {fo : Obj} {name qual : Str} {params : Arguments} {body : Expr} {scope : Scope} {cl : List (Str × Addr)} {pm cdv ct : Value} {args : Args} {binds : List (Str × Value)} {d u : Nat}
    (hA : Sm A d u) (hroom : d < recursionLimit) (ho : s.heap.get? f = some fo) (hdat : fo.data = .func (kla_fn name qual params body scope cl pm cdv ct)) (hlim : s.heap.NoLimit) (hcd : s.heap.CodeRec cdv qual)
    (hbind : BindsTo s (kla_fn name qual params body scope cl pm cdv ct) args binds) (hcell : ∀ x ∈ scope.names, x.2 ≠ .cell) (hloc : ∀ y ∈ binds, scope.names.lookup y.1 = some .local)
    (h : ∀ h₁, Fr s.heap s.heap.objs.size h₁ (fun y => binds.reverse.lookup y) →
      wpAny (model prog w) (AM (d + 1) (u + 3)) (eval body (envX qual scope s.heap.objs.size f cdv cl)) (fun v s' => R (.ok (.ret v)) s') (fun _ _ => False) { s with heap := h₁, toks := s.toks + binds.length })
    (hco : scope.isCoroutine = false := by rfl) (hgen : scope.isGenerator = false := by rfl) (hk : scope.kind = .function := by rfl) : codeAny (model prog w) A (.call (.ref f) args) R s := by
  refine kla_callFunE (Nat.lt_of_le_of_lt hA.2.1 hroom) ho hdat hco hgen rfl hcd (hbind _ _ _ _ ?_)
  refine wpAny_newFunctionEnv hcell hloc (fun h₁ hns hsb => ⟨hlim.fresh _ hsb, ?_⟩) hk
  show codeAny _ _ (.expr body (envX qual scope s.heap.objs.size f cdv cl)) _ _
  have hk₁ : ∀ b o, s.heap.get? b = some o → h₁.get? b = some o := fun b o e => hsb.extBut b o (Nat.ne_of_lt (Heap.lt_size e)) (Heap.get?_push_of_some _ e)
  exact kla_codeExpr (wpAny_mono (wk (d := d + 1) (u := u + 3) ⟨hA.1, Nat.succ_le_succ hA.2.1, Nat.add_le_add_right hA.2.2 3⟩ (h h₁ ⟨hns, hk₁, Nat.le_refl _⟩)) (fun _ _ x => x) (fun _ _ x => x.elim))
end
section
variable {prog : Program} {w : World} {A : Around} {E : Value → Shared → Prop} {s : Shared} {h₀ : Heap} {L a c P : Addr} {m : Str → Option Value} {news : List (Addr × Obj)} {pr : Program} {loose : List Str} {mg mb : Str → Option Value}
  {name qual : Str} {params : Arguments} {scope : Scope} {ps : Array Value} {pos : Pos} {firstLine : Nat} {clos : List (Str × Addr)} {env : Env}
theorem tab_ext {h h' : Heap} {o' : Obj} (F : Fr h₀ L h m) (N : News h₀ L h ((P, tabObj ps) :: news)) (hne : ∀ q ∈ news, q.1 ≠ P) (hx : Heap.ExtBut P h h') (ht : h'.get? P = some o') : Fr h₀ L h' m ∧ News h₀ L h' ((P, o') :: news) := by
  have hm := N (P, tabObj ps) (.head _)
  refine ⟨⟨F.ns.extBut hx hm.2.1.symm, fun b o e => hx b o (fun q => by rw [q, hm.2.2] at e; cases e) (F.keep b o e), F.above⟩, fun q hq => ?_⟩
  rcases List.mem_cons.mp hq with rfl | hq
  · exact ⟨ht, hm.2⟩
  · have n := N q (.tail _ hq)
    exact ⟨hx _ _ (hne q hq) n.1, n.2⟩
/-- a lambda is made in a call -/
theorem lam_make {body : Expr} {Q : Value → Shared → Prop} (F : Fr h₀ L s.heap m) (N : News h₀ L s.heap ((P, tabObj ps) :: news)) (hne : ∀ q ∈ news, q.1 ≠ P) (G : Gd w pr loose mg mb h₀) (C : CodeHd h₀ c P) (hge : env.globals = mainGlobals) (hcd : env.code = .ref c) (ht : TriplesOk ps.toList) (hnf : codeAmong pos ps.toList = none)
    (hcl : closureFor scope env = pure clos)
    (h : ∀ f c' oc vs t ctv h' tk, Fr h₀ L h' m → News h₀ L h' ((P, tabObj (ps ++ #[rawInt pos.line, rawInt pos.col, .ref c'])) :: (f, kla_obj name qual params body scope clos ((mg "__name__").getD .none) c' ctv) :: (c', oc) :: news) →
      oc.data = .fields vs → vs[1]? = some (.str qual t) → (∀ q ∈ news, q.1 < c') → P < c' → c' < f → Q (.ref f) { s with heap := h', toks := tk }) :
    wpAny (model prog w) A (makeFunction name qual params (.expr body) scope env [] [] [] pos firstLine) Q E s := by
  have hm := N (P, tabObj ps) (.head _)
  have Gh := G.keeps F.keep
  refine kla_makeFunction (mg := mg) hcl hge Gh.T.g hcd (C.keeps F.keep) hm.1 ht hnf (Gh.ne_tab hm.1) (Gh.builtinsAt hm.1) fun c' ctv h' tk hx hge' hlt hrec htb => ?_
  obtain ⟨c₂, oc, vs, t, e2, hoc, hd, hv⟩ := hrec
  cases e2
  obtain ⟨F', N'⟩ := tab_ext F N hne hx htb
  have hLc : L < c' := Nat.lt_of_lt_of_le F.ns.lt hge'
  have fresh : ∀ b, L < b → h₀.get? b = none := fun b hb => Heap.get?_none_of_le (Nat.le_trans F.above (Nat.le_of_lt hb))
  refine h h'.objs.size c' oc vs t ctv _ tk (F'.push _) (fun q hq => ?_) hd hv (fun q hq => Nat.lt_of_lt_of_le (Heap.lt_size (N q (.tail _ hq)).1) hge') (Nat.lt_of_lt_of_le (Heap.lt_size hm.1) hge') hlt
  rcases List.mem_cons.mp hq with rfl | hq
  · have n := N' _ (.head _)
    exact ⟨Heap.get?_push_of_some _ n.1, n.2⟩
  rcases List.mem_cons.mp hq with rfl | hq
  · exact ⟨Heap.get?_push_size _ rfl, Nat.ne_of_gt (Nat.lt_trans hLc hlt), fresh _ (Nat.lt_trans hLc hlt)⟩
  rcases List.mem_cons.mp hq with rfl | hq
  · exact ⟨Heap.get?_push_of_some _ hoc, Nat.ne_of_gt hLc, fresh _ hLc⟩
  · have n := N' q (.tail _ hq)
    exact ⟨Heap.get?_push_of_some _ n.1, n.2⟩
/-- a lambda whose code is in the table -/
theorem lam_hit {body : Expr} {c' : Addr} {Q : Value → Shared → Prop} (F : Fr h₀ L s.heap m) (N : News h₀ L s.heap news) (hP : (P, tabObj ps) ∈ news) (G : Gd w pr loose mg mb h₀) (C : CodeHd h₀ c P) (hge : env.globals = mainGlobals) (hcd : env.code = .ref c) (ht : TriplesOk ps.toList) (hf : codeAmong pos ps.toList = some (.ref c'))
    (hcl : closureFor scope env = pure clos)
    (h : ∀ f ctv h' tk, Fr h₀ L h' m → News h₀ L h' ((f, kla_obj name qual params body scope clos ((mg "__name__").getD .none) c' ctv) :: news) → (∀ q ∈ news, q.1 < f) → Q (.ref f) { s with heap := h', toks := tk }) :
    wpAny (model prog w) A (makeFunction name qual params (.expr body) scope env [] [] [] pos firstLine) Q E s := by
  have hm := N (P, tabObj ps) hP
  have Gh := G.keeps F.keep
  refine kla_makeFunctionHit (mg := mg) hcl hge Gh.T.g hcd (C.keeps F.keep) hm.1 ht hf (Gh.builtinsAt hm.1) fun ctv h' tk hk hsz => ?_
  have hLs : L < h'.objs.size := Nat.lt_of_lt_of_le F.ns.lt hsz
  have fresh : ∀ b, L < b → h₀.get? b = none := fun b hb => Heap.get?_none_of_le (Nat.le_trans F.above (Nat.le_of_lt hb))
  refine h h'.objs.size ctv _ tk ⟨(F.ns.keeps hk).push _, fun b o e => Heap.get?_push_of_some _ (hk b o (F.keep b o e)), F.above⟩ (fun q hq => ?_) (fun q hq => Nat.lt_of_lt_of_le (Heap.lt_size (N q hq).1) hsz)
  rcases List.mem_cons.mp hq with rfl | hq
  · exact ⟨Heap.get?_push_size _ rfl, Nat.ne_of_gt hLs, fresh _ hLs⟩
  · exact ⟨Heap.get?_push_of_some _ (hk _ _ (N q hq).1), (N q hq).2⟩
/-- a def is made in a call -/
theorem def_make {body : List Stmt} {Q : Value → Shared → Prop} (F : Fr h₀ L s.heap m) (N : News h₀ L s.heap ((P, tabObj ps) :: news)) (hne : ∀ q ∈ news, q.1 ≠ P) (G : Gd w pr loose mg mb h₀) (C : CodeHd h₀ c P) (hge : env.globals = mainGlobals) (hcd : env.code = .ref c) (ht : TriplesOk ps.toList) (hnf : codeAmong pos ps.toList = none)
    (hcl : closureFor scope env = pure clos)
    (h : ∀ f c' oc vs t ctv doc h' tk, Fr h₀ L h' m → News h₀ L h' ((P, tabObj (ps ++ #[rawInt pos.line, rawInt pos.col, .ref c'])) :: (f, fnMade name qual params body scope clos doc ((mg "__name__").getD .none) c' ctv) :: (c', oc) :: news) →
      oc.data = .fields vs → vs[1]? = some (.str qual t) → (∀ q ∈ news, q.1 < c') → P < c' → c' < f → Q (.ref f) { s with heap := h', toks := tk }) :
    wpAny (model prog w) A (makeFunction name qual params (.stmts body) scope env [] [] [] pos firstLine) Q E s := by
  have hm := N (P, tabObj ps) (.head _)
  have Gh := G.keeps F.keep
  refine makeFunction_K (mg := mg) hcl hge Gh.T.g hcd (C.keeps F.keep) hm.1 ht hnf (Gh.ne_tab hm.1) (Gh.builtinsAt hm.1) fun c' ctv doc h' tk hx hge' hlt hrec htb => ?_
  obtain ⟨c₂, oc, vs, t, e2, hoc, hd, hv⟩ := hrec
  cases e2
  obtain ⟨F', N'⟩ := tab_ext F N hne hx htb
  have hLc : L < c' := Nat.lt_of_lt_of_le F.ns.lt hge'
  have fresh : ∀ b, L < b → h₀.get? b = none := fun b hb => Heap.get?_none_of_le (Nat.le_trans F.above (Nat.le_of_lt hb))
  refine h h'.objs.size c' oc vs t ctv doc _ tk (F'.push _) (fun q hq => ?_) hd hv (fun q hq => Nat.lt_of_lt_of_le (Heap.lt_size (N q (.tail _ hq)).1) hge') (Nat.lt_of_lt_of_le (Heap.lt_size hm.1) hge') hlt
  rcases List.mem_cons.mp hq with rfl | hq
  · have n := N' _ (.head _)
    exact ⟨Heap.get?_push_of_some _ n.1, n.2⟩
  rcases List.mem_cons.mp hq with rfl | hq
  · exact ⟨Heap.get?_push_size _ rfl, Nat.ne_of_gt (Nat.lt_trans hLc hlt), fresh _ (Nat.lt_trans hLc hlt)⟩
  rcases List.mem_cons.mp hq with rfl | hq
  · exact ⟨Heap.get?_push_of_some _ hoc, Nat.ne_of_gt hLc, fresh _ hLc⟩
  · have n := N' q (.tail _ hq)
    exact ⟨Heap.get?_push_of_some _ n.1, n.2⟩
/-- a def whose code is in the table -/
theorem def_hit {body : List Stmt} {c' : Addr} {Q : Value → Shared → Prop} (F : Fr h₀ L s.heap m) (N : News h₀ L s.heap news) (hP : (P, tabObj ps) ∈ news) (G : Gd w pr loose mg mb h₀) (C : CodeHd h₀ c P) (hge : env.globals = mainGlobals) (hcd : env.code = .ref c) (ht : TriplesOk ps.toList) (hf : codeAmong pos ps.toList = some (.ref c'))
    (hcl : closureFor scope env = pure clos)
    (h : ∀ f ctv doc h' tk, Fr h₀ L h' m → News h₀ L h' ((f, fnMade name qual params body scope clos doc ((mg "__name__").getD .none) c' ctv) :: news) → (∀ q ∈ news, q.1 < f) → Q (.ref f) { s with heap := h', toks := tk }) :
    wpAny (model prog w) A (makeFunction name qual params (.stmts body) scope env [] [] [] pos firstLine) Q E s := by
  have hm := N (P, tabObj ps) hP
  have Gh := G.keeps F.keep
  refine makeFunction_hit (mg := mg) hcl hge Gh.T.g hcd (C.keeps F.keep) hm.1 ht hf (Gh.builtinsAt hm.1) fun ctv doc h' tk hk hsz => ?_
  have hLs : L < h'.objs.size := Nat.lt_of_lt_of_le F.ns.lt hsz
  have fresh : ∀ b, L < b → h₀.get? b = none := fun b hb => Heap.get?_none_of_le (Nat.le_trans F.above (Nat.le_of_lt hb))
  refine h h'.objs.size ctv doc _ tk ⟨(F.ns.keeps hk).push _, fun b o e => Heap.get?_push_of_some _ (hk b o (F.keep b o e)), F.above⟩ (fun q hq => ?_) (fun q hq => Nat.lt_of_lt_of_le (Heap.lt_size (N q hq).1) hsz)
  rcases List.mem_cons.mp hq with rfl | hq
  · exact ⟨Heap.get?_push_size _ rfl, Nat.ne_of_gt hLs, fresh _ hLs⟩
  · exact ⟨Heap.get?_push_of_some _ (hk _ _ (N q hq).1), (N q hq).2⟩
end
/-- a list's slice, the state laid open -/
theorem slice_at {prog : Program} {w : World} {A : Around} {E : Value → Shared → Prop} {h₀ h : Heap} {L : Addr} {m : Str → Option Value} {news : List (Addr × Obj)} {gs : Array GenState} {dr : Drawn} {tk : Tok} {os : OsState} {value slice : Expr} {l : Addr} {items : Array Value} {vl vu : Value} {lo hi : Option Int} {Q : Value → Shared → Prop}
    (F : Fr h₀ L h m) (N : News h₀ L h news) (hl : h.IsList l items) (pl : IsPart vl lo) (pu : IsPart vu hi)
    (hq : ∀ D h', Fr h₀ L h' m → News h₀ L h' ((D, listOf (slicePick items lo hi none) 0) :: news) → (∀ p ∈ news, p.1 < D) → (∀ b o, h.get? b = some o → h'.get? b = some o) → h.get? D = none → Q (.ref D) ⟨h', gs, dr, tk, os⟩)
    (hsz : items.size ≤ 1000)
    (hs : subscripted slice false (.ref l) (.ref h.objs.size) = operate [.ref h.objs.size, .ref l] (getItem (.ref l) (.ref h.objs.size)) := by with_unfolding_all rfl)
    (ht : ∀ r, letTemporaryGo value (.ref l) r = pure () := by intro _; with_unfolding_all rfl) :
    wpAny (model prog w) A (subscriptTail value slice (.ref l) (.ref h.objs.size)) Q E ⟨h.push { cls := .type "slice", data := .fields #[vl, vu, .none] }, gs, dr, tk, os⟩ := by
  refine subscriptTail_ops (Heap.IsList.typeIs (s := ⟨h.push { cls := .type "slice", data := .fields #[vl, vu, .none] }, gs, dr, tk, os⟩) (hl.push _)) list_getitem_lookup
    (wpAny_getItem_list_slice (hl.push _) (Heap.IsSliceOf.new ..) pl pu .none (by simp) ?_ (by rw [sizeLine_eq]; omega)) hs ht
  have N1 := News.push (F.push { cls := .type "slice", data := .fields #[vl, vu, .none] }) (N.grown fun _ _ e => Heap.get?_push_of_some _ e) { cls := .type "list", data := .seq (slicePick items lo hi none) }
  exact hq _ _ ((F.push _).push _) N1 (fun p hp => Nat.lt_of_lt_of_le (Heap.lt_size (N p hp).1) (by rw [Heap.size_push]; exact Nat.le_succ _)) (fun b o e => Heap.get?_push_of_some _ (Heap.get?_push_of_some _ e)) (Heap.get?_none_of_le (by rw [Heap.size_push]; exact Nat.le_succ _))
/-- a store to a captured name -/
theorem store_cell {M : Model} {A : Around} {E : Value → Shared → Prop} {s : Shared} {h₀ : Heap} {L a c : Addr} {m : Str → Option Value} {cn x : Str} {cs : Scope} {ccd v : Value} {v₀ : Option Value} {cl : List (Str × Addr)} {o : Obj} {pre post : List (Addr × Obj)} {Q : Unit → Shared → Prop}
    (F : Fr h₀ L s.heap m) (N : News h₀ L s.heap (pre ++ (c, o) :: post)) (hc : cl.lookup x = some c) (h1 : ∀ p ∈ pre, p.1 ≠ c) (h2 : ∀ p ∈ post, p.1 ≠ c) (hd : o.data = .cell v₀)
    (h : ∀ h' o', Fr h₀ L h' m → News h₀ L h' (pre ++ (c, o') :: post) → o'.data = .cell (some v) → Q () { s with heap := h' })
    (hk : cs.kind = .function := by rfl) (hx : (envX cn cs L a ccd cl).kindOf x = some .cell := by rfl) : wpAny M A (storeName (envX cn cs L a ccd cl) x v) Q E s := by
  have hmem := N (c, o) (List.mem_append_right _ (.head _))
  refine wpAny_storeName_cell hk hx hc ⟨o, hmem.1, hd⟩ fun h' hv hs => ?_
  obtain ⟨o', ho', hd'⟩ := hv
  refine h h' o' ⟨F.ns.sameBut hs (Ne.symm hmem.2.1), fun b ob e => (hs.2 b (fun q => ?_)).trans (F.keep b ob e), F.above⟩ (N.setAt h1 h2 hs ho') hd'
  rw [q, hmem.2.2] at e; cases e
end Mine
end
section
open PySem PySem.W PySem.Calls PyProof.Rows
set_option Elab.async false
set_option maxRecDepth 100000
set_option maxHeartbeats 2000000
namespace Mine
/-- the way down to a node, when p tells whose child it is -/
noncomputable def wayF (p : Nat → Nat) : Nat → Nat → List Int
  | 0, k => [(k : Int)]
  | n + 1, k => if k = 0 then [0] else wayF p n (p k) ++ [(k : Int)]
noncomputable def way (p : Nat → Nat) (k : Nat) : List Int := wayF p k k
theorem wayF_enough (p : Nat → Nat) (hp : ∀ k, 0 < k → p k < k) : ∀ n m k, k ≤ n → k ≤ m → wayF p n k = wayF p m k := by
  intro n
  induction n with
  | zero =>
    intro m k hk hm
    have : k = 0 := by omega
    subst this
    cases m <;> rfl
  | succ n ih =>
    intro m k hk hm
    cases m with
    | zero =>
      have : k = 0 := by omega
      subst this; rfl
    | succ m =>
      show (if k = 0 then [0] else wayF p n (p k) ++ [(k : Int)]) = if k = 0 then [0] else wayF p m (p k) ++ [(k : Int)]
      by_cases e : k = 0
      · rw [if_pos e, if_pos e]
      · have h1 := hp k (by omega)
        rw [if_neg e, if_neg e, ih m (p k) (by omega) (by omega)]
theorem way_step (p : Nat → Nat) (hp : ∀ k, 0 < k → p k < k) (k : Nat) (hk : 0 < k) : way p k = way p (p k) ++ [(k : Int)] := by
  unfold way
  cases k with
  | zero => omega
  | succ k =>
    have h1 := hp (k + 1) hk
    show (if k + 1 = 0 then [0] else wayF p k (p (k + 1)) ++ [((k + 1 : Nat) : Int)]) = _
    rw [if_neg (by omega), wayF_enough p hp k (p (k + 1)) (p (k + 1)) (by omega) (Nat.le_refl _)]
section
variable {w : World} {A : Around} {R : Result → Shared → Prop} {s : Shared} {pr : Program} {loose : List Str} {mg mb : Str → Option Value}
theorem intMap_keeps {h h' : Heap} {a : Addr} {f : Int → Option Value} (x : h.IntMap a f) (k : ∀ b o, h.get? b = some o → h'.get? b = some o) : h'.IntMap a f :=
  let ⟨o, es, ep, ho, r⟩ := x; ⟨o, es, ep, k _ _ ho, r⟩
theorem len_down {k j x : Nat} {α : Type} {l : List α} {y : α} (h : l.length + k ≤ x) (hj : j < k) : (y :: l).length + j ≤ x := by rw [List.length_cons]; omega
/-- `_law_way`'s loop, at node n -/
inductive WayInv (s : Shared) (L l0 : Addr) (o2 : Obj) (m : Str → Option Value) (p : Nat → Nat) (x n : Nat) (s' : Shared) : Prop
  | mk : ∀ (h' : Heap) (tk : Nat) (vs : List Value) (tl : List Int) (e : Nat) (o1 : Obj) (v : Option Value), s' = { s with heap := h', toks := tk } → Fr s.heap L h' (fun y => if y = Str.ofString "way" then some (.ref l0) else m y) → IntsAre vs ((n : Int) :: tl) → way p x = way p n ++ tl → n ≤ x → tl.length + n ≤ x →
     News s.heap L h' [(l0, listOf vs.toArray e), (L + 1 + 1, o1), (L + 1, o2)] → o1.data = .cell v → WayInv s L l0 o2 m p x n s'
theorem way_spec {Td Fl : Addr} {f : Int → Option Value} {FA : Nat → Addr} {nF : Nat} {p : Nat → Nat} {x : Nat} {tx : Tok} (hA : Sm A 600 3000) (G : Gd w pr loose mg mb s.heap)
    (hT : s.heap.IntMap Td f) (hF : s.heap.IsList Fl ((List.range nF).map fun j => Value.ref (FA j)).toArray) (inj : ∀ i j, i < nF → j < nF → FA i = FA j → i = j) (hf0 : f 0 = none) (hf : ∀ k : Nat, 0 < k → k < nF → f k = some (.ref (FA (p k)))) (hp : ∀ k, 0 < k → p k < k)
    (hx : x < nF) (hn : nF ≤ 20) (hfl : ∀ j, j < nF → ∃ its, s.heap.IsList (FA j) its)
    (hR : ∀ h' tk r vs, (∀ b o, s.heap.get? b = some o → h'.get? b = some o) → IntsAre vs (way p x) → (∃ e, h'.get? r = some (listOf vs.toArray e)) → s.heap.get? r = none → R (.ok (.ret (.ref r))) { s with heap := h', toks := tk }) :
    codeAny (model PySem.Challenge.rw_ij0154_01.prog w) A (.call (.ref 70) ⟨[.ref Td, .ref Fl, .int x tx], []⟩) R s := by
  have X := G.X
  have T := G.T
  revert X; k_fill; intro X
  refine enterC (binds := [(Str.ofString "table", .ref Td), (Str.ofString "families", .ref Fl), (Str.ofString "node", .int x tx)]) hA (by decide) (X 70 _ rfl) rfl T.nolimit (codeRec_of X (by k_is)) (BindsTo.of_eq rfl) ?hkind (by decide) (fun h₁ tk cells F N Y => ?_)
  case hkind =>
    intro n y hy
    simp only [List.mem_cons, List.not_mem_nil, or_false] at hy
    rcases hy with rfl | rfl | rfl
    · exact .inl rfl
    · exact .inr ⟨rfl, rfl⟩
    · exact .inl rfl
  obtain ⟨o1, o2, rfl, e1, e2⟩ := CellsAre.two Y
  generalize hm : bindL _ _ _ = m at F
  have m1 : m (Str.ofString "table") = some (.ref Td) := by rw [← hm]; rfl
  have m3 : m (Str.ofString "node") = some (.int x tx) := by rw [← hm]; rfl
  have e1' : o1.data = .cell none := e1.trans (by kernel_rfl)
  have e2' : o2.data = .cell (some (.ref Fl)) := e2.trans (by kernel_rfl)
  clear e1 e2 Y hm
  generalize s.heap.objs.size = L at F N ⊢
  walk_at "z_go"
  rename_i l0 l1 h0 tk0 F N
  rename (L + 1 + 1 < l0 ∧ L + 1 < l0) => hl0
  refine wpAny_While (codeAny_whileLoop (WayInv s L l0 o2 m p x) ?turn x ?start)
  case start => exact .mk _ _ _ [] _ _ _ rfl F (.cons _ _ .nil) (by simp) (Nat.le_refl _) (Nat.le_of_eq (Nat.zero_add x)) N e1'
  case turn =>
    rintro k s' ⟨h', tk, vs, tl, e, o1', v1, rfl, F', I, hw, hkx, hlen, N', e1''⟩
    have hkn : k < nF := Nat.lt_of_le_of_lt hkx hx
    walk_at "z_go"
    rename Fr _ _ _ _ => F2
    have hk0 : ((k : Int) :: tl).getD (Int.toNat 0) 0 = (k : Int) := rfl
    rw [hk0]
    refine wpAny_in_intMap (intMap_keeps hT F2.keep) ?_
    rcases Nat.eq_zero_or_pos k with rfl | hkp
    · rw [show f ((0 : Nat) : Int) = none from hf0]
      simp only [Option.isSome_none]
      walk_at "z_go"
      have : way p x = ((0 : Nat) : Int) :: tl := hw
      rw [← this] at I
      exact hR _ _ _ vs F2.keep I ⟨e, (N' _ (.head _)).1⟩ (N' _ (.head _)).2.2
    · rw [hf k hkp hkn]
      simp only [Option.isSome_some]
      walk_at "z_go"
      rename Fr _ _ _ _ => F3
      rw [hk0]
      refine tail_any (intMap_keeps hT F3.keep).typeIs PySem.F.slot_dict_getitem.lookup (wpAny_getItem_intMap (intMap_keeps hT F3.keep) (hf k hkp hkn) ?_) (by with_unfolding_all rfl)
      walk_at "z_go"
      refine LCt.ListComp_T (F₀ := by assumption) (by with_unfolding_all rfl) (by decide) (by rfl) (by decide) (by rfl) ?_
      walk_at "z_go"
      rename Fr _ _ _ _ => F4
      have hsz : ((List.range nF).map fun j => Value.ref (FA j)).toArray.size = nF := by simp
      refine call_len_list (F4.lst hF) (by rw [hsz]; omega) ?_
      rw [hsz]
      walk_at "z_go"
      rename Fr _ _ _ _ => F5
      rename News _ _ _ _ => N5
      rename IsRange _ _ _ _ _ _ _ _ => hr
      rename _ = Data.cell (some (Value.ref (FA (p k)))) => hfam
      have hpk := hp k hkp
      have hpn : p k < nF := Nat.lt_trans hpk hkn
      refine LCt.CompSrcT.range rfl F5 N5 hr (small_one (by decide) (by decide) (by omega) (by omega)) (range_size nF) (by rw [sizeLine_eq]; omega) fun g => ?_
      refine compT_ind (fun i ys news => news = _ ∧ (if i ≤ p k then ys = [] else ∃ t, ys = [Value.int ((p k : Nat) : Int) t])) ?step ?fin ⟨rfl, by simp⟩
      case step =>
        rintro i ys news v I oI C oC D m₂ hh tkk E' hi ⟨rfl, hys⟩ ⟨t', rfl⟩ hC hx2 F6 N6 off ne
        have off' := off
        simp only [LCg.Off3, and_true] at off
        walk_at "z_go"
        rw [Int.zero_add]
        refine tail_any (F6.lst hF).typeIs PySem.F.slot_list_getitem.lookup (wpAny_getItem_list (F6.lst hF) (by omega) (by omega) (x := .ref (FA i)) (by simp [hi]) ?_) (by with_unfolding_all rfl)
        walk_at "z_go"
        by_cases hij : i = p k
        · subst hij
          refine wpAny_is_ref_self ?_
          walk_at "z_go"
          refine LCg.CompEnd.intro (by assumption) (by assumption) _ (by lcg_sub) off' trivial ⟨rfl, ?_⟩
          rw [if_pos (Nat.le_refl _)] at hys
          rw [if_neg (show ¬ p k + 1 ≤ p k from Nat.not_succ_le_self _), hys]
          exact ⟨_, by rw [Int.zero_add]; rfl⟩
        · obtain ⟨its1, ol1, el1, cl1, -⟩ := hfl i hi
          obtain ⟨its2, ol2, el2, cl2, -⟩ := hfl (p k) hpn
          refine wpAny_is_ref_other (fun q => hij (inj _ _ hi hpn q)) (F6.keep _ _ el1) (F6.keep _ _ el2) (by rw [cl1]; decide) ?_
          walk_at "z_go"
          refine LCg.CompEnd.intro (by assumption) (by assumption) _ (by lcg_sub) off' trivial ⟨rfl, ?_⟩
          by_cases hle : i ≤ p k
          · rw [if_pos hle] at hys
            rw [if_pos (show i + 1 ≤ p k from Nat.lt_of_le_of_ne hle hij)]; exact hys
          · rw [if_neg hle] at hys
            rw [if_neg (show ¬ i + 1 ≤ p k from fun q => hle (Nat.le_of_succ_le q))]; exact hys
      case fin =>
        rintro ys news ⟨rfl, hys⟩
        rw [if_neg (Nat.not_le_of_lt hpn)] at hys
        obtain ⟨tq, rfl⟩ := hys
        unfold LCg.FinE
        intro D7 h7 tk7 F7 N7 o7
        simp only [LCg.Off1, and_true] at o7
        dsimp only
        walk_at "z_go"
        have N8 : News s.heap L h7 [(l0, listOf vs.toArray e), (L + 1 + 1, _), (L + 1, o2)] := fun p hp => N7 p (.tail _ hp)
        refine kl_insert (s := ⟨h7, s.gens, s.drawn, _, s.os⟩) F7 N8 rfl (l := Value.int ((p k : Nat) : Int) tq :: vs) (by simp [kl_ins]) (.head (by
          intro q hq
          simp only [List.mem_cons, List.not_mem_nil, or_false] at hq
          rcases hq with rfl | rfl
          · exact Nat.ne_of_lt hl0.1
          · exact Nat.ne_of_lt hl0.2)) (by have := I.length; rw [sizeLine_eq]; simp only [List.length_cons] at this ⊢; omega) fun h8 F8 N9 => ?_
        walk_at "z_go"
        refine ⟨p k, hpk, .mk h8 _ (Value.int ((p k : Nat) : Int) tq :: vs) ((k : Int) :: tl) _ _ _ rfl F8 (.cons _ _ I) ?_ (Nat.le_trans (Nat.le_of_lt hpk) hkx) ?_ N9 hfam⟩
        · rw [hw]
          have : way p k = way p (p k) ++ [(k : Int)] := way_step p hp k hkp
          rw [this, List.append_assoc]; rfl
        · exact len_down hlen hpk
end
end Mine
end
section
open PySem PySem.W PySem.Calls PyProof.Rows
set_option Elab.async false
set_option maxRecDepth 100000
set_option maxHeartbeats 2000000
namespace Mine
section
variable {w : World} {A : Around} {R : Result → Shared → Prop} {s : Shared} {pr : Program} {loose : List Str} {mg mb : Str → Option Value}
/-- a dict of ints, as an object -/
noncomputable def DictO (o : Obj) (f : Int → Option Value) (n : Nat) : Prop := o.cls = .type "dict" ∧ ∃ es ep, o.data = .dict es ep ∧ IntKeys es ∧ (∀ k, findBy Value.isInt es k = f k) ∧ es.size ≤ n
theorem DictO.map {h : Heap} {d : Addr} {o : Obj} {f : Int → Option Value} {n : Nat} (x : DictO o f n) (e : h.get? d = some o) : h.IntMap d f := let ⟨c, es, ep, hd, hk, hf, _⟩ := x; ⟨o, es, ep, e, c, hd, hk, hf⟩
theorem DictO.le {h : Heap} {d : Addr} {o : Obj} {f : Int → Option Value} {n : Nat} (x : DictO o f n) (e : h.get? d = some o) : h.DictLe d n := fun o' es' ep' e' hd' => by
  obtain ⟨c, es, ep, hd, hk, hf, hz⟩ := x
  rw [e] at e'; cases e'
  rw [hd] at hd'; cases hd'
  exact hz
theorem DictO.of {h : Heap} {d : Addr} {f : Int → Option Value} {n : Nat} (x : h.IntMap d f) (y : h.DictLe d n) : ∃ o, h.get? d = some o ∧ DictO o f n := let ⟨o, es, ep, e, c, hd, hk, hf⟩ := x; ⟨o, e, c, es, ep, hd, hk, hf, y o es ep e hd⟩
/-- what the loops lay into the table -/
noncomputable def tabF : List (Addr × List Int) → (Int → Option Value) → Int → Option Value
  | [], f => f
  | (a, es) :: l, f => tabF l fun x => if x ∈ es then some (.ref a) else f x
theorem DictO.empty {w : World} {o : Obj} (x : Obj.IsDictOf (intKind PySem.Challenge.rw_ij0154_01.prog w) o []) : DictO o (fun _ => none) 0 := by
  obtain ⟨es, ep, hex, hd, hk, hp, -⟩ := x
  have e0 : es.toList = [] := by
    generalize es.toList = l at hp
    cases l with
    | nil => rfl
    | cons a l => cases hp
  have : es = #[] := by rw [← Array.toArray_toList (xs := es), e0]
  subst this
  exact ⟨hex.1, _, ep, hd, fun _ he => by simp at he, fun _ => rfl, Nat.le_refl _⟩
theorem tabF_snoc (a : Addr) (es : List Int) : ∀ (l : List (Addr × List Int)) (f : Int → Option Value), tabF (l ++ [(a, es)]) f = fun x => if x ∈ es then some (.ref a) else tabF l f x
  | [], f => rfl
  | (b, ds) :: l, f => by
    show tabF (l ++ [(a, es)]) _ = _
    rw [tabF_snoc a es l]
    rfl
theorem sum_take_le {α : Type} (f : α → Nat) : ∀ (l : List α) (i : Nat), ((l.take i).map f).sum ≤ (l.map f).sum
  | [], i => by simp
  | a :: l, 0 => by simp
  | a :: l, i + 1 => by
    have := sum_take_le f l i
    simp only [List.take_succ_cons, List.map_cons, List.sum_cons]
    omega
theorem news_set {h₀ h h' : Heap} {L d : Addr} {pre rest : List (Addr × Obj)} {o o' : Obj} (N : News h₀ L h (pre ++ (d, o) :: rest)) (hs : Heap.SameBut d h h') (ho : h'.get? d = some o') (h1 : ∀ p ∈ pre, p.1 ≠ d) (h2 : ∀ p ∈ rest, p.1 ≠ d) : News h₀ L h' (pre ++ (d, o') :: rest) := by
  intro q hq
  rcases List.mem_append.mp hq with hq | hq
  · have := N q (List.mem_append_left _ hq)
    exact ⟨(hs.2 _ (h1 q hq)).trans this.1, this.2⟩
  rcases List.mem_cons.mp hq with rfl | hq
  · have := N (d, o) (List.mem_append_right _ (.head _))
    exact ⟨ho, this.2⟩
  · have := N q (List.mem_append_right _ (.tail _ hq))
    exact ⟨(hs.2 _ (h2 q hq)).trans this.1, this.2⟩
theorem parent_spec {ctx dC rt dR lam Fl : Addr} {fdl : FuncData} {nC nR : Nat} {hC h1 h2 : Int} {kC k1 k2 : Tok} {hs : List (Addr × List Int)} (hA : Sm A 600 3000) (G : Gd w pr loose mg mb (hideAll s.heap [ctx, dC, rt, dR])) (G1 : Gd w pr loose mg mb s.heap)
    (nd : [ctx, dC, rt, dR].Nodup)
    (hctx : s.heap.get? ctx = some (⟨.ref 38, some dC, .plain, #[]⟩ : Obj)) (hdC : s.heap.get? dC = some (⟨.type "dict", none, .dict #[⟨hC, .str (Str.ofString "root") kC, .ref rt⟩] nC, #[]⟩ : Obj))
    (hrt : s.heap.get? rt = some (⟨.ref 38, some dR, .plain, #[]⟩ : Obj)) (hdR : s.heap.get? dR = some (⟨.type "dict", none, .dict #[⟨h1, .str (Str.ofString "root") k1, .ref Fl⟩, ⟨h2, .str (Str.ofString "iter") k2, .ref lam⟩] nR, #[]⟩ : Obj)) (hlam : (hideAll s.heap [ctx, dC, rt, dR]).get? lam = some (⟨.type "function", none, .func fdl, #[]⟩ : Obj))
    (hFl0 : (hideAll s.heap [ctx, dC, rt, dR]).IsList Fl (hs.map fun p => Value.ref p.1).toArray) (hfam0 : ∀ p ∈ hs, ∃ vs, (hideAll s.heap [ctx, dC, rt, dR]).IsList p.1 vs.toArray ∧ IntsAre vs p.2) (hcnt : (hs.map fun p => p.2.length).sum ≤ 1000) (hlen : hs.length ≤ 100)
    (hcall : ∀ s'' : Shared, (∀ b o, b ≠ dC → s.heap.get? b = some o → s''.heap.get? b = some o) → wpAny (model PySem.Challenge.rw_ij0154_01.prog w) (AM 700 3600) (call (.ref lam) []) (More s'' fun v _ => v = .ref Fl) (fun _ _ => False) s'')
    (hR : ∀ h' tk d, (∀ b o, b ≠ dC → s.heap.get? b = some o → h'.get? b = some o) → s.heap.get? d = none → h'.IntMap d (tabF hs fun _ => none) → R (.ok (.ret (.ref d))) { s with heap := h', toks := tk }) :
    codeAny (model PySem.Challenge.rw_ij0154_01.prog w) A (.call (.ref 21) ⟨[.ref ctx], []⟩) R s := by
  have X1 := G1.X
  revert X1; k_fill; intro X1
  refine enterF (binds := [(Str.ofString "context", .ref ctx)]) hA (by decide) (X1 21 _ rfl) rfl G1.T.nolimit (codeRec_of X1 (by k_is)) (BindsTo.of_eq rfl) (by decide) (locs rfl) (fun h₁ F₁ => ?_)
  generalize hm : (fun y => List.lookup y (List.reverse [(Str.ofString "context", Value.ref ctx)])) = m at F₁
  have m1 : m (Str.ofString "context") = some (.ref ctx) := by rw [← hm]; rfl
  generalize hL : s.heap.objs.size = L at F₁ ⊢
  have lt : ∀ a o, s.heap.get? a = some o → a ≠ L := fun a o e => hL ▸ Nat.ne_of_lt (Heap.lt_size e)
  have F : Fr (hideAll s.heap [ctx, dC, rt, dR]) L h₁ m := ⟨F₁.ns, fun b o e => F₁.keep b o (of_hideAll _ e), by rw [hideAll_size]; exact F₁.above⟩
  have N : News (hideAll s.heap [ctx, dC, rt, dR]) L h₁ [(ctx, ⟨.ref 38, some dC, .plain, #[]⟩), (dC, ⟨.type "dict", none, .dict #[⟨hC, .str (Str.ofString "root") kC, .ref rt⟩] nC, #[]⟩), (rt, ⟨.ref 38, some dR, .plain, #[]⟩),
      (dR, ⟨.type "dict", none, .dict #[⟨h1, .str (Str.ofString "root") k1, .ref Fl⟩, ⟨h2, .str (Str.ofString "iter") k2, .ref lam⟩] nR, #[]⟩)] := by
    intro q hq
    simp only [List.mem_cons, List.not_mem_nil, or_false] at hq
    rcases hq with rfl | rfl | rfl | rfl
    · exact ⟨F₁.keep _ _ hctx, lt _ _ hctx, hideAll_none _ (by simp)⟩
    · exact ⟨F₁.keep _ _ hdC, lt _ _ hdC, hideAll_none _ (by simp)⟩
    · exact ⟨F₁.keep _ _ hrt, lt _ _ hrt, hideAll_none _ (by simp)⟩
    · exact ⟨F₁.keep _ _ hdR, lt _ _ hdR, hideAll_none _ (by simp)⟩
  have hext : ∀ h' : Heap, (∀ b o, (hideAll s.heap [ctx, dC, rt, dR]).get? b = some o → h'.get? b = some o) → h'.get? ctx = some ⟨.ref 38, some dC, .plain, #[]⟩ → h'.get? rt = some ⟨.ref 38, some dR, .plain, #[]⟩ →
      h'.get? dR = some ⟨.type "dict", none, .dict #[⟨h1, .str (Str.ofString "root") k1, .ref Fl⟩, ⟨h2, .str (Str.ofString "iter") k2, .ref lam⟩] nR, #[]⟩ → ∀ b o, b ≠ dC → s.heap.get? b = some o → h'.get? b = some o :=
    fun h' k e1 e2 e3 b o hb e => by
      by_cases q1 : b = ctx
      · subst q1; rw [hctx] at e; cases e; exact e1
      by_cases q2 : b = rt
      · subst q2; rw [hrt] at e; cases e; exact e2
      by_cases q3 : b = dR
      · subst q3; rw [hdR] at e; cases e; exact e3
      exact k b o (hideAll_get _ e (by simp [q1, q2, q3, hb]))
  have hnew : ∀ b, (hideAll s.heap [ctx, dC, rt, dR]).get? b = none → b ≠ ctx → b ≠ dC → b ≠ rt → b ≠ dR → s.heap.get? b = none := fun b e q1 q2 q3 q4 => by
    cases q : s.heap.get? b with
    | none => rfl
    | some o => rw [hideAll_get _ q (by simp [q1, q2, q3, q4])] at e; cases e
  clear F₁ hctx hdC hrt hdR lt G1 X1
  have hFl := hFl0
  have hfam := hfam0
  clear hFl0 hfam0
  have X := G.X
  have T := G.T
  revert X; k_fill; intro X
  generalize hideAll s.heap [ctx, dC, rt, dR] = base at *
  generalize s.toks + _ = tk at *
  simp only [List.nodup_cons, List.mem_cons, List.not_mem_nil, or_false, not_or, List.nodup_nil, and_true, not_false_eq_true] at nd
  obtain ⟨⟨n1, n2, n3⟩, ⟨n4, n5⟩, n6⟩ := nd
  have n7 : dC ≠ ctx := Ne.symm n1
  have n8 : rt ≠ ctx := Ne.symm n2
  have n9 : dR ≠ ctx := Ne.symm n3
  have n10 : rt ≠ dC := Ne.symm n4
  have n11 : dR ≠ dC := Ne.symm n5
  have n12 : dR ≠ rt := Ne.symm n6
  walk_at "z_go"
  rename_i td tk0 d hd0 od F7 N7 lo hs7 fs7 hi7 fi7 lt7
  refine set_dict (es := [⟨hC, .str (Str.ofString "root") kC, .ref rt⟩]) (n := nC) (es' := [⟨hC, .str (Str.ofString "root") kC, .ref rt⟩, ⟨PyData.keyHash w.params (Str.ofString "parent_map"), .str (Str.ofString "parent_map") (tk + 1), .ref d⟩]) (n' := nC + 1) F7 X N7 (by k_inst) rfl (by k_is) (by k_is) (by k_is) (by k_is) (by kernel_rfl) (by kernel_rfl) (by k_upd) (Nat.le_of_ble_eq_true rfl) fun h8 F8 N8 => ?_
  dsimp only
  walk_at "z_go"
  refine wpAny_For ?_
  walk_at "z_go"
  rename Fr _ _ _ _ => F9
  rename News _ _ _ _ => N9
  refine callWith_F0 ⟨_, _, _, _, F9.keep _ _ hlam⟩ ?_
  refine wk (d := 700) (u := 3600) ⟨rfl, Nat.le_of_ble_eq_true rfl, Nat.le_of_ble_eq_true rfl⟩ (wpAny_mono (hcall ⟨_, _, _, _, _⟩ (hext _ F9.keep (N9 _ (.tail _ (.head _))).1 (N9 _ (.tail _ (.tail _ (.tail _ (.head _))))).1 (N9 _ (.tail _ (.tail _ (.tail _ (.tail _ (.head _)))))).1)) (fun v s' q => ?_) fun _ _ q => q.elim)
  obtain ⟨h10, tk10, rfl, k10, rfl⟩ := q
  have F10 := F9.keeps k10
  have N10 := N9.grown k10
  clear F9 N9
  dsimp only
  have hD0 := DictO.empty hi7
  refine for_ind (fun i m' news' => m' (Str.ofString "parent_map") = some (.ref d) ∧ ∃ o, news' = (d, o) :: _ ∧ DictO o (tabF (hs.take i) fun _ => none) ((hs.take i).map fun p => p.2.length).sum) (s := ⟨h10, s.gens, s.drawn, tk10, s.os⟩) rfl F10 N10 (ax := Fl) (its := (hs.map fun p => Value.ref p.1).toArray) (fun _ _ _ _ => .inl hFl) ⟨if_pos rfl, od, rfl, hD0⟩ ?step ?fin
  case step =>
    rintro i m' news' v I oI h tk1 hi hv ⟨hm', o, rfl, hDo⟩ F11 N11 off hIL
    have hi' : i < hs.length := by simpa using hi
    have hv' : v = .ref hs[i].1 := by simpa [hi'] using hv.symm
    subst hv'
    obtain ⟨vs, hvs, hint⟩ := hfam hs[i] (List.getElem_mem hi')
    walk_at "z_go"
    refine wpAny_For ?_
    walk_at "z_go"
    rename Fr _ _ _ _ => F12
    rename News _ _ _ _ => N12
    refine for_ind (fun j m2 news2 => m2 (Str.ofString "parent_map") = some (.ref d) ∧ m2 (Str.ofString "p") = some (.ref hs[i].1) ∧ ∃ o, news2 = (I, oI) :: (d, o) :: _ ∧ DictO o (fun x => if x ∈ hs[i].2.take j then some (.ref hs[i].1) else tabF (hs.take i) (fun _ => none) x) (((hs.take i).map fun p => p.2.length).sum + j))
      (s := ⟨_, s.gens, s.drawn, _, s.os⟩) rfl F12 N12 (ax := hs[i].1) (its := vs.toArray) (fun _ _ _ _ => .inl hvs) ⟨by walk_at "z_loc", by walk_at "z_loc", o, rfl, by simpa using hDo⟩ ?step2 ?fin2
    case step2 =>
      rintro j m2 news2 v2 I2 oI2 hh tk2 hj hv2 ⟨ma, mb', o2, rfl, hDo2⟩ F13 N13 off2 hIL2
      have hj' : j < vs.length := by simpa using hj
      have hlen2 := hint.length
      have hv3 : v2 = vs[j] := by simpa [hj'] using hv2.symm
      subst hv3
      walk_at "z_go"
      rename Fr _ _ _ _ => F14
      rename News _ _ _ _ => N14
      obtain ⟨e1, te, he1, he2⟩ := hint.at j vs[j] (by simp [hj'])
      rw [he1]
      have hd14 := N14 (d, o2) (.tail _ (.tail _ (.head _)))
      have hsum := sum_take_le (fun p : Addr × List Int => p.2.length) hs (i + 1)
      rw [List.take_succ, List.map_append, List.sum_append, List.getElem?_eq_getElem hi'] at hsum
      simp only [Option.toList_some, List.map_cons, List.map_nil, List.sum_cons, List.sum_nil] at hsum
      refine wpAny_setItem_intMap_le (hDo2.map hd14.1) (hDo2.le hd14.1) (by rw [sizeLine_eq]; omega) fun h15 hm15 hz15 hs15 => ?_
      obtain ⟨o15, ho15, hD15⟩ := DictO.of hm15 hz15
      refine wpAny_execs_nil ⟨rfl, h15, _, _, _, rfl, F14.change hs15 hd14.2.1 hd14.2.2, (fun q hq => ?_ : News _ _ h15 ((I2, oI2) :: (I, oI) :: (d, o15) :: _)), ?_, ma, mb', o15, rfl, ?_⟩
      · exact news_set (pre := [(I2, oI2), (I, oI)]) N14 hs15 ho15 (fun p hp => by
          simp only [List.mem_cons, List.not_mem_nil, or_false] at hp
          rcases hp with rfl | rfl
          · exact (off2 (d, o2) (.tail _ (.head _))).symm
          · exact (off (d, o) (.head _)).symm) (fun p hp => by
          simp only [List.mem_cons, List.not_mem_nil, or_false] at hp
          rcases hp with rfl | rfl | rfl | rfl
          · exact Nat.ne_of_lt lt7.1
          · exact Nat.ne_of_lt lt7.2.1
          · exact Nat.ne_of_lt lt7.2.2.1
          · exact Nat.ne_of_lt lt7.2.2.2) q hq
      · intro p hp
        simp only [List.mem_cons, List.not_mem_nil, or_false] at hp
        rcases hp with rfl | rfl | rfl | rfl | rfl | rfl
        · exact off2 _ (.head _)
        · exact off2 (d, o2) (.tail _ (.head _))
        · exact off2 _ (.tail _ (.tail _ (.head _)))
        · exact off2 _ (.tail _ (.tail _ (.tail _ (.head _))))
        · exact off2 _ (.tail _ (.tail _ (.tail _ (.tail _ (.head _)))))
        · exact off2 _ (.tail _ (.tail _ (.tail _ (.tail _ (.tail _ (.head _))))))
      · have e : (fun x => if x = e1 then some (Value.ref hs[i].fst) else if x ∈ List.take j hs[i].snd then some (Value.ref hs[i].fst) else tabF (List.take i hs) (fun x => none) x) =
          fun x => if x ∈ List.take (j + 1) hs[i].snd then some (Value.ref hs[i].fst) else tabF (List.take i hs) (fun x => none) x := by
          funext x
          rw [List.take_succ, he2]
          simp only [Option.toList_some, List.mem_append, List.mem_singleton]
          by_cases q1 : x = e1
          · rw [if_pos q1, if_pos (.inr q1)]
          · by_cases q2 : x ∈ List.take j hs[i].snd
            · rw [if_neg q1, if_pos q2, if_pos (.inl q2)]
            · rw [if_neg q1, if_neg q2, if_neg (fun q => q.elim q2 q1)]
        rw [e] at hD15
        exact hD15
    case fin2 =>
      rintro m2 news2 hh tk2 ⟨ma, mb', o2, rfl, hDo2⟩ F13 N13
      rw [List.size_toArray, hint.length, List.take_length] at hDo2
      dsimp only
      refine wpAny_execs_nil ⟨rfl, hh, tk2, m2, _, rfl, F13, N13, ?_, ma, o2, rfl, ?_⟩
      · intro p hp
        rcases List.mem_cons.mp hp with rfl | hp
        · exact off (d, o) (.head _)
        · exact off p (.tail _ hp)
      · rw [List.take_succ, List.getElem?_eq_getElem hi', Option.toList_some, show hs[i] = (hs[i].1, hs[i].2) from rfl, tabF_snoc, List.map_append, List.sum_append]
        simpa using hDo2
  case fin =>
    rintro m' news' h tk1 ⟨hm', o, rfl, hDo⟩ F11 N11
    rw [List.size_toArray, List.length_map, List.take_length] at hDo
    dsimp only
    walk_at "z_go"
    exact hR _ _ d (hext _ F11.keep (N11 _ (.tail _ (.head _))).1 (N11 _ (.tail _ (.tail _ (.tail _ (.head _))))).1 (N11 _ (.tail _ (.tail _ (.tail _ (.tail _ (.head _)))))).1)
      (hnew d (N11 _ (.head _)).2.2 (Nat.ne_of_gt lt7.1) (Nat.ne_of_gt lt7.2.1) (Nat.ne_of_gt lt7.2.2.1) (Nat.ne_of_gt lt7.2.2.2)) (hDo.map (N11 _ (.head _)).1)
end
end Mine
end
end
section
open PySem PySem.W PySem.Calls PyProof.Rows
open Mine
local macro_rules | `(tactic| walk_at "z_loc") => `(tactic| first | with_reducible assumption | exact if_pos rfl | (refine (if_neg (by decide)).trans ?_; walk_at "z_loc"))
local macro_rules | `(tactic| walk_at "z_go") => `(tactic| repeat' first | (walk_at "z_no"; walk_at "z_k") | walk_at "z_i")
local macro_rules | `(tactic| walk_at "z_gc") => `(tactic| repeat' first | (walk_at "z_nc"; walk_at "z_k") | walk_at "z_i")
local macro_rules | `(tactic| walk_at "z_sc") => `(tactic| repeat' first | (walk_at "z_nc"; (fail_if_success (with_reducible show wpAny _ _ (subscriptTail _ _ _ (Value.int (_ - _) _)) _ _ _)); walk_at "z_k") | walk_at "z_i")
local macro_rules | `(tactic| walk_at "z_tc") => `(tactic| repeat' first | (walk_at "z_nc"; (fail_if_success (with_reducible show wpAny _ _ (exec (Stmt.Try _ _ _ _ _) _) _ _ _)); walk_at "z_k") | walk_at "z_i")
local macro_rules | `(tactic| walk_at "eval Name") => `(tactic| (k_here; name_kind "local"; k_dflt (refine nameX_L (by assumption) (by walk_at "z_loc") ?_)))
local macro_rules | `(tactic| walk_at "eval Name") => `(tactic| (k_here; name_kind "free"; k_dflt (refine nameX_FB (by assumption) (by rfl) (by with_reducible assumption) ?_)))
local macro_rules | `(tactic| walk_at "eval Name") => `(tactic| (k_here; name_kind "free"; k_dflt (refine nameX_FBd (by assumption) (by rfl) (by with_reducible assumption) (by with_reducible assumption) ?_)))
section
open PySem PySem.W PySem.Calls PyProof.Rows PySem.W.X PySem.W.XRun
set_option Elab.async false
set_option maxRecDepth 100000
set_option maxHeartbeats 4000000
namespace Mine
local macro_rules | `(tactic| walk_at "z_na") => `(tactic| ((with_reducible show wpAny _ _ _ _ _ _); (fail_if_success (with_reducible show wpAny _ _ (eval (Expr.Lambda _ _ _ _) _) _ _ _)); (fail_if_success (with_reducible show wpAny _ _ (call (Value.ref _) _ _) _ _ _)); (fail_if_success (with_reducible show wpAny _ _ (callWith _ (Value.ref _) _ _ _) _ _ _)); (fail_if_success (with_reducible show wpAny _ _ (setAttr _ _ _) _ _ _))))
local macro_rules | `(tactic| walk_at "z_ga") => `(tactic| repeat' first | (walk_at "z_na"; walk_at "z_k") | walk_at "z_i")
local macro_rules | `(tactic| walk_at "eval Name") => `(tactic| (k_here; name_kind "cell"; k_dflt (refine nameX_C (by assumption) (by rfl) (by assumption) (by with_reducible assumption) ?_)))
theorem lookup_mid {α : Type} {a b : Nat} {x : α} (h : a ≠ b) : ∀ (l1 l2 : List (Nat × α)), (l1 ++ (b, x) :: l2).lookup a = (l1 ++ l2).lookup a
  | [], l2 => by
    have : (a == b) = false := by simpa using h
    simp [List.lookup_cons, this]
  | (c, y) :: l1, l2 => by
    have ih := lookup_mid (x := x) h l1 l2
    show (match a == c with | true => some y | false => List.lookup a (l1 ++ (b, x) :: l2)) = (match a == c with | true => some y | false => List.lookup a (l1 ++ l2))
    rw [ih]
section
variable {w : World} {A : Around} {R : Result → Shared → Prop} {s : Shared} {pr : Program} {loose : List Str} {mg mb : Str → Option Value} {h₀ : Heap} {L : Addr} {m : Str → Option Value} {news : List (Addr × Obj)}
/-- `_SelectorContext(r)` -/
theorem make_ctx {r : Addr} {d u : Nat} (hA : Sm A d u) (hd : d < 900) (G : Gd w pr loose mg mb h₀) (F : Fr h₀ L s.heap m) (N : News h₀ L s.heap news)
    (h : ∀ x dx h' tk hC kC, Fr h₀ L h' m → News h₀ L h' ((x, instObj 38 dx) :: (dx, dictOf [⟨hC, .str (Str.ofString "root") kC, .ref r⟩] 1) :: news) → (∀ p ∈ news, p.1 < dx) → dx < x → R (.ok (.ret (.ref x))) { s with heap := h', toks := tk }) :
    codeAny (model PySem.Challenge.rw_ij0154_01.prog w) A (.call (.ref 38) ⟨[.ref r], []⟩) R s := by
  have X0 := G.X
  revert X0; k_fill; intro X0
  refine make_K (K := KR w.params) (fI := 35) F N (X0.keeps F.keep) (by kernel_rfl) (by kernel_rfl) (by kernel_rfl) (fun x dx h' F1 N1 l1 l2 => ?_)
  have T1 := G.T.keeps F1.keep
  have X1 := X0.keeps F1.keep
  refine enterF (d := d + 1) (u := u + 5) (binds := [(Str.ofString "self", .ref x), (Str.ofString "root", .ref r)]) ⟨hA.1, Nat.succ_le_succ hA.2.1, ?_⟩ (Nat.lt_of_lt_of_le (Nat.succ_lt_succ hd) (by decide)) (X1 35 _ rfl) rfl T1.nolimit (codeRec_of X1 (by k_is)) (BindsTo.of_eq rfl) (by decide) (locs rfl) (fun h₁ F₂ => ?_)
  · exact Nat.add_le_add hA.2.2 (Nat.le_of_ble_eq_true rfl)
  have xI := N1 (x, _) (.head _)
  have dI := N1 (dx, _) (.tail _ (.head _))
  have nd : L ≠ dx := Ne.symm dI.2.1
  have F3 : Fr (hideAll h' [dx]) h'.objs.size h₁ _ := ⟨F₂.ns, fun b o e => F₂.keep b o (of_hideAll _ e), by rw [hideAll_size]; exact F₂.above⟩
  have N3 : News (hideAll h' [dx]) h'.objs.size h₁ [(dx, emptyDict)] := fun q hq => by
    rw [List.mem_singleton.mp hq]
    exact ⟨F₂.keep _ _ dI.1, Nat.ne_of_lt (Heap.lt_size dI.1), hideAll_none _ (.head _)⟩
  have X3 : (KR w.params).In (hideAll h' [dx]) := fun a o e => hideAll_get _ (X1 a o e) fun hm => by
    rw [List.mem_singleton.mp hm] at e
    have := X0 dx o e
    rw [dI.2.2] at this; cases this
  have xB : (hideAll h' [dx]).get? x = some (instObj 38 dx) := hideAll_get _ xI.1 fun hm => by
    rw [List.mem_singleton.mp hm] at l2; exact Nat.lt_irrefl _ l2
  generalize hm : (fun y => List.lookup y (List.reverse [(Str.ofString "self", Value.ref x), (Str.ofString "root", Value.ref r)])) = m3 at F3
  have m1 : m3 (Str.ofString "self") = some (.ref x) := by rw [← hm]; rfl
  have m2 : m3 (Str.ofString "root") = some (.ref r) := by rw [← hm]; rfl
  clear hm F₂
  dsimp only
  generalize h'.objs.size = L3 at F3 N3 ⊢
  walk_at "z_ga"
  refine set_dict (K := KR w.params) (C := 38) (n := 0) (es := []) (news' := [(dx, dictOf [⟨PyData.keyHash w.params (Str.ofString "root"), .str (Str.ofString "root") (tk + 1), .ref r⟩] 1)]) F3 X3 N3 ⟨F3.keep _ _ xB, rfl, rfl, (N3 _ (.head _)).1⟩ rfl (by kernel_rfl) (by kernel_rfl) (by kernel_rfl) (by kernel_rfl) (by kernel_rfl) rfl (Upd.head fun _ h => nomatch h) (Nat.le_of_ble_eq_true rfl) fun h2 F4 N4 => ?_
  walk_at "z_ga"
  have k2 : ∀ b o, b ∉ [dx] → h'.get? b = some o → h2.get? b = some o := fun b o hb e => F4.keep b o (hideAll_get _ e hb)
  rename_i tk0
  refine And.intro rfl (h x dx h2 _ (PyData.keyHash w.params (Str.ofString "root")) (tk0 + 1) (LCg.fr_but F1 (I := dx) k2 nd dI.2.2) (fun q hq => ?_) l1 l2)
  rcases List.mem_cons.mp hq with rfl | hq
  · exact ⟨F4.keep _ _ xB, xI.2⟩
  rcases List.mem_cons.mp hq with rfl | hq
  · exact ⟨(N4 _ (.head _)).1, dI.2⟩
  · have y := N1 q (.tail _ (.tail _ hq))
    exact ⟨k2 _ _ (by simpa using Nat.ne_of_lt (l1 q hq)) y.1, y.2⟩
/-- what `_law_context` leaves -/
inductive CtxEnd (w : World) (s : Shared) (Fl : Addr) (v : Value) (s' : Shared) : Prop
  | mk : ∀ h' tk, (s' = { s with heap := h', toks := tk }) → ((∀ b o, b ≠ 60 → s.heap.get? b = some o → h'.get? b = some o)) → ((∃ ps, h'.get? 60 = some (tabObj ps))) → ∀ ctx dC rt dR lam nC nR hC kC h1 k1 h2 k2, (v = .ref ctx) → (s.heap.get? dC = none) → (ctx ≠ dC) → (rt ≠ dC) → (dR ≠ dC) → (h'.get? ctx = some (⟨.ref 38, some dC, .plain, #[]⟩ : Obj)) → (h'.get? dC = some (⟨.type "dict", none, .dict #[⟨hC, .str (Str.ofString "root") kC, .ref rt⟩] nC, #[]⟩ : Obj)) → (h'.get? rt = some (⟨.ref 38, some dR, .plain, #[]⟩ : Obj)) → (h'.get? dR = some (⟨.type "dict", none, .dict #[⟨h1, .str (Str.ofString "root") k1, .ref Fl⟩, ⟨h2, .str (Str.ofString "iter") k2, .ref lam⟩] nR, #[]⟩ : Obj)) → ((∃ fd, h'.get? lam = some (⟨.type "function", none, .func fd, #[]⟩ : Obj))) → (s.heap.get? ctx = none) → (s.heap.get? rt = none) → (s.heap.get? dR = none) → (∀ s'' : Shared, (∀ b o, b ≠ dC → h'.get? b = some o → s''.heap.get? b = some o) → wpAny (model PySem.Challenge.rw_ij0154_01.prog w) (AM 700 3600) (call (.ref lam) []) (More s'' fun v _ => v = .ref Fl) (fun _ _ => False) s'') → CtxEnd w s Fl v s'
theorem context_spec {Fl : Addr} (G : Gd w pr loose mg mb (hideAll s.heap [60])) (C : CodeHd (hideAll s.heap [60]) 64 60) (h60 : s.heap.get? 60 = some (tabObj #[])) :
    wpAny (model PySem.Challenge.rw_ij0154_01.prog w) (AM 650 3300) (call (.ref 65) [.ref Fl]) (CtxEnd w s Fl) (fun _ _ => False) s := by
  have hA : Sm (AM 650 3300) 650 3300 := ⟨rfl, Nat.le_refl _, Nat.le_refl _⟩
  refine wpAny_call ?_
  have X := G.X
  have T := G.T
  revert X; k_fill; intro X
  have X1 : (KR w.params).In s.heap := fun a o e => of_hideAll _ (X a o e)
  have T1 : TopRead pr loose mg mb s.heap := T.keeps fun b o e => of_hideAll _ e
  refine enterC (binds := [(Str.ofString "families", .ref Fl)]) ((sm_AM _ _).le (Nat.le_refl _) (by decide) : Sm _ 650 3310) (by decide) (of_hideAll _ (X 65 _ rfl)) rfl T1.nolimit (codeRec_of X1 (by k_is)) (BindsTo.of_eq rfl) ?hkind (by decide) (fun h₁ tk cells F₁ N₁ Y => ?_)
  case hkind =>
    intro n y hy
    simp only [List.mem_cons, List.not_mem_nil, or_false] at hy
    rcases hy with rfl
    exact .inr ⟨rfl, rfl⟩
  obtain ⟨o1, rfl, e1⟩ := CellsAre.one Y
  have e1' : o1.data = .cell (some (.ref Fl)) := e1.trans (by kernel_rfl)
  clear e1 Y
  have h60L : 60 < s.heap.objs.size := Heap.lt_size h60
  have F : Fr (hideAll s.heap [60]) s.heap.objs.size h₁ _ := ⟨F₁.ns, fun b o e => F₁.keep b o (of_hideAll _ e), by rw [hideAll_size]; exact F₁.above⟩
  have N : News (hideAll s.heap [60]) s.heap.objs.size h₁ [(60, tabObj #[]), (_, o1)] := fun q hq => by
    rcases List.mem_cons.mp hq with rfl | hq
    · exact ⟨F₁.keep _ _ h60, Nat.ne_of_lt h60L, hideAll_none _ (.head _)⟩
    · have := N₁ q hq
      refine ⟨this.1, this.2.1, ?_⟩
      cases e : (hideAll s.heap [60]).get? q.1 with
      | none => rfl
      | some o => rw [of_hideAll _ e] at this; exact absurd this.2.2 (by simp)
  clear F₁ N₁
  generalize hm : bindL _ _ _ = m at F
  clear hm
  have keep0 : ∀ b o, b ≠ 60 → s.heap.get? b = some o → (hideAll s.heap [60]).get? b = some o := fun b o hb e => hideAll_get _ e (by simpa using hb)
  have none0 : ∀ b, b ≠ 60 → (hideAll s.heap [60]).get? b = none → s.heap.get? b = none := fun b hb e => by
    cases q : s.heap.get? b with
    | none => rfl
    | some o => rw [keep0 b o hb q] at e; cases e
  generalize hideAll s.heap [60] = base at *
  generalize s.heap.objs.size = L at *
  walk_at "z_ga"
  have hcell : (L + 1, o1) ∈ [(60, tabObj #[]), (L + 1, o1)] := .tail _ (.head _)
  walk1
  walk_at "z_ga"
  refine ⟨X.keeps F.keep, wpAny_call (make_ctx ((sm_AM _ _).le (Nat.le_refl _) (Nat.le_refl _)) (by decide) G F N fun rt dR h2 tk2 hC1 kC1 F2 N2 l1 l2 => ?_)⟩
  dsimp only
  have d60 : 60 < dR := l1 _ (.head _)
  have dL : L + 1 < dR := l1 _ (.tail _ (.head _))
  clear N F
  walk_at "z_ga"
  rename Fr _ _ _ _ => F3
  rename News _ _ _ _ => N3
  refine kla_eval rfl ?_
  refine lam_make (P := 60) (ps := #[]) (news := [(rt, instObj 38 dR), (dR, dictOf [⟨hC1, .str (Str.ofString "root") kC1, .ref Fl⟩] 1), (L + 1, o1)]) F3 (fun q hq => N3 q ?_) (fun q hq => ?_) G C rfl rfl (by simp [TriplesOk]) (by simp [codeAmong]) rfl (fun lam c' oc vsl tl ctl h5 tk5 F5 N5 hdl hvl l4 l5 l6 => ?_)
  · rcases List.mem_cons.mp hq with rfl | hq
    · exact .tail _ (.tail _ (.head _))
    rcases List.mem_cons.mp hq with rfl | hq
    · exact .head _
    rcases List.mem_cons.mp hq with rfl | hq
    · exact .tail _ (.head _)
    · exact .tail _ (.tail _ (.tail _ hq))
  · simp only [List.mem_cons, List.not_mem_nil, or_false] at hq
    rcases hq with rfl | rfl | rfl
    · exact Nat.ne_of_gt (Nat.lt_trans d60 l2)
    · exact Nat.ne_of_gt d60
    · exact Nat.ne_of_gt (Nat.lt_succ_of_lt h60L)
  have c'd : dR < c' := l4 _ (.tail _ (.head _))
  walk_at "z_ga"
  generalize hlo : kla_obj _ _ _ _ _ _ _ _ _ = lo at N5
  generalize (#[] ++ _ : Array Value) = p60 at N5
  have U : ∀ o o' : Obj, Upd dR o o' [(60, tabObj p60), (lam, lo), (c', oc), (rt, instObj 38 dR), (dR, o), (L + 1, o1)] [(60, tabObj p60), (lam, lo), (c', oc), (rt, instObj 38 dR), (dR, o'), (L + 1, o1)] := fun o o' =>
    .tail (Nat.ne_of_lt d60) (.tail (Nat.ne_of_gt (Nat.lt_trans c'd l6)) (.tail (Nat.ne_of_gt c'd) (.tail (Nat.ne_of_gt l2) (.head fun q hq => by rw [List.mem_singleton.mp hq]; exact Nat.ne_of_lt dL))))
  refine set_dict (K := KR w.params) (C := 38) (n := 1) (es := [⟨hC1, .str (Str.ofString "root") kC1, .ref Fl⟩]) (n' := 2) (es' := [⟨hC1, .str (Str.ofString "root") kC1, .ref Fl⟩, ⟨PyData.keyHash w.params (Str.ofString "iter"), .str (Str.ofString "iter") (tk5 + 1), .ref lam⟩]) F5 X N5 ⟨(N5 (rt, _) (.tail _ (.tail _ (.tail _ (.head _))))).1, rfl, rfl, (N5 (dR, _) (.tail _ (.tail _ (.tail _ (.tail _ (.head _)))))).1⟩ rfl (by kernel_rfl) (by kernel_rfl) (by kernel_rfl) (by kernel_rfl) (by kernel_rfl) (by kernel_rfl) (U _ _) (Nat.le_of_ble_eq_true rfl) fun h6 F6 N6 => ?_
  clear N5 F5 U N3 F3
  walk_at "z_ga"
  walk1
  walk_at "z_ga"
  refine ⟨X.keeps F6.keep, wpAny_call (make_ctx ((sm_AM _ _).le (Nat.le_refl _) (Nat.le_refl _)) (by decide) G F6 N6 fun ctx dC h7 tk7 hC kC F7 N7 l7 l8 => ?_)⟩
  dsimp only
  walk_at "z_ga"
  have dC60 : 60 < dC := l7 _ (.head _)
  have q1 := N7 (ctx, _) (.head _)
  have q2 := N7 (dC, _) (.tail _ (.head _))
  have q3 := N7 (60, _) (.tail _ (.tail _ (.head _)))
  have q4 := N7 (lam, _) (.tail _ (.tail _ (.tail _ (.head _))))
  have q5 := N7 (c', _) (.tail _ (.tail _ (.tail _ (.tail _ (.head _)))))
  have q6 := N7 (rt, _) (.tail _ (.tail _ (.tail _ (.tail _ (.tail _ (.head _))))))
  have q7 := N7 (dR, _) (.tail _ (.tail _ (.tail _ (.tail _ (.tail _ (.tail _ (.head _)))))))
  have q8 := N7 (L + 1, _) (.tail _ (.tail _ (.tail _ (.tail _ (.tail _ (.tail _ (.tail _ (.head _))))))))
  have n4 : lam < dC := l7 _ (.tail _ (.head _))
  have n5 : c' < dC := l7 _ (.tail _ (.tail _ (.head _)))
  have n6 : rt < dC := l7 _ (.tail _ (.tail _ (.tail _ (.head _))))
  have n7 : dR < dC := l7 _ (.tail _ (.tail _ (.tail _ (.tail _ (.head _)))))
  have n8 : L + 1 < dC := l7 _ (.tail _ (.tail _ (.tail _ (.tail _ (.tail _ (.head _))))))
  clear N7 N6 F6 l7 l1 l4
  refine CtxEnd.mk h7 _ rfl (fun b o hb e => F7.keep b o (keep0 b o hb e)) ⟨p60, q3.1⟩ ctx dC rt dR lam _ _ _ _ _ _ _ _ rfl (none0 _ (Nat.ne_of_gt dC60) q2.2.2) (Nat.ne_of_gt l8) (Nat.ne_of_lt n6) (Nat.ne_of_lt n7) q1.1 q2.1 q6.1 q7.1 ⟨_, by rw [q4.1, ← hlo]⟩
    (none0 _ (Nat.ne_of_gt (Nat.lt_trans dC60 l8)) q1.2.2) (none0 _ (Nat.ne_of_gt (Nat.lt_trans d60 l2)) q6.2.2) (none0 _ (Nat.ne_of_gt d60) q7.2.2) fun s'' hk => ?_
  subst hlo
  have T'' := T.keeps (fun b o e => hk b o (fun q => by rw [q, q2.2.2] at e; cases e) (F7.keep b o e))
  refine wpAny_call (enterL (d := 700) (u := 3600) (s := s'') (binds := []) ⟨rfl, Nat.le_refl _, Nat.le_refl _⟩ (by decide) (hk _ _ (Nat.ne_of_lt n4) q4.1) rfl T''.nolimit ⟨c', oc, vsl, tl, rfl, hk _ _ (Nat.ne_of_lt n5) q5.1, hdl, hvl⟩ (BindsTo.of_eq rfl) (by decide) (locs rfl) (fun h₁ F8 => ?_))
  refine nameX_FBd F8 (by rfl) (hk _ _ (Nat.ne_of_lt n8) q8.1) e1' ?_
  exact ⟨_, _, rfl, F8.keep, rfl⟩
end
end Mine
end
section
open PySem PySem.W PySem.Calls PyProof.Rows PySem.Builtin PySem.W.X PySem.W.XRun
set_option Elab.async false
set_option maxRecDepth 100000
set_option maxHeartbeats 8000000
namespace Mine
/-- a statement of a function of the text -/
noncomputable def stF (P : Params) (a : Addr) (i : Nat) : Stmt := match (lk P a).data with
  | .func fd => (match fd.body with | .stmts l => l.getD i (.Pass ⟨0, 0, 0, 0⟩) | _ => .Pass ⟨0, 0, 0, 0⟩)
  | _ => .Pass ⟨0, 0, 0, 0⟩
/-- a def of a function of the text, as made -/
noncomputable def IsFnS (P : Params) (a : Addr) (i : Nat) (qual : Str) (cl : List (Str × Addr)) (c' : Addr) (fd : FuncData) : Prop :=
  fd = fnX (dName (stF P a i)) qual (dParams (stF P a i)) (dBody (stF P a i)) (dScope (stF P a i)) cl .none .none fd.doc fd.pyModule none (.ref c') fd.closureTuple
noncomputable def tokAt (vs : Array Value) : Tok := match (vs[1]? : Option Value) with | some (Value.str _ t) => t | _ => 0

/-- what `_law_compare` leaves -/
inductive CmpEnd (w : World) (s : Shared) (Td Ws : Addr) (v : Value) (s' : Shared) : Prop
  | mk : ∀ h' tk, (s' = { s with heap := h', toks := tk }) → ((∀ b o, b ≠ 79 → s.heap.get? b = some o → h'.get? b = some o)) → ((∃ ps, h'.get? 79 = some (tabObj ps))) → ∀ f cd c1 c2 fd oc vs o1 o2, (v = .ref f) → (s.heap.get? f = none) → (s.heap.get? cd = none) → (s.heap.get? c1 = none) → (s.heap.get? c2 = none) → (h'.get? f = some (⟨.type "function", none, .func fd, #[]⟩ : Obj)) → (IsFnS w.params 84 0 (Str.ofString "_law_compare.<locals>.compare") [(Str.ofString "ways", c2), (Str.ofString "table", c1)] cd fd) → (h'.get? c1 = some o1) → (Obj.data o1 = .cell (some (.ref Td))) → (h'.get? c2 = some o2) → (Obj.data o2 = .cell (some (.ref Ws))) → (h'.get? cd = some oc) → (Obj.data oc = .fields vs) → ((vs : Array Value)[1]? = some (.str (Str.ofString "_law_compare.<locals>.compare") (tokAt vs))) → CmpEnd w s Td Ws v s'
theorem stF_of {h : Heap} {P : Params} {a : Addr} {o : Obj} {fd0 : FuncData} {l : List Stmt} {st : Stmt} {i : Nat} (e : h.get? a = some o) (e' : h.get? a = some (lk P a)) (hd : o.data = .func fd0) (hb : fd0.body = .stmts l) (hi : l[i]? = some st) : stF P a i = st := by
  rw [e'] at e
  cases e
  unfold stF
  rw [hd]
  dsimp only
  rw [hb]
  dsimp only
  rw [List.getD_eq_getElem?_getD, hi]
  rfl
section
variable {w : World} {A : Around} {R : Result → Shared → Prop} {s : Shared} {pr : Program} {loose : List Str} {mg mb : Str → Option Value}
theorem mkcmp_spec {Td Ws : Addr} (hA : Sm A 650 3300) (G : Gd w pr loose mg mb (hideAll s.heap [79])) (C : CodeHd (hideAll s.heap [79]) 83 79) (h79 : s.heap.get? 79 = some (tabObj #[]))
    (hR : ∀ v s', CmpEnd w s Td Ws v s' → R (.ok (.ret v)) s') :
    codeAny (model PySem.Challenge.rw_ij0154_01.prog w) A (.call (.ref 84) ⟨[.ref Td, .ref Ws], []⟩) R s := by
  have X := G.X
  have T := G.T
  have e84 := G.X 84 (lk w.params 84) (by kernel_rfl)
  revert X; k_fill; intro X
  have hst0 := stF_of (X 84 _ rfl) e84 rfl rfl (i := 0) rfl
  have X1 : (KR w.params).In s.heap := fun a o e => of_hideAll _ (X a o e)
  have T1 : TopRead pr loose mg mb s.heap := T.keeps fun b o e => of_hideAll _ e
  refine enterC (binds := [(Str.ofString "table", .ref Td), (Str.ofString "ways", .ref Ws)]) hA (by decide) (of_hideAll _ (X 84 _ rfl)) rfl T1.nolimit (codeRec_of X1 (by k_is)) (BindsTo.of_eq rfl) ?hkind (by decide) (fun h₁ tk cells F₁ N₁ Y => ?_)
  case hkind =>
    intro n y hy
    simp only [List.mem_cons, List.not_mem_nil, or_false] at hy
    rcases hy with rfl | rfl
    · exact .inr ⟨rfl, rfl⟩
    · exact .inr ⟨rfl, rfl⟩
  obtain ⟨o2, o1, rfl, e2, e1⟩ := CellsAre.two Y
  have e2' : o2.data = .cell (some (.ref Ws)) := e2.trans (by kernel_rfl)
  have e1' : o1.data = .cell (some (.ref Td)) := e1.trans (by kernel_rfl)
  clear e1 e2 Y
  have h79L : 79 < s.heap.objs.size := Heap.lt_size h79
  have F : Fr (hideAll s.heap [79]) s.heap.objs.size h₁ _ := ⟨F₁.ns, fun b o e => F₁.keep b o (of_hideAll _ e), by rw [hideAll_size]; exact F₁.above⟩
  have N : News (hideAll s.heap [79]) s.heap.objs.size h₁ [(79, tabObj #[]), (_, o2), (_, o1)] := fun q hq => by
    rcases List.mem_cons.mp hq with rfl | hq
    · exact ⟨F₁.keep _ _ h79, Nat.ne_of_lt h79L, hideAll_none _ (.head _)⟩
    · have := N₁ q hq
      refine ⟨this.1, this.2.1, ?_⟩
      cases e : (hideAll s.heap [79]).get? q.1 with
      | none => rfl
      | some o => rw [of_hideAll _ e] at this; exact absurd this.2.2 (by simp)
  have hback : ∀ {h' : Heap}, (∀ b o, (hideAll s.heap [79]).get? b = some o → h'.get? b = some o) → ∀ b o, b ≠ 79 → s.heap.get? b = some o → h'.get? b = some o := fun k b o hb e => k b o (hideAll_get _ e (by simpa using hb))
  have fresh : ∀ b : Nat, s.heap.objs.size < b → s.heap.get? b = none := fun b hb => Heap.get?_none_of_le (Nat.le_of_lt hb)
  clear F₁ N₁
  generalize hm : bindL _ _ _ = m at F
  clear hm
  generalize hideAll s.heap [79] = base at *
  generalize hLL : s.heap.objs.size = L at *
  refine wpAny_execs_cons (nestDef_K rfl rfl rfl ?_)
  refine def_make F N ?_ G C rfl rfl trivial rfl rfl (fun fr cr ocr vsr tr ctr docr h2 tk2 F2 N2 hdr hvr l1 l2 l3 => ?_)
  · intro q hq
    simp only [List.mem_cons, List.not_mem_nil, or_false] at hq
    rcases hq with rfl | rfl <;> exact Nat.ne_of_gt (by show 79 < _; omega)
  clear F N
  dsimp only
  walk_at "z_gc"
  rename Fr _ _ _ _ => F3
  rename News _ _ _ _ => N3
  have q0 := N3 (79, _) (.head _)
  have qf := N3 (fr, _) (.tail _ (.head _))
  have qc := N3 (cr, _) (.tail _ (.tail _ (.head _)))
  have q2 := N3 (L + 1 + 1, _) (.tail _ (.tail _ (.tail _ (.head _))))
  have q1 := N3 (L + 1, _) (.tail _ (.tail _ (.tail _ (.tail _ (.head _)))))
  clear N3
  have lc : L < cr := Nat.lt_trans (Nat.lt_succ_self _) (l1 (L + 1, o1) (.tail _ (.head _)))
  have e : tokAt vsr = tr := by unfold tokAt; rw [hvr]
  refine hR _ _ (CmpEnd.mk _ _ rfl (hback F3.keep) ⟨_, q0.1⟩ fr cr (L + 1) (L + 1 + 1) _ ocr vsr o1 o2 rfl (fresh _ (Nat.lt_trans lc l3)) (fresh _ lc) (fresh _ (Nat.lt_succ_self _)) (fresh _ (Nat.lt_succ_of_lt (Nat.lt_succ_self _))) qf.1 ?_ q1.1 e1' q2.1 e2' qc.1 hdr ?_)
  · unfold IsFnS
    rw [hst0]
    kernel_rfl
  · rw [hvr, e]
    kernel_rfl
end
end Mine
end
section
open PySem PySem.W PySem.Calls PyProof.Rows
set_option Elab.async false
set_option maxRecDepth 100000
set_option maxHeartbeats 2000000
namespace Mine
local macro_rules | `(tactic| walk_at "subscriptTail") => `(tactic| (k_here; (with_reducible show wpAny _ _ (subscriptTail _ _ (Value.ref _) (Value.int (Nat.cast _) _)) _ _ _); first | k_dflt (refine it_ref (Fr.lst (by with_reducible assumption : Fr _ _ _ _) (by with_reducible assumption)) (by with_reducible assumption) (by with_reducible assumption) ?_) | k_dflt (refine it_int (Fr.lst (by with_reducible assumption : Fr _ _ _ _) (by with_reducible assumption)) (by with_reducible assumption) (by omega) (by omega) fun _ => ?_)))
local macro_rules | `(tactic| walk_at "subscriptTail") => `(tactic| (k_here; (with_reducible show wpAny _ _ (subscriptTail _ _ (Value.ref _) (Value.int (List.getD _ _ _) _)) _ _ _); k_dflt (refine it_map (by with_reducible assumption) (by with_reducible assumption) (by with_reducible assumption) fun _ => ?_)))
local macro_rules | `(tactic| walk_at "getMethod ref") => `(tactic| (k_here; (with_reducible show wpAny _ _ (getMethod (Value.ref _) (PySem.Str.ofString "index") _) _ _ _); k_dflt (refine meth_base (by with_reducible assumption) (by with_reducible assumption) PySem.F.slot_list_index PySem.F.type_list_index ?_)))
local macro_rules | `(tactic| walk_at "call builtin:list.index") => `(tactic| (k_here; (with_reducible show wpAny _ _ (call (Value.builtin _) [Value.ref _, Value.int _ _]) _ _ _); k_dflt (refine index_list_ints (Fr.lst (by with_reducible assumption : Fr _ _ _ _) (by with_reducible assumption)) (by with_reducible assumption) (by with_reducible assumption) (by with_reducible assumption) ?_)))
local macro_rules | `(tactic| walk_at "call builtin:len") => `(tactic| (k_here; (with_reducible show wpAny _ _ (call (Value.builtin _) [Value.ref _]) _ _ _); k_dflt (refine len_nat (Fr.lst (by with_reducible assumption : Fr _ _ _ _) (by with_reducible assumption)) (by with_reducible assumption) rfl (by omega) fun _ _ => ?_)))
local macro_rules | `(tactic| walk_at "call builtin:len") => `(tactic| (k_here; (with_reducible show wpAny _ _ (call (Value.builtin _) [Value.ref _]) _ _ _); k_dflt (refine len_nat (isList_at ((by with_reducible assumption : News _ _ _ [(_, _)]) _ (.head _)).1) (by with_reducible assumption) (by with_reducible assumption) (by omega) fun _ _ => ?_)))
local macro_rules | `(tactic| walk_at "z_fam") => `(tactic| repeat' first | (walk_at "z_n0"; (fail_if_success (with_reducible show wpAny _ _ (call (Value.ref _) _) _ _ _)); (fail_if_success (with_reducible show wpAny _ _ (exec (Stmt.Assign _ (Expr.Subscript _ _ _) _) _) _ _ _)); walk_at "z_k") | walk_at "z_i")
section
variable {w : World} {A : Around} {R : Result → Shared → Prop} {s : Shared} {pr : Program} {loose : List Str} {mg mb : Str → Option Value}
theorem lay_small {ns : List Int} (h : ∀ x ∈ ns, 0 ≤ x ∧ x < 64) (hl : ns.length ≤ 1000) : PyData.layable0 (.list (ns.map .int)) = true := by
  have h1 : ∀ l : List Int, PyData.canLayAll0 (l.map .int) = true := by
    intro l
    induction l with
    | nil => simp [PyData.canLayAll0]
    | cons a l ih => simp [PyData.canLayAll0, PyData.canLay0, ih]
  have h2 : ∀ l : List Int, PyData.depthAll (l.map .int) = 0 := by
    intro l
    induction l with
    | nil => simp [PyData.depthAll]
    | cons a l ih => simp [PyData.depthAll, PyData.depth, ih]
  have h3 : ∀ l : List Int, (∀ x ∈ l, 0 ≤ x ∧ x < 64) → PyData.weightAll (l.map .int) ≤ 8 * l.length := by
    intro l
    induction l with
    | nil => simp [PyData.weightAll]
    | cons a l ih =>
      intro hl
      have ih' := ih fun x hx => hl x (.tail _ hx)
      have ha := hl a (.head _)
      simp only [List.map_cons, PyData.weightAll, PyData.weight, List.length_cons]
      have hw : (if (a == 0) = true then 0 else a.natAbs.log2 + 1) ≤ 7 := by
        split
        · (first | lia | omega)
        · have : a.natAbs.log2 < 6 := (Nat.log2_lt (by simp_all)).mpr (by (first | lia | omega))
          (first | lia | omega)
      (first | lia | omega)
  unfold PyData.layable0
  have e := h3 ns h
  simp only [Bool.and_eq_true, decide_eq_true_eq, PyData.canLay0, PyData.depth, PyData.weight, h1, h2, true_and]
  exact ⟨by decide, decide_eq_true (Nat.le_trans e (Nat.le_trans (Nat.mul_le_mul_left 8 hl) (show 8 * 1000 ≤ 2 ^ 20 by decide)))⟩
theorem getD_left (l1 l2 : List Int) (d : Int) {n : Nat} (h : n < l1.length) : (l1 ++ l2).getD n d = l1.getD n d := by
  rw [List.getD_eq_getElem?_getD, List.getD_eq_getElem?_getD, List.getElem?_append_left h]
theorem getD_last (l1 : List Int) (x d : Int) : (l1 ++ [x]).getD l1.length d = x := by
  rw [List.getD_eq_getElem?_getD, List.getElem?_append_right (Nat.le_refl _), Nat.sub_self]; rfl
theorem cp_get : ∀ (xs ys : List Int) (i : Nat), i < cp xs ys → xs.getD i 0 = ys.getD i 0
  | [], _, i, h => by simp [cp] at h
  | _ :: _, [], i, h => by simp [cp] at h
  | a :: xs, b :: ys, i, h => by
    unfold cp at h
    split at h
    · cases i with
      | zero => assumption
      | succ i => exact cp_get xs ys i (by (first | lia | omega))
    · (first | lia | omega)
theorem way_len (p : Nat → Nat) (hp : ∀ k, 0 < k → p k < k) : ∀ k, (way p k).length ≤ k + 1 ∧ 1 ≤ (way p k).length := by
  intro k
  induction k using Nat.strongRecOn with
  | _ k ih =>
    rcases Nat.eq_zero_or_pos k with rfl | hk
    · exact ⟨Nat.le_refl _, Nat.le_refl _⟩
    · have h1 := hp k hk
      have h2 := ih (p k) h1
      rw [way_step p hp k hk, List.length_append, List.length_singleton]
      (first | lia | omega)
theorem way_get (p : Nat → Nat) (hp : ∀ k, 0 < k → p k < k) : ∀ (a c : Nat), c < (way p a).length → ∃ x : Nat, (way p a).getD c 0 = x ∧ x ≤ a ∧ (c = 0 → x = 0) ∧ (0 < c → 0 < x ∧ (way p a).getD (c - 1) 0 = (p x : Nat)) := by
  intro a
  induction a using Nat.strongRecOn with
  | _ a ih =>
    intro c hc
    rcases Nat.eq_zero_or_pos a with rfl | ha
    · have : (way p 0) = [0] := rfl
      rw [this] at hc ⊢
      simp at hc
      subst hc
      exact ⟨0, rfl, Nat.le_refl _, fun _ => rfl, fun h => absurd h (by (first | lia | omega))⟩
    · have h1 := hp a ha
      have hl := way_len p hp (p a)
      rw [way_step p hp a ha] at hc ⊢
      rw [List.length_append, List.length_singleton] at hc
      by_cases hlt : c < (way p (p a)).length
      · obtain ⟨x, e, h2, h3, h4⟩ := ih (p a) h1 c hlt
        refine ⟨x, ?_, by (first | lia | omega), h3, fun h0 => ⟨(h4 h0).1, ?_⟩⟩
        · rw [getD_left _ _ _ hlt]; exact e
        · rw [getD_left _ _ _ (by (first | lia | omega))]; exact (h4 h0).2
      · have e : c = (way p (p a)).length := by (first | lia | omega)
        subst e
        refine ⟨a, ?_, Nat.le_refl _, fun h0 => by (first | lia | omega), fun h0 => ⟨ha, ?_⟩⟩
        · rw [getD_last]
        · rw [getD_left _ _ _ (by (first | lia | omega))]
          rcases Nat.eq_zero_or_pos (p a) with hz | hz
          · rw [hz]; rfl
          · rw [way_step p hp (p a) hz, List.length_append, List.length_singleton, Nat.add_sub_cancel, getD_last]
theorem way_head (p : Nat → Nat) (hp : ∀ k, 0 < k → p k < k) (a : Nat) : (way p a).getD 0 0 = 0 := by
  obtain ⟨x, e, _, h, _⟩ := way_get p hp a 0 (way_len p hp a).2
  rw [e, h rfl]; rfl
theorem cp_pos (p : Nat → Nat) (hp : ∀ k, 0 < k → p k < k) (a b : Nat) : 0 < cp (way p a) (way p b) := by
  have h1 := way_head p hp a
  have h2 := way_head p hp b
  have l1 := (way_len p hp a).2
  have l2 := (way_len p hp b).2
  cases e1 : way p a with
  | nil => rw [e1] at l1; simp at l1
  | cons x xs =>
    cases e2 : way p b with
    | nil => rw [e2] at l2; simp at l2
    | cons y ys =>
      rw [e1] at h1; rw [e2] at h2
      have h1' : x = 0 := h1
      have h2' : y = 0 := h2
      subst h1' h2'
      unfold cp
      rw [if_pos rfl]
      (first | lia | omega)
/-- what compare answers -/
noncomputable def cmpV (p : Nat → Nat) (fam : Nat → List Int) (a b : Nat) : Int :=
  let wa := way p a
  let wb := way p b
  let c := cp wa wb
  if c = wa.length ∨ c = wb.length then (wa.length : Int) - wb.length
  else
    let x := wa.getD c 0
    ((fam (p x.toNat)).idxOf x : Int) - (fam (p x.toNat)).idxOf (wb.getD c 0)
theorem compare_spec {f cd c1 c2 Td Ws : Addr} {fd : FuncData} {oc o1 o2 : Obj} {vs : Array Value} {tf : Int → Option Value} {FA WA : Nat → Addr} {nF : Nat} {p : Nat → Nat} {fam : Nat → List Int} {a b : Nat} {ta tb : Tok} (hA : Sm A 550 2800) (G : Gd w pr loose mg mb s.heap)
    (hf : s.heap.get? f = some (⟨.type "function", none, .func fd, #[]⟩ : Obj)) (hfd : IsFnS w.params 84 0 (Str.ofString "_law_compare.<locals>.compare") [(Str.ofString "ways", c2), (Str.ofString "table", c1)] cd fd)
    (h1 : s.heap.get? c1 = some o1) (d1 : o1.data = .cell (some (.ref Td))) (h2 : s.heap.get? c2 = some o2) (d2 : o2.data = .cell (some (.ref Ws))) (hcd : s.heap.get? cd = some oc) (hoc : oc.data = .fields vs) (hvs : vs[1]? = some (.str (Str.ofString "_law_compare.<locals>.compare") (tokAt vs)))
    (hT : s.heap.IntMap Td tf) (hW : s.heap.IsList Ws ((List.range nF).map fun j => Value.ref (WA j)).toArray) (hf0 : tf 0 = none) (htf : ∀ k : Nat, 0 < k → k < nF → tf k = some (.ref (FA (p k)))) (hp : ∀ k, 0 < k → p k < k)
    (ha : a < nF) (hb : b < nF) (hn : nF ≤ 20) (hways : ∀ j, j < nF → ∃ us, s.heap.IsList (WA j) us.toArray ∧ IntsAre us (way p j)) (hfam : ∀ j, j < nF → ∃ us e, s.heap.get? (FA j) = some (listOf us.toArray e) ∧ IntsAre us (fam j)) (hfl : ∀ j, j < nF → (fam j).length ≤ 100) (hin : ∀ k : Nat, 0 < k → k < nF → (k : Int) ∈ fam (p k)) (hsm : ∀ j, j < nF → ∀ x ∈ fam j, 0 ≤ x ∧ x < 64)
    (hR : ∀ h' tk t, (∀ b o, s.heap.get? b = some o → h'.get? b = some o) → R (.ok (.ret (.int (cmpV p fam a b) t))) { s with heap := h', toks := tk }) :
    codeAny (model PySem.Challenge.rw_ij0154_01.prog w) A (.call (.ref f) ⟨[.int a ta, .int b tb], []⟩) R s := by
  have X := G.X
  have T := G.T
  have e84 := G.X 84 (lk w.params 84) (by kernel_rfl)
  revert X; k_fill; intro X
  have hst := stF_of (X 84 _ rfl) e84 rfl rfl (i := 0) rfl
  rw [IsFnS, hst] at hfd
  clear hst e84
  simp only [dName, dBody, dParams, dScope] at hfd
  refine enterF (binds := [(Str.ofString "a", .int a ta), (Str.ofString "b", .int b tb)]) hA (by decide) hf (congrArg Data.func hfd) G.T.nolimit ⟨cd, oc, vs, _, rfl, hcd, hoc, hvs⟩ (BindsTo.of_eq rfl) (by decide) (locs rfl) (fun h₁ F => ?_)
  clear hfd
  generalize hm : (fun y => List.lookup y (List.reverse [(Str.ofString "a", Value.int (a : Int) ta), (Str.ofString "b", Value.int (b : Int) tb)])) = m at F
  have m1 : m (Str.ofString "a") = some (.int a ta) := by rw [← hm]; rfl
  have m2 : m (Str.ofString "b") = some (.int b tb) := by rw [← hm]; rfl
  clear hm
  generalize s.heap.objs.size = L at F ⊢
  have N : News s.heap L h₁ [] := News.nil
  generalize s.toks + _ = tk at *
  obtain ⟨ua, hwa, iwa⟩ := hways a ha
  obtain ⟨ub, hwb, iwb⟩ := hways b hb
  have la := (way_len p hp a).1
  have lb := (way_len p hp b).1
  walk_at "z_go"
  refine ⟨X.keeps F.keep, ?_⟩
  refine wpAny_call (shared_spec ((sm_AM _ _).le (by decide) (by decide)) (X.keeps F.keep) (T.keeps F.keep) (F.lst hwa) iwa (F.lst hwb) iwb (by (first | lia | omega)) (by (first | lia | omega)) fun h2 tk2 r k2 hr2 hn2 => ?_)
  have F2 := F.keeps k2
  have N2 : News s.heap L h2 [(r, listOf (ua.take (cp (way p a) (way p b))).toArray 0)] := news_cons .nil hr2 (fr_none F hn2)
  have ic := iwa.take (cp (way p a) (way p b))
  have cl := cp_le (way p a) (way p b)
  have lc : ((way p a).take (cp (way p a) (way p b))).length = cp (way p a) (way p b) := by rw [List.length_take]; (first | lia | omega)
  clear F N
  have cpos := cp_pos p hp a b
  unfold cmpV at hR
  simp only at hR
  have hcg := cp_get (way p a) (way p b) (cp (way p a) (way p b) - 1) (by (first | lia | omega))
  have ga := way_get p hp a (cp (way p a) (way p b))
  have gb := way_get p hp b (cp (way p a) (way p b))
  dsimp only
  generalize cp (way p a) (way p b) = c at *
  walk_at "z_fam"
  all_goals (try (rw [if_pos (by (first | lia | omega))] at hR; first | exact hR _ _ _ (by rename Fr _ _ _ _ => F'; exact F'.keep)))
  rw [if_neg (by (first | lia | omega))] at hR
  obtain ⟨x, ex, hxa, -, hx⟩ := ga (by (first | lia | omega))
  obtain ⟨y, ey, hyb, -, hy⟩ := gb (by (first | lia | omega))
  obtain ⟨hx0, hxp⟩ := hx cpos
  obtain ⟨hy0, hyp⟩ := hy cpos
  have hpp : p x = p y := by
    have : ((p x : Nat) : Int) = ((p y : Nat) : Int) := hxp.symm.trans (hcg.trans hyp)
    exact Int.ofNat_inj.mp this
  have hpx := hp x hx0
  have hmap : tf ((way p a).getD c 0) = some (.ref (FA (p x))) := by rw [ex]; exact htf x hx0 (by (first | lia | omega))
  obtain ⟨uf, euf, huf0, iuf⟩ := hfam (p x) (by (first | lia | omega))
  have huf := isList_at huf0
  have hix : (way p a).getD c 0 ∈ fam (p x) := by rw [ex]; exact hin x hx0 (by (first | lia | omega))
  have hiy : (way p b).getD c 0 ∈ fam (p x) := by rw [ey, hpp]; exact hin y hy0 (by (first | lia | omega))
  have hlay : PyData.layable0 (.list ((fam (p x)).map .int)) = true := lay_small (hsm (p x) (by (first | lia | omega))) (Nat.le_trans (hfl (p x) (by (first | lia | omega))) (by decide))
  rw [show ((way p a).getD c 0).toNat = x by rw [ex]; rfl] at hR
  walk1
  walk_at "z_go"
  exact hR _ _ _ (by rename Fr _ _ _ _ => F'; exact F'.keep)
end
end Mine
end
section
open PySem PySem.W PyProof.Rows
set_option Elab.async false
set_option maxRecDepth 100000
set_option maxHeartbeats 2000000
set_option linter.unusedVariables false
namespace Mine
section
variable {rank : Nat → Int} {n : Nat}
/-- the tree of a sort's questions, answered by rank -/
noncomputable def Ok (rank : Nat → Int) (n : Nat) {α : Type} : KasT α → (α → Prop) → Prop
  | .ret a, P => P a
  | .ask i j k, P => i < n ∧ j < n ∧ Ok rank n (k (decide (rank i < rank j))) P
theorem Ok.bind {α β : Type} {f : α → KasT β} {P : β → Prop} : ∀ {t : KasT α}, Ok rank n t (fun a => Ok rank n (f a) P) → Ok rank n (t.bind f) P
  | .ret _, h => h
  | .ask _ _ _, h => ⟨h.1, h.2.1, Ok.bind h.2.2⟩
theorem Ok.mono {α : Type} {P P' : α → Prop} (hp : ∀ a, P a → P' a) : ∀ {t : KasT α}, Ok rank n t P → Ok rank n t P'
  | .ret _, h => hp _ h
  | .ask _ _ _, h => ⟨h.1, h.2.1, Ok.mono hp h.2.2⟩
theorem Ok.go {α : Type} {cmp : Nat → Nat → (Bool → Shared → Prop) → Shared → Prop} {I : Shared → Prop} {Q : α → Shared → Prop} {P : α → Prop}
    (hc : ∀ i j C s, i < n → j < n → I s → (∀ s', I s' → C (decide (rank i < rank j)) s') → cmp i j C s) (hq : ∀ a s, P a → I s → Q a s) : ∀ {t : KasT α} {s : Shared}, Ok rank n t P → I s → t.kasWp cmp Q s
  | .ret a, s, h, hi => hq a s h hi
  | .ask i j k, s, h, hi => hc i j _ s h.1 h.2.1 hi fun s' hi' => Ok.go hc hq h.2.2 hi'
noncomputable def Kr (rank : Nat → Int) (p : Array Nat) (k : Nat) : Int := rank (p.getD k 0)
noncomputable def Srt (rank : Nat → Int) (p : Array Nat) (k : Nat) : Prop := ∀ i j, i ≤ j → j < k → Kr rank p i ≤ Kr rank p j
noncomputable def NInc (rank : Nat → Int) (p : Array Nat) (k : Nat) : Prop := ∀ i j, i ≤ j → j < k → Kr rank p j ≤ Kr rank p i
noncomputable def Pm (n : Nat) (p : Array Nat) : Prop := p.Perm (List.toArray (List.range n))
theorem Pm.size {p : Array Nat} (h : Pm n p) : p.size = n := by have := h.size_eq; simpa using this
theorem Pm.lt {p : Array Nat} (h : Pm n p) {i : Nat} (hi : i < n) : p.getD i 0 < n := by
  have hi' : i < p.size := by rw [h.size]; exact hi
  have e : p.getD i 0 = p[i] := by simp [Array.getD, hi']
  rw [e]
  have hm : p[i] ∈ p.toList := by simp
  have := (Array.perm_iff_toList_perm.mp h).mem_iff.mp hm
  simpa using this
theorem Pm.rev {p : Array Nat} (h : Pm n p) (i j : Nat) : Pm n (kas_rev p i j) := (mirror_perm p i j _).trans h
theorem Pm.bub {p : Array Nat} (h : Pm n p) (i j : Nat) : Pm n (bubble p i j) := (bubble_perm p i j).trans h
theorem Kr_congr {p q : Array Nat} {i j : Nat} (h : p[i]? = q[j]?) : Kr rank p i = Kr rank q j := by
  unfold Kr
  rw [Array.getD_eq_getD_getElem?, Array.getD_eq_getD_getElem?, h]
theorem Kr_rev {p : Array Nat} {i j : Nat} (hj : j ≤ p.size) (k : Nat) : Kr rank (kas_rev p i j) k = if i ≤ k ∧ k < j then Kr rank p (i + j - 1 - k) else Kr rank p k := by
  have e := getElem?_mirror_all (xs := p) (i := i) hj k
  by_cases h1 : i ≤ k ∧ k < j
  · rw [if_pos h1] at e ⊢; exact Kr_congr e
  · rw [if_neg h1] at e ⊢; exact Kr_congr e
theorem Kr_rev_equal {p : Array Nat} {i j : Nat} (hj : j ≤ p.size) (heq : ∀ k, i ≤ k → k < j → Kr rank p k = Kr rank p (j - 1)) (k : Nat) : Kr rank (kas_rev p i j) k = Kr rank p k := by
  rw [Kr_rev hj]
  split
  · rw [heq _ (by (first | lia | omega)) (by (first | lia | omega)), heq k (by (first | lia | omega)) (by (first | lia | omega))]
  · rfl
theorem Kr_bubble {p : Array Nat} {src d : Nat} (hs : src < p.size) (hd : d ≤ src) (k : Nat) :
    Kr rank (bubble p src d) k = if k = src - d then Kr rank p src else if src - d < k ∧ k ≤ src then Kr rank p (k - 1) else Kr rank p k := by
  have e := getElem?_bubble hs d hd k
  by_cases h1 : k = src - d
  · rw [if_pos h1] at e ⊢; exact Kr_congr e
  · rw [if_neg h1] at e ⊢
    by_cases h2 : src - d < k ∧ k ≤ src
    · rw [if_pos h2] at e ⊢; exact Kr_congr e
    · rw [if_neg h2] at e ⊢; exact Kr_congr e
theorem srt_step {p : Array Nat} {x : Nat} (hs : Srt rank p x) (h : Kr rank p (x - 1) ≤ Kr rank p x) : Srt rank p (x + 1) := by
  intro i j hij hj
  by_cases hjx : j < x
  · exact hs i j hij hjx
  · have hj' : j = x := by (first | lia | omega)
    subst hj'
    by_cases hi' : i = j
    · subst hi'; exact Int.le_refl _
    · exact Int.le_trans (hs i (j - 1) (by (first | lia | omega)) (by (first | lia | omega))) h
theorem ninc_step {p : Array Nat} {x : Nat} (hs : NInc rank p x) (h : Kr rank p x ≤ Kr rank p (x - 1)) : NInc rank p (x + 1) := by
  intro i j hij hj
  by_cases hjx : j < x
  · exact hs i j hij hjx
  · have hj' : j = x := by (first | lia | omega)
    subst hj'
    by_cases hi' : i = j
    · subst hi'; exact Int.le_refl _
    · exact Int.le_trans h (hs i (j - 1) (by (first | lia | omega)) (by (first | lia | omega)))
theorem ok_asc {p : Array Nat} (hp : Pm n p) {P : Nat → Prop} : ∀ (f a : Nat), 1 ≤ a → a + f = n → Srt rank p a → (∀ m, a ≤ m → m ≤ n → Srt rank p m → (m = n ∨ Kr rank p m < Kr rank p (m - 1)) → P m) → Ok rank n (kas_asc p f a) P
  | 0, a, h1, hf, hs, h => h a (Nat.le_refl _) (by (first | lia | omega)) hs (.inl (by (first | lia | omega)))
  | f + 1, a, h1, hf, hs, h => by
    refine ⟨hp.lt (by (first | lia | omega)), hp.lt (by (first | lia | omega)), ?_⟩
    by_cases hlt : rank (p.getD a 0) < rank (p.getD (a - 1) 0)
    · rw [decide_eq_true hlt]; dsimp only; rw [if_pos rfl]
      exact h a (Nat.le_refl _) (by (first | lia | omega)) hs (.inr hlt)
    · rw [decide_eq_false hlt]; dsimp only; rw [if_neg Bool.false_ne_true]
      exact ok_asc hp f (a + 1) (by (first | lia | omega)) (by (first | lia | omega)) (srt_step hs (Int.not_lt.mp hlt)) fun m hm => h m (by (first | lia | omega))
theorem ok_tail3 {p : Array Nat} (hp : Pm n p) {k : Nat} {P : Nat × Array Nat → Prop} (h1 : 1 ≤ k) (hk : k ≤ n) (hs : NInc rank p k) (h : ∀ m q, Pm n q → 1 ≤ m → m ≤ n → Srt rank q m → P (m, q)) : Ok rank n (kas_tail3 k n p) P := by
  unfold kas_tail3
  have hsz : k ≤ p.size := by rw [hp.size]; exact hk
  refine Ok.bind (ok_asc (hp.rev 0 k) (n - k) k h1 (by (first | lia | omega)) ?_ fun m h2 h3 h4 _ => h m _ (hp.rev 0 k) (by (first | lia | omega)) h3 h4)
  intro i j hij hj
  rw [Kr_rev hsz, Kr_rev hsz, if_pos (by (first | lia | omega)), if_pos (by (first | lia | omega))]
  exact hs _ _ (by (first | lia | omega)) (by (first | lia | omega))
theorem ok_desc {P : Array Nat × Nat × Nat → Prop} : ∀ (f : Nat) (p : Array Nat) (x q : Nat), Pm n p → 1 ≤ x → x + f = n → NInc rank p x → q + 1 ≤ x → (∀ i, x - (q + 1) ≤ i → i < x → Kr rank p i = Kr rank p (x - 1)) →
    (∀ p' m q', Pm n p' → x ≤ m → m ≤ n → NInc rank p' m → q' + 1 ≤ m → (∀ i, m - (q' + 1) ≤ i → i < m → Kr rank p' i = Kr rank p' (m - 1)) → P (p', m, q')) → Ok rank n (kas_desc f p x q) P
  | 0, p, x, q, hp, h1, hf, hs, hq, he, h => h p x q hp (Nat.le_refl _) (by (first | lia | omega)) hs hq he
  | f + 1, p, x, q, hp, h1, hf, hs, hq, he, h => by
    have hsz : x ≤ p.size := by rw [hp.size]; (first | lia | omega)
    refine ⟨hp.lt (by (first | lia | omega)), hp.lt (by (first | lia | omega)), ?_⟩
    by_cases hlt : rank (p.getD x 0) < rank (p.getD (x - 1) 0)
    · rw [decide_eq_true hlt]; dsimp only; rw [if_pos rfl]
      by_cases hq0 : q > 0
      · rw [if_pos hq0]
        have ek := Kr_rev_equal (rank := rank) hsz he
        refine ok_desc f _ (x + 1) 0 (hp.rev _ _) (by (first | lia | omega)) (by (first | lia | omega)) (ninc_step (fun i j a b => ?_) ?_) (by (first | lia | omega)) (fun i a b => by congr 1; (first | lia | omega)) fun p' m q' a b => h p' m q' a (by (first | lia | omega))
        · rw [ek, ek]; exact hs i j a b
        · rw [ek, ek]; exact Int.le_of_lt hlt
      · rw [if_neg hq0]
        exact ok_desc f _ (x + 1) 0 hp (by (first | lia | omega)) (by (first | lia | omega)) (ninc_step hs (Int.le_of_lt hlt)) (by (first | lia | omega)) (fun i a b => by congr 1; (first | lia | omega)) fun p' m q' a b => h p' m q' a (by (first | lia | omega))
    · rw [decide_eq_false hlt]; dsimp only; rw [if_neg Bool.false_ne_true]
      refine ⟨hp.lt (by (first | lia | omega)), hp.lt (by (first | lia | omega)), ?_⟩
      by_cases hgt : rank (p.getD (x - 1) 0) < rank (p.getD x 0)
      · rw [decide_eq_true hgt]; dsimp only; rw [if_pos rfl]
        exact h p x q hp (Nat.le_refl _) (by (first | lia | omega)) hs hq he
      · rw [decide_eq_false hgt]; dsimp only; rw [if_neg Bool.false_ne_true]
        have hx : Kr rank p x = Kr rank p (x - 1) := by unfold Kr; (first | lia | omega)
        refine ok_desc f p (x + 1) (q + 1) hp (by (first | lia | omega)) (by (first | lia | omega)) (ninc_step hs (by (first | lia | omega))) (by (first | lia | omega)) (fun i a b => ?_) fun p' m q' a b => h p' m q' a (by (first | lia | omega))
        rw [show x + 1 - 1 = x by (first | lia | omega)]
        by_cases hix : i = x
        · subst hix; rfl
        · rw [hx]; exact he i (by (first | lia | omega)) (by (first | lia | omega))
theorem ok_descPart {p : Array Nat} (hp : Pm n p) {k : Nat} {P : Nat × Array Nat → Prop} (hk : k + 1 ≤ n) (hs : NInc rank p (k + 1)) (h : ∀ m q, Pm n q → 1 ≤ m → m ≤ n → Srt rank q m → P (m, q)) : Ok rank n (kas_descPart k n p) P := by
  unfold kas_descPart
  refine Ok.bind (ok_desc (n - (k + 1)) p (k + 1) 0 hp (by (first | lia | omega)) (by (first | lia | omega)) hs (by (first | lia | omega)) (fun i a b => by congr 1; (first | lia | omega)) fun p' m q' hp' h1 h2 h3 h4 h5 => ?_)
  have hsz : m ≤ p'.size := by rw [hp'.size]; exact h2
  dsimp only
  by_cases hq0 : q' > 0
  · rw [if_pos hq0]
    refine ok_tail3 (hp'.rev _ _) (by (first | lia | omega)) h2 (fun i j a b => ?_) h
    have ek := Kr_rev_equal (rank := rank) hsz h5
    rw [ek, ek]
    exact h3 i j a b
  · rw [if_neg hq0]
    exact ok_tail3 hp' (by (first | lia | omega)) h2 h3 h
theorem ok_count {p : Array Nat} (hp : Pm n p) {P : Nat × Array Nat → Prop} (hn : 1 ≤ n) (h : ∀ m q, Pm n q → 1 ≤ m → m ≤ n → Srt rank q m → P (m, q)) : Ok rank n (kas_count n p) P := by
  unfold kas_count
  refine Ok.bind (ok_asc hp (n - 1) 1 (Nat.le_refl _) (by omega) (fun i j a b => by have : i = j := by (first | lia | omega)
                                                                                    subst this; exact Int.le_refl _) fun m h1 h2 h3 h4 => ?_)
  by_cases hm : m = n
  · rw [if_pos (by simpa using hm)]
    exact h m p hp h1 h2 h3
  · rw [if_neg (by simpa using hm)]
    have hlt : Kr rank p m < Kr rank p (m - 1) := h4.resolve_left hm
    have hsz : m ≤ p.size := by rw [hp.size]; exact h2
    by_cases hgt : m > 1
    · rw [if_pos hgt]
      refine ⟨hp.lt (by (first | lia | omega)), hp.lt (by (first | lia | omega)), ?_⟩
      by_cases hr : rank (p.getD 0 0) < rank (p.getD (m - 1) 0)
      · rw [decide_eq_true hr]; dsimp only; rw [if_pos rfl]
        exact h m p hp h1 h2 h3
      · rw [decide_eq_false hr]; dsimp only; rw [if_neg Bool.false_ne_true]
        have hall : ∀ k, 0 ≤ k → k < m → Kr rank p k = Kr rank p (m - 1) := by
          intro k _ hk
          have a1 := h3 0 k (by (first | lia | omega)) hk
          have a2 := h3 k (m - 1) (by (first | lia | omega)) (by (first | lia | omega))
          have a3 : ¬ Kr rank p 0 < Kr rank p (m - 1) := hr
          (first | lia | omega)
        have ek := Kr_rev_equal (rank := rank) hsz hall
        refine ok_descPart (hp.rev _ _) (by (first | lia | omega)) (ninc_step (fun i j a b => ?_) ?_) h
        · rw [ek, ek, hall i (by (first | lia | omega)) (by (first | lia | omega)), hall j (by (first | lia | omega)) b]; exact Int.le_refl _
        · rw [ek, ek]; exact Int.le_of_lt hlt
    · rw [if_neg hgt]
      have : m = 1 := by (first | lia | omega)
      subst this
      exact ok_descPart hp (by omega) (ninc_step (fun i j a b => by have : i = j := by (first | lia | omega)
                                                                    subst this; exact Int.le_refl _) (Int.le_of_lt hlt)) h
theorem ok_place {p : Array Nat} (hp : Pm n p) {k : Nat} (hk : k < n) (hs : Srt rank p k) {P : Nat → Prop} (h : ∀ l, l ≤ k → (∀ i, i < l → Kr rank p i ≤ Kr rank p k) → (∀ i, l ≤ i → i < k → Kr rank p k < Kr rank p i) → P l) :
    ∀ (f l r : Nat), l ≤ r → r ≤ k → r - l ≤ f → (∀ i, i < l → Kr rank p i ≤ Kr rank p k) → (∀ i, r ≤ i → i < k → Kr rank p k < Kr rank p i) → Ok rank n (kas_place p k f l r) P
  | 0, l, r, h1, h2, h3, h4, h5 => h l (by (first | lia | omega)) h4 (fun i a b => h5 i (by (first | lia | omega)) b)
  | f + 1, l, r, h1, h2, h3, h4, h5 => by
    unfold kas_place
    by_cases hge : l ≥ r
    · rw [if_pos hge]
      exact h l (by (first | lia | omega)) h4 (fun i a b => h5 i (by (first | lia | omega)) b)
    · rw [if_neg hge]
      refine ⟨hp.lt (by (first | lia | omega)), hp.lt (by (first | lia | omega)), ?_⟩
      by_cases hless : rank (p.getD k 0) < rank (p.getD ((l + r) / 2) 0)
      · rw [decide_eq_true hless]; dsimp only; rw [if_pos rfl]
        exact ok_place hp hk hs h f l ((l + r) / 2) (by (first | lia | omega)) (by (first | lia | omega)) (by (first | lia | omega)) h4 fun i a b => Int.lt_of_lt_of_le hless (hs _ _ a b)
      · rw [decide_eq_false hless]; dsimp only; rw [if_neg Bool.false_ne_true]
        exact ok_place hp hk hs h f ((l + r) / 2 + 1) r (by (first | lia | omega)) (by (first | lia | omega)) (by (first | lia | omega)) (fun i a => Int.le_trans (hs i ((l + r) / 2) (by (first | lia | omega)) (by (first | lia | omega))) (Int.not_lt.mp hless)) h5
theorem ok_bin {P : Array Nat → Prop} (h : ∀ q, Pm n q → Srt rank q n → P q) : ∀ (f : Nat) (p : Array Nat) (k : Nat), Pm n p → k + f = n → Srt rank p k → Ok rank n (kas_bin f p k) P
  | 0, p, k, hp, hk, hs => h p hp (by rw [← hk]; exact hs)
  | f + 1, p, k, hp, hk, hs => by
    unfold kas_bin
    refine Ok.bind (ok_place hp (by (first | lia | omega)) hs (fun l hl hlo hhi => ?_) k 0 k (by (first | lia | omega)) (by (first | lia | omega)) (by (first | lia | omega)) (fun i a => absurd a (Nat.not_lt_zero _)) fun i a b => absurd a (by (first | lia | omega)))
    refine ok_bin h f _ (k + 1) (hp.bub _ _) (by (first | lia | omega)) ?_
    have hks : k < p.size := by rw [hp.size]; (first | lia | omega)
    intro i j hij hj
    rw [Kr_bubble hks (by (first | lia | omega)), Kr_bubble hks (by (first | lia | omega)), show k - (k - l) = l by (first | lia | omega)]
    repeat' split
    all_goals first
      | (exfalso; (first | lia | omega))
      | exact Int.le_refl _
      | exact hlo _ (by (first | lia | omega))
      | exact Int.le_of_lt (hhi _ (by (first | lia | omega)) (by (first | lia | omega)))
      | exact hs _ _ (by (first | lia | omega)) (by (first | lia | omega))
/-- the library's sort, asked by rank, gives a sorted row of all the places -/
theorem ok_sort (hn : 1 ≤ n) : Ok rank n (kas_sort n) (fun p => Pm n p ∧ Srt rank p n) := by
  unfold kas_sort
  refine Ok.bind (ok_count (Array.Perm.refl _) hn fun m q hq h1 h2 hs => ?_)
  dsimp only
  by_cases hm : m < n
  · rw [if_pos hm, show max m 1 = m by (first | lia | omega)]
    exact ok_bin (fun q hq hs => ⟨hq, hs⟩) (n - m) q m hq (by (first | lia | omega)) hs
  · rw [if_neg hm]
    have : m = n := by (first | lia | omega)
    subst this
    exact ⟨hq, hs⟩
end
end Mine
end
section
open PySem PySem.W PySem.Calls PyProof.Rows
set_option Elab.async false
set_option maxRecDepth 100000
set_option maxHeartbeats 4000000
set_option linter.unusedVariables false
namespace Mine
/-- what a key's call leaves: the key, and the objects that it made -/
noncomputable def KeyEnd (h₀ : Heap) (L : Addr) (m : Str → Option Value) (need : List (Addr × Obj)) (KO : Value → List (Addr × Obj) → Prop) (s₁ : Shared) (v : Value) (s₂ : Shared) : Prop :=
  ∃ h' tk o, s₂ = { s₁ with heap := h', toks := tk } ∧ Fr h₀ L h' m ∧ News h₀ L h' (o ++ need) ∧ (∀ p ∈ o, s₁.heap.get? p.1 = none) ∧ KO v o
/-- the objects that the keys made -/
noncomputable def KeysAre (KO : Nat → Value → List (Addr × Obj) → Prop) : Nat → List Value → List (Addr × Obj) → Prop
  | _, [], _ => True
  | i, v :: vs, all => (∃ o, KO i v o ∧ ∀ p ∈ o, p ∈ all) ∧ KeysAre KO (i + 1) vs all
theorem KeysAre.more {KO : Nat → Value → List (Addr × Obj) → Prop} {all all' : List (Addr × Obj)} (k : ∀ p ∈ all, p ∈ all') : ∀ {i : Nat} {vs : List Value}, KeysAre KO i vs all → KeysAre KO i vs all'
  | _, [], _ => trivial
  | _, _ :: _, ⟨⟨o, h1, h2⟩, h3⟩ => ⟨⟨o, h1, fun p hp => k p (h2 p hp)⟩, KeysAre.more k h3⟩
theorem KeysAre.snoc {KO : Nat → Value → List (Addr × Obj) → Prop} {all o : List (Addr × Obj)} {v : Value} : ∀ {i : Nat} {vs : List Value}, KeysAre KO i vs all → KO (i + vs.length) v o → KeysAre KO i (vs ++ [v]) (o ++ all)
  | i, [], _, hv => ⟨⟨o, by simpa using hv, fun p hp => List.mem_append_left _ hp⟩, trivial⟩
  | i, u :: vs, ⟨⟨o', h1, h2⟩, h3⟩, hv => ⟨⟨o', h1, fun p hp => List.mem_append_right _ (h2 p hp)⟩, KeysAre.snoc h3 (by rw [List.length_cons] at hv; rw [show i + 1 + vs.length = i + (vs.length + 1) by (first | lia | omega)]; exact hv)⟩
theorem KeysAre.get {KO : Nat → Value → List (Addr × Obj) → Prop} {all : List (Addr × Obj)} : ∀ {i : Nat} {vs : List Value}, KeysAre KO i vs all → ∀ (j : Nat), j < vs.length → ∃ o, KO (i + j) (vs.getD j Value.none) o ∧ ∀ p ∈ o, p ∈ all
  | _, [], _, j, hj => absurd hj (Nat.not_lt_zero _)
  | i, v :: vs, ⟨h1, _⟩, 0, _ => h1
  | i, v :: vs, ⟨_, h2⟩, j + 1, hj => by
    have := KeysAre.get h2 j (by simpa using hj)
    rw [show i + (j + 1) = i + 1 + j by (first | lia | omega)]
    exact this
section
variable {prog : Program} {w : World} {A : Around} {E : Value → Shared → Prop} {s : Shared} {h₀ : Heap} {L : Addr} {m : Str → Option Value} {news : List (Addr × Obj)} {a kS : Addr} {vs : List Value} {e1 : Nat} {P : PySem.Fin → Shared → Prop}
  {KO : Nat → Value → List (Addr × Obj) → Prop} {rank : Nat → Int} {T : Value}
theorem zip_item {keys : Array Value} (hk : keys.size = vs.length) {i : Nat} (hi : i < vs.length) : kas_item (keys.zip vs.toArray) i = (keys.toList.getD i Value.none, vs.getD i Value.none) := by
  have hi1 : i < keys.size := by (first | lia | omega)
  have hz : i < (keys.zip vs.toArray).size := by rw [Array.size_zip, List.size_toArray]; exact Nat.lt_min.mpr ⟨hi1, hi⟩
  unfold kas_item
  have e : (keys.zip vs.toArray).getD i (Value.none, Value.none) = (keys.zip vs.toArray)[i] := by
    unfold Array.getD; rw [dif_pos hz]; rfl
  rw [e, Array.getElem_zip]
  simp [hi, hi1]
/-- the sort's end, its keys in hand -/
theorem sb_end {keys : Array Value} {e : Nat} {all : List (Addr × Obj)} (F : Fr h₀ L s.heap m) (N : News h₀ L s.heap (all ++ news ++ [(kS, seqObj "list" keys e), (a, seqObj "list" #[] e1)])) (hka : kS ≠ a) (hnk : ∀ p ∈ all ++ news, p.1 ≠ kS) (hna : ∀ p ∈ all ++ news, p.1 ≠ a)
    (hk : KeysAre KO 0 keys.toList all) (hlen : keys.size = vs.length) (h2 : 2 ≤ vs.length) (h64 : vs.length < 64)
    (looks : ∀ i v o need h, KO i v o → Fr h₀ L h m → News h₀ L h need → (∀ p ∈ o, p ∈ need) → (∀ p ∈ news, p ∈ need) → Looks (model prog w) h (typeOf v) T) (hT1 : (T != Value.type "tuple") = true) (hT2 : (T == T) = true)
    (ask : ∀ i j vi vj oi oj need h tk, KO i vi oi → KO j vj oj → i < vs.length → j < vs.length → Fr h₀ L h m → News h₀ L h need → (∀ p ∈ oi, p ∈ need) → (∀ p ∈ oj, p ∈ need) → (∀ p ∈ news, p ∈ need) →
      wpAny (model prog w) A (keyLt' oneType' vi vj) (fun b s' => b = decide (rank i < rank j) ∧ ∃ h' tk', s' = { s with heap := h', toks := tk' } ∧ Fr h₀ L h' m ∧ News h₀ L h' need) (fun _ _ => False) { s with heap := h, toks := tk })
    (h : ∀ h' tk p c, Fr h₀ L h' m → News h₀ L h' ((a, seqObj "list" (List.toArray (p.toList.map fun i => vs.getD i Value.none)) c) :: news) → Pm vs.length p → Srt rank p vs.length → P (.done (.ret .none)) { s with heap := h', toks := tk }) :
    wpAny (model prog w) A (ksk_end a false vs.toArray e1 (.ref kS) keys) P E s := by
  have hn2 : ¬ vs.toArray.size < 2 := by rw [List.size_toArray]; (first | lia | omega)
  have hzs : (keys.zip vs.toArray).size = vs.length := by rw [Array.size_zip, hlen, List.size_toArray, Nat.min_self]
  have hkl : keys.toList.length = vs.length := by rw [Array.length_toList]; exact hlen
  unfold ksk_end
  simp only [Bool.false_eq_true, if_false]
  rw [if_neg hn2, if_neg hn2]
  have kind := kas_kind (M := model prog w) (A := A) (E := E) (s := s) (vs := keys.toList) (T := T) (Q := fun k s' => k = oneType' ∧ s' = s) (by (first | lia | omega)) (fun v hv => by
    obtain ⟨i, hi, rfl⟩ := List.getElem_of_mem hv
    obtain ⟨o, ho, hsub⟩ := hk.get i hi
    have e : keys.toList.getD i Value.none = keys.toList[i] := by rw [List.getD_eq_getElem?_getD, List.getElem?_eq_getElem hi]; rfl
    rw [e] at ho
    exact looks _ _ o _ s.heap ho F N (fun p hp => by simp only [List.mem_append]; exact .inl (.inl (hsub p hp))) (fun p hp => by simp only [List.mem_append]; exact .inl (.inr hp))) hT1 hT2 ⟨rfl, rfl⟩
  rw [Array.toArray_toList] at kind
  refine wpAny_bind (wpAny_mono kind ?_ fun _ _ e => e)
  rintro k' s' ⟨e1', e2'⟩
  rw [e2', e1']
  have est : SortSt.mk' oneType' (keys.zip vs.toArray) #[] 7 none = kas_st oneType' (keys.zip vs.toArray) (List.toArray (List.range vs.length)) := by
    have e := kas_range (keys.zip vs.toArray)
    rw [hzs] at e
    show SortSt.mk' oneType' (keys.zip vs.toArray) #[] 7 none = SortSt.mk' oneType' ((List.toArray (List.range vs.length)).map (kas_item (keys.zip vs.toArray))) #[] 7 none
    rw [e]
  rw [est]
  have run := kas_runs (prog := prog) (w := w) (A := A) (E := E) (κ := oneType') (it := keys.zip vs.toArray) (n := vs.length) (s := s)
    (Q := fun _ st' s' => ∃ p : Array Nat, Pm vs.length p ∧ Srt rank p vs.length ∧ arrOf st' = p.map (kas_item (keys.zip vs.toArray)) ∧ failedOf st' = none ∧ ∃ h' tk, s' = { s with heap := h', toks := tk } ∧ Fr h₀ L h' m ∧ News h₀ L h' (all ++ news ++ [(kS, seqObj "list" keys e), (a, seqObj "list" #[] e1)]))
    (G := fun p s' => (Pm vs.length p ∧ Srt rank p vs.length) ∧ ∃ h' tk, s' = { s with heap := h', toks := tk } ∧ Fr h₀ L h' m ∧ News h₀ L h' (all ++ news ++ [(kS, seqObj "list" keys e), (a, seqObj "list" #[] e1)]))
    h2 h64 (fun p' st' s' a1 a2 a3 a4 => ⟨p', a4.1.1, a4.1.2, a2, a3, a4.2⟩)
    (Ok.go (I := fun s' => ∃ h' tk, s' = { s with heap := h', toks := tk } ∧ Fr h₀ L h' m ∧ News h₀ L h' (all ++ news ++ [(kS, seqObj "list" keys e), (a, seqObj "list" #[] e1)])) (fun i j C s' hi hj hI hC => by
      obtain ⟨h', tk, rfl, F', N'⟩ := hI
      unfold kas_cmp
      rw [zip_item hlen hi, zip_item hlen hj]
      obtain ⟨oi, hoi, si⟩ := hk.get i (by (first | lia | omega))
      obtain ⟨oj, hoj, sj⟩ := hk.get j (by (first | lia | omega))
      rw [Nat.zero_add] at hoi hoj
      refine wpAny_mono (ask i j _ _ oi oj _ h' tk hoi hoj hi hj F' N' (fun p hp => by simp only [List.mem_append]; exact .inl (.inl (si p hp))) (fun p hp => by simp only [List.mem_append]; exact .inl (.inl (sj p hp))) (fun p hp => by simp only [List.mem_append]; exact .inl (.inr hp))) ?_ fun _ _ e => e
      rintro b s'' ⟨rfl, hI'⟩
      exact hC s'' hI') (fun p s' hp hI => ⟨hp, hI⟩) (ok_sort (rank := rank) (n := vs.length) (by (first | lia | omega))) ⟨s.heap, s.toks, rfl, F, N⟩)
  refine wpAny_bind (wpAny_mono run ?_ fun _ _ e => e)
  rintro ⟨⟨⟩, st'⟩ s' ⟨p, hp, hs, har, hf, h', tk, rfl, F', N'⟩
  dsimp only
  have nk := N' (kS, seqObj "list" keys e) (List.mem_append_right _ (.head _))
  have na := N' (a, seqObj "list" #[] e1) (List.mem_append_right _ (.tail _ (.head _)))
  have Nn : News h₀ L h' (all ++ news) := fun p hp => N' p (List.mem_append_left _ hp)
  have hout : (arrOf st').map (·.2) = List.toArray (p.toList.map fun i => vs.getD i Value.none) := by
    apply Array.toList_inj.mp
    rw [har, Array.map_map, Array.toList_map]
    refine List.map_congr_left fun i hi => ?_
    have hi' : i < vs.length := by
      have := (Array.perm_iff_toList_perm.mp hp).mem_iff.mp hi
      simpa using this
    show (kas_item (keys.zip vs.toArray) i).2 = _
    rw [zip_item hlen hi']
  have hsz : (List.toArray (p.toList.map fun i => vs.getD i Value.none)).size = vs.length := by rw [List.size_toArray, List.length_map, Array.length_toList, hp.size]
  have s1 := Heap.SameBut.update h' kS (Obj.mapSeq fun _ => (#[] : Array Value))
  have na1 : (h'.update kS (Obj.mapSeq fun _ => (#[] : Array Value))).get? a = some (seqObj "list" #[] e1) := (s1.2 a hka.symm).trans na.1
  have s2 := Heap.SameBut.update (h'.update kS (Obj.mapSeq fun _ => (#[] : Array Value))) a (Obj.mapSeq fun _ => List.toArray (p.toList.map fun i => vs.getD i Value.none))
  obtain ⟨c2, hc2⟩ : ∃ c2, ((h'.update kS (Obj.mapSeq fun _ => (#[] : Array Value))).update a (Obj.mapSeq fun _ => List.toArray (p.toList.map fun i => vs.getD i Value.none))).get? a = some (seqObj "list" (List.toArray (p.toList.map fun i => vs.getD i Value.none)) c2) :=
    ⟨_, get?_update_seq na1 fun _ => List.toArray (p.toList.map fun i => vs.getD i Value.none)⟩
  have N2 := ksk_news (ksk_news Nn s1 hnk) s2 hna
  unfold ksk_tail
  dsimp only
  rw [hout]
  refine wpAny_bind (listUpdate_at nk.1 rfl ?_ (by rw [hlen, sizeLine_eq]; (first | lia | omega)) (Nat.zero_le _))
  refine wpAny_bind (wpAny_letGo ?_)
  refine wpAny_bind (seqEpoch_at na1 rfl ?_)
  simp only [Bool.false_eq_true, if_false]
  refine wpAny_bind (listUpdate_at na1 rfl ?_ (Nat.zero_le _) (Nat.le_trans (Nat.le_of_eq hsz) (by rw [sizeLine_eq]; (first | lia | omega))))
  rw [hf]
  simp only [bne_self_eq_false, Bool.false_eq_true, if_false]
  refine wpAny_pure (h _ _ p c2 (ksk_fr (ksk_fr F' s1 nk.2.1 nk.2.2) s2 na.2.1 na.2.2) (fun q hq => ?_) hp hs)
  rcases List.mem_cons.mp hq with rfl | hq
  · exact ⟨hc2, na.2⟩
  · exact N2 q (List.mem_append_right _ hq)
theorem sb_rest {f : Value} (F : Fr h₀ L s.heap m) (N : News h₀ L s.heap (news ++ [(kS, seqObj "list" #[] 0), (a, seqObj "list" #[] e1)])) (hka : kS ≠ a) (hnk : ∀ p ∈ news, p.1 ≠ kS) (hna : ∀ p ∈ news, p.1 ≠ a)
    (h2 : 2 ≤ vs.length) (h64 : vs.length < 64)
    (turn : ∀ (i : Nat) (v : Value), vs[i]? = some v → ∀ (h : Heap) (tk : Nat) (need : List (Addr × Obj)), Fr h₀ L h m → News h₀ L h need → (∀ p ∈ news, p ∈ need) →
      wpAny (model prog w) A (call f [v]) (KeyEnd h₀ L m need (KO i) { s with heap := h, toks := tk }) (fun _ _ => False) { s with heap := h, toks := tk })
    (looks : ∀ i v o need h, KO i v o → Fr h₀ L h m → News h₀ L h need → (∀ p ∈ o, p ∈ need) → (∀ p ∈ news, p ∈ need) → Looks (model prog w) h (typeOf v) T) (hT1 : (T != Value.type "tuple") = true) (hT2 : (T == T) = true)
    (ask : ∀ i j vi vj oi oj need h tk, KO i vi oi → KO j vj oj → i < vs.length → j < vs.length → Fr h₀ L h m → News h₀ L h need → (∀ p ∈ oi, p ∈ need) → (∀ p ∈ oj, p ∈ need) → (∀ p ∈ news, p ∈ need) →
      wpAny (model prog w) A (keyLt' oneType' vi vj) (fun b s' => b = decide (rank i < rank j) ∧ ∃ h' tk', s' = { s with heap := h', toks := tk' } ∧ Fr h₀ L h' m ∧ News h₀ L h' need) (fun _ _ => False) { s with heap := h, toks := tk })
    (h : ∀ h' tk p c, Fr h₀ L h' m → News h₀ L h' ((a, seqObj "list" (List.toArray (p.toList.map fun i => vs.getD i Value.none)) c) :: news) → Pm vs.length p → Srt rank p vs.length → P (.done (.ret .none)) { s with heap := h', toks := tk }) :
    wpAny (model prog w) A (ksk_rest a f false vs.toArray e1 (.ref kS)) P E s := by
  unfold ksk_rest
  refine wpAny_bind (wpAny_rule ?_)
  first
    | rw [List.forIn_toArray]
    | (rw [← Array.forIn_toList]; simp only [List.toList_toArray])
    | rw [← Array.forIn_toList]
  refine wpAny_bind (ksk_fold (fun i s' => ∃ h' tk kA e all, s' = { s with heap := h', toks := tk } ∧ Fr h₀ L h' m ∧ News h₀ L h' (all ++ news ++ [(kS, seqObj "list" kA e), (a, seqObj "list" #[] e1)]) ∧ kA.size = i ∧ KeysAre KO 0 kA.toList all ∧ (∀ p ∈ all ++ news, p.1 ≠ kS) ∧ (∀ p ∈ all ++ news, p.1 ≠ a)) vs 0 s
    ⟨s.heap, s.toks, #[], 0, [], rfl, F, N, rfl, trivial, hnk, hna⟩ ?step ?done)
  case step =>
    rintro j x s' hx ⟨h', tk, kA, e, all, rfl, F', N', hkz, hk, hnk', hna'⟩
    simp only [Nat.zero_add] at hkz ⊢
    have hj : j < vs.length := (List.getElem?_eq_some_iff.mp hx).1
    have nk0 := N' (kS, seqObj "list" kA e) (List.mem_append_right _ (.head _))
    have na0 := N' (a, seqObj "list" #[] e1) (List.mem_append_right _ (.tail _ (.head _)))
    refine wpAny_bind (wpAny_attempt (wpAny_mono (turn j x hx h' tk _ F' N' (fun p hp => by simp only [List.mem_append]; exact .inl (.inr hp))) (fun v s'' he => ?_) fun _ _ hF => hF.elim))
    obtain ⟨g, tk2, o, rfl, F2, N2, hnew, hko⟩ := he
    try dsimp only
    dsimp only at hnew
    have nk := N2 (kS, seqObj "list" kA e) (List.mem_append_right _ (List.mem_append_right _ (.head _)))
    have na := N2 (a, seqObj "list" #[] e1) (List.mem_append_right _ (List.mem_append_right _ (.tail _ (.head _))))
    have s1 := Heap.SameBut.update g kS (Obj.mapSeq (·.push v))
    obtain ⟨c2, hc2⟩ : ∃ c2, (g.update kS (Obj.mapSeq (·.push v))).get? kS = some (seqObj "list" (kA.push v) c2) := ⟨_, get?_update_seq nk.1 (·.push v)⟩
    have hk2 : ∀ p ∈ o ++ all ++ news, p.1 ≠ kS := by
      intro p hp
      rw [List.append_assoc] at hp
      rcases List.mem_append.mp hp with hp | hp
      · intro q; have := hnew p hp; rw [q, nk0.1] at this; cases this
      · exact hnk' p hp
    have ha2 : ∀ p ∈ o ++ all ++ news, p.1 ≠ a := by
      intro p hp
      rw [List.append_assoc] at hp
      rcases List.mem_append.mp hp with hp | hp
      · intro q; have := hnew p hp; rw [q, na0.1] at this; cases this
      · exact hna' p hp
    refine wpAny_bind (listUpdate_at nk.1 rfl ?_ (by rw [sizeLine_eq]; (first | lia | omega)) (Nat.le_trans (Nat.le_of_eq (Array.size_push ..)) (by rw [sizeLine_eq]; (first | lia | omega))))
    refine wpAny_pure ⟨rfl, _, _, kA.push v, c2, o ++ all, rfl, ksk_fr F2 s1 nk.2.1 nk.2.2, fun p hp => ?_, by rw [Array.size_push, hkz], by
      rw [Array.toList_push]
      refine KeysAre.snoc hk ?_
      rw [Nat.zero_add, Array.length_toList, hkz]
      exact hko, hk2, ha2⟩
    rcases List.mem_append.mp hp with hp | hp
    · exact ksk_news (news := o ++ all ++ news) (fun q hq => N2 q (by
        rw [List.append_assoc] at hq
        rcases List.mem_append.mp hq with hq | hq
        · exact List.mem_append_left _ hq
        · exact List.mem_append_right _ (List.mem_append_left _ hq))) s1 hk2 p hp
    · rcases List.mem_cons.mp hp with rfl | hp
      · exact ⟨hc2, nk.2⟩
      · rw [List.mem_singleton.mp hp]
        exact ⟨(s1.2 a hka.symm).trans na.1, na.2⟩
  case done =>
    rintro s' ⟨h', tk, kA, e, all, rfl, F', N', hkz, hk, hnk', hna'⟩
    have nk := N' (kS, seqObj "list" kA e) (List.mem_append_right _ (.head _))
    try dsimp only
    refine wpAny_bind (listItems_at nk.1 rfl ?_)
    exact sb_end F' N' hka hnk' hna' hk (by rw [hkz, Nat.zero_add]) h2 h64 looks hT1 hT2 (fun i j vi vj oi oj need h tk => ask i j vi vj oi oj need h tk) fun h3 tk3 p c F3 N3 k3 k4 => h h3 tk3 p c F3 N3 k3 k4
theorem sb_sort {f : Value} {n : Nat} (F : Fr h₀ L s.heap m) (N : News h₀ L s.heap news) (ho : s.heap.get? a = some (seqObj "list" vs.toArray n)) (haL : a ≠ L) (ha0 : h₀.get? a = none) (hna : ∀ p ∈ news, p.1 ≠ a)
    (h2 : 2 ≤ vs.length) (h64 : vs.length < 64)
    (turn : ∀ (i : Nat) (v : Value), vs[i]? = some v → ∀ (h : Heap) (tk : Nat) (need : List (Addr × Obj)), Fr h₀ L h m → News h₀ L h need → (∀ p ∈ news, p ∈ need) →
      wpAny (model prog w) A (call f [v]) (KeyEnd h₀ L m need (KO i) { s with heap := h, toks := tk }) (fun _ _ => False) { s with heap := h, toks := tk })
    (looks : ∀ i v o need h, KO i v o → Fr h₀ L h m → News h₀ L h need → (∀ p ∈ o, p ∈ need) → (∀ p ∈ news, p ∈ need) → Looks (model prog w) h (typeOf v) T) (hT1 : (T != Value.type "tuple") = true) (hT2 : (T == T) = true)
    (ask : ∀ i j vi vj oi oj need h tk, KO i vi oi → KO j vj oj → i < vs.length → j < vs.length → Fr h₀ L h m → News h₀ L h need → (∀ p ∈ oi, p ∈ need) → (∀ p ∈ oj, p ∈ need) → (∀ p ∈ news, p ∈ need) →
      wpAny (model prog w) A (keyLt' oneType' vi vj) (fun b s' => b = decide (rank i < rank j) ∧ ∃ h' tk', s' = { s with heap := h', toks := tk' } ∧ Fr h₀ L h' m ∧ News h₀ L h' need) (fun _ _ => False) { s with heap := h, toks := tk })
    (h : ∀ h' tk p c, Fr h₀ L h' m → News h₀ L h' ((a, seqObj "list" (List.toArray (p.toList.map fun i => vs.getD i Value.none)) c) :: news) → Pm vs.length p → Srt rank p vs.length → P (.done (.ret .none)) { s with heap := h', toks := tk }) :
    wpAny (model prog w) A (ksk_tree a f false) P E s := by
  have ha : a < s.heap.objs.size := Heap.lt_size ho
  have s1 := Heap.SameBut.update s.heap a (Obj.mapSeq fun _ => (#[] : Array Value))
  obtain ⟨e1, ho1⟩ : ∃ e1, (s.heap.update a (Obj.mapSeq fun _ => (#[] : Array Value))).get? a = some (seqObj "list" #[] e1) := ⟨_, get?_update_seq ho fun _ => #[]⟩
  have F1 := ksk_fr F s1 haL ha0
  have N1 := ksk_news N s1 hna
  have hkS : ((s.heap.update a (Obj.mapSeq fun _ => (#[] : Array Value))).push (seqObj "tuple" vs.toArray 0)).objs.size = s.heap.objs.size + 1 := by rw [size_push', Heap.size_update]
  have hLk : L < ((s.heap.update a (Obj.mapSeq fun _ => (#[] : Array Value))).push (seqObj "tuple" vs.toArray 0)).objs.size := (F1.push _).ns.lt
  unfold ksk_tree
  refine wpAny_bind (listItems_at ho rfl ?_)
  refine wpAny_bind (listUpdate_at ho rfl ?_ (by rw [List.size_toArray, sizeLine_eq]; (first | lia | omega)) (Nat.zero_le _))
  refine wpAny_bind (seqEpoch_at ho1 rfl ?_)
  refine wpAny_bind (wpAny_newTuple ?_ (by show vs.length ≤ _; rw [sizeLine_eq]; (first | lia | omega)))
  refine wpAny_bind (wpAny_newList ?_ (Nat.zero_le _))
  refine wpAny_holding ?_
  refine sb_rest (s := { s with heap := ((s.heap.update a (Obj.mapSeq fun _ => (#[] : Array Value))).push (seqObj "tuple" vs.toArray 0)).push (seqObj "list" #[] 0) }) (kS := ((s.heap.update a (Obj.mapSeq fun _ => (#[] : Array Value))).push (seqObj "tuple" vs.toArray 0)).objs.size)
    ((F1.push _).push _) (fun p hp => ?_) (by rw [hkS]; exact Nat.ne_of_gt (Nat.lt_succ_of_lt ha)) (fun p hp => by rw [hkS]; exact Nat.ne_of_lt (Nat.lt_succ_of_lt (Heap.lt_size (N p hp).1))) hna h2 h64 turn looks hT1 hT2 ask h
  rcases List.mem_append.mp hp with hp | hp
  · exact ⟨Heap.get?_push_of_some _ (Heap.get?_push_of_some _ (N1 p hp).1), (N1 p hp).2⟩
  · rcases List.mem_cons.mp hp with rfl | hp
    · exact ⟨Heap.get?_push_size _ rfl, Nat.ne_of_gt hLk, Heap.get?_none_of_le (Nat.le_trans F.above (Nat.le_of_lt hLk))⟩
    · rw [List.mem_singleton.mp hp]
      exact ⟨Heap.get?_push_of_some _ (Heap.get?_push_of_some _ ho1), haL, ha0⟩
/-- sorted(l, key=f): any keys that are compared by a rank -/
theorem sorted_by {l q : Addr} {Q : Value → Shared → Prop} (F : Fr h₀ L s.heap m) (N : News h₀ L s.heap news) (hl : s.heap.IsList l vs.toArray) (h2 : 2 ≤ vs.length) (h64 : vs.length < 64)
    (turn : ∀ (i : Nat) (v : Value), vs[i]? = some v → ∀ (h : Heap) (tk : Nat) (need : List (Addr × Obj)), Fr h₀ L h m → News h₀ L h need → (∀ p ∈ news, p ∈ need) →
      wpAny (model prog w) A.in1.in1 (call (.ref q) [v]) (KeyEnd h₀ L m need (KO i) { s with heap := h, toks := tk }) (fun _ _ => False) { s with heap := h, toks := tk })
    (looks : ∀ i v o need h, KO i v o → Fr h₀ L h m → News h₀ L h need → (∀ p ∈ o, p ∈ need) → (∀ p ∈ news, p ∈ need) → Looks (model prog w) h (typeOf v) T) (hT1 : (T != Value.type "tuple") = true) (hT2 : (T == T) = true)
    (ask : ∀ i j vi vj oi oj need h tk, KO i vi oi → KO j vj oj → i < vs.length → j < vs.length → Fr h₀ L h m → News h₀ L h need → (∀ p ∈ oi, p ∈ need) → (∀ p ∈ oj, p ∈ need) → (∀ p ∈ news, p ∈ need) →
      wpAny (model prog w) A.in1.in1 (keyLt' oneType' vi vj) (fun b s' => b = decide (rank i < rank j) ∧ ∃ h' tk', s' = { s with heap := h', toks := tk' } ∧ Fr h₀ L h' m ∧ News h₀ L h' need) (fun _ _ => False) { s with heap := h, toks := tk })
    (h : ∀ D h' tk p c, Fr h₀ L h' m → News h₀ L h' ((D, seqObj "list" (List.toArray (p.toList.map fun i => vs.getD i Value.none)) c) :: news) → (∀ q ∈ news, q.1 < D) → Pm vs.length p → Srt rank p vs.length → Q (.ref D) { s with heap := h', toks := tk }) :
    wpAny (model prog w) A (call (.builtin "sorted") [.ref l] [(Str.ofString "key", .ref q)]) Q E s := by
  refine call_function_entry_kw kind_sorted plain_sorted entry_sorted (ksk_s1 _ _) ?_
  unfold Builtin.«sorted»
  refine wpAny_bind (m := checkCount "sorted" 1 1 _) (wpAny_pure ?_)
  refine wpAny_bind (collect_list hl ?_ (by rw [sizeLine_eq]; (first | lia | omega)))
  refine wpAny_bind (wpAny_newList ?_ (by show vs.length ≤ _; rw [sizeLine_eq]; (first | lia | omega)))
  have hsz : ((s.heap.push (seqObj "list" #[] 0)).update s.heap.objs.size (Obj.mapSeq (· ++ vs.toArray))).objs.size = s.heap.objs.size + 1 := by
    rw [Heap.size_update, size_push']
  have hoL : (((s.heap.push (seqObj "list" #[] 0)).update s.heap.objs.size (Obj.mapSeq (· ++ vs.toArray))).push (seqObj "list" vs.toArray 0)).get? (s.heap.objs.size + 1) = some (seqObj "list" vs.toArray 0) := by
    rw [← hsz]; exact Heap.get?_push_size _ rfl
  have keep : ∀ b o, s.heap.get? b = some o → (((s.heap.push (seqObj "list" #[] 0)).update s.heap.objs.size (Obj.mapSeq (· ++ vs.toArray))).push (seqObj "list" vs.toArray 0)).get? b = some o := fun b o q => by
    have hlt : b < s.heap.objs.size := Heap.lt_size q
    rw [Heap.get?_push_ne _ _ _ (by rw [hsz]; exact Nat.ne_of_lt (Nat.lt_succ_of_lt hlt)), Heap.get?_update_ne _ _ _ _ (Nat.ne_of_lt hlt), Heap.get?_push_ne _ _ _ (Nat.ne_of_lt hlt)]
    exact q
  have hL : L < s.heap.objs.size := F.ns.lt
  show wpAny _ _ _ _ _ { s with heap := ((s.heap.push (seqObj "list" #[] 0)).update s.heap.objs.size (Obj.mapSeq (· ++ vs.toArray))).push (seqObj "list" vs.toArray 0) }
  rw [hsz]
  refine wpAny_bind (wpAny_holding (wpAny_call_entry_kw slot_list_sort ⟨_, hoL, rfl⟩ entry_list_sort ?body (ksk_l1 _ _)))
  case body =>
    have ht' := ksk_t1 q (s.heap.objs.size + 1)
    show wpAny (model prog w) A.in1.in1 (Builtin.«list.sort» ⟨[.ref (s.heap.objs.size + 1)], [(Str.ofString "key", .ref q)]⟩) _ _ _
    rw [ht']
    refine sb_sort (s := { s with heap := ((s.heap.push (seqObj "list" #[] 0)).update s.heap.objs.size (Obj.mapSeq (· ++ vs.toArray))).push (seqObj "list" vs.toArray 0) })
      (F.kept keep) (N.grown keep) hoL (Nat.ne_of_gt (Nat.lt_succ_of_lt hL)) (Heap.get?_none_of_le (Nat.le_trans F.above (Nat.le_succ_of_le (Nat.le_of_lt hL))))
      (fun p hp => Nat.ne_of_lt (Nat.lt_succ_of_lt (Heap.lt_size (N p hp).1))) h2 h64 turn looks hT1 hT2 ask fun h' tk p c F' N' k1 k2 => ⟨_, rfl, ?_⟩
    exact wpAny_pure ⟨_, rfl, h _ h' tk p c F' N' (fun q hq => Nat.lt_succ_of_lt (Heap.lt_size (N q hq).1)) k1 k2⟩
end
end Mine
end
section
open PySem PySem.W PySem.Calls PyProof.Rows
set_option Elab.async false
set_option maxRecDepth 100000
set_option maxHeartbeats 4000000
set_option linter.unusedVariables false
namespace Mine
/-- one row of ints is less than another -/
noncomputable def lexLt : List Int → List Int → Bool
  | [], [] => false
  | [], _ :: _ => true
  | _ :: _, [] => false
  | a :: xs, b :: ys => if a = b then lexLt xs ys else decide (a < b)
section
open AutoSeq1 MeetsSeq MeetsSeq3
theorem rich_lt_int {prog : Program} {w : World} {A : Around} {E : Value → Shared → Prop} {s : Shared} {a b : Int} {t u : Tok} {Q : Value → Shared → Prop} (h : Q (.bool (decide (a < b))) s) : wpAny (model prog w) A (richCompare .Lt (.int a t) (.int b u)) Q E s :=
  wpAny_richCompare_same (op := .Lt) (typeIs_int s a t) (typeIs_int s b u) F.slot_int_lt (call_meets F.slot_int_lt (typeIs_int s a t) F.entry_int_lt (F.args_int_lt_2 _ _) (gives_int_lt a b t u).meets ⟨fun x => (nomatch x), h⟩)
theorem lt_loop (l b : Addr) (vs us : List Value) (xs ys : List Int) (ix : IntsAre vs xs) (iy : IntsAre us ys) (n n2 : Nat) (k : Nat) :
    ∀ i : Nat, xs.length - i = k → i ≤ xs.length → i ≤ ys.length → Meets (Builtin.«list.__eq__.loop» ⟨[.ref l, .ref b, rawInt i, rawInt 0], []⟩)
      (fun _ R s => s.heap.get? l = some { cls := .type "list", dict := none, data := .seq vs.toArray n, slots := #[] } ∧ s.heap.get? b = some { cls := .type "list", dict := none, data := .seq us.toArray n2, slots := #[] } ∧
        R (.ok (.ret (.bool (lexLt (xs.drop i) (ys.drop i))))) s) := by
  have lx := ix.length
  have ly := iy.length
  induction k with
  | zero =>
    intro i hk hix hiy prog w A R s h
    obtain ⟨hp, g, d, tk, os⟩ := s; obtain ⟨hl, hb, h⟩ := h
    wp_walk using wpAny_loadPart' hl, wpAny_loadPart' hb
    have hi1 : vs.toArray[((i : Nat) : Int).toNat]? = none := by simp; (first | lia | omega)
    have hd : xs.drop i = [] := by simp; (first | lia | omega)
    rw [hi1]
    dsimp only
    wp_walk using wpAny_loadPart' hl, wpAny_loadPart' hb
    show R (.ok (.ret (.bool (decide (vs.toArray.size < us.toArray.size))))) _
    rw [hd] at h
    have : decide (vs.toArray.size < us.toArray.size) = lexLt [] (ys.drop i) := by
      rw [List.size_toArray, List.size_toArray, lx, ly]
      cases q : ys.drop i with
      | nil =>
        have : ys.length ≤ i := List.drop_eq_nil_iff.mp q
        simp only [lexLt, decide_eq_false_iff_not]; (first | lia | omega)
      | cons y r =>
        have : i < ys.length := by
          have := congrArg List.length q
          rw [List.length_drop, List.length_cons] at this
          (first | lia | omega)
        simp only [lexLt, decide_eq_true_eq]; (first | lia | omega)
    rw [this]
    exact h
  | succ k ih =>
    intro i hk hix hiy prog w A R s h
    obtain ⟨hp, g, d, tk, os⟩ := s; obtain ⟨hl, hb, h⟩ := h
    have hlt : i < xs.length := by (first | lia | omega)
    wp_walk using wpAny_loadPart' hl, wpAny_loadPart' hb
    obtain ⟨t, et⟩ := ix.get i xs[i] (List.getElem?_eq_getElem hlt)
    have hi1 : vs.toArray[((i : Nat) : Int).toNat]? = some (.int xs[i] t) := by simpa using et
    have hdx : xs.drop i = xs[i] :: xs.drop (i + 1) := List.drop_eq_getElem_cons hlt
    by_cases hlt2 : i < ys.length
    · obtain ⟨u, eu⟩ := iy.get i ys[i] (List.getElem?_eq_getElem hlt2)
      have hi2 : us.toArray[((i : Nat) : Int).toNat]? = some (.int ys[i] u) := by simpa using eu
      have hdy : ys.drop i = ys[i] :: ys.drop (i + 1) := List.drop_eq_getElem_cons hlt2
      have hc : ((i : Int) + 1) = ((i + 1 : Nat) : Int) := by push_cast; rfl
      rw [hdx, hdy] at h
      rw [hi1, hi2]
      refine wpAny_bind (EqGives.int _ _ _ _ prog w _ _ _ _ ?_)
      by_cases hq : xs[i] = ys[i]
      · rw [lexLt, if_pos hq] at h
        rw [show (xs[i] == ys[i]) = true by simpa using hq]
        wp_walk
        rw [hc]
        exact ⟨plainId_quiet plain_eq_loop _, codeAny_builtin entry_eq_loop (by
          rw [Around.under_plainId plain_eq_loop _]
          exact ih (i + 1) (by (first | lia | omega)) (by (first | lia | omega)) (by (first | lia | omega)) prog w A R _ ⟨hl, hb, h⟩)⟩
      · rw [lexLt, if_neg hq] at h
        rw [show (xs[i] == ys[i]) = false by simpa using hq]
        wp_walk using wpAny_loadPart' hl, wpAny_loadPart' hb
        rw [hi1, hi2]
        dsimp only
        refine wpAny_bind (rich_lt_int ?_)
        wp_walk
        exact h
    · have hi2 : us.toArray[((i : Nat) : Int).toNat]? = none := by simp; (first | lia | omega)
      have hd : ys.drop i = [] := by simp; (first | lia | omega)
      rw [hi1, hi2]
      dsimp only
      wp_walk using wpAny_loadPart' hl, wpAny_loadPart' hb
      show R (.ok (.ret (.bool (decide (vs.toArray.size < us.toArray.size))))) _
      rw [hdx, hd] at h
      have : decide (vs.toArray.size < us.toArray.size) = false := by
        rw [List.size_toArray, List.size_toArray, lx, ly]
        simp only [decide_eq_false_iff_not]; (first | lia | omega)
      rw [this]
      exact h
theorem list_lt (l b : Addr) (vs us : List Value) (xs ys : List Int) (ix : IntsAre vs xs) (iy : IntsAre us ys) (n n2 : Nat) :
    Meets (Builtin.«list.__lt__» ⟨[.ref l, .ref b], []⟩)
      (fun _ R s => s.heap.get? l = some { cls := .type "list", dict := none, data := .seq vs.toArray n, slots := #[] } ∧ s.heap.get? b = some { cls := .type "list", dict := none, data := .seq us.toArray n2, slots := #[] } ∧
        R (.ok (.ret (.bool (lexLt xs ys)))) s) := by
  intro prog w A R s h
  obtain ⟨hp, g, d, tk, os⟩ := s; obtain ⟨hl, hb, h⟩ := h
  have f3 := AutoSeq1.sub_list_list
  wp_walk using wpAny_loadPart' hl, wpAny_loadPart' hb
  exact ⟨plainId_quiet plain_eq_loop _, codeAny_builtin entry_eq_loop (by
    rw [Around.under_plainId plain_eq_loop _]
    exact lt_loop l b vs us xs ys ix iy n n2 _ 0 rfl (Nat.zero_le _) (Nat.zero_le _) prog w A R _ ⟨hl, hb, h⟩)⟩
theorem l_less {prog : Program} {w : World} {A : Around} {E : Value → Shared → Prop} {s : Shared} {x y : Addr} {vs us : List Value} {xs ys : List Int} {n n2 : Nat} {Q : Bool → Shared → Prop} (hu : A.units < cLine) (ix : IntsAre vs xs) (iy : IntsAre us ys)
    (hx : s.heap.get? x = some (PySem.W.listOf vs.toArray n)) (hy : s.heap.get? y = some (PySem.W.listOf us.toArray n2)) (h : Q (lexLt xs ys) s) : wpAny (model prog w) A (keyLt' oneType' (.ref x) (.ref y)) Q E s := by
  rw [keyLt'_oneType, oneLt'_eq]
  simp only [if_true]
  refine wpAny_bind (wpAny_cRoomFor hu ?_)
  refine wpAny_bind (wpAny_callSpecialIfBound?_slot (name := Str.ofString "__lt__") ⟨_, hx, rfl⟩ F.slot_list_lt (call_meets F.slot_list_lt ⟨_, hx, rfl⟩ F.entry_list_lt (F.args_list_lt_2 _ _) (list_lt x y vs us xs ys ix iy n n2) ⟨hx, hy, ?_⟩))
  exact wpAny_truthy_bool h
end
end Mine
end
section
open PySem PySem.W PySem.Calls PyProof.Rows
set_option Elab.async false
set_option maxRecDepth 100000
set_option maxHeartbeats 2000000
namespace Mine
section
variable {w : World} {A : Around} {E : Value → Shared → Prop} {s : Shared}
theorem ne_of_get {h : Heap} {a b : Addr} {o1 o2 : Obj} (h1 : h.get? a = some o1) (h2 : h.get? b = some o2) (hne : (o1.cls == o2.cls) = false) : a ≠ b := fun q => by
  rw [q, h2] at h1
  cases h1
  have : (o1.cls == o1.cls) = true := by simp
  rw [this] at hne; cases hne
noncomputable abbrev nsO (n i1 i3 i4 i5 i6 i7 i8 i9 i10 i11 i12 i13 i14 : Nat) (h1 h3 h4 h5 h6 h7 h8 h9 h10 h11 h12 h13 h14 : Int) (l1 l3 : Nat) (slA f0 f1 f2 f3 f4 f5 stA md : Addr) : Obj :=
  ⟨.type "dict", none, .dict #[ent "__module__" h1 i1 (.str (Str.ofString "cpy313.functools") l1), ent "__firstlineno__" h3 i3 (.int 18 l3),
      ent "__slots__" h4 i4 (.ref slA), ent "__init__" h5 i5 (.ref f0), ent "__lt__" h6 i6 (.ref f1), ent "__gt__" h7 i7 (.ref f2), ent "__eq__" h8 i8 (.ref f3), ent "__le__" h9 i9 (.ref f4), ent "__ge__" h10 i10 (.ref f5), ent "__hash__" h11 i11 .none,
      ent "__static_attributes__" h12 i12 (.ref stA), ent "obj" h13 i13 (.ref md), ent "__doc__" h14 i14 .none] n, #[]⟩
theorem frag2 {h : Heap} {c ns : Addr} {co no : Obj} (hc : h.get? c = some co) (hn : h.get? ns = some no) : Frag.In [(c, co), (ns, no)] h := fun a o e => by
  rw [List.lookup_cons] at e
  split at e
  · rename_i q
    cases e
    rw [show a = c from by simpa using q]; exact hc
  · rw [List.lookup_cons] at e
    split at e
    · rename_i q
      cases e
      rw [show a = ns from by simpa using q]; exact hn
    · cases e
theorem find_lt {c ns : Addr} {sl : Array (Option Value)} {n i1 i3 i4 i5 i6 i7 i8 i9 i10 i11 i12 i13 i14 : Nat} {h1 h3 h4 h5 h6 h7 h8 h9 h10 h11 h12 h13 h14 : Int} {l1 l3 : Nat} {slA f0 f1 f2 f3 f4 f5 stA md : Addr} (hne : (ns == c) = false) :
    findIn [(c, ⟨.type "type", none, .cls (kCd c ns), sl⟩), (ns, nsO n i1 i3 i4 i5 i6 i7 i8 i9 i10 i11 i12 i13 i14 h1 h3 h4 h5 h6 h7 h8 h9 h10 h11 h12 h13 h14 l1 l3 slA f0 f1 f2 f3 f4 f5 stA md)] (.ref c) (Str.ofString "__lt__") = some (some (.ref f1)) := by
  simp only [findIn, List.lookup, beq_self_eq_true, alongIn, ownIn, nsIn, hne]
  kernel_rfl
theorem find_ga {c ns : Addr} {sl : Array (Option Value)} {n i1 i3 i4 i5 i6 i7 i8 i9 i10 i11 i12 i13 i14 : Nat} {h1 h3 h4 h5 h6 h7 h8 h9 h10 h11 h12 h13 h14 : Int} {l1 l3 : Nat} {slA f0 f1 f2 f3 f4 f5 stA md : Addr} (hne : (ns == c) = false) :
    findIn [(c, ⟨.type "type", none, .cls (kCd c ns), sl⟩), (ns, nsO n i1 i3 i4 i5 i6 i7 i8 i9 i10 i11 i12 i13 i14 h1 h3 h4 h5 h6 h7 h8 h9 h10 h11 h12 h13 h14 l1 l3 slA f0 f1 f2 f3 f4 f5 stA md)] (.ref c) (Str.ofString "__getattribute__") = some (some (.builtin "object.__getattribute__")) := by
  simp only [findIn, List.lookup, beq_self_eq_true, alongIn, ownIn, nsIn, hne]
  kernel_rfl
/-- a special method that is bound by hand -/
theorem k_ifBound {M : Model} {x c f : Addr} {name : Str} {args : List Value} {Q : Option Value → Shared → Prop} (L0 : Looks M s.heap (typeOf (.ref x)) (.ref c)) (L1 : Looks M s.heap (typeLookup (.ref c) name) (some (.ref f))) (L2 : Looks M s.heap (bindSpecial (.ref f) (.ref x)) (.ref f, [.ref x]))
    (h : wpAny M A (call (.ref f) (.ref x :: args)) (fun v => Q (some v)) E s) : wpAny M A (callSpecialIfBound? (.ref x) name args) Q E s := by
  simp only [callSpecialIfBound?, bindSpecialIfBound?]
  refine wpAny_holding (wpAny_bind (wpAny_bind (wpAny_bind (L0.here (L1.here ?_)))))
  refine wpAny_bind (wpAny_askSetting (wpAny_ite ?_))
  have fin : wpAny M A (call (.ref f) ([.ref x] ++ args) >>= fun v => pure (some v)) Q E s := wpAny_bind (wpAny_mono h (fun v s' h' => wpAny_pure h') fun _ _ h' => h')
  split
  · exact wpAny_bind (L2.here (wpAny_pure (by exact fin)))
  · exact wpAny_tryCatch (wpAny_bind (L2.here (wpAny_pure (by exact fin))))
theorem looks_type {M : Model} {h : Heap} {x c : Addr} {o : Obj} (e : h.get? x = some o) (hc : o.cls = .ref c) : Looks M h (typeOf (.ref x)) (.ref c) := hc ▸ (Looks.ld e).andThen .now
theorem looks_bindf {M : Model} {h : Heap} {f : Addr} {o : Obj} (e : h.get? f = some o) (hc : o.cls = .type "function") (self : Value) : Looks M h (bindSpecial (.ref f) self) (.ref f, [self]) := by
  unfold bindSpecial
  have : Looks M h (typeOf (.ref f)) (.type "function") := hc ▸ (Looks.ld e).andThen .now
  exact this.andThen (Looks.of_pure (by kernel_rfl))
theorem k_lt {prog : Program} {x c f : Addr} {b : Value} {Q : Bool → Shared → Prop} (hu : A.units < cLine) (L0 : Looks (model prog w) s.heap (typeOf (.ref x)) (.ref c)) (L1 : Looks (model prog w) s.heap (typeLookup (.ref c) "__lt__") (some (.ref f))) (L2 : Looks (model prog w) s.heap (bindSpecial (.ref f) (.ref x)) (.ref f, [.ref x]))
    (h : wpAny (model prog w) A (call (.ref f) [.ref x, b]) (PySem.W.BoolBack Q) E s) : wpAny (model prog w) A (keyLt' oneType' (.ref x) b) Q E s := by
  rw [keyLt'_oneType, oneLt'_eq]
  simp only [if_true]
  refine wpAny_bind (wpAny_cRoomFor hu ?_)
  refine wpAny_bind (k_ifBound L0 L1 L2 (wpAny_mono h (fun v s' hv => ?_) fun _ _ e => e))
  cases v <;> first | exact hv.elim | skip
  exact wpAny_truthy_bool hv
/-- the slot's attribute of an instance of K -/
theorem k_getobj {c ns md f0 f1 f2 f3 f4 f5 slA stA i dA : Addr} {s0 s2 s3 : Option Value} {n k1 k3 k4 k5 k6 k7 k8 k9 k10 k11 k12 k13 k14 l1 l3 tm : Nat} {x : Int} {tk : Tok} {expr : Bool} {Q : Value → Shared → Prop}
    {h1 h3 h4 h5 h6 h7 h8 h9 h10 h11 h12 h13 h14 : Int} (hA : Sm A 690 3590) (X : (KR w.params).In s.heap)
    (hc : s.heap.get? c = some (⟨.type "type", none, .cls (kCd c ns), #[s0, none, s2, s3, some (.builtin "object.__new__"), some (.bool false)]⟩ : Obj))
    (hns : s.heap.get? ns = some (nsO n k1 k3 k4 k5 k6 k7 k8 k9 k10 k11 k12 k13 k14 h1 h3 h4 h5 h6 h7 h8 h9 h10 h11 h12 h13 h14 l1 l3 slA f0 f1 f2 f3 f4 f5 stA md))
    (hmd : s.heap.get? md = some (⟨.type "member_descriptor", none, .fields #[.str (Str.ofString "obj") tm, .ref c, .builtin "proto.slot", .builtin "proto.slot#set", rawInt 0], #[]⟩ : Obj))
    (hi : s.heap.get? i = some (kInst c dA (.int x tk))) (h : ∀ h' tk', (∀ b o, s.heap.get? b = some o → h'.get? b = some o) → Q (.int x tk) { s with heap := h', toks := tk' }) :
    wpAny (model PySem.Challenge.rw_ij0154_01.prog w) A (getAttr (.ref i) (Str.ofString "obj") expr) Q E s := by
  have hne : (ns == c) = false := by simpa using ne_of_get hns hc (by kernel_rfl)
  obtain ⟨hh, g, d, t, os⟩ := s
  have L0 := looks_type (M := model PySem.Challenge.rw_ij0154_01.prog w) hi rfl
  have L1 := looks_findIn (M := model PySem.Challenge.rw_ij0154_01.prog w) (frag2 hc hns) (find_ga hne)
  unfold getAttr getAttrBy
  refine wpAny_bind (wpAny_mkText (wpAny_holding (wpAny_bind (L0.at (wpAny_bind (L1.at ?_))))))
  show wpAny _ _ (getAttrEveryday _ _ _) _ _ _
  refine wpAny_bind (wpAny_onRaise (wk (hA.le (by decide) (by decide)) (wpAny_mono (K_obj (s := ⟨hh, g, d, t + 1, os⟩) X hc hns hmd hi) (fun v s' q => ?_) fun _ _ q => q.elim)))
  obtain ⟨h', tk', rfl, k, rfl⟩ := q
  exact wpAny_pure (h h' tk' k)
theorem k_getobjF {h₀ : Heap} {L : Addr} {m : Str → Option Value} {news : List (Addr × Obj)} {c ns md f0 f1 f2 f3 f4 f5 slA stA i dA : Addr} {s0 s2 s3 : Option Value} {n k1 k3 k4 k5 k6 k7 k8 k9 k10 k11 k12 k13 k14 l1 l3 tm : Nat} {x : Int} {tk : Tok} {expr : Bool} {Q : Value → Shared → Prop}
    {h1 h3 h4 h5 h6 h7 h8 h9 h10 h11 h12 h13 h14 : Int} (F : Fr h₀ L s.heap m) (N : News h₀ L s.heap news) (hA : Sm A 690 3590) (X : (KR w.params).In h₀)
    (hc : h₀.get? c = some (⟨.type "type", none, .cls (kCd c ns), #[s0, none, s2, s3, some (.builtin "object.__new__"), some (.bool false)]⟩ : Obj))
    (hns : h₀.get? ns = some (nsO n k1 k3 k4 k5 k6 k7 k8 k9 k10 k11 k12 k13 k14 h1 h3 h4 h5 h6 h7 h8 h9 h10 h11 h12 h13 h14 l1 l3 slA f0 f1 f2 f3 f4 f5 stA md))
    (hmd : h₀.get? md = some (⟨.type "member_descriptor", none, .fields #[.str (Str.ofString "obj") tm, .ref c, .builtin "proto.slot", .builtin "proto.slot#set", rawInt 0], #[]⟩ : Obj))
    (hi : h₀.get? i = some (kInst c dA (.int x tk))) (h : ∀ h' tk', Fr h₀ L h' m → News h₀ L h' news → Q (.int x tk) { s with heap := h', toks := tk' }) :
    wpAny (model PySem.Challenge.rw_ij0154_01.prog w) A (getAttr (.ref i) (Str.ofString "obj") expr) Q E s :=
  k_getobj hA (X.keeps F.keep) (F.keep _ _ hc) (F.keep _ _ hns) (F.keep _ _ hmd) (F.keep _ _ hi) fun h' tk' k => h h' tk' (F.keeps k) (N.grown k)
theorem fnAt_base {h₀ h : Heap} {L q : Addr} {m : Str → Option Value} {fd : FuncData} (F : Fr h₀ L h m) (e : h₀.get? q = some (⟨.type "function", none, .func fd, #[]⟩ : Obj)) : FnAt q h := ⟨_, _, _, _, F.keep _ _ e⟩
local macro_rules | `(tactic| walk_at "getAttr ref") => `(tactic| (k_here; k_dflt (refine k_getobjF (by with_reducible assumption) (by with_reducible assumption) ((sm_AM _ _).le (by decide) (by decide)) (by with_reducible assumption) (by with_reducible assumption) (by with_reducible assumption) (by with_reducible assumption) (by with_reducible assumption) fun _ _ _ _ => ?_)))
theorem meth_of {h : Heap} {P : Params} {o : Obj} {fd0 : FuncData} {st : Stmt} {i : Nat} (e : h.get? 49 = some o) (e' : h.get? 49 = some (lk P 49)) (hd : o.data = .func fd0)
    (hi : (match fd0.body with | .stmts (.ClassDef _ _ _ b _ _ _ _ _ _ _ :: _) => b | _ => [])[i]? = some st) : meth P i = st := by
  rw [e'] at e
  cases e
  unfold meth stK
  rw [hd]
  dsimp only
  rw [List.getD_eq_getElem?_getD]
  exact congrArg (fun q => Option.getD q (Stmt.Pass ⟨0, 0, 0, 0⟩)) hi
theorem ClsEnd.keeps {P : Params} {h₀ h h' : Heap} {c : Addr} {cl : List (Str × Addr)} (x : ClsEnd P h₀ h c cl) (k : ∀ b o, h.get? b = some o → h'.get? b = some o) : ClsEnd P h₀ h' c cl := by
  obtain ⟨ns, md, f0, f1, f2, f3, f4, f5, slA, stA, c0, c1, n, i1, k1, l1, i3, k3, l3, i4, k4, i5, k5, i6, k6, i7, k7, i8, k8, i9, k9, i10, k10, i11, k11, i12, k12, i13, k13, i14, k14, tm, sl, doc0, pm0, ctv0, doc1, pm1, ctv1, hn, a1, a2, a3, a4, a5, a6, a7, a8⟩ := x
  exact ⟨ns, md, f0, f1, f2, f3, f4, f5, slA, stA, c0, c1, n, i1, k1, l1, i3, k3, l3, i4, k4, i5, k5, i6, k6, i7, k7, i8, k8, i9, k9, i10, k10, i11, k11, i12, k12, i13, k13, i14, k14, tm, sl, doc0, pm0, ctv0, doc1, pm1, ctv1, hn, k _ _ a1, a2, k _ _ a3, k _ _ a4, k _ _ a5, k _ _ a6, (let ⟨oc, vs, t, e, r⟩ := a7; ⟨oc, vs, t, k _ _ e, r⟩), a8.keeps k⟩
section
variable {R : Result → Shared → Prop} {pr : Program} {loose : List Str} {mg mb : Str → Option Value}
/-- two instances of K compared: the sort's question -/
theorem k_less {h₀ : Heap} {c cl f x y dx dy : Addr} {fd : FuncData} {xi yi r : Int} {tx ty : Tok} {Q : Bool → Shared → Prop} (hA : Sm A 500 2500) (G : Gd w pr loose mg mb s.heap) (C : ClsEnd w.params h₀ s.heap c [(Str.ofString "mycmp", cl)]) (hcl : s.heap.IsCell cl (some (.ref f)))
    (hf : s.heap.get? f = some (⟨.type "function", none, .func fd, #[]⟩ : Obj))
    (hx : s.heap.get? x = some (kInst c dx (.int xi tx))) (hy : s.heap.get? y = some (kInst c dy (.int yi ty)))
    (hcall : ∀ s' : Shared, (∀ b o, s.heap.get? b = some o → s'.heap.get? b = some o) → wpAny (model PySem.Challenge.rw_ij0154_01.prog w) (AM 540 2600) (call (.ref f) [.int xi tx, .int yi ty]) (More s' fun v _ => ∃ t, v = .int r t) (fun _ _ => False) s')
    (hq : ∀ h' tk, (∀ b o, s.heap.get? b = some o → h'.get? b = some o) → Q (decide (r < 0)) { s with heap := h', toks := tk }) :
    wpAny (model PySem.Challenge.rw_ij0154_01.prog w) A (keyLt' oneType' (.ref x) (.ref y)) Q E s := by
  obtain ⟨ns, md, f0, f1, f2, f3, f4, f5, slA, stA, c0, c1, n, i1, k1, l1, i3, k3, l3, i4, k4, i5, k5, i6, k6, i7, k7, i8, k8, i9, k9, i10, k10, i11, k11, i12, k12, i13, k13, i14, k14, tm, sl, doc0, pm0, ctv0, doc1, pm1, ctv1, hn, hc, hsl, hns, hmd, hf0, hf1, hc0, hc1⟩ := C
  have hne : (ns == c) = false := by simpa using ne_of_get hns hc (by kernel_rfl)
  rw [hsl] at hc
  obtain ⟨oc, hoc, hocd⟩ := hcl
  refine k_lt (Nat.lt_of_le_of_lt hA.2.2 (by decide)) (looks_type hx rfl) (looks_findIn (frag2 hc hns) (find_lt hne)) (looks_bindf hf1 rfl _) ?_
  have X := G.X
  have T := G.T
  have e49 := G.X 49 (lk w.params 49) (by kernel_rfl)
  revert X; k_fill; intro X
  have hst := meth_of (X 49 _ rfl) e49 rfl (i := 3) rfl
  unfold fnK at hf1
  rw [hst] at hf1
  clear hst e49
  simp only [dName, dBody, dParams, dScope] at hf1
  rw [show Str.ofString "cmp_to_key.<locals>.K." ++ Str.ofString "__lt__" = Str.ofString "cmp_to_key.<locals>.K.__lt__" by kernel_rfl] at hf1
  refine wpAny_call (enterF (binds := [(Str.ofString "self", .ref x), (Str.ofString "other", .ref y)]) hA (by decide) hf1 rfl G.T.nolimit hc1 (BindsTo.of_eq rfl) (by decide) (locs rfl) (fun h₁ F => ?_))
  generalize hm : (fun z => List.lookup z (List.reverse [(Str.ofString "self", Value.ref x), (Str.ofString "other", Value.ref y)])) = m at F
  have m1 : m (Str.ofString "self") = some (.ref x) := by rw [← hm]; rfl
  have m2 : m (Str.ofString "other") = some (.ref y) := by rw [← hm]; rfl
  clear hm
  generalize s.heap.objs.size = L at F ⊢
  have N : News s.heap L h₁ [] := News.nil
  generalize s.toks + _ = tk at *
  walk_at "z_gc"
  refine callWith_F (fnAt_base F hf) ?_

  walk_at "z_gc"
  rename Fr _ _ _ _ => F2
  rename News _ _ _ _ => N2
  refine ⟨fnAt_base F2 hf, ?_⟩
  refine wk (d := 540) (u := 2600) ⟨rfl, Nat.le_of_ble_eq_true rfl, Nat.le_of_ble_eq_true rfl⟩ (wpAny_mono (hcall ⟨_, s.gens, s.drawn, _, s.os⟩ F2.keep) (fun v s' q => ?_) fun _ _ q => q.elim)
  obtain ⟨h3, tk3, rfl, k3, t3, rfl⟩ := q
  have F3 := F2.keeps k3
  have N3 := N2.grown k3
  clear F2 N2
  dsimp only
  walk_at "z_gc"
  exact hq h3 _ F3.keep
end
end
end Mine
end
section
open PySem PySem.W PySem.Calls PyProof.Rows
set_option Elab.async false
set_option maxRecDepth 100000
set_option maxHeartbeats 2000000
namespace Mine
section
variable {prog : Program} {w : World} {A : Around} {E : Value → Shared → Prop} {s : Shared} {Q : Value → Shared → Prop} {h₀ : Heap} {L l it : Addr} {m : Str → Option Value} {news : List (Addr × Obj)} {its : Array Value}
theorem noE {α : Type} {M : Model} {t : Sem α} {Q : α → Shared → Prop} (h : wpAny M A t Q (fun _ _ => False) s) : wpAny M A t Q E s := wpAny_mono h (fun _ _ q => q) fun _ _ q => q.elim
noncomputable abbrev lit (l : Addr) (i : Nat) : Obj := { cls := .type "list_iterator", data := .fields #[.ref l, .int (i : Int) 0] }
noncomputable abbrev rit (x left step : Int) : Obj := { cls := .type "range_iterator", dict := none, data := .fields #[rawInt x, rawInt left, rawInt step], slots := #[] }
theorem iter_list (F : Fr h₀ L s.heap m) (N : News h₀ L s.heap news) (hl : s.heap.IsList l its) (h : ∀ I h', Fr h₀ L h' m → News h₀ L h' ((I, lit l 0) :: news) → (∀ p ∈ news, p.1 < I) → s.heap.get? I = none → Q (.ref I) { s with heap := h' }) :
    wpAny (model prog w) A (call (.builtin "iter") [.ref l]) Q E s := by
  refine call_function_entry (by decide +kernel) (by decide +kernel) kdk_entry_iter (kdk_args_iter _) ?_
  unfold Builtin.«iter»
  refine wpAny_bind (m := someArgs "iter" 1 2 _) (wpAny_of_eq (a := [Value.ref l]) (by first | rfl | kernel_rfl!) ?_)
  show wpAny _ _ (pyIter (.ref l) >>= _) _ _ _
  refine wpAny_bind (wpAny_pyIter_list hl ?_)
  exact wpAny_pure ⟨_, rfl, h _ _ (F.push _) (News.push F N _ rfl) (fun q hq => Heap.lt_size (N q hq).1) (Heap.get?_none_of_le (Nat.le_refl _))⟩
theorem iter_range {a b c : Int} {t u v : Tok} (F : Fr h₀ L s.heap m) (N : News h₀ L s.heap news) (hr : IsRange s.heap l a b c t u v) (hsm : Builtin.Range.small a b c = true) (h : ∀ I h', Fr h₀ L h' m → News h₀ L h' ((I, rit a (Builtin.Range.rangeSize a b c) c) :: news) → (∀ p ∈ news, p.1 < I) → s.heap.get? I = none → Q (.ref I) { s with heap := h' }) :
    wpAny (model prog w) A (call (.builtin "iter") [.ref l]) Q E s := by
  refine call_function_entry (by decide +kernel) (by decide +kernel) kdk_entry_iter (kdk_args_iter _) ?_
  unfold Builtin.«iter»
  refine wpAny_bind (m := someArgs "iter" 1 2 _) (wpAny_of_eq (a := [Value.ref l]) (by first | rfl | kernel_rfl!) ?_)
  show wpAny _ _ (pyIter (.ref l) >>= _) _ _ _
  refine wpAny_bind (wpAny_pyIter_range hr hsm ?_)
  exact wpAny_pure ⟨_, rfl, h _ _ (F.push _) (News.push F N _ rfl) (fun q hq => Heap.lt_size (N q hq).1) (Heap.get?_none_of_le (Nat.le_refl _))⟩
theorem next_list {i : Nat} {x : Value} (F : Fr h₀ L s.heap m) (N : News h₀ L s.heap ((it, lit l i) :: news)) (off : ∀ p ∈ news, p.1 ≠ it) (hl : s.heap.IsList l its) (hx : its[i]? = some x) (h : ∀ h', Fr h₀ L h' m → News h₀ L h' ((it, lit l (i + 1)) :: news) → Q x { s with heap := h' }) :
    wpAny (model prog w) A (call (.builtin "next") [.ref it]) Q E s := by
  have hm := N _ (.head _)
  obtain ⟨ol, hol, _, nl, hdl⟩ := hl
  have hit : s.TypeIs (.ref it) "list_iterator" := ⟨_, hm.1, rfl⟩
  refine call_function_entry (by decide +kernel) (by decide +kernel) kdk_entry_next (kdk_args_next _) ?_
  unfold Builtin.«next»
  refine wpAny_bind (m := someArgs "next" 1 2 _) (wpAny_of_eq (a := [Value.ref it]) (by first | rfl | kernel_rfl!) ?_)
  dsimp only
  refine wpAny_bind (wpAny_specialOf (name := Str.ofString "__next__") hit slot_listiter_next.lookup ?_)
  refine wpAny_ite_split (fun hab => absurd hab (by decide)) (fun _ => ?_)
  refine wpAny_bind (wpAny_callSpecial?_slot (name := Str.ofString "__next__") hit slot_listiter_next
    (wpAny_call_entry slot_listiter_next hit entry_listiter_next ?_ (args_listiter_next _)))
  show wpAny _ _ (field (.ref it) 0 >>= _) _ _ s
  refine wpAny_bind (wpAny_field hm.1 rfl (x := .ref l) rfl ?_)
  show wpAny _ _ (if (Value.ref l == Value.none) = true then _ else _) _ _ s
  rw [if_neg (show ¬ ((Value.ref l == Value.none) = true) from Bool.false_ne_true)]
  show wpAny _ _ (field (.ref it) 1 >>= _) _ _ s
  refine wpAny_bind (wpAny_field hm.1 rfl (x := .int i 0) rfl ?_)
  show wpAny _ _ (seqItems? (.ref l) >>= _) _ _ s
  refine wpAny_bind (wpAny_seqItems hol hdl ?_)
  simp only [Int.toNat_natCast, hx]
  refine wpAny_bind (wpAny_setField hm.1 rfl (by simp) (wpAny_pure ⟨x, rfl, wpAny_pure ⟨_, rfl, ?_⟩⟩))
  have sb : Heap.SameBut it s.heap (s.heap.update it (Obj.mapFields (·.setIfInBounds 1 (rawInt ((i : Int) + 1))))) := Heap.SameBut.update ..
  refine h _ (F.change sb hm.2.1 hm.2.2) (N.setHead off sb (Heap.get?_update_self _ hm.1 rfl))
end
section
variable {w : World} {A : Around} {R : Result → Shared → Prop} {s : Shared} {pr : Program} {loose : List Str} {mg mb : Str → Option Value}
/-- reduce over a list, without an initial -/
theorem reduceL_spec {f q : Addr} {fd : FuncData} {v0 : Value} {vs : List Value} {J : Nat → Value → List (Addr × Obj) → Prop} (hA : Sm A 450 2350) (G : Gd w pr loose mg mb s.heap) (hq : s.heap.IsList q (v0 :: vs).toArray) (hlen : vs.length ≤ 100) (J0 : J 0 v0 [])
    (hf : s.heap.get? f = some (⟨.type "function", none, .func fd, #[]⟩ : Obj))
    (hcall : ∀ (i : Nat) (v x : Value) (news : List (Addr × Obj)) (s' : Shared), vs[i]? = some x → J i v news → (∀ p ∈ news, s'.heap.get? p.1 = some p.2) → (∀ b o, s.heap.get? b = some o → s'.heap.get? b = some o) →
      wpAny (model PySem.Challenge.rw_ij0154_01.prog w) (AM 500 2500) (call (.ref f) [v, x]) (fun v' s'' => ∃ h' tk news', s'' = { s' with heap := h', toks := tk } ∧ (∀ b o, s'.heap.get? b = some o → h'.get? b = some o) ∧ (∀ p ∈ news', h'.get? p.1 = some p.2 ∧ s'.heap.get? p.1 = none) ∧ J (i + 1) v' news') (fun _ _ => False) s')
    (hR : ∀ h' tk v news', (∀ b o, s.heap.get? b = some o → h'.get? b = some o) → (∀ p ∈ news', h'.get? p.1 = some p.2 ∧ s.heap.get? p.1 = none) → J vs.length v news' → R (.ok (.ret v)) { s with heap := h', toks := tk }) :
    codeAny (model PySem.Challenge.rw_ij0154_01.prog w) A (.call (.ref 58) ⟨[.ref f, .ref q], []⟩) R s := by
  have X := G.X
  have T := G.T
  revert X; k_fill; intro X
  refine enterF (binds := [(Str.ofString "function", .ref f), (Str.ofString "sequence", .ref q), (Str.ofString "initial", .ref 50)]) hA (by decide) (X 58 _ rfl) rfl T.nolimit (codeRec_of X (by k_is)) (binds_K X (T := 51) rfl rfl rfl rfl rfl) (by decide) (locs rfl) (fun h₁ F => ?_)
  generalize hm : (fun y => List.lookup y (List.reverse [(Str.ofString "function", Value.ref f), (Str.ofString "sequence", Value.ref q), (Str.ofString "initial", Value.ref 50)])) = m at F
  have m1 : m (Str.ofString "function") = some (.ref f) := by rw [← hm]; rfl
  have m2 : m (Str.ofString "sequence") = some (.ref q) := by rw [← hm]; rfl
  have m3 : m (Str.ofString "initial") = some (.ref 50) := by rw [← hm]; rfl
  clear hm
  generalize s.heap.objs.size = L at F ⊢
  have N : News s.heap L h₁ [] := News.nil
  generalize s.toks + _ = tk at *
  walk_at "z_gc"
  refine iter_list F N (F.lst hq) fun I h2 F2 N2 _ hI => ?_
  walk_at "z_tc"
  refine wpAny_Try_except (noE ?_)
  walk_at "z_gc"
  rename Fr _ _ _ _ => F3
  rename News _ _ _ _ => N3
  refine next_list F3 N3 (fun _ hp => nomatch hp) (F3.lst hq) (x := v0) rfl fun h4 F4 N4 => ?_
  walk_at "z_gc"
  refine wpAny_For ?_
  walk_at "z_gc"
  rename Fr _ _ _ _ => F5
  rename News _ _ _ _ => N5
  obtain ⟨oq, eq1, eq2, eq3⟩ := id hq
  have hqI : q ≠ I := fun e => by
    have := (N5 _ (.head _)).2.2
    rw [← e, eq1] at this; cases this
  have W : Walks PySem.Challenge.rw_ij0154_01.prog w (AM (450 + 1) (2350 + 3)) I [I, q] [I] (v0 :: vs).toArray.size (fun i v => (v0 :: vs).toArray[i]? = some v) (fun i h => h.IsListIter I q i ∧ h.IsList q (v0 :: vs).toArray) := Walks.list rfl I q hqI _
  have st : (fun (i : Nat) (h : Heap) => h.IsListIter I q i ∧ h.IsList q (v0 :: vs).toArray) 1 _ := ⟨⟨_, (N5 _ (.head _)).1, rfl, rfl⟩, F5.lst hq⟩
  refine W.self 1 _ _ _ st ?_
  refine for_walks (s := ⟨_, s.gens, s.drawn, _, s.os⟩) W (fun i m' news' => 1 ≤ i ∧ m' (Str.ofString "function") = some (.ref f) ∧ ∃ v, m' (Str.ofString "value") = some v ∧ J (i - 1) v news') F5 N5 (fun _ hp => nomatch hp) st (by simp) ⟨Nat.le_refl _, by walk_at "z_loc", v0, by walk_at "z_loc", J0⟩
    (fun i h st => let ⟨o, e, _⟩ := st.1; ⟨o, e⟩) (fun i i' h h' o m news st e e' hi F N => ?stK) ?step ?fin
  case stK =>
    obtain ⟨⟨o1, e1, r1⟩, st2⟩ := st
    rw [e] at e1; cases e1
    exact ⟨⟨o, e', r1⟩, F.lst hq⟩
  case fin =>
    rintro m' news' h' tk' ⟨h1, hm1, v, hm2, hJ⟩ F6 N6
    dsimp only
    walk_at "z_gc"
    have : (v0 :: vs).toArray.size - 1 = vs.length := by simp
    rw [this] at hJ
    exact hR _ _ v news' F6.keep (fun p hp => ⟨(N6 p hp).1, (N6 p hp).2.2⟩) hJ
  case step =>
    rintro i m' news' x oI h' tk' hi hx ⟨h1, hm1, v, hm2, hJ⟩ F6 N6 off6 hIL
    walk_at "z_gc"
    refine callWith_F (fnAt_base (by assumption) hf) ?_
    walk_at "z_gc"
    rename Fr _ _ _ _ => F7
    rename News _ _ _ _ => N7
    refine ⟨fnAt_base F7 hf, ?_⟩
    have hx' : vs[i - 1]? = some x := by
      obtain ⟨j, rfl⟩ : ∃ j, i = j + 1 := ⟨i - 1, by (first | lia | omega)⟩
      simpa using hx
    refine wk (d := 500) (u := 2500) ⟨rfl, Nat.le_of_ble_eq_true rfl, Nat.le_of_ble_eq_true rfl⟩ (wpAny_mono (hcall (i - 1) v x news' ⟨_, s.gens, s.drawn, _, s.os⟩ hx' hJ (fun p hp => (N7 p (.tail _ hp)).1) F7.keep) (fun v8 s' q => ?_) fun _ _ q => q.elim)
    obtain ⟨h8, tk8, news8, rfl, k8, n8, hJ8⟩ := q
    have F8 := F7.keeps k8
    have N8 : News s.heap L h8 ((I, oI) :: news8) := fun p hp => by
      rcases List.mem_cons.mp hp with rfl | hp
      · exact N7.grown k8 _ (.head _)
      · exact ⟨(n8 p hp).1, fr_none F7 (n8 p hp).2⟩
    have off8 : ∀ p ∈ news8, (@Ne Nat p.1 I) := fun p hp e => by
      have := (n8 p hp).2
      rw [e, (N7 _ (.head _)).1] at this; cases this
    clear F7 N7
    dsimp only
    walk_at "z_gc"
    have e1 : i + 1 - 1 = i - 1 + 1 := by (first | lia | omega)
    exact ⟨rfl, _, _, _, news8, rfl, by assumption, by assumption, off8, by (first | lia | omega), by walk_at "z_loc", v8, by walk_at "z_loc", by rw [e1]; exact hJ8⟩
/-- reduce over a range, with an initial -/
theorem reduceR_spec {f q : Addr} {fd : FuncData} {n : Nat} {tq0 tq1 tq2 ti : Tok} {i0 : Int} {J : Nat → Value → List (Addr × Obj) → Prop} (hA : Sm A 450 2350) (G : Gd w pr loose mg mb s.heap) (hq : IsRange s.heap q 0 (n : Int) 1 tq0 tq1 tq2) (hlen : n ≤ 100) (J0 : J 0 (.int i0 ti) [])
    (hf : s.heap.get? f = some (⟨.type "function", none, .func fd, #[]⟩ : Obj))
    (hcall : ∀ (i : Nat) (v : Value) (t : Tok) (news : List (Addr × Obj)) (s' : Shared), i < n → J i v news → (∀ p ∈ news, s'.heap.get? p.1 = some p.2) → (∀ b o, s.heap.get? b = some o → s'.heap.get? b = some o) →
      wpAny (model PySem.Challenge.rw_ij0154_01.prog w) (AM 500 2500) (call (.ref f) [v, .int (i : Int) t]) (fun v' s'' => ∃ h' tk news', s'' = { s' with heap := h', toks := tk } ∧ (∀ b o, s'.heap.get? b = some o → h'.get? b = some o) ∧ (∀ p ∈ news', h'.get? p.1 = some p.2 ∧ s'.heap.get? p.1 = none) ∧ J (i + 1) v' news') (fun _ _ => False) s')
    (hR : ∀ h' tk v news', (∀ b o, s.heap.get? b = some o → h'.get? b = some o) → (∀ p ∈ news', h'.get? p.1 = some p.2 ∧ s.heap.get? p.1 = none) → J n v news' → R (.ok (.ret v)) { s with heap := h', toks := tk }) :
    codeAny (model PySem.Challenge.rw_ij0154_01.prog w) A (.call (.ref 58) ⟨[.ref f, .ref q, .int i0 ti], []⟩) R s := by
  have X := G.X
  have T := G.T
  revert X; k_fill; intro X
  refine enterF (binds := [(Str.ofString "function", .ref f), (Str.ofString "sequence", .ref q), (Str.ofString "initial", .int i0 ti)]) hA (by decide) (X 58 _ rfl) rfl T.nolimit (codeRec_of X (by k_is)) (binds_K X (T := 51) rfl rfl rfl rfl rfl) (by decide) (locs rfl) (fun h₁ F => ?_)
  generalize hm : (fun y => List.lookup y (List.reverse [(Str.ofString "function", Value.ref f), (Str.ofString "sequence", Value.ref q), (Str.ofString "initial", Value.int i0 ti)])) = m at F
  have m1 : m (Str.ofString "function") = some (.ref f) := by rw [← hm]; rfl
  have m2 : m (Str.ofString "sequence") = some (.ref q) := by rw [← hm]; rfl
  have m3 : m (Str.ofString "initial") = some (.int i0 ti) := by rw [← hm]; rfl
  clear hm
  generalize s.heap.objs.size = L at F ⊢
  have N : News s.heap L h₁ [] := News.nil
  generalize s.toks + _ = tk at *
  walk_at "z_gc"
  have hsz : Builtin.Range.rangeSize 0 (n : Int) 1 = (n : Int) := range_size n
  refine iter_range F N (F.keep _ _ hq) (small_one (by decide) (by decide) (by (first | lia | omega)) (by (first | lia | omega))) fun I h2 F2 N2 _ hI => ?_
  rw [hsz] at N2
  walk_at "z_tc"
  refine wpAny_is_other rfl (fun e => nomatch e) ?_
  walk_at "z_tc"
  refine wpAny_For ?_
  walk_at "z_gc"
  rename Fr _ _ _ _ => F5
  rename News _ _ _ _ => N5
  have W : Walks PySem.Challenge.rw_ij0154_01.prog w (AM (450 + 1) (2350 + 3)) I [I] [I] n (fun i v => ∃ t, v = .int (0 + (i : Int) * 1) t) (fun i h => IsRangeIter h I (0 + (i : Nat) * 1) ((n : Int) - (i : Nat)) 1) := Walks.range rfl I 0 1 n
  have st : (fun (i : Nat) (h : Heap) => IsRangeIter h I (0 + (i : Nat) * 1) ((n : Int) - (i : Nat)) 1) 0 _ := (N5 _ (.head _)).1
  refine W.self 0 _ _ _ st ?_
  refine for_walks (s := ⟨_, s.gens, s.drawn, _, s.os⟩) W (fun i m' news' => m' (Str.ofString "function") = some (.ref f) ∧ ∃ v, m' (Str.ofString "value") = some v ∧ J i v news') F5 N5 (fun _ hp => nomatch hp) st (Nat.zero_le _) ⟨by walk_at "z_loc", _, by walk_at "z_loc", J0⟩
    (fun i h st => ⟨_, st⟩) (fun i i' h h' o m news st e e' hi F N => ?stK) ?step ?fin
  case stK =>
    have st' : h.get? I = some _ := st
    rw [e] at st'
    cases st'
    exact e'
  case fin =>
    rintro m' news' h' tk' ⟨hm1, v, hm2, hJ⟩ F6 N6
    dsimp only
    walk_at "z_gc"
    exact hR _ _ v news' F6.keep (fun p hp => ⟨(N6 p hp).1, (N6 p hp).2.2⟩) hJ
  case step =>
    rintro i m' news' x oI h' tk' hi ⟨tx, rfl⟩ ⟨hm1, v, hm2, hJ⟩ F6 N6 off6 hIL
    rw [Int.zero_add, Int.mul_one]
    walk_at "z_gc"
    refine callWith_F (fnAt_base (by assumption) hf) ?_
    walk_at "z_gc"
    rename Fr _ _ _ _ => F7
    rename News _ _ _ _ => N7
    refine ⟨fnAt_base F7 hf, ?_⟩
    refine wk (d := 500) (u := 2500) ⟨rfl, Nat.le_of_ble_eq_true rfl, Nat.le_of_ble_eq_true rfl⟩ (wpAny_mono (hcall i v tx news' ⟨_, s.gens, s.drawn, _, s.os⟩ hi hJ (fun p hp => (N7 p (.tail _ hp)).1) F7.keep) (fun v8 s' q => ?_) fun _ _ q => q.elim)
    obtain ⟨h8, tk8, news8, rfl, k8, n8, hJ8⟩ := q
    have F8 := F7.keeps k8
    have N8 : News s.heap L h8 ((I, oI) :: news8) := fun p hp => by
      rcases List.mem_cons.mp hp with rfl | hp
      · exact N7.grown k8 _ (.head _)
      · exact ⟨(n8 p hp).1, fr_none F7 (n8 p hp).2⟩
    have off8 : ∀ p ∈ news8, (@Ne Nat p.1 I) := fun p hp e => by
      have := (n8 p hp).2
      rw [e, (N7 _ (.head _)).1] at this; cases this
    clear F7 N7
    dsimp only
    walk_at "z_gc"
    exact ⟨rfl, _, _, _, news8, rfl, by assumption, by assumption, off8, by walk_at "z_loc", v8, by walk_at "z_loc", hJ8⟩
end
end Mine
end
section
open PySem PySem.W PySem.Calls PyProof.Rows
set_option Elab.async false
set_option maxRecDepth 100000
set_option maxHeartbeats 2000000
namespace Mine
local macro_rules | `(tactic| walk_at "subscriptTail") => `(tactic| (k_here; (with_reducible show wpAny _ _ (subscriptTail _ _ (Value.ref _) (Value.int (Nat.cast _) _)) _ _ _); first | k_dflt (refine it_ref (Fr.lst (by with_reducible assumption : Fr _ _ _ _) (by with_reducible assumption)) (by with_reducible assumption) (by with_reducible assumption) ?_) | k_dflt (refine it_int (Fr.lst (by with_reducible assumption : Fr _ _ _ _) (by with_reducible assumption)) (by with_reducible assumption) (by omega) (by omega) fun _ => ?_)))
local macro_rules | `(tactic| walk_at "call builtin:len") => `(tactic| (k_here; (with_reducible show wpAny _ _ (call (Value.builtin _) [Value.ref _]) _ _ _); k_dflt (refine len_nat (Fr.lst (by with_reducible assumption : Fr _ _ _ _) (by with_reducible assumption)) (by with_reducible assumption) rfl (by omega) fun _ _ => ?_)))
local macro_rules | `(tactic| walk_at "call builtin:len") => `(tactic| (k_here; (with_reducible show wpAny _ _ (call (Value.builtin _) [Value.ref _]) _ _ _); k_dflt (refine len_nat (isList_at ((by with_reducible assumption : News _ _ _ [(_, _)]) _ (.head _)).1) (by with_reducible assumption) (by with_reducible assumption) (by omega) fun _ _ => ?_)))
section
variable {w : World} {A : Around} {R : Result → Shared → Prop} {s : Shared} {pr : Program} {loose : List Str} {mg mb : Str → Option Value}
/-- the road between two nodes -/
noncomputable def roadV (p : Nat → Nat) (a b : Nat) : Int := ((way p a).length : Int) + (way p b).length - 2 * cp (way p a) (way p b)
theorem road_spec {f cd c2 Ws : Addr} {fd : FuncData} {oc ow : Obj} {vs : Array Value} {tw : Tok} {WA : Nat → Addr} {nF : Nat} {p : Nat → Nat} {a b : Nat} {ta tb : Tok} (hA : Sm A 550 2800) (G : Gd w pr loose mg mb s.heap)
    (hf : s.heap.get? f = some (⟨.type "function", none, .func fd, #[]⟩ : Obj)) (hfd : IsFnS w.params 91 0 (Str.ofString "_law_round.<locals>.road") [(Str.ofString "ways", c2)] cd fd)
    (h2 : s.heap.get? c2 = some ow) (h2d : ow.data = .cell (some (.ref Ws))) (hcd : s.heap.get? cd = some oc) (hoc : oc.data = .fields vs) (hvs : vs[1]? = some (.str (Str.ofString "_law_round.<locals>.road") tw))
    (hW : s.heap.IsList Ws ((List.range nF).map fun j => Value.ref (WA j)).toArray) (hp : ∀ k, 0 < k → p k < k)
    (ha : a < nF) (hb : b < nF) (hn : nF ≤ 20) (hways : ∀ j, j < nF → ∃ us, s.heap.IsList (WA j) us.toArray ∧ IntsAre us (way p j))
    (hR : ∀ h' tk t, (∀ b o, s.heap.get? b = some o → h'.get? b = some o) → R (.ok (.ret (.int (roadV p a b) t))) { s with heap := h', toks := tk }) :
    codeAny (model PySem.Challenge.rw_ij0154_01.prog w) A (.call (.ref f) ⟨[.int a ta, .int b tb], []⟩) R s := by
  have X := G.X
  have T := G.T
  have e91 := G.X 91 (lk w.params 91) (by kernel_rfl)
  revert X; k_fill; intro X
  have hst := stF_of (X 91 _ rfl) e91 rfl rfl (i := 0) rfl
  rw [IsFnS, hst] at hfd
  clear hst e91
  simp only [dName, dBody, dParams, dScope] at hfd
  refine enterF (binds := [(Str.ofString "a", .int a ta), (Str.ofString "b", .int b tb)]) hA (by decide) hf (congrArg Data.func hfd) G.T.nolimit ⟨cd, oc, vs, _, rfl, hcd, hoc, hvs⟩ (BindsTo.of_eq rfl) (by decide) (locs rfl) (fun h₁ F => ?_)
  clear hfd
  generalize hm : (fun y => List.lookup y (List.reverse [(Str.ofString "a", Value.int (a : Int) ta), (Str.ofString "b", Value.int (b : Int) tb)])) = m at F
  have m1 : m (Str.ofString "a") = some (.int a ta) := by rw [← hm]; rfl
  have m2 : m (Str.ofString "b") = some (.int b tb) := by rw [← hm]; rfl
  clear hm
  generalize s.heap.objs.size = L at F ⊢
  have N : News s.heap L h₁ [] := News.nil
  generalize s.toks + _ = tk at *
  obtain ⟨ua, hwa, iwa⟩ := hways a ha
  obtain ⟨ub, hwb, iwb⟩ := hways b hb
  have la := (way_len p hp a).1
  have lb := (way_len p hp b).1
  walk_at "z_go"
  rename Fr _ _ _ _ => F1
  refine ⟨X.keeps F1.keep, ?_⟩
  refine wpAny_call (shared_spec ((sm_AM _ _).le (by decide) (by decide)) (X.keeps F1.keep) (T.keeps F1.keep) (F1.lst hwa) iwa (F1.lst hwb) iwb (by (first | lia | omega)) (by (first | lia | omega)) fun h2 tk2 r k2 hr2 hn2 => ?_)
  have F2 := F1.keeps k2
  have N2 : News s.heap L h2 [(r, listOf (ua.take (cp (way p a) (way p b))).toArray 0)] := news_cons .nil hr2 (fr_none F1 hn2)
  have ic := iwa.take (cp (way p a) (way p b))
  have cl := cp_le (way p a) (way p b)
  have lc : ((way p a).take (cp (way p a) (way p b))).length = cp (way p a) (way p b) := by rw [List.length_take]; (first | lia | omega)
  clear F1
  dsimp only
  walk_at "z_go"
  exact hR _ _ _ F2.keep
/-- the lambda that a function of the text hands to reduce, as its first argument -/
noncomputable def lamOf : Expr → Expr
  | .Call _ (l :: _) _ _ => l
  | e => e
noncomputable def lamP : Expr → Arguments | .Lambda p .. => p | _ => ⟨[], [], none, [], [], none, []⟩
noncomputable def lamB : Expr → Expr | .Lambda _ b .. => b | e => e
noncomputable def lamS : Expr → Scope | .Lambda _ _ sc .. => sc | _ => default
noncomputable def IsLam (e : Expr) (qual : Str) (cl : List (Str × Addr)) (c' : Addr) (fd : FuncData) : Prop := fd = kla_fn (Str.ofString "<lambda>") qual (lamP e) (lamB e) (lamS e) cl fd.pyModule (.ref c') fd.closureTuple
/-- the value of a return -/
noncomputable def retE : Stmt → Expr | .Return (some e) _ => e | _ => .Name Str.empty ⟨0, 0, 0, 0⟩
theorem lamr_spec {f fr cd c1 c2 Rw : Addr} {fd fdr : FuncData} {oc o1 o3 : Obj} {vs : Array Value} {tw : Tok} {rs : List Int} {rv : List Value} {tot r : Int} {j i : Nat} {tt tj : Tok} (hA : Sm A 510 2550) (G : Gd w pr loose mg mb s.heap)
    (hf : s.heap.get? f = some (⟨.type "function", none, .func fd, #[]⟩ : Obj)) (hfd : IsLam (lamOf (retE (stF w.params 91 1))) (Str.ofString "_law_round.<locals>.<lambda>") [(Str.ofString "row", c2), (Str.ofString "road", c1)] cd fd)
    (h1 : s.heap.get? c1 = some o1) (h1d : o1.data = .cell (some (.ref fr))) (h3 : s.heap.get? c2 = some o3) (h3d : o3.data = .cell (some (.ref Rw))) (hcd : s.heap.get? cd = some oc) (hoc : oc.data = .fields vs) (hvs : vs[1]? = some (.str (Str.ofString "_law_round.<locals>.<lambda>") tw))
    (hfr : s.heap.get? fr = some (⟨.type "function", none, .func fdr, #[]⟩ : Obj)) (hrow : s.heap.IsList Rw rv.toArray) (irow : IntsAre rv rs) (hj : j < rs.length) (hlen : rs.length ≤ 100) (hi : i = if j = 0 then rs.length - 1 else j - 1)
    (hcall : ∀ (ta tb : Tok) (s' : Shared), (∀ b o, s.heap.get? b = some o → s'.heap.get? b = some o) → wpAny (model PySem.Challenge.rw_ij0154_01.prog w) (AM 540 2600) (call (.ref fr) [.int (rs.getD i 0) ta, .int (rs.getD j 0) tb]) (More s' fun v _ => ∃ t, v = .int r t) (fun _ _ => False) s')
    (hR : ∀ h' tk t, (∀ b o, s.heap.get? b = some o → h'.get? b = some o) → R (.ok (.ret (.int (tot + r) t))) { s with heap := h', toks := tk }) :
    codeAny (model PySem.Challenge.rw_ij0154_01.prog w) A (.call (.ref f) ⟨[.int tot tt, .int (j : Int) tj], []⟩) R s := by
  have X := G.X
  have T := G.T
  have e91 := G.X 91 (lk w.params 91) (by kernel_rfl)
  revert X; k_fill; intro X
  have hst := stF_of (X 91 _ rfl) e91 rfl rfl (i := 1) rfl
  rw [IsLam, hst] at hfd
  clear hst e91
  simp only [retE, lamOf, lamP, lamB, lamS] at hfd
  refine enterL (binds := [(Str.ofString "total", .int tot tt), (Str.ofString "j", .int j tj)]) hA (by decide) hf (congrArg Data.func hfd) G.T.nolimit ⟨cd, oc, vs, _, rfl, hcd, hoc, hvs⟩ (BindsTo.of_eq rfl) (by decide) (locs rfl) (fun h₁ F => ?_)
  clear hfd
  generalize hm : (fun y => List.lookup y (List.reverse [(Str.ofString "total", Value.int tot tt), (Str.ofString "j", Value.int (j : Int) tj)])) = m at F
  have m1 : m (Str.ofString "total") = some (.int tot tt) := by rw [← hm]; rfl
  have m2 : m (Str.ofString "j") = some (.int j tj) := by rw [← hm]; rfl
  clear hm
  generalize s.heap.objs.size = L at F ⊢
  have N : News s.heap L h₁ [] := News.nil
  generalize s.toks + _ = tk at *
  walk_at "z_gc"
  refine callWith_F (fnAt_base (by with_reducible assumption) hfr) ?_
  walk_at "z_sc"
  rename Fr _ _ _ _ => F1
  refine it_wrap (F1.lst hrow) irow (i := i) (by split at hi <;> (first | lia | omega)) (by split at hi <;> (first | lia | omega)) (by (first | lia | omega)) fun ta => ?_
  walk_at "z_gc"
  rename Fr _ _ _ _ => F2
  refine ⟨fnAt_base F2 hfr, ?_⟩
  refine wk (d := 540) (u := 2600) ⟨rfl, Nat.le_of_ble_eq_true rfl, Nat.le_of_ble_eq_true rfl⟩ (wpAny_mono (hcall _ _ ⟨_, s.gens, s.drawn, _, s.os⟩ F2.keep) (fun v s' q => ?_) fun _ _ q => q.elim)
  obtain ⟨h3, tk3, rfl, k3, t3, rfl⟩ := q
  have F3 := F2.keeps k3
  dsimp only
  walk_at "z_gc"
  exact hR _ _ _ (by rename Fr _ _ _ _ => F'; exact F'.keep)
end
end Mine
end
section
open PySem PySem.W PySem.Calls PyProof.Rows
set_option Elab.async false
set_option maxRecDepth 100000
set_option maxHeartbeats 2000000
namespace Mine
local macro_rules | `(tactic| walk_at "call builtin:len") => `(tactic| (k_here; (with_reducible show wpAny _ _ (call (Value.builtin _) [Value.ref _]) _ _ _); k_dflt (refine len_nat (Fr.lst (by with_reducible assumption : Fr _ _ _ _) (by with_reducible assumption)) (by with_reducible assumption) (by first | with_reducible assumption | rfl) (by omega) fun _ _ => ?_)))
section
variable {w : World} {A : Around} {R : Result → Shared → Prop} {s : Shared} {pr : Program} {loose : List Str} {mg mb : Str → Option Value}
/-- the roads from each of a row to the next, round, the first j of them -/
noncomputable def roadsum (p : Nat → Nat) (rs : List Nat) : Nat → Int
  | 0 => 0
  | j + 1 => roadsum p rs j + roadV p (rs.getD (if j = 0 then rs.length - 1 else j - 1) 0) (rs.getD j 0)
theorem getD_cast (rs : List Nat) (i : Nat) : (rs.map fun k : Nat => (k : Int)).getD i 0 = ((rs.getD i 0 : Nat) : Int) := by
  rw [List.getD_eq_getElem?_getD, List.getD_eq_getElem?_getD, List.getElem?_map]
  cases rs[i]? <;> rfl
theorem getD_lt {rs : List Nat} {n : Nat} (h : ∀ k ∈ rs, k < n) {i : Nat} (hi : i < rs.length) : rs.getD i 0 < n := by
  rw [List.getD_eq_getElem?_getD, List.getElem?_eq_getElem hi]
  exact h _ (List.getElem_mem hi)
theorem round_first {Rw Ws : Addr} {WA : Nat → Addr} {nF : Nat} {p : Nat → Nat} {rs : List Nat} {rv : List Value} (hA : Sm A 350 1800) (G : Gd w pr loose mg mb (hideAll s.heap [86])) (C : CodeHd (hideAll s.heap [86]) 90 86) (h86 : s.heap.get? 86 = some (tabObj #[])) 
    (hrow : (hideAll s.heap [86]).IsList Rw rv.toArray) (irow : IntsAre rv (rs.map fun k : Nat => (k : Int))) (hlen : rs.length ≤ 100) (hrs : ∀ k ∈ rs, k < nF)
    (hW : (hideAll s.heap [86]).IsList Ws ((List.range nF).map fun j => Value.ref (WA j)).toArray) (hp : ∀ k, 0 < k → p k < k) (hn : nF ≤ 20) (hways : ∀ j, j < nF → ∃ us, (hideAll s.heap [86]).IsList (WA j) us.toArray ∧ IntsAre us (way p j))
    (hR : ∀ h' tk t, (∀ b o, b ≠ 86 → s.heap.get? b = some o → h'.get? b = some o) → (∃ cr cl ocr vsr tr ocl vsl tl, h'.get? 86 = some (tabObj #[rawInt 81, rawInt 4, .ref cr, rawInt 83, rawInt 18, .ref cl]) ∧ h'.get? cr = some ocr ∧ ocr.data = .fields vsr ∧ vsr[1]? = some (.str (Str.ofString "_law_round.<locals>.road") tr) ∧ h'.get? cl = some ocl ∧ ocl.data = .fields vsl ∧ vsl[1]? = some (.str (Str.ofString "_law_round.<locals>.<lambda>") tl)) → R (.ok (.ret (.int (roadsum p rs rs.length) t))) { s with heap := h', toks := tk }) :
    codeAny (model PySem.Challenge.rw_ij0154_01.prog w) A (.call (.ref 91) ⟨[.ref Rw, .ref Ws], []⟩) R s := by
  have X := G.X
  have T := G.T
  have e91 := G.X 91 (lk w.params 91) (by kernel_rfl)
  revert X; k_fill; intro X
  have hst0 := stF_of (X 91 _ rfl) e91 rfl rfl (i := 0) rfl
  have hst1 := stF_of (X 91 _ rfl) e91 rfl rfl (i := 1) rfl
  have X1 : (KR w.params).In s.heap := fun a o e => of_hideAll _ (X a o e)
  have T1 : TopRead pr loose mg mb s.heap := T.keeps fun b o e => of_hideAll _ e
  refine enterC (binds := [(Str.ofString "row", .ref Rw), (Str.ofString "ways", .ref Ws)]) hA (by decide) (of_hideAll _ (X 91 _ rfl)) rfl T1.nolimit (codeRec_of X1 (by k_is)) (BindsTo.of_eq rfl) ?hkind (by decide) (fun h₁ tk cells F₁ N₁ Y => ?_)
  case hkind =>
    intro n y hy
    simp only [List.mem_cons, List.not_mem_nil, or_false] at hy
    rcases hy with rfl | rfl
    · exact .inr ⟨rfl, rfl⟩
    · exact .inr ⟨rfl, rfl⟩
  obtain ⟨o1, o2, o3, rfl, e1, e2, e3⟩ := CellsAre.three Y
  have e1' : o1.data = .cell none := e1.trans (by kernel_rfl)
  have e2' : o2.data = .cell (some (.ref Ws)) := e2.trans (by kernel_rfl)
  have e3' : o3.data = .cell (some (.ref Rw)) := e3.trans (by kernel_rfl)
  clear e1 e2 e3 Y
  have h86L : 86 < s.heap.objs.size := Heap.lt_size h86
  have F : Fr (hideAll s.heap [86]) s.heap.objs.size h₁ _ := ⟨F₁.ns, fun b o e => F₁.keep b o (of_hideAll _ e), by rw [hideAll_size]; exact F₁.above⟩
  have N : News (hideAll s.heap [86]) s.heap.objs.size h₁ [(86, tabObj #[]), (_, o1), (_, o2), (_, o3)] := fun q hq => by
    rcases List.mem_cons.mp hq with rfl | hq
    · exact ⟨F₁.keep _ _ h86, Nat.ne_of_lt h86L, hideAll_none _ (.head _)⟩
    · have := N₁ q hq
      refine ⟨this.1, this.2.1, ?_⟩
      cases e : (hideAll s.heap [86]).get? q.1 with
      | none => rfl
      | some o => rw [of_hideAll _ e] at this; exact absurd this.2.2 (by simp)
  have hback : ∀ {h' : Heap}, (∀ b o, (hideAll s.heap [86]).get? b = some o → h'.get? b = some o) → ∀ b o, b ≠ 86 → s.heap.get? b = some o → h'.get? b = some o := fun k b o hb e => k b o (hideAll_get _ e (by simpa using hb))
  clear F₁ N₁
  generalize hm : bindL _ _ _ = m at F
  clear hm
  generalize hideAll s.heap [86] = base at *
  generalize s.heap.objs.size = L at *
  refine wpAny_execs_cons (nestDef_K rfl rfl rfl ?_)
  refine def_make F N ?_ G C rfl rfl trivial rfl rfl (fun fr cr ocr vsr tr ctr docr h2 tk2 F2 N2 hdr hvr l1 l2 l3 => ?_)
  · intro q hq
    simp only [List.mem_cons, List.not_mem_nil, or_false] at hq
    rcases hq with rfl | rfl | rfl <;> exact Nat.ne_of_gt (by show 86 < _; omega)
  refine store_cell (pre := [(86, _), (fr, _), (cr, _)]) (post := [(_, _), (_, _)]) F2 N2 rfl ?_ ?_ e1' fun h3 o1' F3 N3 e1'' => ?_
  · intro q hq
    have := l1 (L + 1 + 1 + 1, o1) (.head _)
    simp only [List.mem_cons, List.not_mem_nil, or_false] at hq
    rcases hq with rfl | rfl | rfl
    · exact Nat.ne_of_lt (by show 86 < L + 1 + 1 + 1; omega)
    · exact Nat.ne_of_gt (Nat.lt_trans this l3)
    · exact Nat.ne_of_gt this
  · intro q hq
    simp only [List.mem_cons, List.not_mem_nil, or_false] at hq
    rcases hq with rfl | rfl
    · exact Nat.ne_of_lt (by show L + 1 + 1 < L + 1 + 1 + 1; omega)
    · exact Nat.ne_of_lt (by show L + 1 < L + 1 + 1 + 1; omega)
  simp only [List.cons_append, List.nil_append] at N3
  clear F N F2 N2
  dsimp only
  walk_at "z_gc"
  walk1
  walk_at "z_gc"
  rename Fr _ _ _ _ => F4
  rename News _ _ _ _ => N4
  refine kla_eval rfl ?_
  refine lam_make F4 N4 ?_ G C rfl rfl (by simp [TriplesOk, rawInt]) (by simp [codeAmong, rawInt]) rfl (fun fl cl ocl vsl tl ctl h5 tk5 F5 N5 hdl hvl l4 l5 l6 => ?_)
  · intro q hq
    have : L + 1 + 1 + 1 < cr := l1 (L + 1 + 1 + 1, o1) (.head _)
    have l3' : (cr : Nat) < fr := l3
    simp only [List.mem_cons, List.not_mem_nil, or_false] at hq
    rcases hq with rfl | rfl | rfl | rfl | rfl
    · exact Nat.ne_of_gt (Nat.lt_trans (Nat.lt_trans (by omega) this) l3')
    · exact Nat.ne_of_gt (Nat.lt_trans (by omega) this)
    all_goals exact Nat.ne_of_gt (by show 86 < _; omega)
  clear F4 N4
  have crd : h5.get? cr = some ocr := (N5 (cr, _) (.tail _ (.tail _ (.tail _ (.tail _ (.head _)))))).1
  have cld : h5.get? cl = some ocl := (N5 (cl, _) (.tail _ (.tail _ (.head _)))).1
  have hfl : h5.get? fl = _ := (N5 (fl, _) (.tail _ (.head _))).1
  have hfr : h5.get? fr = _ := (N5 (fr, _) (.tail _ (.tail _ (.tail _ (.head _))))).1
  have hc1 : h5.get? (L + 1 + 1 + 1) = some o1' := (N5 (_, o1') (.tail _ (.tail _ (.tail _ (.tail _ (.tail _ (.head _))))))).1
  have hc2 : h5.get? (L + 1 + 1) = some o2 := (N5 (_, o2) (.tail _ (.tail _ (.tail _ (.tail _ (.tail _ (.tail _ (.head _)))))))).1
  have hc3 : h5.get? (L + 1) = some o3 := (N5 (_, o3) (.tail _ (.tail _ (.tail _ (.tail _ (.tail _ (.tail _ (.tail _ (.head _))))))))).1
  have h86' : h5.get? 86 = _ := (N5 (86, _) (.head _)).1
  have rl : (rs.map fun k : Nat => (k : Int)).length = rs.length := List.length_map ..
  walk_at "z_gc"
  rename Fr _ _ _ _ => F6
  rename IsRange _ _ _ _ _ _ _ _ => hr
  rename_i k6
  have hqr := hvr.trans (show some (Value.str _ tr) = some (.str (Str.ofString "_law_round.<locals>.road") tr) by kernel_rfl)
  have hql := hvl.trans (show some (Value.str _ tl) = some (.str (Str.ofString "_law_round.<locals>.<lambda>") tl) by kernel_rfl)
  refine ⟨X.keeps F6.keep, ?_⟩
  refine wpAny_call (reduceR_spec (J := fun i v _ => ∃ t, v = .int (roadsum p rs i) t) ((sm_AM _ _).le (by decide) (by decide)) (G.keeps F6.keep) hr hlen ⟨_, rfl⟩ (k6 _ _ hfl) ?hcall ?hend)
  case hend =>
    rintro h' tk' v news' kk - ⟨t, rfl⟩
    exact hR h' tk' t (hback fun b o e => kk _ _ (F6.keep _ _ e)) ⟨cr, cl, ocr, vsr, tr, ocl, vsl, tl, kk _ _ (k6 _ _ h86'), kk _ _ (k6 _ _ crd), hdr, hqr, kk _ _ (k6 _ _ cld), hdl, hql⟩
  case hcall =>
    rintro i v t news s' hi ⟨tv, rfl⟩ - kk
    have kb : ∀ b o, base.get? b = some o → s'.heap.get? b = some o := fun b o e => kk _ _ (F6.keep _ _ e)
    have k5 : ∀ b o, h5.get? b = some o → s'.heap.get? b = some o := fun b o e => kk _ _ (k6 _ _ e)
    have ls : ∀ {a : Addr} {its : Array Value}, base.IsList a its → s'.heap.IsList a its := fun x => let ⟨o, e, r⟩ := x; ⟨o, kb _ _ e, r⟩
    refine wpAny_call (lamr_spec (i := if i = 0 then rs.length - 1 else i - 1) (r := roadV p (rs.getD (if i = 0 then rs.length - 1 else i - 1) 0) (rs.getD i 0)) ((sm_AM _ _).le (by decide) (by decide)) (G.keeps kb) (k5 _ _ hfl) (by unfold IsLam; kernel_rfl) (k5 _ _ hc1) e1'' (k5 _ _ hc3) e3' (k5 _ _ cld) hdl hql
      (k5 _ _ hfr) (ls hrow) irow (by rw [rl]; exact hi) (by rw [rl]; exact hlen) (by rw [rl]) ?_ fun h' tk' t' k' => ?_)
    · intro ta tb s'' kc
      rw [getD_cast, getD_cast]
      refine wpAny_call (road_spec (nF := nF) (WA := WA) (p := p) ((sm_AM _ _).le (by decide) (by decide)) ((G.keeps kb).keeps kc) (kc _ _ (k5 _ _ hfr)) (by unfold IsFnS; kernel_rfl) (kc _ _ (k5 _ _ hc2)) e2' (kc _ _ (k5 _ _ crd)) hdr hqr
        (let ⟨o, e, r⟩ := ls hW; ⟨o, kc _ _ e, r⟩) hp (getD_lt hrs (by split <;> omega)) (getD_lt hrs hi) hn (fun j hj => ?_) fun h' tk' t' k' => ⟨h', tk', rfl, k', t', rfl⟩)
      obtain ⟨us, e1, e2⟩ := hways j hj
      exact ⟨us, (let ⟨o, e, r⟩ := ls e1; ⟨o, kc _ _ e, r⟩), e2⟩
    · exact ⟨h', tk', [], rfl, k', (fun _ hp => nomatch hp), t', rfl⟩

theorem round_again {Rw Ws : Addr} {WA : Nat → Addr} {nF : Nat} {p : Nat → Nat} {rs : List Nat} {rv : List Value} {cr cl : Addr} {ocr ocl : Obj} {vsr vsl : Array Value} {tr tl : Tok} (hA : Sm A 350 1800) (G : Gd w pr loose mg mb (hideAll s.heap [86])) (C : CodeHd (hideAll s.heap [86]) 90 86) (h86 : s.heap.get? 86 = some (tabObj #[rawInt 81, rawInt 4, .ref cr, rawInt 83, rawInt 18, .ref cl])) 
    (hcr : (hideAll s.heap [86]).get? cr = some ocr) (hdr : ocr.data = .fields vsr) (hqr : vsr[1]? = some (.str (Str.ofString "_law_round.<locals>.road") tr)) (hcl : (hideAll s.heap [86]).get? cl = some ocl) (hdl : ocl.data = .fields vsl) (hql : vsl[1]? = some (.str (Str.ofString "_law_round.<locals>.<lambda>") tl))
    (hrow : (hideAll s.heap [86]).IsList Rw rv.toArray) (irow : IntsAre rv (rs.map fun k : Nat => (k : Int))) (hlen : rs.length ≤ 100) (hrs : ∀ k ∈ rs, k < nF)
    (hW : (hideAll s.heap [86]).IsList Ws ((List.range nF).map fun j => Value.ref (WA j)).toArray) (hp : ∀ k, 0 < k → p k < k) (hn : nF ≤ 20) (hways : ∀ j, j < nF → ∃ us, (hideAll s.heap [86]).IsList (WA j) us.toArray ∧ IntsAre us (way p j))
    (hR : ∀ h' tk t, (∀ b o, b ≠ 86 → s.heap.get? b = some o → h'.get? b = some o) → h'.get? 86 = some (tabObj #[rawInt 81, rawInt 4, .ref cr, rawInt 83, rawInt 18, .ref cl]) → R (.ok (.ret (.int (roadsum p rs rs.length) t))) { s with heap := h', toks := tk }) :
    codeAny (model PySem.Challenge.rw_ij0154_01.prog w) A (.call (.ref 91) ⟨[.ref Rw, .ref Ws], []⟩) R s := by
  have X := G.X
  have T := G.T
  have e91 := G.X 91 (lk w.params 91) (by kernel_rfl)
  revert X; k_fill; intro X
  have hst0 := stF_of (X 91 _ rfl) e91 rfl rfl (i := 0) rfl
  have hst1 := stF_of (X 91 _ rfl) e91 rfl rfl (i := 1) rfl
  have X1 : (KR w.params).In s.heap := fun a o e => of_hideAll _ (X a o e)
  have T1 : TopRead pr loose mg mb s.heap := T.keeps fun b o e => of_hideAll _ e
  refine enterC (binds := [(Str.ofString "row", .ref Rw), (Str.ofString "ways", .ref Ws)]) hA (by decide) (of_hideAll _ (X 91 _ rfl)) rfl T1.nolimit (codeRec_of X1 (by k_is)) (BindsTo.of_eq rfl) ?hkind (by decide) (fun h₁ tk cells F₁ N₁ Y => ?_)
  case hkind =>
    intro n y hy
    simp only [List.mem_cons, List.not_mem_nil, or_false] at hy
    rcases hy with rfl | rfl
    · exact .inr ⟨rfl, rfl⟩
    · exact .inr ⟨rfl, rfl⟩
  obtain ⟨o1, o2, o3, rfl, e1, e2, e3⟩ := CellsAre.three Y
  have e1' : o1.data = .cell none := e1.trans (by kernel_rfl)
  have e2' : o2.data = .cell (some (.ref Ws)) := e2.trans (by kernel_rfl)
  have e3' : o3.data = .cell (some (.ref Rw)) := e3.trans (by kernel_rfl)
  clear e1 e2 e3 Y
  have h86L : 86 < s.heap.objs.size := Heap.lt_size h86
  have F : Fr (hideAll s.heap [86]) s.heap.objs.size h₁ _ := ⟨F₁.ns, fun b o e => F₁.keep b o (of_hideAll _ e), by rw [hideAll_size]; exact F₁.above⟩
  have N : News (hideAll s.heap [86]) s.heap.objs.size h₁ [(86, tabObj #[rawInt 81, rawInt 4, .ref cr, rawInt 83, rawInt 18, .ref cl]), (_, o1), (_, o2), (_, o3)] := fun q hq => by
    rcases List.mem_cons.mp hq with rfl | hq
    · exact ⟨F₁.keep _ _ h86, Nat.ne_of_lt h86L, hideAll_none _ (.head _)⟩
    · have := N₁ q hq
      refine ⟨this.1, this.2.1, ?_⟩
      cases e : (hideAll s.heap [86]).get? q.1 with
      | none => rfl
      | some o => rw [of_hideAll _ e] at this; exact absurd this.2.2 (by simp)
  have hback : ∀ {h' : Heap}, (∀ b o, (hideAll s.heap [86]).get? b = some o → h'.get? b = some o) → ∀ b o, b ≠ 86 → s.heap.get? b = some o → h'.get? b = some o := fun k b o hb e => k b o (hideAll_get _ e (by simpa using hb))
  clear F₁ N₁
  generalize hm : bindL _ _ _ = m at F
  clear hm
  generalize hideAll s.heap [86] = base at *
  generalize s.heap.objs.size = L at *
  refine wpAny_execs_cons (nestDef_K rfl rfl rfl ?_)
  refine def_hit (c' := cr) F N (.head _) G C rfl rfl (by simp [TriplesOk, rawInt]) (by simp [codeAmong, rawInt]) rfl (fun fr ctr docr h2 tk2 F2 N2 l1 => ?_)
  refine store_cell (pre := [(fr, _), (86, _)]) (post := [(_, _), (_, _)]) F2 N2 rfl ?_ ?_ e1' fun h3 o1' F3 N3 e1'' => ?_
  · intro q hq
    have := l1 (L + 1 + 1 + 1, o1) (.tail _ (.head _))
    simp only [List.mem_cons, List.not_mem_nil, or_false] at hq
    rcases hq with rfl | rfl
    · exact Nat.ne_of_gt this
    · exact Nat.ne_of_lt (by show 86 < L + 1 + 1 + 1; omega)
  · intro q hq
    simp only [List.mem_cons, List.not_mem_nil, or_false] at hq
    rcases hq with rfl | rfl
    · exact Nat.ne_of_lt (by show L + 1 + 1 < L + 1 + 1 + 1; omega)
    · exact Nat.ne_of_lt (by show L + 1 < L + 1 + 1 + 1; omega)
  simp only [List.cons_append, List.nil_append] at N3
  clear F N F2 N2
  dsimp only
  walk_at "z_gc"
  walk1
  walk_at "z_gc"
  rename Fr _ _ _ _ => F4
  rename News _ _ _ _ => N4
  refine kla_eval rfl ?_
  refine lam_hit (c' := cl) F4 N4 (.tail _ (.head _)) G C rfl rfl (by simp [TriplesOk, rawInt]) (by simp [codeAmong, rawInt]) rfl (fun fl ctl h5 tk5 F5 N5 l4 => ?_)
  clear F4 N4
  have crd : h5.get? cr = some ocr := F5.keep _ _ hcr
  have cld : h5.get? cl = some ocl := F5.keep _ _ hcl
  have h86' : h5.get? 86 = _ := (N5 (86, _) (.tail _ (.tail _ (.head _)))).1
  have hfl : h5.get? fl = _ := (N5 (fl, _) (.head _)).1
  have hfr : h5.get? fr = _ := (N5 (fr, _) (.tail _ (.head _))).1
  have hc1 : h5.get? (L + 1 + 1 + 1) = some o1' := (N5 (_, o1') (.tail _ (.tail _ (.tail _ (.head _))))).1
  have hc2 : h5.get? (L + 1 + 1) = some o2 := (N5 (_, o2) (.tail _ (.tail _ (.tail _ (.tail _ (.head _)))))).1
  have hc3 : h5.get? (L + 1) = some o3 := (N5 (_, o3) (.tail _ (.tail _ (.tail _ (.tail _ (.tail _ (.head _))))))).1
  have rl : (rs.map fun k : Nat => (k : Int)).length = rs.length := List.length_map ..
  walk_at "z_gc"
  rename Fr _ _ _ _ => F6
  rename IsRange _ _ _ _ _ _ _ _ => hr
  rename_i k6
  refine ⟨X.keeps F6.keep, ?_⟩
  refine wpAny_call (reduceR_spec (J := fun i v _ => ∃ t, v = .int (roadsum p rs i) t) ((sm_AM _ _).le (by decide) (by decide)) (G.keeps F6.keep) hr hlen ⟨_, rfl⟩ (k6 _ _ hfl) ?hcall ?hend)
  case hend =>
    rintro h' tk' v news' kk - ⟨t, rfl⟩
    exact hR h' tk' t (hback fun b o e => kk _ _ (F6.keep _ _ e)) (kk _ _ (k6 _ _ h86'))
  case hcall =>
    rintro i v t news s' hi ⟨tv, rfl⟩ - kk
    have kb : ∀ b o, base.get? b = some o → s'.heap.get? b = some o := fun b o e => kk _ _ (F6.keep _ _ e)
    have k5 : ∀ b o, h5.get? b = some o → s'.heap.get? b = some o := fun b o e => kk _ _ (k6 _ _ e)
    have ls : ∀ {a : Addr} {its : Array Value}, base.IsList a its → s'.heap.IsList a its := fun x => let ⟨o, e, r⟩ := x; ⟨o, kb _ _ e, r⟩
    refine wpAny_call (lamr_spec (i := if i = 0 then rs.length - 1 else i - 1) (r := roadV p (rs.getD (if i = 0 then rs.length - 1 else i - 1) 0) (rs.getD i 0)) ((sm_AM _ _).le (by decide) (by decide)) (G.keeps kb) (k5 _ _ hfl) (by unfold IsLam; kernel_rfl) (k5 _ _ hc1) e1'' (k5 _ _ hc3) e3' (k5 _ _ cld) hdl hql
      (k5 _ _ hfr) (ls hrow) irow (by rw [rl]; exact hi) (by rw [rl]; exact hlen) (by rw [rl]) ?_ fun h' tk' t' k' => ?_)
    · intro ta tb s'' kc
      rw [getD_cast, getD_cast]
      refine wpAny_call (road_spec (nF := nF) (WA := WA) (p := p) ((sm_AM _ _).le (by decide) (by decide)) ((G.keeps kb).keeps kc) (kc _ _ (k5 _ _ hfr)) (by unfold IsFnS; kernel_rfl) (kc _ _ (k5 _ _ hc2)) e2' (kc _ _ (k5 _ _ crd)) hdr hqr
        (let ⟨o, e, r⟩ := ls hW; ⟨o, kc _ _ e, r⟩) hp (getD_lt hrs (by split <;> omega)) (getD_lt hrs hi) hn (fun j hj => ?_) fun h' tk' t' k' => ⟨h', tk', rfl, k', t', rfl⟩)
      obtain ⟨us, e1, e2⟩ := hways j hj
      exact ⟨us, (let ⟨o, e, r⟩ := ls e1; ⟨o, kc _ _ e, r⟩), e2⟩
    · exact ⟨h', tk', [], rfl, k', (fun _ hp => nomatch hp), t', rfl⟩

end
end Mine
end
section
open PySem PySem.W PySem.Calls PyProof.Rows
set_option Elab.async false
set_option maxRecDepth 100000
set_option maxHeartbeats 2000000
namespace Mine
/-- the scope of a function of the text -/
noncomputable def scF (P : Params) (a : Addr) : Scope := match (lk P a).data with | .func fd => fd.scope | _ => default
theorem scF_of {h : Heap} {P : Params} {a : Addr} {o : Obj} {fd0 : FuncData} {sc : Scope} (e : h.get? a = some o) (e' : h.get? a = some (lk P a)) (hd : o.data = .func fd0) (hs : fd0.scope = sc) : scF P a = sc := by
  rw [e'] at e
  cases e
  unfold scF
  rw [hd]
  exact hs
/-- the frame of the law -/
noncomputable abbrev lawEnv (P : Params) (L : Addr) : Env := envOfC (Str.ofString "law") (scF P 96) L 96 (.ref 95)
/-- the state within the law: the frame, the objects made so far -/
structure St (base : Heap) (L : Addr) (h : Heap) (m : Str → Option Value) (news : List (Addr × Obj)) : Prop where
  F : Fr base L h m
  N : News base L h news
  D : (news.map (·.1)).Nodup
namespace St
variable {base h h' : Heap} {L a c : Addr} {m m' : Str → Option Value} {news news' l l' : List (Addr × Obj)} {o o' : Obj}
theorem keeps (S : St base L h m news) (k : ∀ b o, h.get? b = some o → h'.get? b = some o) : St base L h' m news := ⟨S.F.keeps k, S.N.grown k, S.D⟩
theorem perm (S : St base L h m news) (q : news.Perm l) : St base L h m l := ⟨S.F, fun p hp => S.N p (q.mem_iff.mpr hp), (q.map _).nodup_iff.mp S.D⟩
theorem drop (S : St base L h m news) (q : List.Sublist l news) : St base L h m l := ⟨S.F, fun p hp => S.N p (q.subset hp), S.D.sublist (q.map _)⟩
theorem cons (S : St base L h m news) (k : ∀ b o, h.get? b = some o → h'.get? b = some o) (hr : h'.get? a = some o) (hn : h.get? a = none) : St base L h' m ((a, o) :: news) := by
  refine ⟨S.F.keeps k, news_cons (S.N.grown k) hr (fr_none S.F hn), List.nodup_cons.mpr ⟨fun hm => ?_, S.D⟩⟩
  obtain ⟨p, hp, e⟩ := List.mem_map.mp hm
  exact news_ne S.N hn p hp e
/-- new objects, from a ledger that the walk has made -/
theorem of (S : St base L h m news) (F : Fr base L h' m') (N : News base L h' (l ++ news)) (D : (l.map (·.1)).Nodup) (hn : ∀ p ∈ l, ∀ q ∈ news, q.1 ≠ p.1) : St base L h' m' (l ++ news) := by
  refine ⟨F, N, ?_⟩
  rw [List.map_append]
  refine List.nodup_append.mpr ⟨D, S.D, fun x hx y hy e => ?_⟩
  obtain ⟨p, hp, rfl⟩ := List.mem_map.mp hx
  obtain ⟨q, hq, rfl⟩ := List.mem_map.mp hy
  exact hn p hp q hq e.symm
theorem of1 (S : St base L h m news) (F : Fr base L h' m') (N : News base L h' ((a, o) :: news)) (hn : ∀ q ∈ news, q.1 < a) : St base L h' m' ((a, o) :: news) :=
  S.of (l := [(a, o)]) F N (by simp) fun p hp q hq => by rw [List.mem_singleton] at hp; subst hp; exact Nat.ne_of_lt (hn q hq)
theorem at_ (S : St base L h m news) (hm : (a, o) ∈ news) : h.get? a = some o := (S.N _ hm).1
/-- the object at hand is another now -/
theorem set (S : St base L h m ((a, o) :: news)) (F : Fr base L h' m') (N : News base L h' ((a, o') :: news)) : St base L h' m' ((a, o') :: news) := ⟨F, N, S.D⟩
theorem fr (S : St base L h m news) (F : Fr base L h' m') (N : News base L h' news) : St base L h' m' news := ⟨F, N, S.D⟩
theorem ne (S : St base L h m ((a, o) :: news)) : ∀ p ∈ news, p.1 ≠ a := fun p hp e => (List.nodup_cons.mp S.D).1 (List.mem_map.mpr ⟨p, hp, e⟩)
theorem setMid {pre post : List (Addr × Obj)} (S : St base L h m (pre ++ (a, o) :: post)) (F : Fr base L h' m') (N : News base L h' (pre ++ (a, o') :: post)) : St base L h' m' (pre ++ (a, o') :: post) := ⟨F, N, by
  have := S.D
  rw [List.map_append, List.map_cons] at this ⊢
  exact this⟩
theorem neMid {pre post : List (Addr × Obj)} (S : St base L h m (pre ++ (a, o) :: post)) : (∀ p ∈ pre, p.1 ≠ a) ∧ ∀ p ∈ post, p.1 ≠ a := by
  have := S.D
  rw [List.map_append, List.map_cons] at this
  obtain ⟨h1, h2, h3⟩ := List.nodup_append.mp this
  exact ⟨fun p hp e => h3 p.1 (List.mem_map_of_mem hp) a (.head _) e, fun p hp e => (List.nodup_cons.mp h2).1 (List.mem_map.mpr ⟨p, hp, e⟩)⟩
end St
theorem allLt_mem {d : Nat} {l : List (Addr × Obj)} : AllLt d l → ∀ p ∈ l, @LT.lt Nat _ p.1 d := by
  induction l with
  | nil => intro _ p hp; cases hp
  | cons q l ih =>
    intro h p hp
    cases hp with
    | head => exact h.1
    | tail _ hp => exact ih h.2 p hp
theorem off1_mem {D : Addr} {l : List (Addr × Obj)} : LCg.Off1 D l → ∀ p ∈ l, p.1 ≠ D := by
  induction l with
  | nil => intro _ p hp; cases hp
  | cons q l ih =>
    intro h p hp
    cases hp with
    | head => exact h.1
    | tail _ hp => exact ih h.2 p hp
/-- a store to a captured name of the law -/
theorem St.store {M : Model} {A : Around} {E : Value → Shared → Prop} {s : Shared} {base : Heap} {L a c : Addr} {m : Str → Option Value} {cn x : Str} {cs : Scope} {ccd v : Value} {v₀ : Option Value} {cl : List (Str × Addr)} {o : Obj} {pre post : List (Addr × Obj)} {Q : Unit → Shared → Prop}
    (S : St base L s.heap m (pre ++ (c, o) :: post)) (hc : cl.lookup x = some c) (hd : o.data = .cell v₀) (h : ∀ h' o', St base L h' m (pre ++ (c, o') :: post) → o'.data = .cell (some v) → Q () { s with heap := h' })
    (hk : cs.kind = .function := by rfl) (hx : (envX cn cs L a ccd cl).kindOf x = some .cell := by rfl) : wpAny M A (storeName (envX cn cs L a ccd cl) x v) Q E s :=
  store_cell S.F S.N hc S.neMid.1 S.neMid.2 hd (fun h' o' F N d => h h' o' (S.setMid F N) d) hk hx
theorem St.build {base h h' : Heap} {L : Addr} {m m' : Str → Option Value} {l news : List (Addr × Obj)} (S : St base L h m news) (F : Fr base L h' m') (N : News base L h' (l ++ news)) (D : (l.map (·.1)).Nodup) (off : ∀ p ∈ l, ∀ q ∈ news, q.1 ≠ p.1) : St base L h' m' (l ++ news) := S.of F N D off
/-- a family of objects, one of them changed -/
noncomputable abbrev fam (N : Nat) (FA : Nat → Addr) (fo : Nat → Obj) : List (Addr × Obj) := (List.range N).map fun j => (FA j, fo j)
theorem fam_mem {N : Nat} {FA : Nat → Addr} {fo : Nat → Obj} {j : Nat} (h : j < N) : (FA j, fo j) ∈ fam N FA fo := List.mem_map.mpr ⟨j, List.mem_range.mpr h, rfl⟩
theorem fam_of_list (as : List Addr) (o : Obj) : (as.map fun a => (a, o)) = fam as.length (fun j => as.getD j 0) (fun _ => o) := by
  refine List.ext_getElem (by simp) fun i h1 h2 => ?_
  have h1' : i < as.length := by simpa using h1
  simp [h1']
theorem refs_of_list (as : List Addr) : as.map Value.ref = (List.range as.length).map fun j => Value.ref (as.getD j 0) := by
  refine List.ext_getElem (by simp) fun i h1 h2 => ?_
  have h1' : i < as.length := by simpa using h1
  simp [h1']
theorem fam_keys (N : Nat) (FA : Nat → Addr) (fo : Nat → Obj) : (fam N FA fo).map (·.1) = (List.range N).map FA := by
  rw [List.map_map]; rfl
theorem fam_inj {N : Nat} {FA : Nat → Addr} {fo : Nat → Obj} {rest : List (Addr × Obj)} (D : ((fam N FA fo ++ rest).map (·.1)).Nodup) {i j : Nat} (hi : i < N) (hj : j < N) (e : FA i = FA j) : i = j := by
  rw [List.map_append, fam_keys] at D
  have D1 := (List.nodup_append.mp D).1
  have e1 : ((List.range N).map FA)[i]? = some (FA i) := by simp [hi]
  have e2 : ((List.range N).map FA)[j]? = some (FA i) := by rw [e]; simp [hj]
  have pw := List.pairwise_iff_getElem.mp D1
  have li : i < ((List.range N).map FA).length := by simpa using hi
  have lj : j < ((List.range N).map FA).length := by simpa using hj
  have v1 : ((List.range N).map FA)[i] = FA i := by simp
  have v2 : ((List.range N).map FA)[j] = FA j := by simp
  rcases Nat.lt_trichotomy i j with h | h | h
  · exact absurd (v1.trans (e.trans v2.symm)) (pw i j li lj h)
  · exact h
  · exact absurd (v2.trans (e.symm.trans v1.symm)) (pw j i lj li h)
theorem fam_off {N : Nat} {FA : Nat → Addr} {fo : Nat → Obj} {rest : List (Addr × Obj)} (D : ((fam N FA fo ++ rest).map (·.1)).Nodup) {j : Nat} (hj : j < N) : ∀ p ∈ rest, p.1 ≠ FA j := fun p hp e => by
  rw [List.map_append, fam_keys] at D
  exact (List.nodup_append.mp D).2.2 (FA j) (List.mem_map.mpr ⟨j, List.mem_range.mpr hj, rfl⟩) p.1 (List.mem_map_of_mem hp) e.symm
/-- one of a family is another now -/
theorem St.setFam {base h h' : Heap} {L : Addr} {m : Str → Option Value} {N j : Nat} {FA : Nat → Addr} {fo : Nat → Obj} {rest : List (Addr × Obj)} {o' : Obj} (S : St base L h m (fam N FA fo ++ rest)) (hj : j < N) (hs : Heap.SameBut (FA j) h h') (ho : h'.get? (FA j) = some o') :
    St base L h' m (fam N FA (fun i => if i = j then o' else fo i) ++ rest) := by
  have hm := S.N (FA j, fo j) (List.mem_append_left _ (fam_mem hj))
  refine ⟨S.F.change hs hm.2.1 hm.2.2, fun p hp => ?_, ?_⟩
  · rcases List.mem_append.mp hp with hp | hp
    · obtain ⟨i, hi, rfl⟩ := List.mem_map.mp hp
      have hi' : i < N := List.mem_range.mp hi
      by_cases e : i = j
      · subst e
        dsimp only
        rw [if_pos rfl]
        exact ⟨ho, hm.2⟩
      · dsimp only
        rw [if_neg e]
        have n := S.N (FA i, fo i) (List.mem_append_left _ (fam_mem hi'))
        exact ⟨(hs.2 _ fun q => e (fam_inj S.D hi' hj q)).trans n.1, n.2⟩
    · have n := S.N p (List.mem_append_right _ hp)
      exact ⟨(hs.2 _ (fam_off S.D hj p hp)).trans n.1, n.2⟩
  · have D := S.D
    rw [List.map_append, fam_keys] at D ⊢
    exact D
/-- the cells of the law's frame -/
noncomputable abbrev lawCells (L : Addr) (ow oa ot orw of_ : Obj) : List (Addr × Obj) := [(L + 1 + 1 + 1 + 1 + 1, ow), (L + 1 + 1 + 1 + 1, oa), (L + 1 + 1 + 1, ot), (L + 1 + 1, orw), (L + 1, of_)]
theorem execs_to {M : Model} {A : Around} {Q : Flow → Shared → Prop} {E : Value → Shared → Prop} {s : Shared} {l l' : List Stmt} {env env' : Env} (h1 : l = l') (h2 : env = env') (h : wpAny M A (execs l' env') Q E s) : wpAny M A (execs l env) Q E s := by
  subst h1 h2; exact h
/-- the module of built-ins, as the ground knows it -/
theorem Gd.mod4 {w : World} {p : Program} {loose : List Str} {mg mb : Str → Option Value} {h : Heap} (G : Gd w p loose mg mb h) : ∃ sl4, h.get? 4 = some (⟨.type "module", some 0, .plain, sl4⟩ : Obj) := by
  obtain ⟨bm, ob, b1, b2, b3, b4, b5, b6⟩ := G.bm
  rw [mg_of G.X G.T.g (show nsIn (KR w.params) mainGlobals (Str.ofString "__builtins__") = some (some (.ref 4)) by kernel_rfl)] at b1
  injection b1 with b1; injection b1 with b1
  subst b1
  obtain ⟨c, d, dt, sl⟩ := ob
  dsimp only at b4 b5 b6
  subst b4 b5 b6
  exact ⟨sl, b3⟩
end Mine
end
section
open PySem PySem.W PySem.Calls PyProof.Rows
set_option Elab.async false
set_option maxRecDepth 100000
set_option maxHeartbeats 2000000
namespace Mine
local macro_rules | `(tactic| walk_at "call builtin:len") => `(tactic| (k_here; (with_reducible show wpAny _ _ (call (Value.builtin _) [Value.ref _]) _ _ _); k_dflt (refine len_nat (by with_reducible assumption) (by with_reducible assumption) (by first | with_reducible assumption | rfl) (by omega) fun _ _ => ?_)))
section
variable {w : World} {A : Around} {s : Shared} {pr : Program} {loose : List Str} {mg mb : Str → Option Value} {base : Heap} {L : Addr} {m : Str → Option Value} {news : List (Addr × Obj)} {Q : Flow → Shared → Prop}
/-- numbers = script[:8] + [23, 5, 6, 14] -/
theorem st0 {sc : Addr} {vs : List Value} {ns : List Int} (hA : Sm A 310 1500) (G : Gd w pr loose mg mb base) (S : St base L s.heap m news) (hsc : base.IsList sc vs.toArray) (hi : IntsAre vs ns) (hlen : ns.length ≤ 63) (hm : m (Str.ofString "script") = some (.ref sc))
    (hq : ∀ h' tk a us e, St base L h' (fun y => if y = Str.ofString "numbers" then some (.ref a) else m y) ((a, listOf us.toArray e) :: news) → IntsAre us (ns.take 8 ++ [23, 5, 6, 14]) → Q .next { s with heap := h', toks := tk }) :
    wpAny (model PySem.Challenge.rw_ij0154_01.prog w) A (exec (stF w.params 96 0) (lawEnv w.params L)) Q (fun _ _ => False) s := by
  have X := G.X
  have T := G.T
  have e96 := G.X 96 (lk w.params 96) (by kernel_rfl)
  revert X; k_fill; intro X
  unfold lawEnv
  rw [stF_of (X 96 _ rfl) e96 rfl rfl (i := 0) rfl, scF_of (X 96 _ rfl) e96 rfl rfl]
  clear e96
  have F := S.F
  have N := S.N
  refine wk (d := 310) (u := 1500) hA ?_
  walk_at "z_gc"
  refine slice_at F N (F.lst hsc) IsPart.none (IsPart.int _ _) (fun D3 h3 F3 N3 l3 k3 n3 => ?_) (by rw [List.size_toArray, hi.length]; omega)
  have ep := pick_to (vs := vs) (k := 8)
  rw [show ((8 : Nat) : Int) = 8 from rfl] at ep
  rw [ep] at N3
  walk_at "z_gc"
  rename_i l4 h4 F4 N4 q4
  have i4 : IntsAre [Value.int 23 (s.toks + 1), Value.int 5 (s.toks + 1 + 1), Value.int 6 (s.toks + 1 + 1 + 1), Value.int 14 (s.toks + 1 + 1 + 1 + 1)] [23, 5, 6, 14] := .cons _ _ (.cons _ _ (.cons _ _ (.cons _ _ .nil)))
  refine kmk_add_ints F4 N4 (isList_at (N4 (D3, _) (.tail _ (.head _))).1) (isList_at (N4 (l4, _) (.head _)).1) (hi.take 8) i4 (fun D5 us h5 F5 N5 l5 i5 => ?_) (by rw [List.length_take, sizeLine_eq]; simp only [List.length_cons, List.length_nil]; omega)
  walk_at "z_gc"
  rename_i h6 F6 N6
  refine hq h6 _ D5 us 0 (S.of1 F6 (fun p hp => ?_) fun q hq => l5 q (.tail _ (.tail _ hq))) i5
  rcases List.mem_cons.mp hp with rfl | hp
  · exact N6 _ (.head _)
  · exact N6 p (.tail _ (.tail _ (.tail _ hp)))
/-- families = [[] for _ in range(len(numbers) + 1)] -/
theorem st1 {nb : Addr} {us : List Value} {ns : List Int} {eb : Nat} {ow oa ot orw ofm : Obj} (hA : Sm A 310 1500) (G : Gd w pr loose mg mb base) (S : St base L s.heap m (lawCells L ow oa ot orw ofm ++ news)) (hnb : (nb, listOf us.toArray eb) ∈ news) (hi : IntsAre us ns) (hlen : ns.length ≤ 20) (hm : m (Str.ofString "numbers") = some (.ref nb)) (hof : ofm.data = .cell none)
    (hq : ∀ h' tk (FA : Nat → Addr) a e ofm', St base L h' m (lawCells L ow oa ot orw ofm' ++ ((a, listOf ((List.range (ns.length + 1)).map fun j => Value.ref (FA j)).toArray e) :: (fam (ns.length + 1) FA (fun _ => listOf #[] 0) ++ news))) → ofm'.data = .cell (some (.ref a)) → Q .next { s with heap := h', toks := tk }) :
    wpAny (model PySem.Challenge.rw_ij0154_01.prog w) A (exec (stF w.params 96 1) (lawEnv w.params L)) Q (fun _ _ => False) s := by
  have X := G.X
  have T := G.T
  have e96 := G.X 96 (lk w.params 96) (by kernel_rfl)
  revert X; k_fill; intro X
  unfold lawEnv
  rw [stF_of (X 96 _ rfl) e96 rfl rfl (i := 1) rfl, scF_of (X 96 _ rfl) e96 rfl rfl]
  clear e96
  have F := S.F
  have N := S.N
  refine wk (d := 310) (u := 1500) hA ?_
  walk_at "z_gc"
  have hnl := isList_at (N _ (List.mem_append_right _ hnb)).1
  refine LCg.ListComp_U (F₀ := F) rfl (by decide) rfl (by decide) rfl ?_
  walk_at "z_gc"
  rename Fr _ _ _ _ => F5
  rename News _ _ _ _ => N5
  rename IsRange _ _ _ _ _ _ _ _ => hr
  rename_i k5
  rw [show (ns.length : Int) + 1 = ((ns.length + 1 : Nat) : Int) by omega] at hr
  refine LCg.CompSrc.range rfl F5 N5 hr (small_one (by decide) (by decide) (by omega) (by omega)) (range_size (ns.length + 1)) (by rw [sizeLine_eq]; omega) fun g => ?_
  generalize hn0 : lawCells L ow oa ot orw ofm ++ news = n0 at *
  refine compU_ind (fun i ys news' => ∃ as : List Addr, as.length = i ∧ ys = as.map Value.ref ∧ news' = (as.map fun a => (a, (listOf #[] 0 : Obj))) ++ n0 ∧ as.Nodup ∧ ∀ a ∈ as, ∀ q ∈ n0, q.1 ≠ a) ?step ?fin ⟨[], rfl, rfl, rfl, List.nodup_nil, fun _ h => nomatch h⟩
  case step =>
    rintro i ys news' v I oI C oC D m₂ hh tkk E' hi ⟨as, has, rfl, rfl, hnd, hne⟩ ⟨t', rfl⟩ hC hx2 F6 N6 off ne
    walk_at "z_gc"
    rename_i r h7 F7 N7 l7
    have lt7 := allLt_mem l7.2.2.2
    refine LCg.CompEnd.intro F7 N7 (((as ++ [r]).map fun a => (a, (listOf #[] 0 : Obj))) ++ n0) (fun p hp => ?_) (LCg.Off3.of fun p hp => ?_) trivial ⟨as ++ [r], by rw [List.length_append, has]; rfl, by rw [List.map_append]; rfl, rfl, ?_, ?_⟩
    · rw [List.map_append, List.append_assoc] at hp
      simp only [List.mem_cons, List.mem_append, List.map_cons, List.map_nil, List.not_mem_nil, or_false] at hp ⊢
      rcases hp with hp | hp | hp | hp | hp | hp
      · exact .inr (.inl hp)
      · exact .inr (.inr (.inl hp))
      · exact .inr (.inr (.inr (.inl hp)))
      · exact .inr (.inr (.inr (.inr (.inl hp))))
      · exact .inl hp
      · exact .inr (.inr (.inr (.inr (.inr hp))))
    · rw [List.map_append, List.append_assoc] at hp
      simp only [List.mem_cons, List.mem_append, List.map_cons, List.map_nil, List.not_mem_nil, or_false] at hp
      rcases hp with hp | rfl | hp
      · exact off.mem p (List.mem_append_left _ hp)
      · exact ⟨Nat.ne_of_gt l7.1, Nat.ne_of_gt l7.2.1, Nat.ne_of_gt l7.2.2.1⟩
      · exact off.mem p (List.mem_append_right _ hp)
    · refine List.nodup_append.mpr ⟨hnd, by simp, fun a ha b hb e => ?_⟩
      rw [List.mem_singleton] at hb
      subst hb; subst e
      exact Nat.lt_irrefl _ (lt7 (a, listOf #[] 0) (List.mem_append_left _ (List.mem_map.mpr ⟨a, ha, rfl⟩)))
    · intro a ha q hq
      rcases List.mem_append.mp ha with ha | ha
      · exact hne a ha q hq
      · rw [List.mem_singleton] at ha
        subst ha
        exact Nat.ne_of_lt (lt7 q (List.mem_append_right _ hq))
  case fin =>
    rintro ys news' ⟨as, has, rfl, rfl, hnd, hne⟩
    unfold LCg.FinE
    intro D h7 tk7 F7 N7 o7
    dsimp only
    have D7 := off1_mem o7
    have S7 : St base L h7 m (((D, LCg.lst (as.map Value.ref)) :: (as.map fun a => (a, (listOf #[] 0 : Obj)))) ++ n0) := by
      refine S.build F7 N7 (List.nodup_cons.mpr ⟨fun hm => ?_, ?_⟩) fun p hp q hq => ?_
      · obtain ⟨p, hp, e⟩ := List.mem_map.mp hm
        exact D7 p (List.mem_append_left _ hp) e
      · rw [List.map_map]
        show (as.map fun a => a).Nodup
        rw [List.map_id']
        exact hnd
      · rcases List.mem_cons.mp hp with rfl | hp
        · exact D7 q (List.mem_append_right _ hq)
        · obtain ⟨a, ha, rfl⟩ := List.mem_map.mp hp
          exact hne a ha q hq
    subst hn0
    rw [fam_of_list, refs_of_list, has] at S7
    have S8 : St base L h7 m ([(L + 1 + 1 + 1 + 1 + 1, ow), (L + 1 + 1 + 1 + 1, oa), (L + 1 + 1 + 1, ot), (L + 1 + 1, orw)] ++ (L + 1, ofm) :: ((D, _) :: (fam (ns.length + 1) (fun j => as.getD j 0) (fun _ => listOf #[] 0) ++ news))) := S7.perm (List.perm_append_comm_assoc _ _ _)
    refine S8.store rfl hof fun h8 ofm' S9 d9 => ?_
    exact hq h8 _ _ D _ ofm' S9 d9
end
end Mine
end
section
open PySem PySem.W PySem.Calls PyProof.Rows
set_option Elab.async false
set_option maxRecDepth 100000
set_option maxHeartbeats 2000000
namespace Mine
local macro_rules | `(tactic| walk_at "z_st") => `(tactic| repeat' first | (walk_at "z_nc"; (fail_if_success (with_reducible show wpAny _ _ (storeName _ _ _) _ _ _)); walk_at "z_k") | walk_at "z_i")
section
variable {w : World} {A : Around} {s : Shared} {pr : Program} {loose : List Str} {mg mb : Str → Option Value} {base : Heap} {L : Addr} {m : Str → Option Value} {news : List (Addr × Obj)} {Q : Flow → Shared → Prop}
/-- above = [[0]] -/
theorem st2 {ow oa ot orw ofm : Obj} (hA : Sm A 310 1500) (G : Gd w pr loose mg mb base) (S : St base L s.heap m (lawCells L ow oa ot orw ofm ++ news)) (hoa : oa.data = .cell none)
    (hq : ∀ h' tk a a0 t e e0 oa', St base L h' m (lawCells L ow oa' ot orw ofm ++ ((a, listOf #[.ref a0] e) :: (a0, listOf #[.int 0 t] e0) :: news)) → oa'.data = .cell (some (.ref a)) → Q .next { s with heap := h', toks := tk }) :
    wpAny (model PySem.Challenge.rw_ij0154_01.prog w) A (exec (stF w.params 96 2) (lawEnv w.params L)) Q (fun _ _ => False) s := by
  have X := G.X
  have T := G.T
  have e96 := G.X 96 (lk w.params 96) (by kernel_rfl)
  revert X; k_fill; intro X
  unfold lawEnv
  rw [stF_of (X 96 _ rfl) e96 rfl rfl (i := 2) rfl, scF_of (X 96 _ rfl) e96 rfl rfl]
  clear e96
  have F := S.F
  have N := S.N
  refine wk (d := 310) (u := 1500) hA ?_
  generalize hn0 : lawCells L ow oa ot orw ofm ++ news = n0 at *
  walk_at "z_st"
  rename_i a0 h1 l1 a h2 F2 N2 l2
  have lt2 := allLt_mem l2.2
  have S2 := S.of (l := [(a, _), (a0, _)]) F2 N2 (by simpa using Nat.ne_of_gt l2.1) (fun p hp q hq => by
    simp only [List.mem_cons, List.not_mem_nil, or_false] at hp
    rcases hp with rfl | rfl
    · exact Nat.ne_of_lt (lt2 q hq)
    · exact Nat.ne_of_lt (l1 q hq))
  subst hn0
  have S3 : St base L h2 m ([(L + 1 + 1 + 1 + 1 + 1, ow)] ++ (L + 1 + 1 + 1 + 1, oa) :: ((L + 1 + 1 + 1, ot) :: (L + 1 + 1, orw) :: (L + 1, ofm) :: ([(a, _), (a0, _)] ++ news))) := S2.perm (List.perm_append_comm_assoc _ _ _)
  refine S3.store rfl hoa fun h4 oa' S4 d4 => ?_
  exact hq h4 _ a a0 _ _ _ oa' S4 d4
/-- row = [] -/
theorem st3 {ow oa ot orw ofm : Obj} (hA : Sm A 310 1500) (G : Gd w pr loose mg mb base) (S : St base L s.heap m (lawCells L ow oa ot orw ofm ++ news)) (hor : orw.data = .cell none)
    (hq : ∀ h' tk a e orw', St base L h' m (lawCells L ow oa ot orw' ofm ++ ((a, listOf #[] e) :: news)) → orw'.data = .cell (some (.ref a)) → Q .next { s with heap := h', toks := tk }) :
    wpAny (model PySem.Challenge.rw_ij0154_01.prog w) A (exec (stF w.params 96 3) (lawEnv w.params L)) Q (fun _ _ => False) s := by
  have X := G.X
  have T := G.T
  have e96 := G.X 96 (lk w.params 96) (by kernel_rfl)
  revert X; k_fill; intro X
  unfold lawEnv
  rw [stF_of (X 96 _ rfl) e96 rfl rfl (i := 3) rfl, scF_of (X 96 _ rfl) e96 rfl rfl]
  clear e96
  have F := S.F
  have N := S.N
  refine wk (d := 310) (u := 1500) hA ?_
  generalize hn0 : lawCells L ow oa ot orw ofm ++ news = n0 at *
  walk_at "z_st"
  rename_i a h2 F2 N2 l2
  have S2 : St base L h2 m ([(a, _)] ++ n0) := S.of1 F2 N2 l2
  subst hn0
  have S3 : St base L h2 m ([(L + 1 + 1 + 1 + 1 + 1, ow), (L + 1 + 1 + 1 + 1, oa), (L + 1 + 1 + 1, ot)] ++ (L + 1 + 1, orw) :: ((L + 1, ofm) :: ([(a, _)] ++ news))) := S2.perm (List.perm_append_comm_assoc _ _ _)
  refine S3.store rfl hor fun h4 oa' S4 d4 => ?_
  exact hq h4 _ a _ oa' S4 d4
end
end Mine
end
section
open PySem PySem.W PySem.Calls PyProof.Rows
set_option Elab.async false
set_option maxRecDepth 100000
set_option maxHeartbeats 2000000
namespace Mine
section
variable {prog : Program} {w : World} {A : Around} {E : Value → Shared → Prop} {s : Shared} {l : Addr} {vs : List Value} {n : Nat} {x : Int} {u : Tok} {y : Value} {Q : Value → Shared → Prop}
theorem ins_at (ho : s.heap.get? l = some (listOf vs.toArray n)) (h0 : 0 ≤ x) (hx : x ≤ 1000) (hz : vs.length ≤ 1000) (h : ∀ h', Heap.SameBut l s.heap h' → h'.get? l = some (listOf (kl_ins vs x y).toArray (n + 1)) → Q .none { s with heap := h' }) :
    wpAny (model prog w) A (call (.builtin "list.insert") [.ref l, .int x u, y]) Q E s := by
  have hf : Builtin.List.listFitsIndex x = true := by
    unfold Builtin.List.listFitsIndex
    simp only [Bool.and_eq_true, decide_eq_true_eq]
    constructor <;> omega
  refine call_meets PySem.F.slot_list_insert ⟨_, ho, rfl⟩ PySem.F.entry_list_insert (PySem.F.args_list_insert_3 _ _ _) (PySem.AutoSeq1.list_insert_list_int_val_1 l _ n x u y (by simp [hf]) (by rw [List.size_toArray, sizeLine_eq]; omega)) ⟨ho, h _ (Heap.SameBut.update ..) ?_⟩
  refine (PySem.IsL.update ho _).trans ?_
  have e : ∀ (k : Nat), (vs.toArray.extract 0 k).push y ++ vs.toArray.extract k = (vs.take k ++ y :: vs.drop k).toArray := fun k => kl_ins_eq vs k y
  have e2 : (vs.toArray.extract 0 (if x < 0 then (x + (vs.toArray.size : Int)).toNat else min x.toNat vs.toArray.size)).push y ++ vs.toArray.extract (if x < 0 then (x + (vs.toArray.size : Int)).toNat else min x.toNat vs.toArray.size) = (kl_ins vs x y).toArray := by
    rw [e, List.size_toArray]; rfl
  simp only [e2]
  rw [if_neg (show ¬ ((kl_ins vs x y).toArray.size == vs.toArray.size) = true by rw [List.size_toArray, List.size_toArray, kl_ins_length, beq_iff_eq]; omega)]
theorem meth_news {name : Str} {id : String} {pl : Sem Bool} {Q : Value × List Value → Shared → Prop} {its : Array Value} {e : Nat} (ho : s.heap.get? l = some (listOf its e)) (slot : Slot "list" name id) (hty : typeOf (.builtin id) = pure (.type "method_descriptor"))
    (h : Q (.builtin id, [.ref l]) s) : wpAny (model prog w) A (getMethod (.ref l) name pl) Q E s :=
  getMethod_builtin ⟨_, ho, rfl⟩ PySem.F.plainAttrs_list slot hty (fun a e => by cases e; exact ⟨_, ho, rfl⟩) h
/-- the iterator of a range -/
theorem pyiter_range {h₀ : Heap} {L : Addr} {m : Str → Option Value} {news : List (Addr × Obj)} {a b c : Int} {t1 t2 t3 : Tok} (F : Fr h₀ L s.heap m) (N : News h₀ L s.heap news) (hr : IsRange s.heap l a b c t1 t2 t3) (hsm : Builtin.Range.small a b c = true)
    (h : ∀ I h', Fr h₀ L h' m → News h₀ L h' ((I, rit a (Builtin.Range.rangeSize a b c) c) :: news) → (∀ p ∈ news, p.1 < I) → Q (.ref I) { s with heap := h' }) : wpAny (model prog w) A (pyIter (.ref l)) Q E s :=
  wpAny_pyIter_range hr hsm (h _ _ (F.push _) (News.push F N _ rfl) fun q hq => Heap.lt_size (N q hq).1)
end
/-- the nodes that a number picks, and what it lays -/
noncomputable def oneK (x : Int) (k : Nat) : Nat := (x / 2 % (k : Int)).toNat
noncomputable def othK (x : Int) (k : Nat) : Nat := ((x / 2 % (k : Int) + x / 2 / (k : Int)) % (k : Int)).toNat
noncomputable def insF (x : Int) (k : Nat) (l : List Int) : List Int := if x % 2 = 1 then (k : Int) :: l else l ++ [(k : Int)]
noncomputable def putF (x : Int) (k j : Nat) (f : Nat → List Int) : Nat → List Int := fun i => if i = j then insF x k (f j) else f i
noncomputable def famI (xs : List Int) : Nat → Nat → List Int
  | 0 => fun _ => []
  | i + 1 => putF (xs.getD i 0) (i + 1) (othK (xs.getD i 0) (i + 1)) (putF (xs.getD i 0) (i + 1) (oneK (xs.getD i 0) (i + 1)) (famI xs i))
noncomputable def parK (b : Bool) (x : Int) (k : Nat) : Nat := if b then min (oneK x k) (othK x k) else max (oneK x k) (othK x k)
noncomputable def abvL (b : Bool) (xs : List Int) : Nat → List (List Int)
  | 0 => [[0]]
  | i + 1 => abvL b xs i ++ [(abvL b xs i).getD (parK b (xs.getD i 0) (i + 1)) [] ++ [if (xs.getD i 0) % 2 = 1 then -((i + 1 : Nat) : Int) else ((i + 1 : Nat) : Int)]]
noncomputable def rowI (xs : List Int) : Nat → List Int
  | 0 => []
  | i + 1 => (xs.getD i 0 % ((i + 1 + 1 : Nat) : Int)) :: rowI xs i
theorem oneK_lt (x : Int) {k : Nat} (h : 0 < k) : oneK x k < k := by
  have := Int.emod_lt_of_pos (x / 2) (show (0 : Int) < k by omega)
  have := Int.emod_nonneg (x / 2) (show (k : Int) ≠ 0 by omega)
  unfold oneK; omega
theorem othK_lt (x : Int) {k : Nat} (h : 0 < k) : othK x k < k := by
  have := Int.emod_lt_of_pos (x / 2 % (k : Int) + x / 2 / (k : Int)) (show (0 : Int) < k by omega)
  have := Int.emod_nonneg (x / 2 % (k : Int) + x / 2 / (k : Int)) (show (k : Int) ≠ 0 by omega)
  unfold othK; omega
theorem parK_lt (b : Bool) (x : Int) {k : Nat} (h : 0 < k) : parK b x k < k := by
  have h1 := oneK_lt x h
  have h2 := othK_lt x h
  unfold parK; split <;> omega
theorem abvL_length (b : Bool) (xs : List Int) : ∀ i, (abvL b xs i).length = i + 1
  | 0 => rfl
  | i + 1 => by rw [abvL, List.length_append, abvL_length b xs i]; rfl
theorem one_cast (x : Int) {k : Nat} (h : 0 < k) : (x.fdiv 2).fmod (k : Int) = ((oneK x k : Nat) : Int) := by
  have h1 := Int.emod_nonneg (x / 2) (show (k : Int) ≠ 0 by omega)
  rw [Int.fdiv_eq_ediv_of_nonneg _ (by decide), Int.fmod_eq_emod_of_nonneg _ (by omega)]
  unfold oneK; omega
theorem oth_cast (x : Int) {k : Nat} (h : 0 < k) : (((oneK x k : Nat) : Int) + (x.fdiv 2).fdiv (k : Int)).fmod (k : Int) = ((othK x k : Nat) : Int) := by
  have h0 := Int.emod_nonneg (x / 2) (show (k : Int) ≠ 0 by omega)
  have h1 := Int.emod_nonneg (x / 2 % (k : Int) + x / 2 / (k : Int)) (show (k : Int) ≠ 0 by omega)
  rw [Int.fdiv_eq_ediv_of_nonneg x (by decide), Int.fdiv_eq_ediv_of_nonneg _ (by omega), Int.fmod_eq_emod_of_nonneg _ (by omega)]
  have e : ((oneK x k : Nat) : Int) = x / 2 % (k : Int) := by unfold oneK; omega
  rw [e]
  unfold othK; omega
theorem fmodCast (x : Int) {k : Nat} (h : 0 < k) : x.fmod (k : Int) = x % (k : Int) := Int.fmod_eq_emod_of_nonneg _ (by omega)
end Mine
end
section
open PySem PySem.W PySem.Calls PyProof.Rows
open Mine
local macro_rules | `(tactic| walk_at "z_nb") => `(tactic| (walk_at "z_nc"; (fail_if_success (with_reducible show wpAny _ _ (call (Value.builtin _) _) _ _ _))))
local macro_rules | `(tactic| walk_at "z_ns") => `(tactic| (walk_at "z_nb"; (fail_if_success (with_reducible show wpAny _ _ (subscriptTail _ _ _ _) _ _ _))))
local macro_rules | `(tactic| walk_at "z_ap") => `(tactic| repeat' first | (walk_at "z_nb"; walk_at "z_k") | walk_at "z_i")
local macro_rules | `(tactic| walk_at "z_st") => `(tactic| repeat' first | (walk_at "z_nc"; (fail_if_success (with_reducible show wpAny _ _ (storeName _ _ _) _ _ _)); walk_at "z_k") | walk_at "z_i")
local macro_rules | `(tactic| walk_at "z_sl") => `(tactic| repeat' first | (walk_at "z_ns"; (fail_if_success (with_reducible show wpAny _ _ (binaryOp _ _ _) _ _ _)); walk_at "z_k") | walk_at "z_i")
local macro_rules | `(tactic| walk_at "z_co") => `(tactic| repeat' first | (walk_at "z_ns"; (fail_if_success (with_reducible show wpAny _ _ (compareOp _ _ _) _ _ _)); walk_at "z_k") | walk_at "z_i")
local macro_rules | `(tactic| walk_at "eval Name") => `(tactic| (k_here; name_kind "cell"; k_dflt (refine nameX_C (by assumption) (by rfl) (by assumption) (by with_reducible assumption) ?_)))
local macro_rules | `(tactic| walk_at "subscriptTail") => `(tactic| (k_here; (with_reducible show wpAny _ _ (subscriptTail _ _ (Value.ref _) (Value.int (Nat.cast _) _)) _ _ _); first | k_dflt (refine it_ref (isList_at ((by with_reducible assumption : News _ _ _ _) (_, _) (by with_reducible assumption)).1) (by omega) (by omega) ?_) | k_dflt (refine it_int (isList_at ((by with_reducible assumption : News _ _ _ _) (_, _) (by with_reducible assumption)).1) (by with_reducible assumption) (by omega) (by omega) fun _ => ?_)))
local macro_rules | `(tactic| walk_at "call builtin:len") => `(tactic| (k_here; (with_reducible show wpAny _ _ (call (Value.builtin _) [Value.ref _]) _ _ _); first | k_dflt (refine len_nat (isList_at ((by with_reducible assumption : News _ _ _ _) (_, _) (by with_reducible assumption)).1) (by with_reducible assumption) (by first | with_reducible assumption | rfl) (by omega) fun _ _ => ?_) | k_dflt (refine len_nat (Fr.lst (by with_reducible assumption : Fr _ _ _ _) (by with_reducible assumption)) (by with_reducible assumption) (by first | with_reducible assumption | rfl) (by omega) fun _ _ => ?_)))
local macro_rules | `(tactic| walk_at "getMethod ref") => `(tactic| (k_here; (with_reducible show wpAny _ _ (getMethod (Value.ref _) (PySem.Str.ofString "insert") _) _ _ _); k_dflt (refine meth_news ((by with_reducible assumption : News _ _ _ _) (_, _) (by with_reducible assumption)).1 PySem.F.slot_list_insert PySem.F.type_list_insert ?_)))
local macro_rules | `(tactic| walk_at "getMethod ref") => `(tactic| (k_here; (with_reducible show wpAny _ _ (getMethod (Value.ref _) (PySem.Str.ofString "append") _) _ _ _); k_dflt (refine meth_news ((by with_reducible assumption : News _ _ _ _) (_, _) (by with_reducible assumption)).1 PySem.F.slot_list_append PySem.F.type_list_append ?_)))
local macro_rules | `(tactic| walk_at "z_mem") => `(tactic| first | exact List.Mem.head _ | (refine List.Mem.tail _ ?_; walk_at "z_mem"))
section
open PySem PySem.W PySem.Calls PyProof.Rows
set_option Elab.async false
set_option maxRecDepth 100000
set_option maxHeartbeats 2000000
namespace Mine
section
variable {w : World} {A : Around} {s : Shared} {pr : Program} {loose : List Str} {mg mb : Str → Option Value} {base : Heap} {L : Addr} {m : Str → Option Value} {news : List (Addr × Obj)} {Q : Flow → Shared → Prop}
/-- the body of a for statement -/
noncomputable def forBody : Stmt → List Stmt | .For _ _ b _ _ => b | _ => []
/-- a family's objects are lists of ints -/
noncomputable def ListsAre (N : Nat) (fo : Nat → Obj) (f : Nat → List Int) : Prop := ∀ j, j < N → ∃ vs e, fo j = listOf vs.toArray e ∧ IntsAre vs (f j)
theorem fam_swap (pre rest : List (Addr × Obj)) (N : Nat) (FA : Nat → Addr) (fo : Nat → Obj) : (pre ++ (fam N FA fo ++ rest)).Perm (fam N FA fo ++ (pre ++ rest)) := List.perm_append_comm_assoc _ _ _
theorem kl_ins_ints {vs : List Value} {ns : List Int} (hi : IntsAre vs ns) (x : Int) (k : Nat) (tk : Tok) (y : Int) (hy : y = if x % 2 = 1 then 0 else (ns.length : Int)) : IntsAre (kl_ins vs y (.int (k : Int) tk)) (insF x k ns) := by
  have e := hi.length
  unfold kl_ins insF
  by_cases h : x % 2 = 1
  · rw [if_pos h] at hy ⊢
    subst hy
    simpa using IntsAre.cons (k : Int) tk hi
  · rw [if_neg h] at hy ⊢
    subst hy
    rw [if_neg (by omega), Int.toNat_natCast, ← e, Nat.min_self, List.take_length, List.drop_length]
    exact ksk_snoc hi
theorem st4_put {pre rest : List (Addr × Obj)} {Fl : Addr} {ofm : Obj} {N jn kn efl : Nat} {x : Int} {tj tx tk : Tok} {FA : Nat → Addr} {fo : Nat → Obj} {f : Nat → List Int} (hA : Sm A 310 1500) (G : Gd w pr loose mg mb base)
    (S : St base L s.heap m (pre ++ (fam N FA fo ++ rest))) (hcell : (L + 1, ofm) ∈ pre) (hof : ofm.data = .cell (some (.ref Fl))) (hFl : (Fl, listOf ((List.range N).map fun j => Value.ref (FA j)).toArray efl) ∈ pre)
    (hmj : m (Str.ofString "j") = some (.int (jn : Int) tj)) (hmx : m (Str.ofString "x") = some (.int x tx)) (hmk : m (Str.ofString "k") = some (.int (kn : Int) tk)) (hj : jn < N) (hN : N ≤ 13) (hfo : ListsAre N fo f) (hl : ∀ j, (f j).length ≤ 100)
    (hq : ∀ h' tk' fo', St base L h' m (pre ++ (fam N FA fo' ++ rest)) → ListsAre N fo' (putF x kn jn f) → Q .next { s with heap := h', toks := tk' }) :
    wpAny (model PySem.Challenge.rw_ij0154_01.prog w) A (execs (forBody ((forBody (stF w.params 96 4)).getD 3 (.Pass ⟨0, 0, 0, 0⟩))) (lawEnv w.params L)) Q (fun _ _ => False) s := by
  have X := G.X
  have T := G.T
  have e96 := G.X 96 (lk w.params 96) (by kernel_rfl)
  revert X; k_fill; intro X
  unfold lawEnv
  rw [stF_of (X 96 _ rfl) e96 rfl rfl (i := 4) rfl, scF_of (X 96 _ rfl) e96 rfl rfl]
  clear e96
  simp only [forBody, List.getD_cons_succ, List.getD_cons_zero]
  obtain ⟨vs, e, hfe, hvs⟩ := hfo jn hj
  have hFA : (FA jn, listOf vs.toArray e) ∈ pre ++ (fam N FA fo ++ rest) := by
    rw [← hfe]; exact List.mem_append_right _ (List.mem_append_left _ (fam_mem hj))
  have hcell' : (L + 1, ofm) ∈ pre ++ (fam N FA fo ++ rest) := List.mem_append_left _ hcell
  have hFl' : (Fl, listOf ((List.range N).map fun j => Value.ref (FA j)).toArray efl) ∈ pre ++ (fam N FA fo ++ rest) := List.mem_append_left _ hFl
  have hlj := hl jn
  have F := S.F
  have N0 := S.N
  have D := S.D
  refine wk (d := 310) (u := 1500) hA ?_
  have hlv := hvs.length
  have fin : ∀ (y : Int) (h' : Heap), (y = if x % 2 = 1 then 0 else ((f jn).length : Int)) → Heap.SameBut (FA jn) s.heap h' → h'.get? (FA jn) = some (listOf (kl_ins vs y (.int (kn : Int) tk)).toArray (e + 1)) →
      ∃ fo', St base L h' m (pre ++ (fam N FA fo' ++ rest)) ∧ ListsAre N fo' (putF x kn jn f) := by
    intro y h' hy sb hg
    refine ⟨_, ((S.perm (fam_swap ..)).setFam hj sb hg).perm (fam_swap ..).symm, fun i hi => ?_⟩
    unfold putF
    by_cases hij : i = jn
    · simp only [if_pos hij]
      exact ⟨_, _, rfl, kl_ins_ints hvs x kn tk y hy⟩
    · simp only [if_neg hij]
      exact hfo i hi
  clear S D
  generalize pre ++ (fam N FA fo ++ rest) = n0 at *
  walk_at "z_gc"
  · rename_i hx
    rw [show x.fmod 2 = x % 2 from fmodCast x (k := 2) (by decide)] at hx
    refine ins_at (N0 _ hFA).1 (by decide) (by decide) (by omega) fun h' sb hg => ?_
    obtain ⟨fo', S', L'⟩ := fin 0 h' (by rw [if_pos hx]) sb hg
    clear fin F N0
    have F' := S'.F
    have N' := S'.N
    walk_at "z_gc"
    exact hq h' _ fo' S' L'
  · rename_i hx _ _
    rw [show x.fmod 2 = x % 2 from fmodCast x (k := 2) (by decide)] at hx
    refine ins_at (N0 _ hFA).1 (by omega) (by omega) (by omega) fun h' sb hg => ?_
    obtain ⟨fo', S', L'⟩ := fin _ h' (by rw [if_neg hx]) sb hg
    clear fin F N0
    have F' := S'.F
    have N' := S'.N
    walk_at "z_gc"
    exact hq h' _ fo' S' L'
end
end Mine
end
section
open PySem PySem.W PySem.Calls PyProof.Rows
set_option Elab.async false
set_option maxRecDepth 100000
set_option maxHeartbeats 2000000
namespace Mine
theorem St.change {base h h' : Heap} {L a : Addr} {m : Str → Option Value} {pre post : List (Addr × Obj)} {o o' : Obj} (S : St base L h m (pre ++ (a, o) :: post)) (hs : Heap.SameBut a h h') (ho : h'.get? a = some o') : St base L h' m (pre ++ (a, o') :: post) :=
  have hm := S.N (a, o) (List.mem_append_right _ (.head _))
  S.setMid (S.F.change hs hm.2.1 hm.2.2) (S.N.setAt S.neMid.1 S.neMid.2 hs ho)
theorem perm_in {α : Type} (x : α) (P Q R S : List α) : (x :: (P ++ (Q ++ (R ++ S)))).Perm (P ++ (Q ++ ((R ++ [x]) ++ S))) := by
  have := (List.perm_middle (a := x) (l₁ := P ++ (Q ++ R)) (l₂ := S)).symm
  simpa [List.append_assoc] using this
theorem fam_congr {N : Nat} {FA GA : Nat → Addr} {fo go : Nat → Obj} (h : ∀ j, j < N → FA j = GA j ∧ fo j = go j) : fam N FA fo = fam N GA go := by
  refine List.map_congr_left fun j hj => ?_
  obtain ⟨h1, h2⟩ := h j (List.mem_range.mp hj)
  rw [h1, h2]
theorem fam_snoc (N : Nat) (FA : Nat → Addr) (fo : Nat → Obj) (a : Addr) (o : Obj) : fam (N + 1) (fun j => if j = N then a else FA j) (fun j => if j = N then o else fo j) = fam N FA fo ++ [(a, o)] := by
  unfold fam
  rw [List.range_succ, List.map_append]
  congr 1
  · exact fam_congr fun j hj => ⟨if_neg (by (first | lia | omega)), if_neg (by (first | lia | omega))⟩
  · simp
theorem refs_snoc (N : Nat) (FA : Nat → Addr) (a : Addr) : ((List.range (N + 1)).map fun j => Value.ref (if j = N then a else FA j)) = ((List.range N).map fun j => Value.ref (FA j)) ++ [Value.ref a] := by
  rw [List.range_succ, List.map_append]
  congr 1
  · refine List.map_congr_left fun j hj => ?_
    have := List.mem_range.mp hj
    rw [if_neg (by (first | lia | omega))]
  · simp
/-- the objects at hand in the law's first loop -/
noncomputable abbrev ex (L : Addr) (ow oa ot orw ofm : Obj) (Rw Ab Fl Nb : Addr) (rv us : List Value) (e1 e2 e3 e4 : Nat) (N i : Nat) (FA AA : Nat → Addr) : List (Addr × Obj) :=
  lawCells L ow oa ot orw ofm ++ [(Rw, listOf rv.toArray e1), (Ab, listOf ((List.range i).map fun j => Value.ref (AA j)).toArray e2), (Fl, listOf ((List.range N).map fun j => Value.ref (FA j)).toArray e3), (Nb, listOf us.toArray e4)]
/-- the state between the turns of the law's first loop -/
noncomputable abbrev lay (L : Addr) (ow oa ot orw ofm : Obj) (Rw Ab Fl Nb : Addr) (rv us : List Value) (e1 e2 e3 e4 : Nat) (N i : Nat) (FA AA : Nat → Addr) (fo ao : Nat → Obj) (news : List (Addr × Obj)) : List (Addr × Obj) :=
  ex L ow oa ot orw ofm Rw Ab Fl Nb rv us e1 e2 e3 e4 N i FA AA ++ (fam N FA fo ++ (fam i AA ao ++ news))
section
variable {w : World} {A : Around} {s : Shared} {pr : Program} {loose : List Str} {mg mb : Str → Option Value} {base : Heap} {L : Addr} {m : Str → Option Value} {news : List (Addr × Obj)} {Q : Flow → Shared → Prop}
/-- a turn's end: above grows, row grows -/
theorem st4_tail {Rw Ab Fl Nb I : Addr} {oI : Obj} {rv us vp : List Value} {rs xp : List Int} {e1 e2 e3 e4 ep N i pn : Nat} {x : Int} {tx tk0 tp : Tok} {FA AA : Nat → Addr} {fo ao : Nat → Obj} {ow oa ot orw ofm : Obj} (hA : Sm A 310 1500) (G : Gd w pr loose mg mb base)
    (S : St base L s.heap m ((I, oI) :: lay L ow oa ot orw ofm Rw Ab Fl Nb rv us e1 e2 e3 e4 N (i + 1) FA AA fo ao news)) (hi : i < 12)
    (hmp : m (Str.ofString "parent") = some (.int (pn : Int) tp)) (hmx : m (Str.ofString "x") = some (.int x tx)) (hmk : m (Str.ofString "k") = some (.int ((i + 1 : Nat) : Int) tk0)) (hpn : pn < i + 1) (hoa : oa.data = .cell (some (.ref Ab))) (hor : orw.data = .cell (some (.ref Rw)))
    (hrv : IntsAre rv rs) (hrl : rs.length ≤ 12) (hap : ao pn = listOf vp.toArray ep) (hvp : IntsAre vp xp) (hxp : xp.length ≤ 100)
    (hq : ∀ h' tk' y ty us' T, IntsAre us' (xp ++ [if x % 2 = 1 then -((i + 1 : Nat) : Int) else ((i + 1 : Nat) : Int)]) → y = x % ((i + 1 + 1 : Nat) : Int) →
      St base L h' m ((I, oI) :: lay L ow oa ot orw ofm Rw Ab Fl Nb (.int y ty :: rv) us (e1 + 1) (e2 + 1) e3 e4 N (i + 1 + 1) FA (fun j => if j = i + 1 then T else AA j) fo (fun j => if j = i + 1 then listOf us'.toArray 0 else ao j) news) → Q .next { s with heap := h', toks := tk' }) :
    wpAny (model PySem.Challenge.rw_ij0154_01.prog w) A (execs ((forBody (stF w.params 96 4)).drop 5) (lawEnv w.params L)) Q (fun _ _ => False) s := by
  have X := G.X
  have T := G.T
  have e96 := G.X 96 (lk w.params 96) (by kernel_rfl)
  revert X; k_fill; intro X
  unfold lawEnv
  rw [stF_of (X 96 _ rfl) e96 rfl rfl (i := 4) rfl, scF_of (X 96 _ rfl) e96 rfl rfl]
  clear e96
  simp only [forBody, List.drop_succ_cons, List.drop_zero]
  have F := S.F
  have N0 := S.N
  have cA : (L + 1 + 1 + 1 + 1, oa) ∈ (I, oI) :: lay L ow oa ot orw ofm Rw Ab Fl Nb rv us e1 e2 e3 e4 N (i + 1) FA AA fo ao news := by walk_at "z_mem"
  have cR : (L + 1 + 1, orw) ∈ (I, oI) :: lay L ow oa ot orw ofm Rw Ab Fl Nb rv us e1 e2 e3 e4 N (i + 1) FA AA fo ao news := by walk_at "z_mem"
  have cAb : (Ab, listOf ((List.range (i + 1)).map fun j => Value.ref (AA j)).toArray e2) ∈ (I, oI) :: lay L ow oa ot orw ofm Rw Ab Fl Nb rv us e1 e2 e3 e4 N (i + 1) FA AA fo ao news := by walk_at "z_mem"
  have cRw : (Rw, listOf rv.toArray e1) ∈ (I, oI) :: lay L ow oa ot orw ofm Rw Ab Fl Nb rv us e1 e2 e3 e4 N (i + 1) FA AA fo ao news := by walk_at "z_mem"
  have cP : (AA pn, listOf vp.toArray ep) ∈ (I, oI) :: lay L ow oa ot orw ofm Rw Ab Fl Nb rv us e1 e2 e3 e4 N (i + 1) FA AA fo ao news := by
    rw [← hap]; exact .tail _ (List.mem_append_right _ (List.mem_append_right _ (List.mem_append_left _ (fam_mem hpn))))
  refine wk (d := 310) (u := 1500) hA ?_
  generalize hn0 : (I, oI) :: lay L ow oa ot orw ofm Rw Ab Fl Nb rv us e1 e2 e3 e4 N (i + 1) FA AA fo ao news = n0 at *
  have fin : ∀ (h2 h3 h4 : Heap) (T2 : Addr) (us2 : List Value) (c y : Int) (ty : Tok) (tk' : Nat), St base L h2 m ((T2, listOf us2.toArray 0) :: n0) → IntsAre us2 (xp ++ [c]) → c = (if x % 2 = 1 then -((i + 1 : Nat) : Int) else ((i + 1 : Nat) : Int)) → y = x % ((i + 1 + 1 : Nat) : Int) →
      Heap.SameBut Ab h2 h3 → h3.get? Ab = some (listOf (((List.range (i + 1)).map fun j => Value.ref (AA j)).toArray.push (.ref T2)) (e2 + 1)) → Heap.SameBut Rw h3 h4 → h4.get? Rw = some (listOf (kl_ins rv 0 (.int y ty)).toArray (e1 + 1)) → Q .next { s with heap := h4, toks := tk' } := by
    intro h2 h3 h4 T2 us2 c y ty tk' S2 i2 hc hy sb3 g3 sb4 g4
    subst hn0 hc
    refine hq h4 tk' y ty us2 T2 i2 hy ?_
    have S3 := St.change (pre := (T2, _) :: (I, oI) :: (lawCells L ow oa ot orw ofm ++ [(Rw, _)])) (post := (Fl, _) :: (Nb, _) :: (fam N FA fo ++ (fam (i + 1) AA ao ++ news))) S2 sb3 g3
    have S4 := St.change (pre := (T2, _) :: (I, oI) :: lawCells L ow oa ot orw ofm) (post := (Ab, _) :: (Fl, _) :: (Nb, _) :: (fam N FA fo ++ (fam (i + 1) AA ao ++ news))) S3 sb4 g4
    have e5 : kl_ins rv 0 (.int y ty) = .int y ty :: rv := by simp [kl_ins]
    have e6 : ((List.range (i + 1)).map fun j => Value.ref (AA j)).toArray.push (.ref T2) = ((List.range (i + 1 + 1)).map fun j => Value.ref ((fun j => if j = i + 1 then T2 else AA j) j)).toArray := by
      rw [refs_snoc, List.push_toArray]
    rw [e5, e6] at S4
    refine S4.perm ?_
    unfold lay
    rw [fam_snoc]
    exact perm_in _ ((I, oI) :: ex L ow oa ot orw ofm Rw Ab Fl Nb (.int y ty :: rv) us (e1 + 1) (e2 + 1) e3 e4 N (i + 1 + 1) FA (fun j => if j = i + 1 then T2 else AA j)) _ _ _
  have hvl := hvp.length
  have hrvl := hrv.length
  walk_at "z_gc"
  all_goals (
    rename_i hx T1 h1 F1 N1 l1
    rw [show x.fmod 2 = x % 2 from fmodCast x (k := 2) (by decide)] at hx
    refine kmk_add_ints F1 N1 (isList_at (N1 _ (.tail _ cP)).1) (isList_at (N1 (T1, _) (.head _)).1) hvp (.cons _ _ .nil) (fun T2 us2 h2 F2 N2 l2 i2 => ?_) (by rw [sizeLine_eq]; simp only [List.length_cons, List.length_nil]; (first | lia | omega))
    have S2 : St base L h2 m ((T2, listOf us2.toArray 0) :: n0) := S.of1 F2 (fun p hp => (List.mem_cons.mp hp).elim (fun e => e ▸ N2 _ (.head _)) fun hp => N2 p (.tail _ (.tail _ hp))) (fun q hq => l2 q (.tail _ hq))
    walk_at "z_ap"
    refine append_at (S2.N _ (.tail _ cAb)).1 (fun h3 sb3 g3 => ?_) (by rw [sizeLine_eq]; simp; (first | lia | omega))
    have fin' := fin h2 h3
    clear fin
    subst hn0
    have S3 := St.change (pre := (T2, _) :: (I, oI) :: (lawCells L ow oa ot orw ofm ++ [(Rw, _)])) (post := (Fl, _) :: (Nb, _) :: (fam N FA fo ++ (fam (i + 1) AA ao ++ news))) S2 sb3 g3
    obtain ⟨n3, F3, N3, cR', cRw'⟩ : ∃ n3, Fr base L h3 m ∧ News base L h3 n3 ∧ (L + 1 + 1, orw) ∈ n3 ∧ (Rw, listOf rv.toArray e1) ∈ n3 := ⟨_, S3.F, S3.N, by walk_at "z_mem", by walk_at "z_mem"⟩
    clear S3
    walk_at "z_ap"
    refine ins_at (N3 _ cRw').1 (by decide) (by decide) (by (first | lia | omega)) fun h4 sb4 g4 => ?_
    dsimp only
    refine wpAny_execs_nil (fin' h4 T2 us2 _ _ _ _ S2 i2 ?_ ?_ sb3 g3 sb4 g4)
    · first | rw [if_pos hx] | rw [if_neg hx]
    · rw [show ((i + 1 : Nat) : Int) + 1 = ((i + 1 + 1 : Nat) : Int) by (first | lia | omega)]
      exact fmodCast x (by (first | lia | omega)))
end
end Mine
end
section
open PySem PySem.W PySem.Calls PyProof.Rows
set_option Elab.async false
set_option maxRecDepth 100000
set_option maxHeartbeats 2000000
namespace Mine
local macro_rules | `(tactic| walk_at "subscriptTail") => `(tactic| (k_here; (with_reducible show wpAny _ _ (subscriptTail _ _ (Value.ref _) (Value.int (_ - _) _)) _ _ _); k_dflt (refine it_wrap (by with_reducible assumption) (by with_reducible assumption) (.inl ⟨by omega, by omega⟩) (by omega) (by omega) fun _ => ?_)))
section
variable {w : World} {A : Around} {s : Shared} {pr : Program} {loose : List Str} {mg mb : Str → Option Value} {base : Heap} {L : Addr} {m : Str → Option Value} {news : List (Addr × Obj)} {Q : Flow → Shared → Prop}
theorem famI_len (xs : List Int) : ∀ i j, (famI xs i j).length ≤ 2 * i
  | 0, j => by simp [famI]
  | i + 1, j => by
    have ih := famI_len xs i
    have h1 : ∀ (x : Int) (k : Nat) (l : List Int), (insF x k l).length = l.length + 1 := by
      intro x k l; unfold insF; split <;> simp
    have h2 : ∀ (x : Int) (k a n : Nat) (f : Nat → List Int), (∀ j, (f j).length ≤ n) → ∀ j, (putF x k a f j).length ≤ n + 1 := by
      intro x k a n f hf j
      unfold putF
      split
      · rw [h1]; have := hf a; omega
      · have := hf j; omega
    exact h2 _ _ _ _ _ (h2 _ _ _ _ _ ih) j
theorem putF_len {x : Int} {k a n : Nat} {f : Nat → List Int} (hf : ∀ j, (f j).length ≤ n) (j : Nat) : (putF x k a f j).length ≤ n + 1 := by
  unfold putF insF
  split
  · have := hf a
    split <;> simp <;> omega
  · have := hf j; omega
/-- the families within a turn -/
noncomputable def famT (xs : List Int) (i : Nat) : Nat → Nat → List Int
  | 0 => famI xs i
  | 1 => putF (xs.getD i 0) (i + 1) (oneK (xs.getD i 0) (i + 1)) (famI xs i)
  | _ => famI xs (i + 1)
theorem rowI_len (xs : List Int) : ∀ i, (rowI xs i).length = i
  | 0 => rfl
  | i + 1 => by rw [rowI, List.length_cons, rowI_len xs i]
theorem abvL_len (b : Bool) (xs : List Int) : ∀ i j, ((abvL b xs i).getD j []).length ≤ i + 1
  | 0, 0 => by simp [abvL]
  | 0, j + 1 => by simp [abvL]
  | i + 1, j => by
    rw [abvL, List.getD_eq_getElem?_getD, List.getElem?_append]
    split
    · have := abvL_len b xs i j
      rw [List.getD_eq_getElem?_getD] at this
      omega
    · have := abvL_len b xs i (parK b (xs.getD i 0) (i + 1))
      generalize j - (abvL b xs i).length = n
      rcases n with _ | n
      · simp only [List.getElem?_cons_zero, Option.getD_some, List.length_append, List.length_cons, List.length_nil]; omega
      · simp
theorem abv_step {b : Bool} {xs : List Int} {i : Nat} {ao : Nat → Obj} {us' : List Value} (hao : ListsAre (i + 1) ao fun j => (abvL b xs i).getD j [])
    (hus : IntsAre us' ((abvL b xs i).getD (parK b (xs.getD i 0) (i + 1)) [] ++ [if (xs.getD i 0) % 2 = 1 then -((i + 1 : Nat) : Int) else ((i + 1 : Nat) : Int)])) :
    ListsAre (i + 1 + 1) (fun j => if j = i + 1 then listOf us'.toArray 0 else ao j) fun j => (abvL b xs (i + 1)).getD j [] := by
  intro j hj
  have hl := abvL_length b xs i
  by_cases e : j = i + 1
  · subst e
    refine ⟨us', 0, if_pos rfl, ?_⟩
    show IntsAre us' ((abvL b xs (i + 1)).getD (i + 1) [])
    rw [abvL, List.getD_eq_getElem?_getD, List.getElem?_append_right (by omega), hl, Nat.sub_self]
    exact hus
  · obtain ⟨vs, e', h1, h2⟩ := hao j (by omega)
    refine ⟨vs, e', (if_neg e).trans h1, ?_⟩
    show IntsAre vs ((abvL b xs (i + 1)).getD j [])
    rw [abvL, List.getD_eq_getElem?_getD, List.getElem?_append_left (by omega), ← List.getD_eq_getElem?_getD]
    exact h2
/-- what a turn of the law's first loop leaves -/
inductive TurnEnd (base : Heap) (L sc Rw Ab Fl Nb I : Addr) (oI : Obj) (us : List Value) (ss xs : List Int) (e3 e4 i : Nat) (FA : Nat → Addr) (ow oa ot orw ofm : Obj) (news : List (Addr × Obj)) (s s₃ : Shared) : Prop
  | mk : ∀ (h' : Heap) (tk' : Nat) (m' : Str → Option Value) (rv' : List Value) (e1' e2' : Nat) (AA' : Nat → Addr) (fo' ao' : Nat → Obj), s₃ = { s with heap := h', toks := tk' } → St base L h' m' ((I, oI) :: lay L ow oa ot orw ofm Rw Ab Fl Nb rv' us e1' e2' e3 e4 (xs.length + 1) (i + 1 + 1) FA AA' fo' ao' news) →
      m' (Str.ofString "script") = some (.ref sc) → m' (Str.ofString "numbers") = some (.ref Nb) → IntsAre rv' (rowI xs (i + 1)) → ListsAre (xs.length + 1) fo' (famI xs (i + 1)) → ListsAre (i + 1 + 1) ao' (fun j => (abvL (decide (ss.length % 2 = 1)) xs (i + 1)).getD j []) → TurnEnd base L sc Rw Ab Fl Nb I oI us ss xs e3 e4 i FA ow oa ot orw ofm news s s₃
/-- the turns of the inner loop -/
inductive InAt (L sc Rw Ab Fl Nb I T : Addr) (oI oT : Obj) (rv us : List Value) (xs : List Int) (e1 e2 e3 e4 i : Nat) (tk0 : Tok) (FA AA : Nat → Addr) (ao : Nat → Obj) (ow oa ot orw ofm : Obj) (news : List (Addr × Obj)) (t : Nat) (m2 : Str → Option Value) (news2 : List (Addr × Obj)) : Prop
  | mk : ∀ (tx t1 t2 : Tok) (fo2 : Nat → Obj), m2 (Str.ofString "k") = some (.int ((i + 1 : Nat) : Int) tk0) → m2 (Str.ofString "x") = some (.int (xs.getD i 0) tx) → m2 (Str.ofString "script") = some (.ref sc) → m2 (Str.ofString "numbers") = some (.ref Nb) →
      m2 (Str.ofString "one") = some (.int ((oneK (xs.getD i 0) (i + 1) : Nat) : Int) t1) → m2 (Str.ofString "other") = some (.int ((othK (xs.getD i 0) (i + 1) : Nat) : Int) t2) →
      news2 = ((T, oT) :: (I, oI) :: ex L ow oa ot orw ofm Rw Ab Fl Nb rv us e1 e2 e3 e4 (xs.length + 1) (i + 1) FA AA) ++ (fam (xs.length + 1) FA fo2 ++ (fam (i + 1) AA ao ++ news)) → (news2.map (·.1)).Nodup →
      ListsAre (xs.length + 1) fo2 (famT xs i t) → InAt L sc Rw Ab Fl Nb I T oI oT rv us xs e1 e2 e3 e4 i tk0 FA AA ao ow oa ot orw ofm news t m2 news2
/-- one turn -/
theorem st4_turn {sc Rw Ab Fl Nb I : Addr} {oI : Obj} {sv rv us : List Value} {ss xs : List Int} {e1 e2 e3 e4 i : Nat} {tk0 : Tok} {FA AA : Nat → Addr} {fo ao : Nat → Obj} {ow oa ot orw ofm : Obj} (hA : Sm A 310 1500) (G : Gd w pr loose mg mb base)
    (S : St base L s.heap m ((I, oI) :: lay L ow oa ot orw ofm Rw Ab Fl Nb rv us e1 e2 e3 e4 (xs.length + 1) (i + 1) FA AA fo ao news)) (hsc : base.IsList sc sv.toArray) (hsi : IntsAre sv ss) (hsl : ss.length ≤ 63) (hxi : IntsAre us xs) (hxl : xs.length ≤ 12) (hi : i < xs.length)
    (hms : m (Str.ofString "script") = some (.ref sc)) (hmn : m (Str.ofString "numbers") = some (.ref Nb)) (hoa : oa.data = .cell (some (.ref Ab))) (hor : orw.data = .cell (some (.ref Rw))) (hof : ofm.data = .cell (some (.ref Fl)))
    (hrv : IntsAre rv (rowI xs i)) (hfo : ListsAre (xs.length + 1) fo (famI xs i)) (hao : ListsAre (i + 1) ao fun j => (abvL (decide (ss.length % 2 = 1)) xs i).getD j [])
    (hm : m (Str.ofString "k") = some (.int ((i + 1 : Nat) : Int) tk0)) :
    wpAny (model PySem.Challenge.rw_ij0154_01.prog w) A (execs (forBody (stF w.params 96 4)) (lawEnv w.params L)) (fun f s₃ => f = .next ∧ TurnEnd base L sc Rw Ab Fl Nb I oI us ss xs e3 e4 i FA ow oa ot orw ofm news s s₃) (fun _ _ => False) s := by
  have X := G.X
  have T := G.T
  have e96 := G.X 96 (lk w.params 96) (by kernel_rfl)
  revert X; k_fill; intro X
  unfold lawEnv
  have hst := stF_of (X 96 _ rfl) e96 rfl rfl (i := 4) rfl
  have hsc4 := scF_of (X 96 _ rfl) e96 rfl rfl
  rw [hst, hsc4]
  clear e96
  simp only [forBody]
  have F := S.F
  have N := S.N
  refine wk (d := 310) (u := 1500) hA ?_
  have hN : s.heap.IsList Nb us.toArray := isList_at (N (Nb, _) (by walk_at "z_mem")).1
  generalize hn0 : (I, oI) :: lay L ow oa ot orw ofm Rw Ab Fl Nb rv us e1 e2 e3 e4 (xs.length + 1) (i + 1) FA AA fo ao news = n0 at *
  walk_at "z_gc"
  rename_i hh1 F1 N1
  have ei : (((i + 1 : Nat) : Int) - 1).toNat = i := by omega
  rw [ei, one_cast _ (Nat.succ_pos i), oth_cast _ (Nat.succ_pos i)] at F1
  obtain ⟨μ, μk, ⟨tx, μx⟩, μs, μn, ⟨t1, μ1⟩, ⟨t2, μ2⟩, F2⟩ : ∃ μ : Str → Option Value, μ (Str.ofString "k") = some (.int ((i + 1 : Nat) : Int) tk0) ∧ (∃ tx, μ (Str.ofString "x") = some (.int (xs.getD i 0) tx)) ∧ μ (Str.ofString "script") = some (.ref sc) ∧ μ (Str.ofString "numbers") = some (.ref Nb) ∧
      (∃ t1, μ (Str.ofString "one") = some (.int ((oneK (xs.getD i 0) (i + 1) : Nat) : Int) t1)) ∧ (∃ t2, μ (Str.ofString "other") = some (.int ((othK (xs.getD i 0) (i + 1) : Nat) : Int) t2)) ∧ Fr base L hh1 μ :=
    ⟨_, by walk_at "z_loc", ⟨_, by walk_at "z_loc"⟩, by walk_at "z_loc", by walk_at "z_loc", ⟨_, by walk_at "z_loc"⟩, ⟨_, by walk_at "z_loc"⟩, F1⟩
  clear F1
  refine wpAny_For ?_
  walk_at "z_gc"
  rename_i T hT FT NT lT
  have ST : St base L hT _ ([(T, _)] ++ n0) := S.of1 FT NT lT
  subst hn0
  have h1 : oneK (xs.getD i 0) (i + 1) < i + 1 := oneK_lt (xs.getD i 0) (Nat.succ_pos i)
  have h2 : othK (xs.getD i 0) (i + 1) < i + 1 := othK_lt (xs.getD i 0) (Nat.succ_pos i)
  have hk0 := S.D
  refine for_ind
    (fun t m2 news2 => InAt L sc Rw Ab Fl Nb I T oI (listOf #[Value.int ((oneK (xs.getD i 0) (i + 1) : Nat) : Int) t1, Value.int ((othK (xs.getD i 0) (i + 1) : Nat) : Int) t2] 0) rv us xs e1 e2 e3 e4 i tk0 FA AA ao ow oa ot orw ofm news t m2 news2)
    (s := ⟨hT, s.gens, s.drawn, _, s.os⟩) rfl FT NT (ax := T) (its := #[Value.int ((oneK (xs.getD i 0) (i + 1) : Nat) : Int) t1, Value.int ((othK (xs.getD i 0) (i + 1) : Nat) : Int) t2])
    (fun t m2 news2 hI => ?src) ?h0 ?step ?fin
  case src =>
    obtain ⟨_, _, _, fo2, -, -, -, -, -, -, rfl, -, -⟩ := hI
    exact .inr ⟨_, .head _, rfl, _, rfl⟩
  case h0 => exact ⟨_, _, _, fo, by walk_at "z_loc", by walk_at "z_loc", by walk_at "z_loc", by walk_at "z_loc", by walk_at "z_loc", by walk_at "z_loc", rfl, ST.D, hfo⟩
  case step =>
    clear hk0 ST
    rintro t m2 news2 v I2 oI2 hh tk2 ht hv ⟨tx', t1', t2', fo2, mk, mx, msc, mnb, mo1, mo2, rfl, nd, hl2⟩ F3 N3 off hIL
    have S3 : St base L hh m2 ((I2, oI2) :: _) := ⟨F3, N3, List.nodup_cons.mpr ⟨fun hm => (by obtain ⟨p, hp, e⟩ := List.mem_map.mp hm; exact off p hp e), nd⟩⟩
    obtain ⟨jn, tj, rfl, hjn, hnext⟩ : ∃ (jn : Nat) (tj : Tok), v = .int (jn : Int) tj ∧ jn < xs.length + 1 ∧ putF (xs.getD i 0) (i + 1) jn (famT xs i t) =
        famT xs i (t + 1) := by
      rcases t with _ | _ | t
      · exact ⟨_, t1, by simpa using hv.symm, by omega, rfl⟩
      · exact ⟨_, t2, by simpa using hv.symm, by omega, rfl⟩
      · exact absurd ht (by simp)
    have hlen : ∀ j, (famT xs i t j).length ≤ 100 := by
      intro j
      have a1 := famI_len xs i
      have a2 := famI_len xs (i + 1) j
      have a3 := putF_len (x := xs.getD i 0) (k := i + 1) (a := oneK (xs.getD i 0) (i + 1)) a1 j
      have a4 := a1 j
      rcases t with _ | _ | t
      · show (famI xs i j).length ≤ 100; omega
      · show (putF (xs.getD i 0) (i + 1) (oneK (xs.getD i 0) (i + 1)) (famI xs i) j).length ≤ 100; omega
      · show (famI xs (i + 1) j).length ≤ 100; omega
    walk1
    walk1
    dsimp only
    rename_i h4 F4 N4
    refine execs_to (l' := forBody ((forBody (stF w.params 96 4)).getD 3 (.Pass ⟨0, 0, 0, 0⟩))) (env' := lawEnv w.params L) (by rw [hst] <;> rfl) (by unfold lawEnv; rw [hsc4]) ?_
    refine st4_put (pre := (I2, oI2) :: (T, _) :: (I, oI) :: ex L ow oa ot orw ofm Rw Ab Fl Nb rv us e1 e2 e3 e4 (xs.length + 1) (i + 1) FA AA) (rest := fam (i + 1) AA ao ++ news) (N := xs.length + 1) (jn := jn) (kn := i + 1) (x := xs.getD i 0) (FA := FA) (fo := fo2) (sm_AM _ _) G (S3.fr F4 N4)
      (by walk_at "z_mem") hof (by walk_at "z_mem") (by walk_at "z_loc") (by walk_at "z_loc") (by walk_at "z_loc") hjn (by omega) hl2 hlen fun h' tk' fo' S' L' => ?_
    rw [hnext] at L'
    refine ⟨rfl, h', tk', _, _, rfl, S'.F, S'.N, S'.ne, _, _, _, fo', by walk_at "z_loc", by walk_at "z_loc", by walk_at "z_loc", by walk_at "z_loc", by walk_at "z_loc", by walk_at "z_loc", rfl, (List.nodup_cons.mp S'.D).2, L'⟩
  case fin =>
    clear hk0 ST NT lT FT
    rintro m2 news2 hh tk2 ⟨tx', t1', t2', fo2, mk, mx, msc, mnb, mo1, mo2, rfl, nd, hl2⟩ F3 N3
    have S3 : St base L hh m2 _ := ⟨F3, N3, nd⟩
    have lsc := hsi.length
    have pl := parK_lt (decide (ss.length % 2 = 1)) (xs.getD i 0) (k := i + 1) (Nat.succ_pos i)
    obtain ⟨vp, ep, hap, hvp⟩ := hao _ pl
    have hxp := abvL_len (decide (ss.length % 2 = 1)) xs i (parK (decide (ss.length % 2 = 1)) (xs.getD i 0) (i + 1))
    have hrl : (rowI xs i).length ≤ 12 := by rw [rowI_len]; omega
    have kont := fun (tp : Tok) (h' : Heap) (tk' : Nat) (m3 : Str → Option Value) (mp : m3 (Str.ofString "parent") = some (.int ((parK (decide (ss.length % 2 = 1)) (xs.getD i 0) (i + 1) : Nat) : Int) tp)) (mk3 : m3 (Str.ofString "k") = some (.int ((i + 1 : Nat) : Int) tk0)) (mx3 : m3 (Str.ofString "x") = some (.int (xs.getD i 0) tx')) (ms3 : m3 (Str.ofString "script") = some (.ref sc)) (mn3 : m3 (Str.ofString "numbers") = some (.ref Nb))
        (F4 : Fr base L h' m3) (N4 : News base L h' (((T, listOf #[Value.int ((oneK (xs.getD i 0) (i + 1) : Nat) : Int) t1, Value.int ((othK (xs.getD i 0) (i + 1) : Nat) : Int) t2] 0) :: (I, oI) :: ex L ow oa ot orw ofm Rw Ab Fl Nb rv us e1 e2 e3 e4 (xs.length + 1) (i + 1) FA AA) ++ (fam (xs.length + 1) FA fo2 ++ (fam (i + 1) AA ao ++ news)))) =>
        execs_to (l' := (forBody (stF w.params 96 4)).drop 5) (env' := lawEnv w.params L) (by rw [hst] <;> rfl) (by unfold lawEnv; rw [hsc4]) <| st4_tail (s := ⟨h', s.gens, s.drawn, tk', s.os⟩) (m := m3) (fo := fo2) (ao := ao) (news := news) (I := I) (oI := oI) (ow := ow) (ot := ot) (ofm := ofm) (Fl := Fl) (Nb := Nb) (us := us) (e2 := e2) (e3 := e3) (e4 := e4) (FA := FA) (N := xs.length + 1) (A := AM 310 1500) (sm_AM _ _) G (St.drop ⟨F4, N4, nd⟩ (List.sublist_cons_self _ _)) (by omega) mp mx3 mk3 pl hoa hor hrv hrl hap hvp (Nat.le_trans hxp (by omega))
          (Q := (fun f s₃ => f = .next ∧ TurnEnd base L sc Rw Ab Fl Nb I oI us ss xs e3 e4 i FA ow oa ot orw ofm news s s₃))
          fun h5 tk5 y ty us' T5 hus hy S5 => ⟨rfl, h5, tk5, _, _, _, _, _, _, _, rfl, S5, ms3, mn3, by rw [hy]; exact .cons _ _ hrv, hl2, abv_step hao hus⟩
    have n3 := N3
    generalize ((T, listOf #[Value.int ((oneK (xs.getD i 0) (i + 1) : Nat) : Int) t1, Value.int ((othK (xs.getD i 0) (i + 1) : Nat) : Int) t2] 0) :: (I, oI) :: ex L ow oa ot orw ofm Rw Ab Fl Nb rv us e1 e2 e3 e4 (xs.length + 1) (i + 1) FA AA) ++ (fam (xs.length + 1) FA fo2 ++ (fam (i + 1) AA ao ++ news)) = nn at N3 kont
    walk_at "z_st"
    · rename_i hodd h5 tk5 F5 N5
      have ho : ss.length % 2 = 1 := by
        have : (ss.length : Int).fmod 2 = (ss.length : Int) % 2 := fmodCast (ss.length : Int) (k := 2) (by decide)
        omega
      have hv : (if ((othK (xs.getD i 0) (i + 1) : Nat) : Int) < ((oneK (xs.getD i 0) (i + 1) : Nat) : Int) then ((othK (xs.getD i 0) (i + 1) : Nat) : Int) else ((oneK (xs.getD i 0) (i + 1) : Nat) : Int)) = ((parK (decide (ss.length % 2 = 1)) (xs.getD i 0) (i + 1) : Nat) : Int) := by
        simp only [parK, ho, decide_true, if_true]
        split <;> omega
      rw [hv]
      walk1
      dsimp only
      rename_i h6 F6 N6
      exact kont _ _ _ _ (by walk_at "z_loc") (by walk_at "z_loc") (by walk_at "z_loc") (by walk_at "z_loc") (by walk_at "z_loc") F6 N6
    · rename_i hodd h5 tk5 F5 N5
      have ho : ¬ ss.length % 2 = 1 := by
        have : (ss.length : Int).fmod 2 = (ss.length : Int) % 2 := fmodCast (ss.length : Int) (k := 2) (by decide)
        omega
      have hv : (if ((othK (xs.getD i 0) (i + 1) : Nat) : Int) > ((oneK (xs.getD i 0) (i + 1) : Nat) : Int) then ((othK (xs.getD i 0) (i + 1) : Nat) : Int) else ((oneK (xs.getD i 0) (i + 1) : Nat) : Int)) = ((parK (decide (ss.length % 2 = 1)) (xs.getD i 0) (i + 1) : Nat) : Int) := by
        simp only [parK, ho, decide_false, if_false, Bool.false_eq_true]
        split <;> omega
      rw [hv]
      walk1
      dsimp only
      rename_i h6 F6 N6
      exact kont _ _ _ _ (by walk_at "z_loc") (by walk_at "z_loc") (by walk_at "z_loc") (by walk_at "z_loc") (by walk_at "z_loc") F6 N6
end
end Mine
end
section
open PySem PySem.W PySem.Calls PyProof.Rows
set_option Elab.async false
set_option maxRecDepth 100000
set_option maxHeartbeats 2000000
namespace Mine
/-- between the turns of the law's first loop -/
inductive LoopAt (L sc Rw Ab Fl Nb : Addr) (us : List Value) (ss xs : List Int) (e3 e4 : Nat) (FA : Nat → Addr) (ow oa ot orw ofm : Obj) (news : List (Addr × Obj)) (i : Nat) (m2 : Str → Option Value) (news2 : List (Addr × Obj)) : Prop
  | mk : ∀ (rv : List Value) (e1 e2 : Nat) (AA : Nat → Addr) (fo ao : Nat → Obj), m2 (Str.ofString "script") = some (.ref sc) → m2 (Str.ofString "numbers") = some (.ref Nb) → news2 = lay L ow oa ot orw ofm Rw Ab Fl Nb rv us e1 e2 e3 e4 (xs.length + 1) (i + 1) FA AA fo ao news → (news2.map (·.1)).Nodup →
      IntsAre rv (rowI xs i) → ListsAre (xs.length + 1) fo (famI xs i) → ListsAre (i + 1) ao (fun j => (abvL (decide (ss.length % 2 = 1)) xs i).getD j []) → LoopAt L sc Rw Ab Fl Nb us ss xs e3 e4 FA ow oa ot orw ofm news i m2 news2
section
variable {w : World} {A : Around} {s : Shared} {pr : Program} {loose : List Str} {mg mb : Str → Option Value} {base : Heap} {L : Addr} {m : Str → Option Value} {news : List (Addr × Obj)} {Q : Flow → Shared → Prop}
/-- the law's first loop -/
theorem st4 {sc Rw Ab Fl Nb : Addr} {sv us : List Value} {ss xs : List Int} {e1 e2 e3 e4 : Nat} {FA AA : Nat → Addr} {fo ao : Nat → Obj} {ow oa ot orw ofm : Obj} (hA : Sm A 310 1500) (G : Gd w pr loose mg mb base)
    (S : St base L s.heap m (lay L ow oa ot orw ofm Rw Ab Fl Nb [] us e1 e2 e3 e4 (xs.length + 1) 1 FA AA fo ao news)) (hsc : base.IsList sc sv.toArray) (hsi : IntsAre sv ss) (hsl : ss.length ≤ 63) (hxi : IntsAre us xs) (hxl : xs.length ≤ 12)
    (hms : m (Str.ofString "script") = some (.ref sc)) (hmn : m (Str.ofString "numbers") = some (.ref Nb)) (hoa : oa.data = .cell (some (.ref Ab))) (hor : orw.data = .cell (some (.ref Rw))) (hof : ofm.data = .cell (some (.ref Fl)))
    (hfo : ListsAre (xs.length + 1) fo fun _ => []) (hao : ListsAre 1 ao fun _ => [0])
    (hq : ∀ h' tk' m' rv' e1' e2' AA' fo' ao', St base L h' m' (lay L ow oa ot orw ofm Rw Ab Fl Nb rv' us e1' e2' e3 e4 (xs.length + 1) (xs.length + 1) FA AA' fo' ao' news) → m' (Str.ofString "script") = some (.ref sc) → IntsAre rv' (rowI xs xs.length) → ListsAre (xs.length + 1) fo' (famI xs xs.length) →
      ListsAre (xs.length + 1) ao' (fun j => (abvL (decide (ss.length % 2 = 1)) xs xs.length).getD j []) → Q .next { s with heap := h', toks := tk' }) :
    wpAny (model PySem.Challenge.rw_ij0154_01.prog w) A (exec (stF w.params 96 4) (lawEnv w.params L)) Q (fun _ _ => False) s := by
  have X := G.X
  have T := G.T
  have e96 := G.X 96 (lk w.params 96) (by kernel_rfl)
  revert X; k_fill; intro X
  unfold lawEnv
  have hst := stF_of (X 96 _ rfl) e96 rfl rfl (i := 4) rfl
  have hsc4 := scF_of (X 96 _ rfl) e96 rfl rfl
  rw [hst, hsc4]
  clear e96
  have F := S.F
  have N := S.N
  have hlu := hxi.length
  refine wk (d := 310) (u := 1500) hA ?_
  have hN : s.heap.IsList Nb us.toArray := isList_at (N (Nb, _) (by walk_at "z_mem")).1
  generalize hn0 : lay L ow oa ot orw ofm Rw Ab Fl Nb [] us e1 e2 e3 e4 (xs.length + 1) 1 FA AA fo ao news = n0 at *
  have hcN : (Nb, listOf us.toArray e4) ∈ n0 := by rw [← hn0]; walk_at "z_mem"
  refine wpAny_For ?_
  walk_at "z_gc"
  rename_i hr F1 N1 K1
  refine pyiter_range F1 N1 hr (small_one (by decide) (by decide) (by omega) (by omega)) fun I h2 F2 N2 hlt => ?_
  have hsz : Builtin.Range.rangeSize 1 ((xs.length : Int) + 1) 1 = ((xs.length : Nat) : Int) := by
    rw [rangeSize_one]; split <;> omega
  rw [hsz] at N2
  have W : Walks PySem.Challenge.rw_ij0154_01.prog w (AM 310 1500) I [I] [I] xs.length (fun i v => ∃ t, v = .int (1 + (i : Int) * 1) t) (fun i h => IsRangeIter h I (1 + (i : Nat) * 1) ((xs.length : Int) - (i : Nat)) 1) := Walks.range rfl I 1 1 xs.length
  have st : (fun (i : Nat) (h : Heap) => IsRangeIter h I (1 + (i : Nat) * 1) ((xs.length : Int) - (i : Nat)) 1) 0 _ := (N2 _ (.head _)).1
  have D0 := S.D
  subst hn0
  refine for_walks (s := ⟨_, s.gens, s.drawn, _, s.os⟩) W (fun i m2 news2 => LoopAt L sc Rw Ab Fl Nb us ss xs e3 e4 FA ow oa ot orw ofm news i m2 news2)
    F2 N2 (fun p hp => Nat.ne_of_lt (hlt p hp)) st (Nat.zero_le _) ⟨[], e1, e2, AA, fo, ao, hms, hmn, rfl, D0, .nil, hfo, fun j hj => (by obtain rfl : j = 0 := (by omega); exact hao 0 hj)⟩
    (fun i h st => ⟨_, st⟩) (fun i i' h h' o m news st e e' hi F N => ?stK) ?step ?fin
  case stK =>
    have st' : h.get? I = some _ := st
    rw [e] at st'
    cases st'
    exact e'
  case fin =>
    rintro m2 news2 h3 tk3 ⟨rv2, e12, e22, AA2, fo2, ao2, ms2, mn2, rfl, nd, hr2, hf2, ha2⟩ F3 N3
    exact hq h3 tk3 m2 rv2 e12 e22 AA2 fo2 ao2 ⟨F3, N3, nd⟩ ms2 hr2 hf2 ha2
  case step =>
    rintro i m2 news2 v oI h3 tk3 hi ⟨t, rfl⟩ ⟨rv2, e12, e22, AA2, fo2, ao2, ms2, mn2, rfl, nd, hr2, hf2, ha2⟩ F3 N3 off3 hIL
    rw [show 1 + (i : Int) * 1 = ((i + 1 : Nat) : Int) by omega]
    have S3 : St base L h3 m2 ((I, oI) :: _) := ⟨F3, N3, List.nodup_cons.mpr ⟨fun hm => (by obtain ⟨p, hp, e⟩ := List.mem_map.mp hm; exact off3 p hp e), nd⟩⟩
    walk1
    walk1
    dsimp only
    rename_i h4 F4 N4
    refine execs_to (l' := forBody (stF w.params 96 4)) (env' := lawEnv w.params L) (by rw [hst] <;> rfl) (by unfold lawEnv; rw [hsc4]) ?_
    refine wpAny_mono (st4_turn (sm_AM _ _) G (S3.fr F4 N4) hsc hsi hsl hxi hxl hi (by walk_at "z_loc") (by walk_at "z_loc") hoa hor hof hr2 hf2 ha2 (by walk_at "z_loc")) (fun f s' q => ?_) fun _ _ q => q.elim
    obtain ⟨rfl, h5, tk5, m5, rv5, e15, e25, AA5, fo5, ao5, rfl, S5, ms5, mn5, hr5, hf5, ha5⟩ := q
    exact ⟨rfl, h5, tk5, m5, _, rfl, S5.F, S5.N, S5.ne, rv5, e15, e25, AA5, fo5, ao5, ms5, mn5, rfl, (List.nodup_cons.mp S5.D).2, hr5, hf5, ha5⟩
end
end Mine
end
section
open PySem PySem.W PySem.Calls PyProof.Rows
set_option Elab.async false
set_option maxRecDepth 100000
set_option maxHeartbeats 2000000
namespace Mine
/-- a list's slice with a step, the state laid open -/
theorem slice3_at {prog : Program} {w : World} {A : Around} {E : Value → Shared → Prop} {h₀ h : Heap} {L : Addr} {m : Str → Option Value} {news : List (Addr × Obj)} {gs : Array GenState} {dr : Drawn} {tk : Tok} {os : OsState} {value slice : Expr} {l : Addr} {items : Array Value} {zs : List Value} {vl vu vk : Value} {lo hi st : Option Int} {ops : List Value} {Q : Value → Shared → Prop}
    (F : Fr h₀ L h m) (N : News h₀ L h news) (hl : h.IsList l items) (pl : IsPart vl lo) (pu : IsPart vu hi) (pk : IsPart vk st) (h0 : st ≠ some 0) (e : (slicePick items lo hi st).toList = zs)
    (hq : ∀ D h', Fr h₀ L h' m → News h₀ L h' ((D, listOf zs.toArray 0) :: news) → (∀ p ∈ news, p.1 < D) → Q (.ref D) ⟨h', gs, dr, tk, os⟩)
    (hsz : items.size ≤ 1000)
    (hs : subscripted slice false (.ref l) (.ref h.objs.size) = operate ops (getItem (.ref l) (.ref h.objs.size)) := by with_unfolding_all rfl)
    (ht : ∀ r, letTemporaryGo value (.ref l) r = pure () := by intro _; with_unfolding_all rfl) :
    wpAny (model prog w) A (subscriptTail value slice (.ref l) (.ref h.objs.size)) Q E ⟨h.push { cls := .type "slice", data := .fields #[vl, vu, vk] }, gs, dr, tk, os⟩ :=
  kmk_slice3_lit (s := ⟨h, gs, dr, tk, os⟩) F N hl pl pu pk h0 e hq hs ht (by rw [sizeLine_eq]; omega)
section
variable {w : World} {A : Around} {s : Shared} {pr : Program} {loose : List Str} {mg mb : Str → Option Value} {base : Heap} {L : Addr} {m : Str → Option Value} {news : List (Addr × Obj)} {Q : Flow → Shared → Prop}
/-- the order in which families are handed out -/
noncomputable def handL (b : Bool) (N : Nat) : List Nat := if b then (List.range N).reverse else List.range N
/-- handed = families[::-1] if len(script) % 2 == 1 else families -/
theorem st5 {sc Fl : Addr} {sv : List Value} {ss : List Int} {N e3 : Nat} {FA : Nat → Addr} {ow oa ot orw ofm : Obj} (hA : Sm A 310 1500) (G : Gd w pr loose mg mb base)
    (S : St base L s.heap m (lawCells L ow oa ot orw ofm ++ news)) (hsc : base.IsList sc sv.toArray) (hsi : IntsAre sv ss) (hsl : ss.length ≤ 63)
    (hms : m (Str.ofString "script") = some (.ref sc)) (hof : ofm.data = .cell (some (.ref Fl))) (hFl : (Fl, listOf ((List.range N).map fun j => Value.ref (FA j)).toArray e3) ∈ news) (hN : N ≤ 20)
    (hq : ∀ h' tk' H extra e, St base L h' (fun y => if y = Str.ofString "handed" then some (.ref H) else m y) (lawCells L ow oa ot orw ofm ++ (extra ++ news)) → (H, listOf ((handL (decide (ss.length % 2 = 1)) N).map fun j => Value.ref (FA j)).toArray e) ∈ extra ++ news → Q .next { s with heap := h', toks := tk' }) :
    wpAny (model PySem.Challenge.rw_ij0154_01.prog w) A (exec (stF w.params 96 5) (lawEnv w.params L)) Q (fun _ _ => False) s := by
  have X := G.X
  have T := G.T
  have e96 := G.X 96 (lk w.params 96) (by kernel_rfl)
  revert X; k_fill; intro X
  unfold lawEnv
  rw [stF_of (X 96 _ rfl) e96 rfl rfl (i := 5) rfl, scF_of (X 96 _ rfl) e96 rfl rfl]
  clear e96
  have F := S.F
  have N0 := S.N
  have lsc := hsi.length
  have cF : (L + 1, ofm) ∈ lawCells L ow oa ot orw ofm ++ news := by walk_at "z_mem"
  have cFl : (Fl, listOf ((List.range N).map fun j => Value.ref (FA j)).toArray e3) ∈ lawCells L ow oa ot orw ofm ++ news := List.mem_append_right _ hFl
  refine wk (d := 310) (u := 1500) hA ?_
  generalize hn0 : lawCells L ow oa ot orw ofm ++ news = n0 at *
  walk_at "z_gc"
  · rename_i hx
    have ho : ss.length % 2 = 1 := by
      have : (ss.length : Int).fmod 2 = (ss.length : Int) % 2 := fmodCast (ss.length : Int) (k := 2) (by decide)
      omega
    refine slice3_at (zs := ((List.range N).reverse.map fun j => Value.ref (FA j))) F N0 (isList_at (N0 _ cFl).1) .none .none (.int _ _) (by decide) (by rw [krv_pick]; simp) (fun D h2 F2 N2 l2 => ?_) (by simp; omega)
    have S2 := S.of1 F2 N2 l2
    walk_at "z_gc"
    rename_i h3 F3 N3
    have S3 := S2.fr F3 N3
    subst hn0
    refine hq h3 _ D [(D, _)] 0 (S3.perm (List.perm_middle (l₁ := lawCells L ow oa ot orw ofm)).symm) ?_
    simp only [handL, ho, decide_true, if_true]
    exact .head _
  · rename_i hx h3 F3 N3
    have ho : ¬ ss.length % 2 = 1 := by
      have : (ss.length : Int).fmod 2 = (ss.length : Int) % 2 := fmodCast (ss.length : Int) (k := 2) (by decide)
      omega
    subst hn0
    refine hq h3 _ Fl [] e3 (S.fr F3 N3) ?_
    simp only [handL, ho, decide_false, if_false, Bool.false_eq_true]
    exact hFl
end
end Mine
end
section
open PySem PySem.W PySem.Calls PyProof.Rows
set_option Elab.async false
set_option maxRecDepth 100000
set_option maxHeartbeats 2000000
namespace Mine
/-- all but one object are kept -/
theorem St.but {h₀ h h' : Heap} {L I : Addr} {m : Str → Option Value} {o o' : Obj} {l : List (Addr × Obj)} (S : St h₀ L h m ((I, o) :: l)) (hk : ∀ b o, b ∉ [I] → h.get? b = some o → h'.get? b = some o) (hI : h'.get? I = some o') : St h₀ L h' m ((I, o') :: l) := by
  have z := S.N (I, o) (.head _)
  refine ⟨LCg.fr_but S.F hk (Ne.symm z.2.1) z.2.2, fun p hp => ?_, S.D⟩
  rcases List.mem_cons.mp hp with rfl | hp
  · exact ⟨hI, z.2⟩
  · have y := S.N p (.tail _ hp)
    exact ⟨hk _ _ (by simpa using S.ne p hp) y.1, y.2⟩
theorem St.butM {h₀ h h' : Heap} {L I : Addr} {m : Str → Option Value} {o o' : Obj} {pre post : List (Addr × Obj)} (S : St h₀ L h m (pre ++ (I, o) :: post)) (hk : ∀ b o, b ∉ [I] → h.get? b = some o → h'.get? b = some o) (hI : h'.get? I = some o') : St h₀ L h' m (pre ++ (I, o') :: post) :=
  ((S.perm List.perm_middle).but hk hI).perm List.perm_middle.symm
section
variable {w : World} {A : Around} {s : Shared} {pr : Program} {loose : List Str} {mg mb : Str → Option Value} {base : Heap} {L : Addr} {m : Str → Option Value} {news : List (Addr × Obj)} {Q : Flow → Shared → Prop}
/-- table = get_parent_map(_law_context(handed)) -/
theorem st6 {H : Addr} {hs : List (Addr × List Int)} {eh : Nat} {ow oa ot orw ofm : Obj} (hA : Sm A 310 1500) (G : Gd w pr loose mg mb base)
    (S : St base L s.heap m (lawCells L ow oa ot orw ofm ++ (60, tabObj #[]) :: news)) (hmh : m (Str.ofString "handed") = some (.ref H)) (hH : (H, listOf (hs.map fun p => Value.ref p.1).toArray eh) ∈ news)
    (hfam : ∀ p ∈ hs, ∃ vs e, (p.1, listOf (List.toArray vs) e) ∈ news ∧ IntsAre vs p.2) (hcnt : (hs.map fun p => p.2.length).sum ≤ 1000) (hlen : hs.length ≤ 100) (hot : ot.data = .cell none)
    (hq : ∀ h' tk' d o ot' p60, St base L h' m (lawCells L ow oa ot' orw ofm ++ (d, o) :: (60, tabObj p60) :: news) → (∀ h : Heap, h.get? d = some o → h.IntMap d (tabF hs fun _ => none)) → ot'.data = .cell (some (.ref d)) → Q .next { s with heap := h', toks := tk' }) :
    wpAny (model PySem.Challenge.rw_ij0154_01.prog w) A (exec (stF w.params 96 6) (lawEnv w.params L)) Q (fun _ _ => False) s := by
  have X := G.X
  have T := G.T
  have e96 := G.X 96 (lk w.params 96) (by kernel_rfl)
  have X0 := G.X
  revert X; k_fill; intro X
  unfold lawEnv
  rw [stF_of (X 96 _ rfl) e96 rfl rfl (i := 6) rfl, scF_of (X 96 _ rfl) e96 rfl rfl]
  clear e96
  have F := S.F
  have N0 := S.N
  refine wk (d := 310) (u := 1500) hA ?_
  generalize hn0 : lawCells L ow oa ot orw ofm ++ (60, tabObj #[]) :: news = n0 at *
  walk_at "z_gc"
  refine callWith_F (fnAt_base F (X 21 _ rfl)) ?_
  walk_at "z_gc"
  refine callWith_F (fnAt_base (by with_reducible assumption) (X 65 _ rfl)) ?_
  walk_at "z_gc"
  have S1 : St base L s.heap m n0 := S
  subst hn0
  have hN60 := S1.N (60, tabObj #[]) (List.mem_append_right _ (.head _))
  have G60 : Gd w pr loose mg mb (hideAll s.heap [60]) := G.keeps fun b o e => hideAll_get _ (S1.F.keep b o e) fun hm => by
    rw [List.mem_singleton.mp hm, hN60.2.2] at e; cases e
  refine ⟨fnAt_base S1.F (X 65 _ rfl), ?_⟩
  refine wk (d := 650) (u := 3300) ⟨rfl, Nat.le_of_ble_eq_true rfl, Nat.le_of_ble_eq_true rfl⟩ (wpAny_mono (context_spec G60 (codeHd_of_K G60.X (by kernel_rfl)) hN60.1) (fun v s1 q => ?_) fun _ _ q => q.elim)
  obtain ⟨h1, tk1, rfl, k1, ⟨p60, t60⟩, ctx, dC, rt, dR, lam, nC, nR, hC, kC, i1, j1, i2, j2, rfl, fdC, n1, n2, n3, eC, edC, eR, edR, ⟨fd, el⟩, fC, fR, fdR, hcall⟩ := q
  have F1 : Fr base L h1 m := LCg.fr_but S1.F (I := 60) (fun b o hb e => k1 b o (by simpa using hb) e) (Ne.symm hN60.2.1) hN60.2.2
  have S60 := (S1.perm (List.perm_middle (l₁ := lawCells L ow oa ot orw ofm)))
  have S2 : St base L h1 m (lawCells L ow oa ot orw ofm ++ (60, tabObj p60) :: news) := St.butM (pre := lawCells L ow oa ot orw ofm) S1 (fun b o hb e => k1 b o (by simpa using hb) e) t60
  have N1 := S2.N
  have neb : ∀ (b : Addr), s.heap.get? b = none → base.get? b = none := fun b e => by
    cases q : base.get? b with
    | none => rfl
    | some o => rw [S1.F.keep _ _ q] at e; cases e
  have neN : ∀ (b : Addr) (o : Obj), s.heap.get? b = some o → b ≠ dC := fun b o e q => by rw [q, fdC] at e; cases e
  have off4 : ∀ (b : Addr), b ∈ [ctx, dC, rt, dR] → s.heap.get? b = none := by
    intro b hb
    simp only [List.mem_cons, List.not_mem_nil, or_false] at hb
    rcases hb with rfl | rfl | rfl | rfl <;> assumption
  have hide4 : ∀ b o, s.heap.get? b = some o → h1.get? b = some o → (hideAll h1 [ctx, dC, rt, dR]).get? b = some o := fun b o e e1 => hideAll_get _ e1 fun hb => by rw [off4 b hb] at e; cases e
  have mem1 : ∀ p ∈ news, (hideAll h1 [ctx, dC, rt, dR]).get? p.1 = some p.2 := fun p hp => hide4 p.1 p.2 (S1.N p (List.mem_append_right _ (.tail _ hp))).1 (N1 p (List.mem_append_right _ (.tail _ hp))).1
  have base1 : ∀ b o, base.get? b = some o → (hideAll h1 [ctx, dC, rt, dR]).get? b = some o := fun b o e => hide4 b o (S1.F.keep _ _ e) (F1.keep _ _ e)
  have nd4 : [ctx, dC, rt, dR].Nodup := by
    have a1 : ctx ≠ rt := fun e => by rw [e, eR] at eC; injection eC with eC; injection eC with _ e4; injection e4 with e4; exact n3 e4
    have a2 : ctx ≠ dR := fun e => by rw [e, edR] at eC; cases eC
    have a3 : rt ≠ dR := fun e => by rw [e, edR] at eR; cases eR
    simp only [List.nodup_cons, List.mem_cons, List.not_mem_nil, or_false, not_or, not_false_eq_true, List.nodup_nil, and_true]
    exact ⟨⟨n1, a1, a2⟩, ⟨Ne.symm n2, Ne.symm n3⟩, a3⟩
  have hlam : (hideAll h1 [ctx, dC, rt, dR]).get? lam = some (⟨.type "function", none, .func fd, #[]⟩ : Obj) := hideAll_get _ el fun hb => by
    simp only [List.mem_cons, List.not_mem_nil, or_false] at hb
    rcases hb with e | e | e | e
    · rw [e, eC] at el; cases el
    · rw [e, edC] at el; simp at el
    · rw [e, eR] at el; cases el
    · rw [e, edR] at el; simp at el
  walk_at "z_gc"
  refine ⟨fnAt_base F1 (X 21 _ rfl), ?_⟩
  refine wpAny_call (parent_spec (s := ⟨h1, s.gens, s.drawn, _, s.os⟩) (hs := hs) ((sm_AM _ _).le (by decide) (by decide)) (G.keeps base1) (G.keeps F1.keep) nd4 eC edC eR edR hlam (isList_at (mem1 _ hH)) (fun p hp => ?_) hcnt hlen hcall fun h2 tk2 d k2 fd2 hm2 => ?_)
  · obtain ⟨vs, e, hm, hi⟩ := hfam p hp
    exact ⟨vs, isList_at (mem1 _ hm), hi⟩
  dsimp only
  have hL1 : ∃ o, h1.get? L = some o := let ⟨o, _, _, e, _⟩ := F1.ns; ⟨o, e⟩
  have hLd : L ≠ dC := fun e => by
    obtain ⟨o, _, _, e1, _⟩ := S1.F.ns
    rw [e, fdC] at e1; cases e1
  have F2 : Fr base L h2 m := LCg.fr_but F1 (I := dC) (fun b o hb e => k2 b o (by simpa using hb) e) hLd (neb _ fdC)
  have neD : ∀ p ∈ lawCells L ow oa ot orw ofm ++ (60, tabObj p60) :: news, p.1 ≠ dC := fun p hp => by
    rcases List.mem_append.mp hp with hp | hp
    · exact neN _ _ (S60.N p (.tail _ (List.mem_append_left _ hp))).1
    · rcases List.mem_cons.mp hp with rfl | hp
      · exact neN _ _ hN60.1
      · exact neN _ _ (S60.N p (.tail _ (List.mem_append_right _ hp))).1
  have N2 : News base L h2 (lawCells L ow oa ot orw ofm ++ (60, tabObj p60) :: news) := LCg.news_but N1 (I := dC) (fun b o hb e => k2 b o (by simpa using hb) e) neD
  obtain ⟨od, hod, hD⟩ : ∃ o, h2.get? d = some o ∧ ∀ h : Heap, h.get? d = some o → h.IntMap d (tabF hs fun _ => none) := by
    obtain ⟨o, es, ep, e, r⟩ := hm2
    exact ⟨o, e, fun h e' => ⟨o, es, ep, e', r⟩⟩
  have hnew : ∀ p ∈ lawCells L ow oa ot orw ofm ++ (60, tabObj p60) :: news, p.1 ≠ d := fun p hp e => by
    have := (N1 p hp).1
    rw [e, fd2] at this; cases this
  have hdL : d ≠ L := fun e => by
    obtain ⟨o, e1⟩ := hL1
    rw [← e, fd2] at e1; cases e1
  have S3 : St base L h2 m ((d, od) :: (lawCells L ow oa ot orw ofm ++ (60, tabObj p60) :: news)) := ⟨F2, fun p hp => by
    rcases List.mem_cons.mp hp with rfl | hp
    · exact ⟨hod, hdL, by
        cases q : base.get? d with
        | none => rfl
        | some o => have := F1.keep _ _ q; rw [fd2] at this; cases this⟩
    · exact N2 p hp, List.nodup_cons.mpr ⟨fun hm => (by obtain ⟨p, hp, e⟩ := List.mem_map.mp hm; exact hnew p hp e), S2.D⟩⟩
  have S4 : St base L h2 m ([(L + 1 + 1 + 1 + 1 + 1, ow), (L + 1 + 1 + 1 + 1, oa)] ++ (L + 1 + 1 + 1, ot) :: ([(L + 1 + 1, orw), (L + 1, ofm)] ++ (d, od) :: (60, tabObj p60) :: news)) := S3.perm (List.perm_middle (l₁ := lawCells L ow oa ot orw ofm)).symm
  refine S4.store rfl hot fun h3 ot' S5 d5 => ?_
  exact hq h3 _ d od ot' p60 S5 hD d5
end
end Mine
end
section
open PySem PySem.W PySem.Calls PyProof.Rows
set_option Elab.async false
set_option maxRecDepth 100000
set_option maxHeartbeats 2000000
namespace Mine
theorem len_any {prog : Program} {w : World} {A : Around} {E : Value → Shared → Prop} {s : Shared} {l : Addr} {Q : Value → Shared → Prop} {vs : List Value} {n : Nat} (hl : s.heap.IsList l vs.toArray) (he : vs.length = n) (hn : n ≤ 1000) (h : ∀ t tk, Q (.int (n : Int) t) { s with toks := tk }) : wpAny (model prog w) A (call (.builtin "len") [.ref l]) Q E s := by
  refine call_len_list hl (by rw [List.size_toArray]; omega) ?_
  have := h (s.toks + 1) (s.toks + 1 + 1)
  rw [List.size_toArray, he]
  exact this
section
variable {w : World} {A : Around} {s : Shared} {pr : Program} {loose : List Str} {mg mb : Str → Option Value} {base : Heap} {L : Addr} {m : Str → Option Value} {news : List (Addr × Obj)} {Q : Flow → Shared → Prop}
/-- ways = [_law_way(table, families, k) for k in range(len(families))] -/
theorem st7 {Fl Td : Addr} {od : Obj} {f : Int → Option Value} {FA : Nat → Addr} {N e3 : Nat} {p : Nat → Nat} {ow oa ot orw ofm : Obj} (hA : Sm A 310 1500) (G : Gd w pr loose mg mb base)
    (S : St base L s.heap m (lawCells L ow oa ot orw ofm ++ news)) (hof : ofm.data = .cell (some (.ref Fl))) (hot : ot.data = .cell (some (.ref Td))) (how : ow.data = .cell none)
    (hFl : (Fl, listOf ((List.range N).map fun j => Value.ref (FA j)).toArray e3) ∈ news) (hTd : (Td, od) ∈ news) (hD : ∀ h : Heap, h.get? Td = some od → h.IntMap Td f) (hN : N ≤ 20) (inj : ∀ i j, i < N → j < N → FA i = FA j → i = j)
    (hf0 : f 0 = none) (hf : ∀ k : Nat, 0 < k → k < N → f k = some (.ref (FA (p k)))) (hp : ∀ k, 0 < k → p k < k) (hfl : ∀ j, j < N → ∃ its e, (FA j, (listOf its e : Obj)) ∈ news)
    (hq : ∀ h' tk' Ws e WA wo ow', St base L h' m (lawCells L ow' oa ot orw ofm ++ ((Ws, listOf ((List.range N).map fun j => Value.ref (WA j)).toArray e) :: (fam N WA wo ++ news))) → ListsAre N wo (way p) → ow'.data = .cell (some (.ref Ws)) → Q .next { s with heap := h', toks := tk' }) :
    wpAny (model PySem.Challenge.rw_ij0154_01.prog w) A (exec (stF w.params 96 7) (lawEnv w.params L)) Q (fun _ _ => False) s := by
  have X := G.X
  have T := G.T
  have e96 := G.X 96 (lk w.params 96) (by kernel_rfl)
  revert X; k_fill; intro X
  unfold lawEnv
  rw [stF_of (X 96 _ rfl) e96 rfl rfl (i := 7) rfl, scF_of (X 96 _ rfl) e96 rfl rfl]
  clear e96
  have F := S.F
  have N0 := S.N
  have cF : (L + 1, ofm) ∈ lawCells L ow oa ot orw ofm ++ news := by walk_at "z_mem"
  have cT : (L + 1 + 1 + 1, ot) ∈ lawCells L ow oa ot orw ofm ++ news := by walk_at "z_mem"
  have cFl : (Fl, listOf ((List.range N).map fun j => Value.ref (FA j)).toArray e3) ∈ lawCells L ow oa ot orw ofm ++ news := List.mem_append_right _ hFl
  have cTd : (Td, od) ∈ lawCells L ow oa ot orw ofm ++ news := List.mem_append_right _ hTd
  refine wk (d := 310) (u := 1500) hA ?_
  generalize hn0 : lawCells L ow oa ot orw ofm ++ news = n0 at *
  have hlN : ((List.range N).map fun j => Value.ref (FA j)).length = N := by simp
  walk_at "z_gc"
  refine LCg.ListComp_U (F₀ := F) rfl (by decide) rfl (by decide) rfl ?_
  walk_at "z_gc"
  refine len_any (isList_at (N0 _ cFl).1) hlN (by omega) fun t5 tk5 => ?_
  walk_at "z_gc"
  rename Fr _ _ _ _ => F5
  rename News _ _ _ _ => N5
  rename IsRange _ _ _ _ _ _ _ _ => hr
  rename_i k5
  refine LCg.CompSrc.range rfl F5 N5 hr (small_one (by decide) (by decide) (by omega) (by omega)) (range_size N) (by rw [sizeLine_eq]; omega) fun g => ?_
  refine compU_ind (fun i ys news' => ∃ rs : List (Addr × Obj), rs.length = i ∧ ys = rs.map (fun p => Value.ref p.1) ∧ news' = rs ++ n0 ∧ (rs.map (·.1)).Nodup ∧ (∀ p ∈ rs, ∀ q ∈ n0, q.1 ≠ p.1) ∧ ∀ j, j < i → ∃ a vs e, rs[j]? = some (a, listOf (List.toArray vs) e) ∧ IntsAre vs (way p j)) ?step ?fin ⟨[], rfl, rfl, rfl, List.nodup_nil, (fun _ h => nomatch h), fun j hj => absurd hj (Nat.not_lt_zero j)⟩
  case step =>
    rintro i ys news' v I oI C oC D m₂ hh tkk E' hi ⟨rs, hrs, rfl, rfl, hnd, hne, hway⟩ ⟨t', rfl⟩ hC hx2 F6 N6 off ne
    have mm : ∀ q ∈ n0, q ∈ (I, oI) :: (C, oC) :: (D, LCg.lst (rs.map (fun p => Value.ref p.1))) :: (rs ++ n0) := fun q hq => .tail _ (.tail _ (.tail _ (List.mem_append_right _ hq)))
    have c1 := mm _ cF
    have c2 := mm _ cT
    walk_at "z_gc"
    refine callWith_F (fnAt_base (by with_reducible assumption) (X 70 _ rfl)) ?_
    walk_at "z_gc"
    rename Fr _ _ _ _ => F6
    rename News _ _ _ _ => N6
    refine ⟨fnAt_base F6 (X 70 _ rfl), ?_⟩
    rw [Int.zero_add]
    refine wpAny_call (way_spec (s := ⟨hh, s.gens, s.drawn, tkk, s.os⟩) (f := f) (FA := FA) (nF := N) (p := p) (x := i) ((sm_AM _ _).le (by decide) (by decide)) (G.keeps F6.keep) (hD hh (N6 _ (mm _ cTd)).1) (isList_at (N6 _ (mm _ cFl)).1) inj hf0 hf hp hi hN (fun j hj => ?_) fun h7 tk7 r vs k7 iv hr7 fr7 => ?_)
    · obtain ⟨its, e, hm⟩ := hfl j hj
      subst hn0
      exact ⟨its, isList_at (N6 _ (mm _ (List.mem_append_right _ hm))).1⟩
    obtain ⟨e7, hr7⟩ := hr7
    have nr : ∀ q ∈ (I, oI) :: (C, oC) :: (D, LCg.lst (rs.map (fun p => Value.ref p.1))) :: (rs ++ n0), q.1 ≠ r := fun q hq e => by
      have := (N6 q hq).1
      rw [e, fr7] at this; cases this
    have F7 := F6.keeps k7
    have N7 : News base L h7 ((r, listOf vs.toArray e7) :: (I, oI) :: (C, oC) :: (D, LCg.lst (rs.map (fun p => Value.ref p.1))) :: (rs ++ n0)) := news_cons (N6.grown k7) hr7 (fr_none F6 fr7)
    refine LCg.CompEnd.intro F7 N7 ((rs ++ [(r, listOf vs.toArray e7)]) ++ n0) (fun q hq => ?_) (LCg.Off3.of fun q hq => ?_) trivial ⟨rs ++ [(r, listOf vs.toArray e7)], by rw [List.length_append, hrs]; rfl, by rw [List.map_append]; rfl, rfl, ?_, ?_, ?_⟩
    · rw [List.append_assoc] at hq
      simp only [List.mem_cons, List.mem_append, List.not_mem_nil, or_false] at hq ⊢
      rcases hq with hq | hq | hq | hq | hq | hq
      · exact .inr (.inl hq)
      · exact .inr (.inr (.inl hq))
      · exact .inr (.inr (.inr (.inl hq)))
      · exact .inr (.inr (.inr (.inr (.inl hq))))
      · exact .inl hq
      · exact .inr (.inr (.inr (.inr (.inr hq))))
    · rw [List.append_assoc] at hq
      simp only [List.mem_cons, List.mem_append, List.not_mem_nil, or_false] at hq
      rcases hq with hq | rfl | hq
      · exact off.mem q (List.mem_append_left _ hq)
      · exact ⟨Ne.symm (nr _ (.head _)), Ne.symm (nr _ (.tail _ (.head _))), Ne.symm (nr _ (.tail _ (.tail _ (.head _))))⟩
      · exact off.mem q (List.mem_append_right _ hq)
    · rw [List.map_append]
      refine List.nodup_append.mpr ⟨hnd, by simp, fun a ha b hb e => ?_⟩
      simp only [List.map_cons, List.map_nil, List.mem_singleton] at hb
      obtain ⟨q, hq, rfl⟩ := List.mem_map.mp ha
      exact nr q (.tail _ (.tail _ (.tail _ (List.mem_append_left _ hq)))) (e.trans hb)
    · intro a ha q hq
      rcases List.mem_append.mp ha with ha | ha
      · exact hne a ha q hq
      · rw [List.mem_singleton] at ha
        subst ha
        exact nr q (mm q hq)
    · intro j hj
      by_cases ej : j < i
      · obtain ⟨a, vs', e', h1, h2⟩ := hway j ej
        exact ⟨a, vs', e', by rw [List.getElem?_append_left (by omega)]; exact h1, h2⟩
      · obtain rfl : j = i := by omega
        exact ⟨r, vs, e7, by rw [List.getElem?_append_right (by omega), hrs, Nat.sub_self]; rfl, iv⟩
  case fin =>
    rintro ys news' ⟨rs, hrs, rfl, rfl, hnd, hne, hway⟩
    unfold LCg.FinE
    intro D h7 tk7 F7 N7 o7
    dsimp only
    have D7 := off1_mem o7
    have S7 : St base L h7 m (((D, LCg.lst (rs.map (fun p => Value.ref p.1))) :: rs) ++ n0) := by
      refine S.build F7 N7 (List.nodup_cons.mpr ⟨fun hm => ?_, hnd⟩) fun p hp q hq => ?_
      · obtain ⟨p, hp, e⟩ := List.mem_map.mp hm
        exact D7 p (List.mem_append_left _ hp) e
      · rcases List.mem_cons.mp hp with rfl | hp
        · exact D7 q (List.mem_append_right _ hq)
        · exact hne p hp q hq
    subst hn0
    have efam : rs = fam N (fun j => (rs.getD j (0, listOf #[] 0)).1) (fun j => (rs.getD j (0, listOf #[] 0)).2) := by
      refine List.ext_getElem (by simp [hrs]) fun i h1 h2 => ?_
      simp [h1]
    have eref : rs.map (fun p => Value.ref p.1) = (List.range N).map fun j => Value.ref ((fun j => (rs.getD j (0, listOf #[] 0)).1) j) := by
      refine List.ext_getElem (by simp [hrs]) fun i h1 h2 => ?_
      have h1' : i < rs.length := by simpa using h1
      simp [h1']
    generalize hWA : (fun j => (rs.getD j (0, listOf #[] 0)).1) = WA at efam eref
    generalize hwo : (fun j => (rs.getD j (0, listOf #[] 0)).2) = wo at efam
    rw [eref] at S7
    have S8 : St base L h7 m ([] ++ (L + 1 + 1 + 1 + 1 + 1, ow) :: ([(L + 1 + 1 + 1 + 1, oa), (L + 1 + 1 + 1, ot), (L + 1 + 1, orw), (L + 1, ofm)] ++ ((D, _) :: (rs ++ news)))) := S7.perm (List.perm_append_comm_assoc _ _ _)
    refine S8.store rfl how fun h8 ow' S9 d9 => ?_
    rw [efam] at S9
    refine hq h8 _ D _ WA wo ow' S9 (fun j hj => ?_) d9
    obtain ⟨a, vs, e, h1, h2⟩ := hway j hj
    exact ⟨vs, e, by rw [← hwo]; simp [h1], h2⟩
end
end Mine
end
section
open PySem PySem.W PySem.Calls PyProof.Rows
set_option Elab.async false
set_option maxRecDepth 100000
set_option maxHeartbeats 2000000
namespace Mine
theorem ints_get {rv : List Value} {rs : List Nat} (hi : IntsAre rv (rs.map fun k : Nat => (k : Int))) {i : Nat} {v : Value} (hv : rv[i]? = some v) : i < rs.length ∧ ∃ t, v = .int ((rs.getD i 0 : Nat) : Int) t := by
  induction rs generalizing rv i with
  | nil => cases hi; simp at hv
  | cons a rs ih =>
    cases hi with
    | cons x t hi =>
      cases i with
      | zero => simp at hv; exact ⟨by simp, t, hv.symm⟩
      | succ i =>
        simp at hv
        obtain ⟨h1, h2⟩ := ih hi hv
        exact ⟨by simp; omega, by simpa using h2⟩
section
variable {w : World} {A : Around} {s : Shared} {pr : Program} {loose : List Str} {mg mb : Str → Option Value} {base : Heap} {L : Addr} {m : Str → Option Value} {news : List (Addr × Obj)} {Q : Flow → Shared → Prop}
/-- due = sorted(row, key=lambda k: above[k]) -/
theorem st8 {Rw Ab : Addr} {rv : List Value} {rs : List Nat} {e1 e2 N : Nat} {AA : Nat → Addr} {ao : Nat → Obj} {av : Nat → List Int} {rank : Nat → Int} {ow oa ot orw ofm : Obj} (hA : Sm A 310 1500) (G : Gd w pr loose mg mb base) (C : CodeHd base 95 93)
    (S : St base L s.heap m (lawCells L ow oa ot orw ofm ++ (93, tabObj #[]) :: news)) (hoa : oa.data = .cell (some (.ref Ab))) (hor : orw.data = .cell (some (.ref Rw)))
    (hRw : (Rw, listOf rv.toArray e1) ∈ news) (irv : IntsAre rv (rs.map fun k : Nat => (k : Int))) (h2 : 2 ≤ rs.length) (h64 : rs.length < 64) (hrs : ∀ k ∈ rs, k < N) (hN : N ≤ 20)
    (hAb : (Ab, listOf ((List.range N).map fun j => Value.ref (AA j)).toArray e2) ∈ news) (hao : ∀ j, j < N → (AA j, ao j) ∈ news) (hav : ListsAre N ao av)
    (hrank : ∀ i j, i < rs.length → j < rs.length → lexLt (av (rs.getD i 0)) (av (rs.getD j 0)) = decide (rank i < rank j))
    (hq : ∀ h' tk' D p e c', St base L h' (fun y => if y = Str.ofString "due" then some (.ref D) else m y) (lawCells L ow oa ot orw ofm ++ (93, tabObj #[rawInt 101, rawInt 26, .ref c']) :: (D, listOf (List.toArray (p.toList.map fun i => rv.getD i Value.none)) e) :: news) → Pm rs.length p → Srt rank p rs.length → Q .next { s with heap := h', toks := tk' }) :
    wpAny (model PySem.Challenge.rw_ij0154_01.prog w) A (exec (stF w.params 96 8) (lawEnv w.params L)) Q (fun _ _ => False) s := by
  have X := G.X
  have T := G.T
  have e96 := G.X 96 (lk w.params 96) (by kernel_rfl)
  revert X; k_fill; intro X
  unfold lawEnv
  rw [stF_of (X 96 _ rfl) e96 rfl rfl (i := 8) rfl, scF_of (X 96 _ rfl) e96 rfl rfl]
  clear e96
  have F := S.F
  have N0 := S.N
  have cA : (L + 1 + 1 + 1 + 1, oa) ∈ lawCells L ow oa ot orw ofm ++ (93, tabObj #[]) :: news := by walk_at "z_mem"
  have cR : (L + 1 + 1, orw) ∈ lawCells L ow oa ot orw ofm ++ (93, tabObj #[]) :: news := by walk_at "z_mem"
  refine wk (d := 310) (u := 1500) hA ?_
  generalize hn0 : lawCells L ow oa ot orw ofm ++ (93, tabObj #[]) :: news = n0 at *
  walk_at "z_gc"
  have S1 := S
  subst hn0
  have S2 := S1.perm (List.perm_middle (l₁ := lawCells L ow oa ot orw ofm))
  refine kla_eval rfl ?_
  refine lam_make S2.F S2.N S2.ne G C rfl rfl (by simp [TriplesOk]) (by simp [codeAmong]) rfl (fun f c' oc vsl tl ctl h5 tk5 F5 N5 hdl hvl l4 l5 l6 => ?_)
  have hlr := irv.length
  rw [List.length_map] at hlr
  have nc : ∀ q ∈ (93, tabObj #[]) :: (lawCells L ow oa ot orw ofm ++ news), q.1 ≠ c' := fun q hq => by
    rcases List.mem_cons.mp hq with rfl | hq
    · exact Nat.ne_of_lt l5
    · exact Nat.ne_of_lt (l4 q hq)
  generalize hn5 : (93, tabObj _) :: (f, _) :: (c', oc) :: (lawCells L ow oa ot orw ofm ++ news) = n5 at N5
  walk_at "z_ap"
  have mem5 : ∀ q ∈ lawCells L ow oa ot orw ofm ++ news, q ∈ n5 := fun q hq => by rw [← hn5]; exact .tail _ (.tail _ (.tail _ hq))
  have hfo : h5.get? f = some _ := (N5 (f, _) (by rw [← hn5]; exact .tail _ (.head _))).1
  have hco : h5.get? c' = some oc := (N5 (c', _) (by rw [← hn5]; exact .tail _ (.tail _ (.head _)))).1
  have rel : ∀ i, i < rs.length → rs.getD i 0 < N := fun i hi => by
    rw [List.getD_eq_getElem?_getD, List.getElem?_eq_getElem hi]; exact hrs _ (List.getElem_mem hi)
  show wpAny _ _ (call (.builtin "sorted") [.ref Rw] [(Str.ofString "key", .ref f)]) _ _ _
  refine sorted_by (vs := rv) (KO := fun i v o => i < rs.length ∧ o = [] ∧ v = .ref (AA (rs.getD i 0))) (rank := rank) (T := .type "list") F5 N5 (isList_at (N5 _ (mem5 _ (List.mem_append_right _ hRw))).1) (by omega) (by omega) ?turn ?looks rfl rfl ?ask ?fin
  case turn =>
    rintro i v hv h tk need F6 N6 hn
    obtain ⟨hi, t, rfl⟩ : i < rs.length ∧ ∃ t, v = .int ((rs.getD i 0 : Nat) : Int) t := ints_get irv hv
    have rl := rel i hi
    have hfo6 := (N6 (f, _) (hn _ (by rw [← hn5]; exact .tail _ (.head _)))).1
    have hco6 : h.get? c' = some oc := (N6 (c', _) (hn _ (by rw [← hn5]; exact .tail _ (.tail _ (.head _))))).1
    have hAb6 : h.IsList Ab ((List.range N).map fun j => Value.ref (AA j)).toArray := isList_at (N6 _ (hn _ (mem5 _ (List.mem_append_right _ hAb)))).1
    have hca6 : h.get? (L + 1 + 1 + 1 + 1) = some oa := (N6 _ (hn _ (mem5 _ (List.mem_append_left _ (.tail _ (.head _)))))).1
    have T6 := T.keeps F6.keep
    refine wpAny_call (enterL (d := 510) (u := 2550) (s := ⟨h, s.gens, s.drawn, tk, s.os⟩) (binds := [(Str.ofString "k", .int ((rs.getD i 0 : Nat) : Int) t)]) ⟨rfl, Nat.le_of_ble_eq_true rfl, Nat.le_of_ble_eq_true rfl⟩ (by decide) hfo6 rfl T6.nolimit ⟨c', oc, vsl, tl, rfl, hco6, hdl, hvl⟩ (BindsTo.of_eq rfl) (by decide) (locs rfl) (fun h₁ F7 => ?_))
    generalize hm : (fun y => List.lookup y (List.reverse [(Str.ofString "k", Value.int ((rs.getD i 0 : Nat) : Int) t)])) = m7 at F7
    have m1 : m7 (Str.ofString "k") = some (.int ((rs.getD i 0 : Nat) : Int) t) := by rw [← hm]; rfl
    clear hm
    generalize h.objs.size = L7 at F7 ⊢
    have N7 : News h L7 h₁ [] := News.nil
    generalize tk + _ = tk7 at *
    walk_at "z_gc"
    refine it_ref (F7.lst hAb6) rl hN ?_
    exact ⟨h₁, tk7, [], rfl, F6.keeps F7.keep, N6.grown F7.keep, (fun _ hp => nomatch hp), hi, rfl, rfl⟩
  case looks =>
    rintro i v o need h ⟨hi, rfl, rfl⟩ F6 N6 - hn
    obtain ⟨vs, e, he, -⟩ := hav _ (rel i hi)
    have hk := (N6 _ (hn _ (mem5 _ (List.mem_append_right _ (hao _ (rel i hi)))))).1
    rw [he] at hk
    exact (Looks.ld hk).andThen .now
  case ask =>
    rintro i j vi vj oi oj need h tk ⟨hi, rfl, rfl⟩ ⟨hj, rfl, rfl⟩ - - F6 N6 - - hn
    obtain ⟨vs, e, he, iv⟩ := hav _ (rel i hi)
    obtain ⟨us, e', he', iu⟩ := hav _ (rel j hj)
    have hk := (N6 _ (hn _ (mem5 _ (List.mem_append_right _ (hao _ (rel i hi)))))).1
    have hk' := (N6 _ (hn _ (mem5 _ (List.mem_append_right _ (hao _ (rel j hj)))))).1
    rw [he] at hk
    rw [he'] at hk'
    exact l_less (by decide) iv iu hk hk' ⟨hrank i j hi hj, h, tk, rfl, F6, N6⟩
  case fin =>
    rintro D h6 tk6 p c F6 N6 l7 hpm hsrt
    rw [hlr] at hpm hsrt
    have e93 : (#[] ++ #[rawInt 101, rawInt 26, Value.ref c'] : Array Value) = #[rawInt 101, rawInt 26, Value.ref c'] := by simp
    have S5 : St base L h5 m ((93, tabObj #[rawInt 101, rawInt 26, .ref c']) :: (lawCells L ow oa ot orw ofm ++ news)) := ⟨F5, fun q hq => by
      rcases List.mem_cons.mp hq with rfl | hq
      · rw [← e93]; exact N5 _ (by rw [← hn5]; exact .head _)
      · exact N5 q (mem5 q hq), S2.D⟩
    have m93 : (93, tabObj #[rawInt 101, rawInt 26, .ref c']) ∈ n5 := by rw [← hn5, ← e93]; exact .head _
    walk_at "z_gc"
    rename Fr _ _ _ _ => F8
    rename News _ _ _ _ => N8
    rename_i h8
    have S8 := S5.of1 F8 (a := D) (o := seqObj "list" (List.toArray (p.toList.map fun i => rv.getD i Value.none)) c) (fun q hq => by
      rcases List.mem_cons.mp hq with rfl | hq
      · exact N8 _ (.head _)
      · rcases List.mem_cons.mp hq with rfl | hq
        · exact N8 _ (.tail _ m93)
        · exact N8 _ (.tail _ (mem5 q hq))) (fun q hq => by
      rcases List.mem_cons.mp hq with rfl | hq
      · exact l7 _ m93
      · exact l7 _ (mem5 q hq))
    refine hq h8 _ D p c c' (S8.perm ?_) hpm hsrt
    exact (List.Perm.swap _ _ _).trans (((List.perm_middle (l₁ := lawCells L ow oa ot orw ofm)).symm.cons _).trans (List.perm_middle (l₁ := lawCells L ow oa ot orw ofm)).symm)
end
end Mine
end
section
open PySem PySem.W PySem.Calls PyProof.Rows PySem.Builtin
set_option Elab.async false
set_option maxRecDepth 100000
set_option maxHeartbeats 2000000
namespace Mine
local macro_rules | `(tactic| walk_at "z_na") => `(tactic| ((with_reducible show wpAny _ _ _ _ _ _); (fail_if_success (with_reducible show wpAny _ _ (eval (Expr.Lambda _ _ _ _) _) _ _ _)); (fail_if_success (with_reducible show wpAny _ _ (call (Value.ref _) _ _) _ _ _)); (fail_if_success (with_reducible show wpAny _ _ (callWith _ (Value.ref _) _ _ _) _ _ _)); (fail_if_success (with_reducible show wpAny _ _ (setAttr _ _ _) _ _ _))))
local macro_rules | `(tactic| walk_at "z_ga") => `(tactic| repeat' first | (walk_at "z_na"; walk_at "z_k") | walk_at "z_i")
section
variable {K : Frag} {c ns md f0 : Addr} {sl : Array (Option Value)} {es : List DictEntry} {n : Nat} {tm : Tok}
noncomputable abbrev clsK (c ns : Addr) (sl : Array (Option Value)) : Obj := ⟨.type "type", none, .cls (kCd c ns), sl⟩
noncomputable abbrev mdK (c : Addr) (tm : Tok) : Obj := ⟨.type "member_descriptor", none, .fields #[.str (Str.ofString "obj") tm, .ref c, .builtin "proto.slot", .builtin "proto.slot#set", rawInt 0], #[]⟩
theorem find_own (hc : K.lookup c = some (clsK c ns sl)) {name : Str} {v : Value} (h : nsIn K ns name = some (some v)) : findIn K (.ref c) name = some (some v) := by
  have e : ownIn K name (.ref c) = nsIn K ns name := by unfold ownIn; dsimp only; rw [hc]
  unfold findIn
  dsimp only
  rw [hc]
  show alongIn K name [.ref c, .type "object"] = _
  unfold alongIn
  rw [e, h]
theorem find_not (hc : K.lookup c = some (clsK c ns sl)) {name : Str} (h : nsIn K ns name = some none) : findIn K (.ref c) name = alongIn K name [.type "object"] := by
  have e : ownIn K name (.ref c) = nsIn K ns name := by unfold ownIn; dsimp only; rw [hc]
  unfold findIn
  dsimp only
  rw [hc]
  show alongIn K name [.ref c, .type "object"] = _
  rw [alongIn, e, h]
theorem K_makes (hc : K.lookup c = some (clsK c ns #[s0, none, s2, s3, some (.builtin "object.__new__"), some (.bool false)])) : makesIn K c = true := by
  have e1 : specialIn K (.ref c) "__call__" = some (some (.builtin "type.__call__")) := by unfold specialIn typeIn; dsimp only; rw [hc]; kernel_rfl
  have e2 : instIn K (.ref c) (.type "type") = some true := by unfold instIn typeIn; dsimp only; rw [hc]; kernel_rfl
  unfold makesIn
  rw [hc]
  dsimp only
  rw [e1, e2]
  simp
theorem K_over (hc : K.lookup c = some (clsK c ns sl)) : plainOver K c = true := by
  unfold plainOver clsIn
  rw [hc]
  rfl
theorem K_taker (hc : K.lookup c = some (clsK c ns sl)) (hmd : K.lookup md = some (mdK c tm)) (h : nsIn K ns (Str.ofString "obj") = some (some (.ref md))) : takerIn K c (Str.ofString "obj") = some (some (.ref md)) := by
  have e : takesIn K (.ref md) = some true := by
    unfold takesIn specialIn typeIn
    dsimp only
    rw [hmd]
    kernel_rfl
  unfold takerIn
  rw [find_own hc h]
  show (takesIn K (.ref md)).map _ = _
  rw [e]
  rfl
theorem K_slot (hc : K.lookup c = some (clsK c ns sl)) (hmd : K.lookup md = some (mdK c tm)) : slotIn K md c = some 0 := by
  unfold slotIn recIn clsIn
  rw [hc, hmd]
  simp [rawInt]
end
/-- a small fragment of the heap: K, its namespace, its slot, its __init__ -/
theorem frag4 {h : Heap} {c ns md f0 : Addr} {oc on om of : Obj} (hc : h.get? c = some oc) (hn : h.get? ns = some on) (hm : h.get? md = some om) (hf : h.get? f0 = some of) (h1 : ns ≠ c) (h2 : md ≠ c) (h3 : md ≠ ns) (h4 : f0 ≠ c) (h5 : f0 ≠ ns) (h6 : f0 ≠ md) :
    ∃ K : Frag, K.In h ∧ K.lookup c = some oc ∧ K.lookup ns = some on ∧ K.lookup md = some om ∧ K.lookup f0 = some of := by
  have e : ∀ {p q : Nat}, p ≠ q → (p == q) = false := fun h => by simpa using h
  refine ⟨[(c, oc), (ns, on), (md, om), (f0, of)], fun a o q => ?_, ?_⟩
  · have := mem_of_lookupK q
    simp only [List.mem_cons, Prod.mk.injEq, List.not_mem_nil, or_false] at this
    rcases this with ⟨rfl, rfl⟩ | ⟨rfl, rfl⟩ | ⟨rfl, rfl⟩ | ⟨rfl, rfl⟩ <;> assumption
  · simp only [List.lookup_cons, beq_self_eq_true, e h1, e h2, e h3, e h4, e h5, e h6, and_self]
/-- K_new, whatever the code's class -/
theorem K_newC {w : World} {s : Shared} {c ns md f0 c0 f1 f2 f3 f4 f5 slA stA : Addr} {s0 s2 s3 : Option Value} {n i1 i3 i4 i5 i6 i7 i8 i9 i10 i11 i12 i13 i14 k1 k3 k4 k5 k6 k7 k8 k9 k10 k11 k12 k13 k14 l1 l3 tm : Nat} {doc0 pm0 ctv0 v0 : Value} {rest : List Value} {od0 : Option Addr} {os0 : Array (Option Value)} {t0 : Nat} {x : Int} {tk : Nat}
    {h1 h3 h4 h5 h6 h7 h8 h9 h10 h11 h12 h13 h14 : Int} {pr : Program} {loose : List Str} {mg mb : Str → Option Value} (G : Gd w pr loose mg mb s.heap)
    (hc : s.heap.get? c = some (⟨.type "type", none, .cls (kCd c ns), #[s0, none, s2, s3, some (.builtin "object.__new__"), some (.bool false)]⟩ : Obj))
    (hns : s.heap.get? ns = some (⟨.type "dict", none, .dict #[ent "__module__" h1 k1 (.str (Str.ofString "cpy313.functools") l1), ent "__firstlineno__" h3 k3 (.int 18 l3),
      ent "__slots__" h4 k4 (.ref slA), ent "__init__" h5 k5 (.ref f0), ent "__lt__" h6 k6 (.ref f1), ent "__gt__" h7 k7 (.ref f2), ent "__eq__" h8 k8 (.ref f3), ent "__le__" h9 k9 (.ref f4), ent "__ge__" h10 k10 (.ref f5), ent "__hash__" h11 k11 .none,
      ent "__static_attributes__" h12 k12 (.ref stA), ent "obj" h13 k13 (.ref md), ent "__doc__" h14 k14 .none] n, #[]⟩ : Obj))
    (hmd : s.heap.get? md = some (⟨.type "member_descriptor", none, .fields #[.str (Str.ofString "obj") tm, .ref c, .builtin "proto.slot", .builtin "proto.slot#set", rawInt 0], #[]⟩ : Obj))
    (hf0 : s.heap.get? f0 = some (⟨.type "function", none, .func (fnX (dName (meth w.params 2)) (Str.ofString "cmp_to_key.<locals>.K." ++ dName (meth w.params 2)) (dParams (meth w.params 2)) (dBody (meth w.params 2)) (dScope (meth w.params 2)) [] .none .none doc0 pm0 none (.ref c0) ctv0), #[]⟩ : Obj))
    (hc0 : s.heap.get? c0 = some (⟨.type "code", od0, .fields ⟨v0 :: .str (Str.ofString "cmp_to_key.<locals>.K.__init__") t0 :: rest⟩, os0⟩ : Obj)) :
    wpAny (model PySem.Challenge.rw_ij0154_01.prog w) (AM 650 3300) (call (.ref c) [.int x tk]) (More s fun v h' => ∃ i dA, v = .ref i ∧ s.heap.get? i = none ∧ h'.get? i = some (kInst c dA (.int x tk))) (fun _ _ => False) s := by
  have X := G.X
  have T := G.T
  have e49 := G.X 49 (lk w.params 49) (by kernel_rfl)
  revert X; k_fill; intro X
  have hst := meth_of (X 49 _ rfl) e49 rfl (i := 2) rfl
  rw [hst] at hf0
  clear hst e49
  simp only [dName, dBody, dParams, dScope] at hf0
  rw [show Str.ofString "cmp_to_key.<locals>.K." ++ Str.ofString "__init__" = Str.ofString "cmp_to_key.<locals>.K.__init__" by kernel_rfl] at hf0
  obtain ⟨K4, KX, lc, ln, lm, lf⟩ := frag4 hc hns hmd hf0 (ne_of_get hns hc (by kernel_rfl)) (ne_of_get hmd hc (by kernel_rfl)) (ne_of_get hmd hns (by kernel_rfl)) (ne_of_get hf0 hc (by kernel_rfl)) (ne_of_get hf0 hns (by kernel_rfl)) (ne_of_get hf0 hmd (by kernel_rfl))
  have nsI : nsIn K4 ns (Str.ofString "__init__") = some (some (.ref f0)) := by unfold nsIn; rw [ln]; kernel_rfl
  have nsO : nsIn K4 ns (Str.ofString "obj") = some (some (.ref md)) := by unfold nsIn; rw [ln]; kernel_rfl
  have nsS : nsIn K4 ns (Str.ofString "__setattr__") = some none := by unfold nsIn; rw [ln]; kernel_rfl
  clear ln hc hns hmd
  obtain ⟨hh, g, d, t, os⟩ := s
  refine wpAny_call (make_core (makes_of KX (K_makes lc)) (looks_findIn KX (find_own lc nsI)) (fun self => bind_fn KX self (by unfold typeIn; dsimp only; rw [lf]; rfl)) (.inl rfl) ?_)
  have k0 : ∀ b o, hh.get? b = some o → ((hh.push emptyDict).push (instObj c hh.objs.size)).get? b = some o := fun b o e => Heap.get?_push_of_some _ (Heap.get?_push_of_some _ e)
  have dI : ((hh.push emptyDict).push (instObj c hh.objs.size)).get? hh.objs.size = some emptyDict := Heap.get?_push_of_some _ (Heap.get?_push_size _ rfl)
  have xI : ((hh.push emptyDict).push (instObj c hh.objs.size)).get? (hh.objs.size + 1) = some (instObj c hh.objs.size) := by
    have := Heap.get?_push_size (hh.push emptyDict) (o := instObj c hh.objs.size) rfl
    rwa [Heap.size_push] at this
  have xN : hh.get? (hh.objs.size + 1) = none := Heap.get?_none_of_le (Nat.le_succ _)
  have ne : hh.objs.size ≠ hh.objs.size + 1 := Nat.ne_of_lt (Nat.lt_succ_self _)
  dsimp only at KX hf0 hc0
  generalize (hh.push emptyDict).push (instObj c hh.objs.size) = h' at *
  generalize hh.objs.size + 1 = i at *
  generalize hh.objs.size = dx at *
  refine enterF (d := 651) (u := 3305) (binds := [(Str.ofString "self", .ref i), (Str.ofString "obj", .int x tk)]) ⟨rfl, Nat.le_refl _, Nat.le_of_ble_eq_true rfl⟩ (by decide) (k0 _ _ hf0) rfl (T.keeps k0).nolimit ⟨c0, _, _, _, rfl, k0 _ _ hc0, rfl, rfl⟩ (BindsTo.of_eq rfl) (by decide) (locs rfl) (fun h₁ F₂ => ?_)
  have X3 : K4.In (hideAll h' [i]) := fun a o e => hideAll_get _ (k0 _ _ (KX a o e)) fun hm => by
    have := KX a o e
    rw [List.mem_singleton.mp hm, xN] at this; cases this
  have F3 : Fr (hideAll h' [i]) h'.objs.size h₁ _ := ⟨F₂.ns, fun b o e => F₂.keep b o (of_hideAll _ e), by rw [hideAll_size]; exact F₂.above⟩
  have N3 : News (hideAll h' [i]) h'.objs.size h₁ [(i, instObj c dx)] := fun q hq => by
    rw [List.mem_singleton.mp hq]
    exact ⟨F₂.keep _ _ xI, Nat.ne_of_lt (Heap.lt_size xI), hideAll_none _ (.head _)⟩
  have dB : (hideAll h' [i]).get? dx = some emptyDict := hideAll_get _ dI (by simpa using ne)
  clear F₂ lf hf0 hc0 nsI
  generalize hm : (fun y => List.lookup y (List.reverse [(Str.ofString "self", Value.ref i), (Str.ofString "obj", Value.int x tk)])) = m3 at F3
  have m1 : m3 (Str.ofString "self") = some (.ref i) := by rw [← hm]; rfl
  have m2 : m3 (Str.ofString "obj") = some (.int x tk) := by rw [← hm]; rfl
  clear hm
  dsimp only
  generalize h'.objs.size = L3 at F3 N3 ⊢
  walk_at "z_ga"
  refine set_slot (K := K4) (C := c) (i := 0) (p := md) (ox' := kInst c dx _) (news' := [(i, kInst c dx _)]) F3 X3 N3 ⟨(N3 _ (.head _)).1, rfl, rfl, F3.keep _ _ dB⟩ ((find_not lc nsS).trans (by kernel_rfl)) (K_over lc) (K_taker lc lm nsO) (by unfold typeIn; dsimp only; rw [lm]; rfl) (K_slot lc lm) (by decide) (by rfl) rfl (Upd.head fun _ h => nomatch h) fun h2 F4 N4 => ?_
  walk_at "z_ga"
  refine And.intro rfl ?_
  exact ⟨h2, _, rfl, fun b o e => F4.keep b o (hideAll_get _ (k0 b o e) fun hm => by rw [List.mem_singleton.mp hm, xN] at e; cases e), i, dx, rfl, xN, (N4 _ (.head _)).1⟩
end Mine
end
section
open PySem PySem.W PySem.Calls PyProof.Rows
set_option Elab.async false
set_option maxRecDepth 100000
set_option maxHeartbeats 2000000
namespace Mine
/-- the objects that make a class what it is -/
theorem ClsEnd.objs {P : Params} {h₀ h : Heap} {c : Addr} {cl : List (Str × Addr)} (x : ClsEnd P h₀ h c cl) : ∃ os : List (Addr × Obj), (∀ p ∈ os, h.get? p.1 = some p.2 ∧ h₀.get? p.1 = none) ∧ ∀ h' : Heap, (∀ p ∈ os, h'.get? p.1 = some p.2) → ClsEnd P h₀ h' c cl := by
  obtain ⟨ns, md, f0, f1, f2, f3, f4, f5, slA, stA, c0, c1, n, i1, k1, l1, i3, k3, l3, i4, k4, i5, k5, i6, k6, i7, k7, i8, k8, i9, k9, i10, k10, i11, k11, i12, k12, i13, k13, i14, k14, tm, sl, doc0, pm0, ctv0, doc1, pm1, ctv1, hn, a1, a2, a3, a4, a5, a6, ⟨o0, v0, t0, r0, rc, r1, r2⟩, ⟨d1, o1, v1, t1, q1, r3, r4, r5⟩⟩ := x
  cases q1
  have hall : ∀ a ∈ [c, ns, md, f0, f1, c0, c1], ∃ o, h.get? a = some o := by
    intro a ha
    simp only [List.mem_cons, List.not_mem_nil, or_false] at ha
    rcases ha with rfl | rfl | rfl | rfl | rfl | rfl | rfl
    · exact ⟨_, a1⟩
    · exact ⟨_, a3⟩
    · exact ⟨_, a4⟩
    · exact ⟨_, a5⟩
    · exact ⟨_, a6⟩
    · exact ⟨_, r0⟩
    · exact ⟨_, r3⟩
  refine ⟨[c, ns, md, f0, f1, c0, c1].map fun a => (a, (h.get? a).getD (cellO .none)), fun p hp => ?_, fun h' k => ?_⟩
  · obtain ⟨a, ha, rfl⟩ := List.mem_map.mp hp
    obtain ⟨o, e⟩ := hall a ha
    exact ⟨by rw [e]; rfl, (hn a ha).1⟩
  · have kk : ∀ a ∈ [c, ns, md, f0, f1, c0, c1], ∀ o, h.get? a = some o → h'.get? a = some o := fun a ha o e => by
      have := k (a, (h.get? a).getD (cellO .none)) (List.mem_map.mpr ⟨a, ha, rfl⟩)
      rw [e] at this; exact this
    exact ⟨ns, md, f0, f1, f2, f3, f4, f5, slA, stA, c0, c1, n, i1, k1, l1, i3, k3, l3, i4, k4, i5, k5, i6, k6, i7, k7, i8, k8, i9, k9, i10, k10, i11, k11, i12, k12, i13, k13, i14, k14, tm, sl, doc0, pm0, ctv0, doc1, pm1, ctv1, hn,
      kk c (by simp) _ a1, a2, kk ns (by simp) _ a3, kk md (by simp) _ a4, kk f0 (by simp) _ a5, kk f1 (by simp) _ a6,
      ⟨o0, v0, t0, kk c0 (by simp) _ r0, rc, r1, r2⟩, ⟨c1, o1, v1, t1, rfl, kk c1 (by simp) _ r3, r4, r5⟩⟩
/-- an instance is made -/
theorem ClsEnd.new {w : World} {s : Shared} {h₀ : Heap} {c cl : Addr} {x : Int} {tk : Nat} (C : ClsEnd w.params h₀ s.heap c [(Str.ofString "mycmp", cl)]) {pr : Program} {loose : List Str} {mg mb : Str → Option Value} (G : Gd w pr loose mg mb s.heap) :
    wpAny (model PySem.Challenge.rw_ij0154_01.prog w) (AM 650 3300) (call (.ref c) [.int x tk]) (More s fun v h' => ∃ i dA, v = .ref i ∧ s.heap.get? i = none ∧ h'.get? i = some (kInst c dA (.int x tk))) (fun _ _ => False) s := by
  obtain ⟨ns, md, f0, f1, f2, f3, f4, f5, slA, stA, c0, c1, n, i1, k1, l1, i3, k3, l3, i4, k4, i5, k5, i6, k6, i7, k7, i8, k8, i9, k9, i10, k10, i11, k11, i12, k12, i13, k13, i14, k14, tm, sl, doc0, pm0, ctv0, doc1, pm1, ctv1, hn, a1, a2, a3, a4, a5, a6, ⟨o0, v0, t0, r0, rc, r1, r2⟩, -⟩ := C
  rw [a2] at a1
  obtain ⟨cls0, od0, dt0, os0⟩ := o0
  dsimp only at r1 rc
  subst r1 rc
  obtain ⟨l0⟩ := v0
  rcases l0 with _ | ⟨u0, _ | ⟨u1, rest⟩⟩
  · simp at r2
  · simp at r2
  · simp only [List.getElem?_toArray, List.getElem?_cons_succ, List.getElem?_cons_zero, Option.some.injEq] at r2
    subst r2
    exact K_newC (i1 := 0) (i3 := 0) (i4 := 0) (i5 := 0) (i6 := 0) (i7 := 0) (i8 := 0) (i9 := 0) (i10 := 0) (i11 := 0) (i12 := 0) (i13 := 0) (i14 := 0) G a1 a3 a4 a5 r0
end Mine
end
section
open PySem PySem.W PySem.Calls PyProof.Rows
set_option Elab.async false
set_option maxRecDepth 100000
set_option maxHeartbeats 2000000
namespace Mine
section
variable {w : World} {A : Around} {s : Shared} {pr : Program} {loose : List Str} {mg mb : Str → Option Value} {base : Heap} {L : Addr} {m : Str → Option Value} {news : List (Addr × Obj)} {Q : Flow → Shared → Prop}
/-- told = sorted(row, key=cmp_to_key(_law_compare(table, ways))) -/
theorem st9 {Rw Td Ws : Addr} {od : Obj} {rv : List Value} {rs : List Nat} {e1 e2 N : Nat} {FA WA : Nat → Addr} {fo wo : Nat → Obj} {tf : Int → Option Value} {p : Nat → Nat} {fm : Nat → List Int} {rank : Nat → Int} {ow oa ot orw ofm : Obj} (hA : Sm A 310 1500) (G : Gd w pr loose mg mb base) (C : CodeHd base 48 44)
    (S : St base L s.heap m (lawCells L ow oa ot orw ofm ++ (79, tabObj #[]) :: (44, tabObj #[]) :: news)) (how : ow.data = .cell (some (.ref Ws))) (hor : orw.data = .cell (some (.ref Rw))) (hot : ot.data = .cell (some (.ref Td)))
    (hRw : (Rw, listOf rv.toArray e1) ∈ news) (irv : IntsAre rv (rs.map fun k : Nat => (k : Int))) (h2 : 2 ≤ rs.length) (h64 : rs.length < 64) (hrs : ∀ k ∈ rs, k < N) (hN : N ≤ 20)
    (hTd : (Td, od) ∈ news) (hD : ∀ h : Heap, h.get? Td = some od → h.IntMap Td tf) (hWs : (Ws, listOf ((List.range N).map fun j => Value.ref (WA j)).toArray e2) ∈ news) (hwo : ∀ j, j < N → (WA j, wo j) ∈ news) (hway : ListsAre N wo (way p))
    (hfo : ∀ j, j < N → (FA j, fo j) ∈ news) (hfm : ListsAre N fo fm) (hf0 : tf 0 = none) (htf : ∀ k : Nat, 0 < k → k < N → tf k = some (.ref (FA (p k)))) (hp : ∀ k, 0 < k → p k < k) (hfl : ∀ j, j < N → (fm j).length ≤ 100) (hin : ∀ k : Nat, 0 < k → k < N → (k : Int) ∈ fm (p k)) (hsm : ∀ j, j < N → ∀ x ∈ fm j, 0 ≤ x ∧ x < 64)
    (hrank : ∀ i j, i < rs.length → j < rs.length → decide (cmpV p fm (rs.getD i 0) (rs.getD j 0) < 0) = decide (rank i < rank j))
    (hq : ∀ h' tk' D q e p79 p44, St base L h' (fun y => if y = Str.ofString "told" then some (.ref D) else m y) (lawCells L ow oa ot orw ofm ++ (D, listOf (List.toArray (q.toList.map fun i => rv.getD i Value.none)) e) :: (79, tabObj p79) :: (44, tabObj p44) :: news) → Pm rs.length q → Srt rank q rs.length → Q .next { s with heap := h', toks := tk' }) :
    wpAny (model PySem.Challenge.rw_ij0154_01.prog w) A (exec (stF w.params 96 9) (lawEnv w.params L)) Q (fun _ _ => False) s := by
  have X := G.X
  have T := G.T
  have e96 := G.X 96 (lk w.params 96) (by kernel_rfl)
  have X0 := G.X
  revert X; k_fill; intro X
  unfold lawEnv
  rw [stF_of (X 96 _ rfl) e96 rfl rfl (i := 9) rfl, scF_of (X 96 _ rfl) e96 rfl rfl]
  clear e96
  have F := S.F
  have N0 := S.N
  have cW : (L + 1 + 1 + 1 + 1 + 1, ow) ∈ lawCells L ow oa ot orw ofm ++ (79, tabObj #[]) :: (44, tabObj #[]) :: news := by walk_at "z_mem"
  have cT : (L + 1 + 1 + 1, ot) ∈ lawCells L ow oa ot orw ofm ++ (79, tabObj #[]) :: (44, tabObj #[]) :: news := by walk_at "z_mem"
  have cR : (L + 1 + 1, orw) ∈ lawCells L ow oa ot orw ofm ++ (79, tabObj #[]) :: (44, tabObj #[]) :: news := by walk_at "z_mem"
  refine wk (d := 310) (u := 1500) hA ?_
  generalize hn0 : lawCells L ow oa ot orw ofm ++ (79, tabObj #[]) :: (44, tabObj #[]) :: news = n0 at *
  walk_at "z_ap"
  refine callWith_F (fnAt_base (by with_reducible assumption) (X 49 _ rfl)) ?_
  walk_at "z_ap"
  refine callWith_F (fnAt_base (by with_reducible assumption) (X 84 _ rfl)) ?_
  walk_at "z_ap"
  refine ⟨fnAt_base S.F (X 84 _ rfl), ?_⟩
  subst hn0
  have hN79 := S.N (79, tabObj #[]) (List.mem_append_right _ (.head _))
  have G79 : Gd w pr loose mg mb (hideAll s.heap [79]) := G.keeps fun b o e => hideAll_get _ (S.F.keep b o e) fun hm => by
    rw [List.mem_singleton.mp hm, hN79.2.2] at e; cases e
  refine wk (d := 650) (u := 3300) ⟨rfl, Nat.le_of_ble_eq_true rfl, Nat.le_of_ble_eq_true rfl⟩ (wpAny_call (mkcmp_spec ((sm_AM _ _).le (Nat.le_refl _) (Nat.le_refl _)) G79 (codeHd_of_K G79.X (by kernel_rfl)) hN79.1 fun v s1 q => ?_))
  obtain ⟨h1, tk1, rfl, k1, ⟨p79, t79⟩, f, cd, c1, c2, fd, oc, vs, oc1, oc2, rfl, ff, fcd, fc1, fc2, ef, hfd, ec1, dc1, ec2, dc2, ecd, hocd, hocv⟩ := q
  dsimp only
  have F1 : Fr base L h1 m := LCg.fr_but S.F (I := 79) (fun b o hb e => k1 b o (by simpa using hb) e) (Ne.symm hN79.2.1) hN79.2.2
  have S2 : St base L h1 m (lawCells L ow oa ot orw ofm ++ (79, tabObj p79) :: (44, tabObj #[]) :: news) := St.butM (pre := lawCells L ow oa ot orw ofm) S (fun b o hb e => k1 b o (by simpa using hb) e) t79
  have N1 := S2.N
  walk_at "z_ap"
  refine ⟨fnAt_base F1 (X 49 _ rfl), ?_⟩
  have hN44 := S2.N (44, tabObj #[]) (List.mem_append_right _ (.tail _ (.head _)))
  refine wpAny_call (cmpkey_spec (s := ⟨h1, s.gens, s.drawn, _, s.os⟩) ((sm_AM _ _).le (by decide) (by decide)) (G.keeps F1.keep) (C.keeps F1.keep) hN44.1 fun h2' tk2 c cl k2 hC hcl fcl t44 => ?_)
  obtain ⟨a44, b44, c44, t44⟩ := t44
  generalize #[a44, b44, Value.ref c44] = p44 at t44
  dsimp only
  have S3 : St base L h2' m (lawCells L ow oa ot orw ofm ++ (79, tabObj p79) :: (44, tabObj p44) :: news) := St.butM (pre := lawCells L ow oa ot orw ofm ++ [(79, tabObj p79)]) S2 (fun b o hb e => k2 b o (by simpa using hb) e) t44
  have F2 := S3.F
  have N2 := S3.N
  obtain ⟨os, hos, hosC⟩ := ClsEnd.objs hC
  obtain ⟨ocl, ecl, dcl⟩ := hcl
  have hLs : ∃ o, s.heap.get? L = some o := let ⟨o, _, _, e, _⟩ := S.F.ns; ⟨o, e⟩
  have hL1 : ∃ o, h1.get? L = some o := let ⟨o, _, _, e, _⟩ := F1.ns; ⟨o, e⟩
  have hs44 : s.heap.get? 44 = some (tabObj #[]) := (S.N (44, tabObj #[]) (List.mem_append_right _ (.tail _ (.head _)))).1
  have new1 : ∀ b o, h1.get? b = none → h2'.get? b = some o → h2'.get? b = some o ∧ (@Ne Nat b L) ∧ base.get? b = none := fun b o e e2 => ⟨e2, fun q => by obtain ⟨o', e'⟩ := hL1; rw [q, e'] at e; (cases e), by
    cases q : base.get? b with
    | none => rfl
    | some o' => rw [F1.keep _ _ q] at e; cases e⟩
  have new0 : ∀ b o, s.heap.get? b = none → h1.get? b = some o → h2'.get? b = some o ∧ (@Ne Nat b L) ∧ base.get? b = none := fun b o e e2 => ⟨k2 b o (fun q => by rw [q, hs44] at e; cases e) e2, fun q => by obtain ⟨o', e'⟩ := hLs; rw [q, e'] at e; (cases e), by
    cases q : base.get? b with
    | none => rfl
    | some o' => rw [S.F.keep _ _ q] at e; cases e⟩
  have NN : News base L h2' (((cl, ocl) :: (f, ⟨.type "function", none, .func fd, #[]⟩) :: (cd, oc) :: (c1, oc1) :: (c2, oc2) :: os) ++ (lawCells L ow oa ot orw ofm ++ (79, tabObj p79) :: (44, tabObj p44) :: news)) := fun q hq => by
    rcases List.mem_append.mp hq with hq | hq
    · rcases List.mem_cons.mp hq with rfl | hq
      · exact new1 _ _ fcl ecl
      rcases List.mem_cons.mp hq with rfl | hq
      · exact new0 _ _ ff ef
      rcases List.mem_cons.mp hq with rfl | hq
      · exact new0 _ _ fcd ecd
      rcases List.mem_cons.mp hq with rfl | hq
      · exact new0 _ _ fc1 ec1
      rcases List.mem_cons.mp hq with rfl | hq
      · exact new0 _ _ fc2 ec2
      · exact new1 _ _ (hos q hq).2 (hos q hq).1
    · exact N2 q hq
  generalize hnn : ((cl, ocl) :: (f, (⟨.type "function", none, .func fd, #[]⟩ : Obj)) :: (cd, oc) :: (c1, oc1) :: (c2, oc2) :: os) ++ (lawCells L ow oa ot orw ofm ++ (79, tabObj p79) :: (44, tabObj p44) :: news) = nn at NN
  have mo : ∀ q ∈ os, q ∈ nn := fun q hq => by rw [← hnn]; exact List.mem_append_left _ (.tail _ (.tail _ (.tail _ (.tail _ (.tail _ hq)))))
  have mcl : (cl, ocl) ∈ nn := by rw [← hnn]; exact .head _
  have mf : (f, (⟨.type "function", none, .func fd, #[]⟩ : Obj)) ∈ nn := by rw [← hnn]; exact .tail _ (.head _)
  have mcd : (cd, oc) ∈ nn := by rw [← hnn]; exact .tail _ (.tail _ (.head _))
  have mc1 : (c1, oc1) ∈ nn := by rw [← hnn]; exact .tail _ (.tail _ (.tail _ (.head _)))
  have mc2 : (c2, oc2) ∈ nn := by rw [← hnn]; exact .tail _ (.tail _ (.tail _ (.tail _ (.head _))))
  have mn : ∀ q ∈ lawCells L ow oa ot orw ofm ++ (79, tabObj p79) :: (44, tabObj p44) :: news, q ∈ nn := fun q hq => by rw [← hnn]; exact List.mem_append_right _ hq
  have hlr := irv.length
  rw [List.length_map] at hlr
  have rel : ∀ i, i < rs.length → rs.getD i 0 < N := fun i hi => by
    rw [List.getD_eq_getElem?_getD, List.getElem?_eq_getElem hi]; exact hrs _ (List.getElem_mem hi)
  clear F1 N1 G79 F N0
  walk_at "z_ap"
  show wpAny _ _ (call (.builtin "sorted") [.ref Rw] [(Str.ofString "key", .ref c)]) _ _ _
  refine sorted_by (vs := rv) (KO := fun i v o => i < rs.length ∧ ∃ a dA t, v = .ref a ∧ o = [(a, kInst c dA (.int ((rs.getD i 0 : Nat) : Int) t))]) (rank := rank) (T := .ref c) F2 NN (isList_at (NN _ (mn _ (List.mem_append_right _ (.tail _ (.tail _ hRw))))).1) (by omega) (by omega) ?turn ?looks rfl (by simp) ?ask ?fin
  case turn =>
    rintro i v hv h tk need F6 N6 hn
    obtain ⟨hi, t, rfl⟩ : i < rs.length ∧ ∃ t, v = .int ((rs.getD i 0 : Nat) : Int) t := ints_get irv hv
    have hC6 := hosC h fun q hq => (N6 q (hn q (mo q hq))).1
    refine wk (d := 650) (u := 3300) ⟨rfl, Nat.le_of_ble_eq_true rfl, Nat.le_of_ble_eq_true rfl⟩ (wpAny_mono (ClsEnd.new (s := ⟨h, s.gens, s.drawn, tk, s.os⟩) hC6 (G.keeps F6.keep)) (fun v s1 q => ?_) fun _ _ q => q.elim)
    obtain ⟨h7, tk7, rfl, k7, a, dA, rfl, fa, ea⟩ := q
    exact ⟨h7, tk7, [(a, _)], rfl, F6.keeps k7, news_cons (N6.grown k7) ea (fr_none F6 fa), (fun q hq => by rw [List.mem_singleton.mp hq]; exact fa), hi, a, dA, t, rfl, rfl⟩
  case looks =>
    rintro i v o need h ⟨hi, a, dA, t, rfl, rfl⟩ F6 N6 ho hn
    exact looks_type (N6 _ (ho _ (.head _))).1 rfl
  case ask =>
    rintro i j vi vj oi oj need h tk ⟨hi, a, dA, t, rfl, rfl⟩ ⟨hj, b, dB, u, rfl, rfl⟩ - - F6 N6 ho hp' hn
    have hC6 := hosC h fun q hq => (N6 q (hn q (mo q hq))).1
    refine k_less (s := ⟨h, s.gens, s.drawn, tk, s.os⟩) (r := cmpV p fm (rs.getD i 0) (rs.getD j 0)) (fd := fd) ((sm_AM _ _).le (by decide) (by decide)) (G.keeps F6.keep) hC6 ⟨ocl, (N6 _ (hn _ mcl)).1, dcl⟩ (N6 _ (hn _ mf)).1 (N6 _ (ho _ (.head _))).1 (N6 _ (hp' _ (.head _))).1 (fun s' k => ?_) fun h' tk' k => ?_
    · have kn : ∀ q ∈ nn, s'.heap.get? q.1 = some q.2 := fun q hq => k _ _ (N6 q (hn q hq)).1
      have kl : ∀ q ∈ news, s'.heap.get? q.1 = some q.2 := fun q hq => kn q (mn q (List.mem_append_right _ (.tail _ (.tail _ hq))))
      refine wpAny_call (compare_spec (tf := tf) (FA := FA) (WA := WA) (nF := N) (p := p) (fam := fm) ((sm_AM _ _).le (by decide) (by decide)) ((G.keeps F6.keep).keeps k) (kn _ mf) hfd (kn _ mc1) dc1 (kn _ mc2) dc2 (kn _ mcd) hocd hocv (hD _ (kl _ hTd)) (isList_at (kl _ hWs)) hf0 htf hp (rel i hi) (rel j hj) hN (fun x hx => ?_) (fun x hx => ?_) hfl hin hsm fun h8 tk8 t8 k8 => ⟨h8, tk8, rfl, k8, t8, rfl⟩)
      · obtain ⟨us, e, he, iu⟩ := hway x hx
        have := kl _ (hwo x hx)
        rw [he] at this
        exact ⟨us, isList_at this, iu⟩
      · obtain ⟨us, e, he, iu⟩ := hfm x hx
        have := kl _ (hfo x hx)
        rw [he] at this
        exact ⟨us, e, this, iu⟩
    · exact ⟨hrank i j hi hj, h', tk', rfl, F6.keeps k, N6.grown k⟩
  case fin =>
    rintro D h6 tk6 q c' F6 N6 l7 hpm hsrt
    rw [hlr] at hpm hsrt
    walk_at "z_gc"
    rename Fr _ _ _ _ => F8
    rename News _ _ _ _ => N8
    rename_i h8
    have S8 := S3.of1 F8 (a := D) (o := seqObj "list" (List.toArray (q.toList.map fun i => rv.getD i Value.none)) c') (fun x hx => by
      rcases List.mem_cons.mp hx with rfl | hx
      · exact N8 _ (.head _)
      · exact N8 _ (.tail _ (mn x hx))) (fun x hx => l7 _ (mn x hx))
    exact hq h8 _ D q c' p79 p44 (S8.perm (List.perm_middle (l₁ := lawCells L ow oa ot orw ofm)).symm) hpm hsrt
end
end Mine
end
section
open PySem PySem.W PySem.Calls PyProof.Rows
set_option Elab.async false
set_option maxRecDepth 100000
set_option maxHeartbeats 2000000
namespace Mine
section
variable {w : World} {A : Around} {s : Shared} {pr : Program} {loose : List Str} {mg mb : Str → Option Value} {base : Heap} {L : Addr} {m : Str → Option Value} {news : List (Addr × Obj)} {Q : Flow → Shared → Prop}
/-- common = above[due[-1]] -/
theorem st10 {Du Ab : Addr} {dv : List Value} {ds : List Nat} {e1 e2 N : Nat} {AA : Nat → Addr} {ow oa ot orw ofm : Obj} (hA : Sm A 310 1500) (G : Gd w pr loose mg mb base)
    (S : St base L s.heap m (lawCells L ow oa ot orw ofm ++ news)) (hoa : oa.data = .cell (some (.ref Ab))) (hmd : m (Str.ofString "due") = some (.ref Du))
    (hDu : (Du, listOf dv.toArray e1) ∈ news) (idv : IntsAre dv (ds.map fun k : Nat => (k : Int))) (h2 : 1 ≤ ds.length) (h64 : ds.length < 64) (hds : ∀ k ∈ ds, k < N) (hN : N ≤ 20)
    (hAb : (Ab, listOf ((List.range N).map fun j => Value.ref (AA j)).toArray e2) ∈ news)
    (hq : ∀ h' tk', St base L h' (fun y => if y = Str.ofString "common" then some (.ref (AA (ds.getD (ds.length - 1) 0))) else m y) (lawCells L ow oa ot orw ofm ++ news) → Q .next { s with heap := h', toks := tk' }) :
    wpAny (model PySem.Challenge.rw_ij0154_01.prog w) A (exec (stF w.params 96 10) (lawEnv w.params L)) Q (fun _ _ => False) s := by
  have X := G.X
  have T := G.T
  have e96 := G.X 96 (lk w.params 96) (by kernel_rfl)
  revert X; k_fill; intro X
  unfold lawEnv
  rw [stF_of (X 96 _ rfl) e96 rfl rfl (i := 10) rfl, scF_of (X 96 _ rfl) e96 rfl rfl]
  clear e96
  have F := S.F
  have N0 := S.N
  have cA : (L + 1 + 1 + 1 + 1, oa) ∈ lawCells L ow oa ot orw ofm ++ news := by walk_at "z_mem"
  refine wk (d := 310) (u := 1500) hA ?_
  generalize hn0 : lawCells L ow oa ot orw ofm ++ news = n0 at *
  have mDu : (Du, listOf dv.toArray e1) ∈ n0 := by rw [← hn0]; exact List.mem_append_right _ hDu
  have mAb : (Ab, listOf ((List.range N).map fun j => Value.ref (AA j)).toArray e2) ∈ n0 := by rw [← hn0]; exact List.mem_append_right _ hAb
  walk_at "z_gc"
  have hll : (ds.map fun k : Nat => (k : Int)).length = ds.length := List.length_map ..
  have hl1 : ds.getD (ds.length - 1) 0 < N := by
    rw [List.getD_eq_getElem?_getD, List.getElem?_eq_getElem (by omega)]; exact hds _ (List.getElem_mem (by omega))
  refine it_wrap (isList_at (N0 _ mDu).1) idv (i := ds.length - 1) (.inr ⟨by decide, by rw [hll]; omega⟩) (by rw [hll]; omega) (by rw [hll]; omega) fun t' => ?_
  rw [getD_cast]
  walk_at "z_gc"
  rename Fr _ _ _ _ => F8
  rename News _ _ _ _ => N8
  subst hn0
  exact hq _ _ (S.fr F8 N8)
end
end Mine
end
section
open PySem PySem.W PySem.Calls PyProof.Rows
set_option Elab.async false
set_option maxRecDepth 100000
set_option maxHeartbeats 2000000
namespace Mine
section
variable {w : World} {A : Around} {s : Shared} {pr : Program} {loose : List Str} {mg mb : Str → Option Value} {base : Heap} {L : Addr} {m : Str → Option Value} {news : List (Addr × Obj)} {Q : Flow → Shared → Prop}
/-- holders = [] -/
theorem st11 {ow oa ot orw ofm : Obj} (hA : Sm A 310 1500) (G : Gd w pr loose mg mb base)
    (S : St base L s.heap m (lawCells L ow oa ot orw ofm ++ news))
    (hq : ∀ h' tk' a e, St base L h' (fun y => if y = Str.ofString "holders" then some (.ref a) else m y) (lawCells L ow oa ot orw ofm ++ (a, listOf #[] e) :: news) → Q .next { s with heap := h', toks := tk' }) :
    wpAny (model PySem.Challenge.rw_ij0154_01.prog w) A (exec (stF w.params 96 11) (lawEnv w.params L)) Q (fun _ _ => False) s := by
  have X := G.X
  have T := G.T
  have e96 := G.X 96 (lk w.params 96) (by kernel_rfl)
  revert X; k_fill; intro X
  unfold lawEnv
  rw [stF_of (X 96 _ rfl) e96 rfl rfl (i := 11) rfl, scF_of (X 96 _ rfl) e96 rfl rfl]
  clear e96
  have F := S.F
  have N0 := S.N
  refine wk (d := 310) (u := 1500) hA ?_
  generalize hn0 : lawCells L ow oa ot orw ofm ++ news = n0 at *
  walk_at "z_gc"
  rename_i a h1 l1 h2 F2 N2
  subst hn0
  exact hq h2 _ a 0 ((S.of1 F2 N2 l1).perm (List.perm_middle (l₁ := lawCells L ow oa ot orw ofm)).symm)
end
end Mine
end
section
open PySem PySem.W PySem.Calls PyProof.Rows
set_option Elab.async false
set_option maxRecDepth 100000
set_option maxHeartbeats 2000000
namespace Mine
/-- the row held in common after t turns, and the holders -/
noncomputable def comT (c0 : List Int) (av : Nat → List Int) (ks : List Nat) : Nat → List Int
  | 0 => c0
  | t + 1 => (comT c0 av ks t).take (cp (comT c0 av ks t) (av (ks.getD t 0)))
noncomputable def holT (c0 : List Int) (av : Nat → List Int) (ks : List Nat) : Nat → List Int
  | 0 => []
  | t + 1 => holT c0 av ks t ++ [(((comT c0 av ks (t + 1)).getD ((comT c0 av ks (t + 1)).length - 1) 0).natAbs : Int)]
theorem comT_len (c0 : List Int) (av : Nat → List Int) (ks : List Nat) : ∀ t, (comT c0 av ks t).length ≤ c0.length
  | 0 => Nat.le_refl _
  | t + 1 => by
    have := comT_len c0 av ks t
    rw [comT, List.length_take]; omega
section
variable {w : World} {A : Around} {s : Shared} {pr : Program} {loose : List Str} {mg mb : Str → Option Value} {base : Heap} {L : Addr} {m : Str → Option Value} {news : List (Addr × Obj)} {Q : Flow → Shared → Prop}
/-- the holders' loop, at turn t -/
inductive HolI (L : Addr) (ow oa ot orw ofm : Obj) (Du Hd D : Addr) (m : Str → Option Value) (news : List (Addr × Obj)) (dv : List Value) (c0 : List Int) (av : Nat → List Int) (ds : List Nat) (t : Nat) (m2 : Str → Option Value) (news2 : List (Addr × Obj)) : Prop
  | mk : ∀ (Cm' : Addr) (cv' : List Value) (ec' : Nat) (hv : List Value) (eh' : Nat) (news' : List (Addr × Obj)), m2 (Str.ofString "due") = some (.ref Du) → m2 (Str.ofString "holders") = some (.ref Hd) → (∀ y, y ≠ Str.ofString "k" → y ≠ Str.ofString "common" → m2 y = m y) → (news2.map (·.1)).Nodup → m2 (Str.ofString "common") = some (.ref Cm') →
      news2 = (D, listOf dv.reverse.toArray 0) :: (lawCells L ow oa ot orw ofm ++ (Hd, listOf (List.toArray hv) eh') :: news') → (∃ X, news' = X ++ news) → (Cm', listOf (List.toArray cv') ec') ∈ news' → IntsAre cv' (comT c0 av ds.reverse t) → IntsAre hv (holT c0 av ds.reverse t) → (holT c0 av ds.reverse t).length = t →
      HolI L ow oa ot orw ofm Du Hd D m news dv c0 av ds t m2 news2
/-- for k in due[::-1]: common = _law_shared(common, above[k]); holders.append(abs(common[-1])) -/
theorem st12 {Du Ab Hd Cm : Addr} {dv cv : List Value} {ds : List Nat} {c0 : List Int} {e1 e2 eh ec N : Nat} {AA : Nat → Addr} {ao : Nat → Obj} {av : Nat → List Int} {ow oa ot orw ofm : Obj} (hA : Sm A 310 1500) (G : Gd w pr loose mg mb base)
    (S : St base L s.heap m (lawCells L ow oa ot orw ofm ++ (Hd, listOf #[] eh) :: news)) (hoa : oa.data = .cell (some (.ref Ab))) (hmd : m (Str.ofString "due") = some (.ref Du)) (hmh : m (Str.ofString "holders") = some (.ref Hd)) (hmc : m (Str.ofString "common") = some (.ref Cm))
    (hDu : (Du, listOf dv.toArray e1) ∈ news) (idv : IntsAre dv (ds.map fun k : Nat => (k : Int))) (hd1 : 1 ≤ ds.length) (h64 : ds.length < 64) (hds : ∀ k ∈ ds, k < N) (hN : N ≤ 20)
    (hAb : (Ab, listOf ((List.range N).map fun j => Value.ref (AA j)).toArray e2) ∈ news) (hao : ∀ j, j < N → (AA j, ao j) ∈ news) (hav : ListsAre N ao av) (hal : ∀ j, j < N → (av j).length ≤ 100)
    (hCm : (Cm, listOf cv.toArray ec) ∈ news) (icv : IntsAre cv c0) (hcl : c0.length ≤ 100) (hne : ∀ t, t ≤ ds.length → 0 < (comT c0 av ds.reverse t).length)
    (hq : ∀ h' tk' m' Cm' cv' ec' hv eh' news', St base L h' m' (lawCells L ow oa ot orw ofm ++ (Hd, listOf (List.toArray hv) eh') :: news') → (∃ X, news' = X ++ news) → m' (Str.ofString "due") = some (.ref Du) → m' (Str.ofString "holders") = some (.ref Hd) → m' (Str.ofString "common") = some (.ref Cm') → (∀ y, y ≠ Str.ofString "k" → y ≠ Str.ofString "common" → m' y = m y) →
      (Cm', listOf (List.toArray cv') ec') ∈ news' → IntsAre cv' (comT c0 av ds.reverse ds.length) → IntsAre hv (holT c0 av ds.reverse ds.length) → Q .next { s with heap := h', toks := tk' }) :
    wpAny (model PySem.Challenge.rw_ij0154_01.prog w) A (exec (stF w.params 96 12) (lawEnv w.params L)) Q (fun _ _ => False) s := by
  have X := G.X
  have T := G.T
  have e96 := G.X 96 (lk w.params 96) (by kernel_rfl)
  have X0 := G.X
  revert X; k_fill; intro X
  unfold lawEnv
  rw [stF_of (X 96 _ rfl) e96 rfl rfl (i := 12) rfl, scF_of (X 96 _ rfl) e96 rfl rfl]
  clear e96
  have F := S.F
  have N0 := S.N
  have hll : (ds.map fun k : Nat => (k : Int)).length = ds.length := List.length_map ..
  have hdl := idv.length
  rw [hll] at hdl
  refine wk (d := 310) (u := 1500) hA ?_
  generalize hn0 : lawCells L ow oa ot orw ofm ++ (Hd, listOf #[] eh) :: news = n0 at *
  have mDu : (Du, listOf dv.toArray e1) ∈ n0 := by rw [← hn0]; exact List.mem_append_right _ (.tail _ hDu)
  refine wpAny_For ?_
  walk_at "z_gc"
  refine slice3_at (zs := dv.reverse) F N0 (isList_at (N0 _ mDu).1) .none .none (.int _ _) (by decide) (by rw [krv_pick]) (fun D h2 F2 N2 l2 => ?_) (by simp; omega)
  have irv := idv.reverse
  have S2 := S.of1 F2 N2 l2
  walk_at "z_gc"
  subst hn0
  have D2 := S2.D
  refine for_ind (s := ⟨h2, s.gens, s.drawn, _, s.os⟩)
    (HolI L ow oa ot orw ofm Du Hd D m news dv c0 av ds)
    rfl F2 N2 (ax := D) (its := dv.reverse.toArray) (fun t m2 news2 hI => ?src) ⟨Cm, cv, ec, [], eh, news, hmd, hmh, fun _ _ _ => rfl, D2, hmc, rfl, ⟨[], rfl⟩, hCm, icv, .nil, rfl⟩ ?step ?fin
  case src =>
    obtain ⟨Cm', cv', ec', hv, eh', news', -, -, -, -, -, rfl, -⟩ := hI
    exact .inr ⟨_, .head _, rfl, _, rfl⟩
  case fin =>
    rintro m2 news2 hh tk2 ⟨Cm', cv', ec', hv, eh', news', md, mh, mo, nd, mc, rfl, sub, hm, ic, ih, -⟩ F3 N3
    rw [List.size_toArray, List.length_reverse, hdl] at ic ih
    exact hq hh tk2 m2 Cm' cv' ec' hv eh' news' ((⟨F3, N3, nd⟩ : St base L hh m2 _).drop (List.sublist_cons_self _ _)) sub md mh mc mo hm ic ih
  case step =>
    rintro t m2 news2 v I oI hh tk2 ht hv0 ⟨Cm', cv', ec', hv, eh', news', md, mh, mo, nd, mc, rfl, ⟨X9, hX9⟩, hm, ic, ih, hl⟩ F3 N3 off hIL
    have sub : ∀ q ∈ news, q ∈ news' := fun q hq => hX9 ▸ List.mem_append_right _ hq
    have S3 : St base L hh m2 ((I, oI) :: _) := ⟨F3, N3, List.nodup_cons.mpr ⟨fun hm => (by obtain ⟨p, hp, e⟩ := List.mem_map.mp hm; exact off p hp e), nd⟩⟩
    rw [List.size_toArray, List.length_reverse, hdl] at ht
    obtain ⟨-, tv, rfl⟩ : t < ds.reverse.length ∧ ∃ tt, v = .int ((ds.reverse.getD t 0 : Nat) : Int) tt := ints_get (by rw [List.map_reverse]; exact irv) (by simpa using hv0)
    have hkN : ds.reverse.getD t 0 < N := getD_lt (fun k hk => hds k (List.mem_reverse.mp hk)) (by rw [List.length_reverse]; exact ht)
    obtain ⟨vs, e, he, iv⟩ := hav _ hkN
    have cA : (L + 1 + 1 + 1 + 1, oa) ∈ (I, oI) :: (D, listOf dv.reverse.toArray 0) :: (lawCells L ow oa ot orw ofm ++ (Hd, listOf (List.toArray hv) eh') :: news') := by walk_at "z_mem"
    have mAb : (Ab, listOf ((List.range N).map fun j => Value.ref (AA j)).toArray e2) ∈ (I, oI) :: (D, listOf dv.reverse.toArray 0) :: (lawCells L ow oa ot orw ofm ++ (Hd, listOf (List.toArray hv) eh') :: news') := .tail _ (.tail _ (List.mem_append_right _ (.tail _ (sub _ hAb))))
    have mAA : (AA (ds.reverse.getD t 0), listOf vs.toArray e) ∈ (I, oI) :: (D, listOf dv.reverse.toArray 0) :: (lawCells L ow oa ot orw ofm ++ (Hd, listOf (List.toArray hv) eh') :: news') := by
      rw [← he]; exact .tail _ (.tail _ (List.mem_append_right _ (.tail _ (sub _ (hao _ hkN)))))
    have mCm : (Cm', listOf (List.toArray cv') ec') ∈ (I, oI) :: (D, listOf dv.reverse.toArray 0) :: (lawCells L ow oa ot orw ofm ++ (Hd, listOf (List.toArray hv) eh') :: news') := .tail _ (.tail _ (List.mem_append_right _ (.tail _ hm)))
    generalize hn3 : (I, oI) :: (D, listOf dv.reverse.toArray 0) :: (lawCells L ow oa ot orw ofm ++ (Hd, listOf (List.toArray hv) eh') :: news') = n3 at *
    clear F2 N2
    walk1
    walk1
    dsimp only
    walk_at "z_gc"
    refine callWith_F (fnAt_base (by with_reducible assumption) (X 77 _ rfl)) ?_
    walk_at "z_gc"
    rename Fr _ _ _ _ => F4
    rename News _ _ _ _ => N4
    refine ⟨fnAt_base F4 (X 77 _ rfl), ?_⟩
    have hcl5 := comT_len c0 av ds.reverse t
    have hal5 := hal _ hkN
    refine wpAny_call (shared_spec ((sm_AM _ _).le (by decide) (by decide)) (X0.keeps F4.keep) (T.keeps F4.keep) (isList_at (N4 _ mCm).1) ic (isList_at (N4 _ mAA).1) iv (by omega) (by omega) fun h5 tk5 r k5 hr5 fr5 => ?_)
    dsimp only
    have S5 := (S3.fr F4 N4).cons k5 hr5 fr5
    have ic5 : IntsAre (cv'.take (cp (comT c0 av ds.reverse t) (av (ds.reverse.getD t 0)))) (comT c0 av ds.reverse (t + 1)) := ic.take _
    have hne5 := hne (t + 1) ht
    have hcl6 := comT_len c0 av ds.reverse (t + 1)
    generalize hr : (r, listOf (cv'.take (cp (comT c0 av ds.reverse t) (av (ds.reverse.getD t 0)))).toArray 0) = rr at *
    have mr : rr ∈ rr :: n3 := .head _
    have mH : (Hd, listOf (List.toArray hv) eh') ∈ rr :: n3 := by
      rw [← hn3]; exact .tail _ (.tail _ (.tail _ (List.mem_append_right _ (.head _))))
    generalize hn5 : rr :: n3 = n5 at *
    have F5 := S5.F
    have N5 := S5.N
    clear F4 N4
    walk_at "z_ap"
    subst hr
    rename Fr _ _ _ _ => F6
    rename News _ _ _ _ => N6
    refine it_wrap (isList_at (N6 _ mr).1) ic5 (i := (comT c0 av ds.reverse (t + 1)).length - 1) (.inr ⟨by decide, by omega⟩) (by omega) (by omega) fun t6 => ?_
    walk_at "z_ap"
    walk1
    dsimp only
    walk_at "z_ap"
    rw [show (if (comT c0 av ds.reverse (t + 1)).getD ((comT c0 av ds.reverse (t + 1)).length - 1) 0 < 0 then -(comT c0 av ds.reverse (t + 1)).getD ((comT c0 av ds.reverse (t + 1)).length - 1) 0 else (comT c0 av ds.reverse (t + 1)).getD ((comT c0 av ds.reverse (t + 1)).length - 1) 0) = (((comT c0 av ds.reverse (t + 1)).getD ((comT c0 av ds.reverse (t + 1)).length - 1) 0).natAbs : Int) by split <;> omega]
    have hvl := ih.length
    refine append_at (N6 _ mH).1 (fun h7 sb7 g7 => ?_) (by rw [sizeLine_eq]; simp; omega)
    have S6 := S5.fr F6 N6
    rw [List.push_toArray] at g7
    subst hn5 hn3
    have S7 := St.change (pre := (r, _) :: (I, oI) :: (D, _) :: lawCells L ow oa ot orw ofm) (post := news') S6 sb7 g7
    have S8 := S7.perm (l := (I, oI) :: (D, listOf dv.reverse.toArray 0) :: (lawCells L ow oa ot orw ofm ++ (Hd, _) :: ((r, _) :: news')))
      ((List.Perm.swap _ _ _).trans (((List.Perm.swap _ _ _).trans (((List.perm_middle (l₁ := lawCells L ow oa ot orw ofm)).symm.trans ((List.Perm.swap _ _ _).append_left (lawCells L ow oa ot orw ofm))).cons _)).cons _))
    refine wpAny_execs_nil ⟨rfl, h7, _, _, _, rfl, S8.F, S8.N, S8.ne, r, _, _, _, _, _, by walk_at "z_loc", by walk_at "z_loc", fun y y1 y2 => (if_neg y2).trans ((if_neg y1).trans (mo y y1 y2)), (List.nodup_cons.mp S8.D).2, by walk_at "z_loc", rfl, ⟨(r, _) :: X9, by rw [hX9]; rfl⟩, .head _, ic5, ksk_snoc ih, by rw [holT, List.length_append, hl]; rfl⟩
end
end Mine
end
section
open PySem PySem.W PySem.Calls PyProof.Rows
set_option Elab.async false
set_option maxRecDepth 100000
set_option maxHeartbeats 2000000
namespace Mine
noncomputable def sumN (f : Nat → Nat) : Nat → Nat
  | 0 => 0
  | n + 1 => sumN f n + f n
noncomputable abbrev bn (b : Bool) : Nat := if b then 1 else 0
noncomputable def cnt (f : Nat → Bool) (n : Nat) : Nat := sumN (fun k => bn (f k)) n
theorem sumN_congr {f g : Nat → Nat} : ∀ {n : Nat}, (∀ k, k < n → f k = g k) → sumN f n = sumN g n
  | 0, _ => rfl
  | n + 1, h => by rw [sumN, sumN, sumN_congr (n := n) fun k hk => h k (by (first | lia | omega)), h n (by (first | lia | omega))]
theorem sumN_add (f g : Nat → Nat) : ∀ n, sumN (fun k => f k + g k) n = sumN f n + sumN g n
  | 0 => rfl
  | n + 1 => by rw [sumN, sumN, sumN, sumN_add f g n]; (first | lia | omega)
theorem sumN_two (f : Nat → Nat) : ∀ n, sumN (fun k => 2 * f k) n = 2 * sumN f n
  | 0 => rfl
  | n + 1 => by rw [sumN, sumN, sumN_two f n]; (first | lia | omega)
theorem cnt_eq (f : Nat → Bool) : ∀ n, ((List.range n).filter f).length = cnt f n
  | 0 => rfl
  | n + 1 => by
    rw [List.range_succ, List.filter_append, List.length_append, cnt_eq f n, cnt, cnt, sumN]
    cases h : f n <;> simp [List.filter, h]
theorem cnt_is (a : Nat) : ∀ n, cnt (fun k => decide (k = a)) n = if a < n then 1 else 0
  | 0 => rfl
  | n + 1 => by
    have := cnt_is a n
    unfold cnt at this ⊢
    rw [sumN, this]
    dsimp only
    by_cases h1 : a < n
    · rw [if_pos h1, if_pos (by (first | lia | omega)), decide_eq_false (by (first | lia | omega))]; rfl
    · rw [if_neg h1]
      by_cases h2 : n = a
      · rw [if_pos (by (first | lia | omega)), decide_eq_true h2]; rfl
      · rw [if_neg (by (first | lia | omega)), decide_eq_false h2]; rfl
theorem onway {α : Type} [DecidableEq α] {x : α} {l : List α} : x ∈ l → ∃ c, c < l.length ∧ l[c]? = some x := fun h => by
  obtain ⟨c, hc, e⟩ := List.getElem_of_mem h
  exact ⟨c, hc, by rw [List.getElem?_eq_getElem hc, e]⟩
/-- k lies on the way to a -/
noncomputable def onW (p : Nat → Nat) (k a : Nat) : Bool := decide ((k : Int) ∈ way p a)
theorem take_cp : ∀ xs ys : List Int, xs.take (cp xs ys) = ys.take (cp xs ys)
  | [], ys => by simp [cp]
  | _ :: _, [] => by simp [cp]
  | a :: xs, b :: ys => by
    unfold cp
    by_cases e : a = b
    · rw [if_pos e, List.take_succ_cons, List.take_succ_cons, take_cp xs ys, e]
    · rw [if_neg e]; rfl
theorem cp_max : ∀ (n : Nat) (xs ys : List Int), n ≤ xs.length → n ≤ ys.length → xs.take n = ys.take n → n ≤ cp xs ys
  | 0, _, _, _, _, _ => Nat.zero_le _
  | n + 1, [], _, h, _, _ => by simp at h
  | n + 1, _ :: _, [], _, h, _ => by simp at h
  | n + 1, a :: xs, b :: ys, h1, h2, e => by
    rw [List.take_succ_cons, List.take_succ_cons] at e
    injection e with e1 e2
    simp only [List.length_cons] at h1 h2
    have := cp_max n xs ys (by (first | lia | omega)) (by (first | lia | omega)) e2
    unfold cp
    rw [if_pos e1]; (first | lia | omega)
theorem cp_self : ∀ xs : List Int, cp xs xs = xs.length
  | [] => rfl
  | a :: xs => by unfold cp; rw [if_pos rfl, cp_self xs]; rfl
theorem cp_map (f : Int → Int) : ∀ (xs ys : List Int), (∀ a ∈ xs, ∀ b ∈ ys, f a = f b → a = b) → cp (xs.map f) (ys.map f) = cp xs ys
  | [], ys, _ => by simp [cp]
  | _ :: _, [], _ => by simp [cp]
  | a :: xs, b :: ys, h => by
    rw [List.map_cons, List.map_cons]
    unfold cp
    have ih := cp_map f xs ys fun a ha b hb => h a (.tail _ ha) b (.tail _ hb)
    by_cases e : a = b
    · rw [if_pos e, if_pos (congrArg f e), ih]
    · rw [if_neg e, if_neg fun q => e (h a (.head _) b (.head _) q)]
section
variable (p : Nat → Nat) (hp : ∀ k, 0 < k → p k < k)
include hp
theorem way_take : ∀ a c, c < (way p a).length → (way p a).take (c + 1) = way p ((way p a).getD c 0).toNat := by
  intro a
  induction a using Nat.strongRecOn with
  | _ a ih =>
    intro c hc
    rcases Nat.eq_zero_or_pos a with rfl | ha
    · have e : (way p 0) = [0] := rfl
      rw [e] at hc ⊢
      simp at hc
      subst hc
      rfl
    · have h1 := hp a ha
      rw [way_step p hp a ha] at hc ⊢
      rw [List.length_append, List.length_singleton] at hc
      by_cases hlt : c < (way p (p a)).length
      · rw [List.take_append_of_le_length (by (first | lia | omega)), getD_left _ _ _ hlt]
        exact ih (p a) h1 c hlt
      · have e : c = (way p (p a)).length := by (first | lia | omega)
        subst e
        rw [getD_last, List.take_of_length_le (by simp), Int.toNat_natCast, way_step p hp a ha]
theorem way_mem {x : Int} {a : Nat} (h : x ∈ way p a) : ∃ k : Nat, x = k ∧ k ≤ a := by
  obtain ⟨c, hc, e⟩ := onway h
  obtain ⟨y, e1, e2, -⟩ := way_get p hp a c hc
  rw [List.getD_eq_getElem?_getD, e] at e1
  exact ⟨y, e1, e2⟩
theorem way_self (a : Nat) : (a : Int) ∈ way p a := by
  rcases Nat.eq_zero_or_pos a with rfl | ha
  · exact .head _
  · rw [way_step p hp a ha]; simp
theorem onW_self (a : Nat) : onW p a a = true := decide_eq_true (way_self p hp a)
theorem onW_le {k a : Nat} (h : onW p k a = true) : k ≤ a := by
  obtain ⟨x, e, hx⟩ := way_mem p hp (of_decide_eq_true h)
  (first | lia | omega)
/-- the way to what lies on a way is the head of that way -/
theorem onW_pre {k a : Nat} (h : onW p k a = true) : (way p k).length ≤ (way p a).length ∧ way p k = (way p a).take (way p k).length := by
  obtain ⟨c, hc, e⟩ := onway (of_decide_eq_true h)
  have := way_take p hp a c hc
  rw [List.getD_eq_getElem?_getD, e, Option.getD_some, Int.toNat_natCast] at this
  have hl : (way p k).length = c + 1 := by rw [← this, List.length_take]; (first | lia | omega)
  exact ⟨by (first | lia | omega), by rw [hl]; exact this.symm⟩
theorem onW_of_pre {k a n : Nat} (h : way p k = (way p a).take n) : onW p k a = true :=
  decide_eq_true (List.mem_of_mem_take (h ▸ way_self p hp k))
/-- where two ways part -/
noncomputable def meet (p : Nat → Nat) (a b : Nat) : Nat := ((way p a).getD (cp (way p a) (way p b) - 1) 0).toNat
omit hp in
theorem meet_def (a b : Nat) : meet p a b = ((way p a).getD (cp (way p a) (way p b) - 1) 0).toNat := rfl
theorem meet_way (a b : Nat) : (way p a).take (cp (way p a) (way p b)) = way p (meet p a b) := by
  have h1 := cp_pos p hp a b
  have h2 := (cp_le (way p a) (way p b)).1
  have := way_take p hp a (cp (way p a) (way p b) - 1) (by (first | lia | omega))
  rwa [show cp (way p a) (way p b) - 1 + 1 = cp (way p a) (way p b) by (first | lia | omega)] at this
theorem onW_meet (k a b : Nat) : onW p k (meet p a b) = (onW p k a && onW p k b) := by
  have e1 := meet_way p hp a b
  have e2 := e1
  rw [take_cp] at e2
  rw [Bool.eq_iff_iff, Bool.and_eq_true]
  constructor
  · intro h
    have h : (k : Int) ∈ way p (meet p a b) := of_decide_eq_true h
    exact ⟨decide_eq_true (List.mem_of_mem_take (e1 ▸ h)), decide_eq_true (List.mem_of_mem_take (e2 ▸ h))⟩
  · rintro ⟨ha, hb⟩
    obtain ⟨l1, q1⟩ := onW_pre p hp ha
    obtain ⟨l2, q2⟩ := onW_pre p hp hb
    have hc := cp_max _ _ _ l1 l2 (q1.symm.trans q2)
    refine decide_eq_true ?_
    rw [← e1]
    have : way p k = ((way p a).take (cp (way p a) (way p b))).take (way p k).length := by
      rw [List.take_take, Nat.min_eq_left hc]; exact q1
    exact List.mem_of_mem_take (this ▸ way_self p hp k)
theorem meet_le (a b : Nat) : meet p a b ≤ a ∧ meet p a b ≤ b := by
  have := onW_meet p hp (meet p a b) a b
  rw [onW_self p hp, eq_comm, Bool.and_eq_true] at this
  exact ⟨onW_le p hp this.1, onW_le p hp this.2⟩
theorem meet_self (a : Nat) : meet p a a = a := by
  have := meet_way p hp a a
  rw [cp_self, List.take_of_length_le (Nat.le_refl _)] at this
  have h1 : onW p a (meet p a a) = true := decide_eq_true (this ▸ way_self p hp a)
  have := onW_le p hp h1
  have := (meet_le p hp a a).1
  (first | lia | omega)
theorem onW_step (k a : Nat) (ha : 0 < a) : onW p k a = (onW p k (p a) || decide (k = a)) := by
  unfold onW
  rw [way_step p hp a ha, Bool.eq_iff_iff]
  simp only [List.mem_append, List.mem_singleton, Bool.or_eq_true, decide_eq_true_eq, Int.ofNat_inj]
theorem way_cnt (N : Nat) : ∀ a, a < N → (way p a).length = cnt (fun k => onW p k a) N := by
  intro a
  induction a using Nat.strongRecOn with
  | _ a ih =>
    intro hN
    rcases Nat.eq_zero_or_pos a with rfl | ha
    · have := cnt_is 0 N
      rw [if_pos hN] at this
      rw [show (way p 0).length = 1 from rfl, ← this]
      refine sumN_congr fun k _ => ?_
      have : onW p k 0 = decide (k = 0) := by unfold onW; rw [show way p 0 = [0] from rfl]; simp
      dsimp only
      rw [this]
    · have h1 := hp a ha
      have h2 := cnt_is a N
      rw [if_pos hN] at h2
      rw [way_step p hp a ha, List.length_append, List.length_singleton, ih (p a) h1 (by (first | lia | omega)), ← h2]
      unfold cnt
      rw [← sumN_add]
      refine sumN_congr fun k _ => ?_
      dsimp only
      rw [onW_step p hp k a ha]
      by_cases e : k = a
      · subst e
        cases q : onW p k (p k) with
        | true => have := onW_le p hp q; (first | lia | omega)
        | false => simp
      · simp [e]
theorem cp_cnt (N a b : Nat) (ha : a < N) : cp (way p a) (way p b) = cnt (fun k => onW p k a && onW p k b) N := by
  have h1 := meet_way p hp a b
  have h2 := (cp_le (way p a) (way p b)).1
  have h3 := congrArg List.length h1
  rw [List.length_take, Nat.min_eq_left h2] at h3
  rw [h3, way_cnt p hp N _ (by have := (meet_le p hp a b).1; (first | lia | omega))]
  exact sumN_congr fun k _ => by dsimp only; rw [onW_meet p hp]
end
end Mine
end
section
open PySem PySem.W PySem.Calls PyProof.Rows
set_option Elab.async false
set_option maxRecDepth 100000
set_option maxHeartbeats 2000000
namespace Mine
theorem lexLt_self : ∀ xs, lexLt xs xs = false
  | [] => rfl
  | a :: xs => by unfold lexLt; rw [if_pos rfl]; exact lexLt_self xs
theorem lexLt_trans : ∀ xs ys zs, lexLt xs ys = true → lexLt ys zs = true → lexLt xs zs = true
  | [], [], _, h, _ => by simp [lexLt] at h
  | [], _ :: _, [], _, h => by simp [lexLt] at h
  | [], _ :: _, _ :: _, _, _ => rfl
  | _ :: _, [], _, h, _ => by simp [lexLt] at h
  | _ :: _, _ :: _, [], _, h => by simp [lexLt] at h
  | a :: xs, b :: ys, c :: zs, h1, h2 => by
    unfold lexLt at h1 h2 ⊢
    by_cases e1 : a = b
    · rw [if_pos e1] at h1
      subst e1
      by_cases e2 : a = c
      · rw [if_pos e2] at h2 ⊢
        exact lexLt_trans xs ys zs h1 h2
      · rw [if_neg e2] at h2 ⊢; exact h2
    · rw [if_neg e1] at h1
      by_cases e2 : b = c
      · subst e2
        rw [if_neg e1]; exact h1
      · rw [if_neg e2] at h2
        have h1 := of_decide_eq_true h1
        have h2 := of_decide_eq_true h2
        rw [if_neg (by (first | lia | omega))]
        exact decide_eq_true (by (first | lia | omega))
theorem lexLt_total : ∀ xs ys, lexLt xs ys = false → lexLt ys xs = false → xs = ys
  | [], [], _, _ => rfl
  | [], _ :: _, h, _ => by simp [lexLt] at h
  | _ :: _, [], _, h => by simp [lexLt] at h
  | a :: xs, b :: ys, h1, h2 => by
    unfold lexLt at h1 h2
    by_cases e : a = b
    · subst e
      rw [if_pos rfl] at h1 h2
      rw [lexLt_total xs ys h1 h2]
    · rw [if_neg e] at h1
      rw [if_neg (Ne.symm e)] at h2
      have h1 := of_decide_eq_false h1
      have h2 := of_decide_eq_false h2
      (first | lia | omega)
theorem lexLt_cp : ∀ xs ys, lexLt xs ys = if cp xs ys = ys.length then false else if cp xs ys = xs.length then true else decide (xs.getD (cp xs ys) 0 < ys.getD (cp xs ys) 0)
  | [], [] => rfl
  | [], _ :: _ => by simp [cp, lexLt]
  | _ :: _, [] => by simp [cp, lexLt]
  | a :: xs, b :: ys => by
    unfold cp lexLt
    by_cases e : a = b
    · rw [if_pos e, if_pos e, lexLt_cp xs ys]
      simp
    · rw [if_neg e, if_neg e]
      simp
/-- between two rows of one head all have that head -/
theorem lex_between : ∀ (P xs ys zs : List Int), lexLt ys (P ++ xs) = false → lexLt (P ++ zs) ys = false → ys.take P.length = P
  | [], _, _, _, _, _ => by simp
  | a :: P, xs, [], zs, h1, h2 => by simp [lexLt] at h1
  | a :: P, xs, b :: ys, zs, h1, h2 => by
    rw [List.cons_append] at h1 h2
    unfold lexLt at h1 h2
    by_cases e : a = b
    · subst e
      rw [if_pos rfl] at h1 h2
      rw [List.length_cons, List.take_succ_cons, lex_between P xs ys zs h1 h2]
    · rw [if_neg e] at h2
      rw [if_neg (Ne.symm e)] at h1
      have h1 := of_decide_eq_false h1
      have h2 := of_decide_eq_false h2
      (first | lia | omega)
/-- a node's rank -/
noncomputable def rankN (av : Nat → List Int) (N k : Nat) : Int := (cnt (fun j => lexLt (av j) (av k)) N : Nat)
theorem cnt_le {f g : Nat → Bool} : ∀ {n}, (∀ k, k < n → f k = true → g k = true) → cnt f n ≤ cnt g n
  | 0, _ => Nat.le_refl _
  | n + 1, h => by
    have ih := cnt_le (n := n) fun k hk => h k (by (first | lia | omega))
    have h1 := h n (by (first | lia | omega))
    unfold cnt at ih ⊢
    rw [sumN, sumN]
    cases e : f n with
    | true => rw [h1 e]; (first | lia | omega)
    | false => have : bn false = 0 := rfl; (first | lia | omega)
theorem cnt_lt {f g : Nat → Bool} {a : Nat} (hf : f a = false) (hg : g a = true) : ∀ {n}, a < n → (∀ k, k < n → f k = true → g k = true) → cnt f n < cnt g n
  | 0, h, _ => absurd h (Nat.not_lt_zero _)
  | n + 1, ha, h => by
    have h1 := h n (by (first | lia | omega))
    by_cases e : a = n
    · subst e
      have ih := cnt_le (n := a) fun k hk => h k (by (first | lia | omega))
      unfold cnt at ih ⊢
      rw [sumN, sumN, hf, hg]; have : bn false = 0 := rfl; have : bn true = 1 := rfl; (first | lia | omega)
    · have ih := cnt_lt hf hg (n := n) (by (first | lia | omega)) fun k hk => h k (by (first | lia | omega))
      unfold cnt at ih ⊢
      rw [sumN, sumN]
      cases e : f n with
      | true => rw [h1 e]; (first | lia | omega)
      | false => have : bn false = 0 := rfl; (first | lia | omega)
theorem rank_lt (av : Nat → List Int) (N : Nat) {a b : Nat} (ha : a < N) (_ : b < N) : lexLt (av a) (av b) = decide (rankN av N a < rankN av N b) := by
  unfold rankN
  cases h : lexLt (av a) (av b) with
  | true =>
    have := cnt_lt (f := fun j => lexLt (av j) (av a)) (g := fun j => lexLt (av j) (av b)) (a := a) (lexLt_self _) h ha fun k _ hk => lexLt_trans _ _ _ hk h
    exact (decide_eq_true (by (first | lia | omega))).symm
  | false =>
    have := cnt_le (f := fun j => lexLt (av j) (av b)) (g := fun j => lexLt (av j) (av a)) (n := N) fun k _ hk => by
      cases q : lexLt (av b) (av a) with
      | true => exact lexLt_trans _ _ _ hk q
      | false => rw [lexLt_total _ _ h q]; exact hk
    exact (decide_eq_false (by (first | lia | omega))).symm
theorem rank_eq (av : Nat → List Int) (N : Nat) {a b : Nat} (ha : a < N) (hb : b < N) (h : rankN av N a = rankN av N b) : av a = av b := by
  have h1 := rank_lt av N ha hb
  have h2 := rank_lt av N hb ha
  rw [decide_eq_false (by (first | lia | omega))] at h1 h2
  exact lexLt_total _ _ h1 h2
theorem idx_lt (f : Int → Int) : ∀ (l : List Int), l.Pairwise (fun a b => f a ≤ f b) → ∀ x y, x ∈ l → y ∈ l → f x < f y → l.idxOf x < l.idxOf y
  | [], _, _, _, h, _, _ => nomatch h
  | a :: l, hs, x, y, hx, hy, h => by
    obtain ⟨h1, h2⟩ := List.pairwise_cons.mp hs
    rw [List.idxOf_cons, List.idxOf_cons]
    by_cases e1 : a = x
    · subst e1
      have : ¬ a = y := fun e => by subst e; (first | lia | omega)
      rw [beq_self_eq_true, beq_eq_false_iff_ne.mpr this]
      exact Nat.succ_pos _
    · by_cases e2 : a = y
      · subst e2
        have hx' : x ∈ l := by rcases List.mem_cons.mp hx with e | e; exact absurd e.symm e1; exact e
        have := h1 x hx'
        (first | lia | omega)
      · have hx' : x ∈ l := by rcases List.mem_cons.mp hx with e | e; exact absurd e.symm e1; exact e
        have hy' : y ∈ l := by rcases List.mem_cons.mp hy with e | e; exact absurd e.symm e2; exact e
        have := idx_lt f l h2 x y hx' hy' h
        rw [beq_eq_false_iff_ne.mpr e1, beq_eq_false_iff_ne.mpr e2]
        exact Nat.succ_lt_succ this
theorem getD_map (f : Int → Int) (h0 : f 0 = 0) (l : List Int) (c : Nat) : (l.map f).getD c 0 = f (l.getD c 0) := by
  rw [List.getD_eq_getElem?_getD, List.getD_eq_getElem?_getD, List.getElem?_map]
  cases l[c]? with
  | none => exact h0.symm
  | some x => rfl
/-- the comparator answers as the rows of above do -/
theorem cmp_lt {p : Nat → Nat} {fam : Nat → List Int} {f : Int → Int} {N a b : Nat} (hp : ∀ k, 0 < k → p k < k) (h0 : f 0 = 0) (inj : ∀ x y, 0 ≤ x → 0 ≤ y → f x = f y → x = y)
    (hs : ∀ j, (fam j).Pairwise (fun a b => f a ≤ f b)) (hm : ∀ k : Nat, 0 < k → k < N → (k : Int) ∈ fam (p k)) (ha : a < N) (hb : b < N) :
    decide (cmpV p fam a b < 0) = lexLt ((way p a).map f) ((way p b).map f) := by
  have inj' : ∀ x ∈ way p a, ∀ y ∈ way p b, f x = f y → x = y := fun x hx y hy e => by
    obtain ⟨k, rfl, -⟩ := way_mem p hp hx
    obtain ⟨l, rfl, -⟩ := way_mem p hp hy
    exact inj _ _ (by (first | lia | omega)) (by (first | lia | omega)) e
  rw [lexLt_cp, cp_map f _ _ inj', List.length_map, List.length_map, getD_map f h0, getD_map f h0]
  obtain ⟨l1, l2⟩ := cp_le (way p a) (way p b)
  unfold cmpV
  dsimp only
  by_cases e1 : cp (way p a) (way p b) = (way p b).length
  · rw [if_pos (.inr e1), if_pos e1]
    exact decide_eq_false (by (first | lia | omega))
  · rw [if_neg e1]
    by_cases e2 : cp (way p a) (way p b) = (way p a).length
    · rw [if_pos (.inl e2), if_pos e2]
      exact decide_eq_true (by (first | lia | omega))
    · rw [if_neg (by (first | lia | omega)), if_neg e2]
      have hc := cp_pos p hp a b
      obtain ⟨x, ex, hx, -, hx2⟩ := way_get p hp a (cp (way p a) (way p b)) (by (first | lia | omega))
      obtain ⟨y, ey, hy, -, hy2⟩ := way_get p hp b (cp (way p a) (way p b)) (by (first | lia | omega))
      obtain ⟨hx3, hx4⟩ := hx2 hc
      obtain ⟨hy3, hy4⟩ := hy2 hc
      have hpp := cp_get (way p a) (way p b) (cp (way p a) (way p b) - 1) (by (first | lia | omega))
      rw [hx4, hy4] at hpp
      have hne := cp_step (way p a) (way p b) _ (Nat.le_refl _)
      rw [ex, ey] at hne ⊢
      have hxy : ¬ (x : Int) = y := fun e => Nat.lt_irrefl _ (hne.mpr ⟨by (first | lia | omega), by (first | lia | omega), e⟩)
      have hpe : p y = p x := by (first | lia | omega)
      have m1 := hm x hx3 (by (first | lia | omega))
      have m2 := hm y hy3 (by (first | lia | omega))
      rw [hpe] at m2
      rw [Int.toNat_natCast]
      have hf : ¬ f x = f y := fun e => hxy (inj _ _ (by (first | lia | omega)) (by (first | lia | omega)) e)
      by_cases h : f x < f y
      · have := idx_lt f _ (hs _) _ _ m1 m2 h
        rw [decide_eq_true h]; exact decide_eq_true (by (first | lia | omega))
      · have := idx_lt f _ (hs _) _ _ m2 m1 (by (first | lia | omega))
        rw [decide_eq_false h]; exact decide_eq_false (by (first | lia | omega))
end Mine
end
section
open PySem PySem.W PySem.Calls PyProof.Rows
set_option Elab.async false
set_option maxRecDepth 100000
set_option maxHeartbeats 2000000
set_option linter.unusedSimpArgs false
namespace Mine
/-- how often a row of truths changes, round, over its first j turns -/
noncomputable def chg (s : Nat → Bool) (m : Nat) : Nat → Nat
  | 0 => 0
  | j + 1 => chg s m j + bn (s (if j = 0 then m - 1 else j - 1) != s j)
noncomputable def anyB (s : Nat → Bool) : Nat → Bool
  | 0 => false
  | t + 1 => anyB s t || s t
noncomputable def allB (s : Nat → Bool) : Nat → Bool
  | 0 => true
  | t + 1 => allB s t && s t
theorem anyB_iff (s : Nat → Bool) : ∀ t, anyB s t = true ↔ ∃ i, i < t ∧ s i = true
  | 0 => by simp [anyB]
  | t + 1 => by
    rw [anyB, Bool.or_eq_true, anyB_iff s t]
    constructor
    · rintro (⟨i, h1, h2⟩ | h)
      · exact ⟨i, by (first | lia | omega), h2⟩
      · exact ⟨t, by (first | lia | omega), h⟩
    · rintro ⟨i, h1, h2⟩
      by_cases e : i = t
      · exact .inr (e ▸ h2)
      · exact .inl ⟨i, by (first | lia | omega), h2⟩
theorem allB_iff (s : Nat → Bool) : ∀ t, allB s t = true ↔ ∀ i, i < t → s i = true
  | 0 => by simp [allB]
  | t + 1 => by
    rw [allB, Bool.and_eq_true, allB_iff s t]
    constructor
    · rintro ⟨h1, h2⟩ i hi
      by_cases e : i = t
      · exact e ▸ h2
      · exact h1 i (by (first | lia | omega))
    · intro h
      exact ⟨fun i hi => h i (by (first | lia | omega)), h t (by (first | lia | omega))⟩
/-- the changes along the row -/
noncomputable def dd (s : Nat → Bool) : Nat → Nat
  | 0 => 0
  | t + 1 => dd s t + bn (s t != s (t + 1))
theorem chg_dd (s : Nat → Bool) (m : Nat) : ∀ t, chg s m (t + 1) = dd s t + bn (s (m - 1) != s 0)
  | 0 => by rw [chg, chg, dd, if_pos rfl]
  | t + 1 => by
    rw [chg, chg_dd s m t, dd, if_neg (by (first | lia | omega)), show t + 1 - 1 = t from rfl]
    (first | lia | omega)
theorem dd_any (s : Nat → Bool) : ∀ t, (∀ i j l, i < j → j < l → l ≤ t → s i = true → s l = true → s j = true) →
    dd s t + bn (s t != s 0) + 2 * bn (allB s (t + 1)) = 2 * bn (anyB s (t + 1))
  | 0, _ => by
    rw [dd, anyB, allB, anyB, allB]
    cases s 0 <;> rfl
  | t + 1, h => by
    have ih := dd_any s t fun i j l h1 h2 h3 => h i j l h1 h2 (by (first | lia | omega))
    rw [dd]
    rw [show anyB s (t + 1 + 1) = (anyB s (t + 1) || s (t + 1)) from rfl, show allB s (t + 1 + 1) = (allB s (t + 1) && s (t + 1)) from rfl]
    have b0 : bn false = 0 := rfl
    have b1 : bn true = 1 := rfl
    have q0 : s 0 = true → anyB s (t + 1) = true := fun e => (anyB_iff _ _).mpr ⟨0, by (first | lia | omega), e⟩
    have q1 : s t = true → anyB s (t + 1) = true := fun e => (anyB_iff _ _).mpr ⟨t, by (first | lia | omega), e⟩
    have q2 : s t = false → allB s (t + 1) = false := fun e => by rw [allB, e, Bool.and_false]
    have q3 : s 0 = false → allB s (t + 1) = false := fun e => by
      cases q : allB s (t + 1) with
      | false => rfl
      | true => rw [(allB_iff _ _).mp q 0 (by (first | lia | omega))] at e; cases e
    have q4 : s t = false → s (t + 1) = true → anyB s (t + 1) = false := fun e e' => by
      cases q : anyB s (t + 1) with
      | false => rfl
      | true =>
        obtain ⟨i, hi, ei⟩ := (anyB_iff _ _).mp q
        by_cases he : i = t
        · rw [he, e] at ei; cases ei
        · rw [h i t (t + 1) (by (first | lia | omega)) (by (first | lia | omega)) (by (first | lia | omega)) ei e'] at e; cases e
    have q5 : s 0 = true → s t = true → allB s (t + 1) = true := fun e e' => (allB_iff _ _).mpr fun i hi => by
      by_cases h1 : i = 0
      · rw [h1]; exact e
      · by_cases h2 : i = t
        · rw [h2]; exact e'
        · exact h 0 i t (by (first | lia | omega)) (by (first | lia | omega)) (by (first | lia | omega)) e e'
    cases e0 : s 0 <;> cases e1 : s t <;> cases e2 : s (t + 1) <;> simp only [e0, e1, e2, Bool.or_false, Bool.or_true, Bool.and_false, Bool.and_true, bne_self_eq_false, Bool.false_bne, Bool.true_bne, Bool.not_true, Bool.not_false, b0, b1] at ih ⊢
    · rw [q3 e0] at ih; simp only [b0] at ih; (first | lia | omega)
    · rw [q4 e1 e2, q3 e0] at ih; rw [q3 e0]; simp only [b0] at ih ⊢; (first | lia | omega)
    · rw [q1 e1, q3 e0] at ih; rw [q1 e1]; simp only [b0, b1] at ih ⊢; (first | lia | omega)
    · rw [q1 e1, q3 e0] at ih; rw [q3 e0]; simp only [b0, b1] at ih ⊢; (first | lia | omega)
    · rw [q0 e0, q2 e1] at ih; rw [q0 e0]; simp only [b0, b1] at ih ⊢; (first | lia | omega)
    · have := q4 e1 e2
      rw [q0 e0] at this; cases this
    · rw [q0 e0, q5 e0 e1] at ih; rw [q0 e0]; simp only [b0, b1] at ih ⊢; (first | lia | omega)
    · rw [q0 e0, q5 e0 e1] at ih; rw [q5 e0 e1]; simp only [b0, b1] at ih ⊢; (first | lia | omega)
/-- a row whose truths stand together changes twice, or never -/
theorem chg_any (s : Nat → Bool) (m : Nat) (hm : 0 < m) (h : ∀ i j l, i < j → j < l → l < m → s i = true → s l = true → s j = true) :
    chg s m m + 2 * bn (allB s m) = 2 * bn (anyB s m) := by
  obtain ⟨t, rfl⟩ : ∃ t, m = t + 1 := ⟨m - 1, by (first | lia | omega)⟩
  rw [chg_dd, Nat.add_sub_cancel]
  exact dd_any s t fun i j l h1 h2 h3 => h i j l h1 h2 (by (first | lia | omega))
theorem road_cnt {p : Nat → Nat} (hp : ∀ k, 0 < k → p k < k) {N a b : Nat} (ha : a < N) (hb : b < N) : roadV p a b = (cnt (fun k => onW p k a != onW p k b) N : Nat) := by
  unfold roadV
  rw [way_cnt p hp N a ha, way_cnt p hp N b hb, cp_cnt p hp N a b ha]
  have key : ∀ n, cnt (fun k => onW p k a != onW p k b) n + 2 * cnt (fun k => onW p k a && onW p k b) n = cnt (fun k => onW p k a) n + cnt (fun k => onW p k b) n := by
    intro n
    induction n with
    | zero => rfl
    | succ n ih =>
      unfold cnt at ih ⊢
      rw [sumN, sumN, sumN, sumN]
      dsimp only at ih ⊢
      have : bn (onW p n a != onW p n b) + 2 * bn (onW p n a && onW p n b) = bn (onW p n a) + bn (onW p n b) := by
        cases onW p n a <;> cases onW p n b <;> rfl
      (first | lia | omega)
  have := key N
  (first | lia | omega)
/-- the roads of a row, node by node -/
theorem roads_chg {p : Nat → Nat} (hp : ∀ k, 0 < k → p k < k) {N : Nat} {rs : List Nat} (hrs : ∀ k ∈ rs, k < N) : ∀ j, j ≤ rs.length → roadsum p rs j = (sumN (fun k => chg (fun i => onW p k (rs.getD i 0)) rs.length j) N : Nat)
  | 0, _ => by
    have : ∀ n, sumN (fun k => chg (fun i => onW p k (rs.getD i 0)) rs.length 0) n = 0 := fun n => by
      induction n with
      | zero => rfl
      | succ n ih => rw [sumN, ih, chg]
    rw [this]; rfl
  | j + 1, h => by
    rw [roadsum, roads_chg hp hrs j (by (first | lia | omega)), road_cnt hp (getD_lt hrs (by split <;> (first | lia | omega))) (getD_lt hrs (by (first | lia | omega))), ← Int.natCast_add]
    unfold cnt
    rw [← sumN_add]
    rfl
/-- the round of a sorted row -/
theorem roads_sorted {p : Nat → Nat} (hp : ∀ k, 0 < k → p k < k) {N : Nat} {rs : List Nat} (hrs : ∀ k ∈ rs, k < N) (hm : 0 < rs.length)
    (hI : ∀ k i j l, i < j → j < l → l < rs.length → onW p k (rs.getD i 0) = true → onW p k (rs.getD l 0) = true → onW p k (rs.getD j 0) = true) :
    roadsum p rs rs.length = 2 * ((cnt (fun k => anyB (fun i => onW p k (rs.getD i 0)) rs.length) N : Int) - cnt (fun k => allB (fun i => onW p k (rs.getD i 0)) rs.length) N) := by
  rw [roads_chg hp hrs _ (Nat.le_refl _)]
  have key : ∀ n, sumN (fun k => chg (fun i => onW p k (rs.getD i 0)) rs.length rs.length) n + 2 * cnt (fun k => allB (fun i => onW p k (rs.getD i 0)) rs.length) n = 2 * cnt (fun k => anyB (fun i => onW p k (rs.getD i 0)) rs.length) n := by
    intro n
    unfold cnt
    rw [← sumN_two, ← sumN_two, ← sumN_add]
    exact sumN_congr fun k _ => chg_any _ _ hm (hI k)
  have := key N
  (first | lia | omega)
end Mine
end
section
open PySem PySem.W PySem.Calls PyProof.Rows
set_option Elab.async false
set_option maxRecDepth 100000
set_option maxHeartbeats 2000000
namespace Mine
/-- the parent that above takes -/
noncomputable def pK (b : Bool) (xs : List Int) (k : Nat) : Nat := if k = 0 then 0 else parK b (xs.getD (k - 1) 0) k
theorem pK_lt (b : Bool) (xs : List Int) (k : Nat) (h : 0 < k) : pK b xs k < k := by
  unfold pK; rw [if_neg (by (first | lia | omega))]; exact parK_lt b _ h
/-- a node as it stands in above -/
noncomputable def sg (xs : List Int) (y : Int) : Int := if (xs.getD (y.toNat - 1) 0) % 2 = 1 then -y else y
theorem sg_zero (xs : List Int) : sg xs 0 = 0 := by unfold sg; split <;> rfl
theorem sg_inj (xs : List Int) (a b : Int) (ha : 0 ≤ a) (hb : 0 ≤ b) (h : sg xs a = sg xs b) : a = b := by
  unfold sg at h
  split at h <;> split at h <;> (first | lia | omega)
theorem sg_abs (xs : List Int) (k : Nat) : (sg xs k).natAbs = k := by
  unfold sg
  split <;> (first | lia | omega)
theorem sg_le (xs : List Int) (k : Nat) : -(k : Int) ≤ sg xs k ∧ sg xs k ≤ k := by
  unfold sg
  split <;> (first | lia | omega)
theorem getD_leftL (l1 l2 : List (List Int)) {n : Nat} (h : n < l1.length) : (l1 ++ l2).getD n [] = l1.getD n [] := by
  rw [List.getD_eq_getElem?_getD, List.getD_eq_getElem?_getD, List.getElem?_append_left h]
theorem getD_lastL (l1 : List (List Int)) (x : List Int) {n : Nat} (h : n = l1.length) : (l1 ++ [x]).getD n [] = x := by
  subst h
  rw [List.getD_eq_getElem?_getD, List.getElem?_append_right (Nat.le_refl _), Nat.sub_self]; rfl
/-- above is the ways, signed -/
theorem abvL_way (b : Bool) (xs : List Int) : ∀ i k, k ≤ i → (abvL b xs i).getD k [] = (way (pK b xs) k).map (sg xs)
  | 0, k, h => by
    obtain rfl : k = 0 := by (first | lia | omega)
    show [0] = [sg xs ((0 : Nat) : Int)]
    rw [show sg xs ((0 : Nat) : Int) = 0 from sg_zero xs]
  | i + 1, k, h => by
    rw [abvL]
    by_cases e : k ≤ i
    · rw [getD_leftL _ _ (by rw [abvL_length]; (first | lia | omega))]
      exact abvL_way b xs i k e
    · obtain rfl : k = i + 1 := by (first | lia | omega)
      have h1 := parK_lt b (xs.getD i 0) (k := i + 1) (by (first | lia | omega))
      rw [getD_lastL _ _ (abvL_length b xs i).symm, abvL_way b xs i _ (by (first | lia | omega)), way_step _ (pK_lt b xs) (i + 1) (by (first | lia | omega)), List.map_append]
      have e1 : pK b xs (i + 1) = parK b (xs.getD i 0) (i + 1) := by unfold pK; rw [if_neg (by (first | lia | omega)), Nat.add_sub_cancel]
      have e2 : sg xs ((i + 1 : Nat) : Int) = if (xs.getD i 0) % 2 = 1 then -((i + 1 : Nat) : Int) else ((i + 1 : Nat) : Int) := by
        unfold sg
        rw [Int.toNat_natCast, Nat.add_sub_cancel]
      rw [e1, List.map_cons, List.map_nil, e2]
theorem insF_mem {x : Int} {k : Nat} {l : List Int} {y : Int} : y ∈ insF x k l ↔ y = k ∨ y ∈ l := by
  unfold insF
  split
  · simp
  · simp [or_comm]
/-- who is in a family -/
theorem famI_mem (xs : List Int) : ∀ i j (y : Int), y ∈ famI xs i j ↔ ∃ k : Nat, y = k ∧ 0 < k ∧ k ≤ i ∧ (j = oneK (xs.getD (k - 1) 0) k ∨ j = othK (xs.getD (k - 1) 0) k)
  | 0, j, y => by
    constructor
    · intro h; cases h
    · rintro ⟨k, -, h1, h2, -⟩; (first | lia | omega)
  | i + 1, j, y => by
    have ih := famI_mem xs i
    have key : y ∈ famI xs (i + 1) j ↔ (y = ((i + 1 : Nat) : Int) ∧ (j = oneK (xs.getD i 0) (i + 1) ∨ j = othK (xs.getD i 0) (i + 1))) ∨ y ∈ famI xs i j := by
      rw [famI]
      unfold putF
      by_cases e1 : j = othK (xs.getD i 0) (i + 1)
      · rw [if_pos e1, insF_mem]
        by_cases e2 : othK (xs.getD i 0) (i + 1) = oneK (xs.getD i 0) (i + 1)
        · rw [if_pos e2, insF_mem, ← e2, ← e1]
          simp
        · rw [if_neg e2, ← e1]
          simp
      · rw [if_neg e1]
        by_cases e2 : j = oneK (xs.getD i 0) (i + 1)
        · rw [if_pos e2, insF_mem, ← e2]
          simp
        · rw [if_neg e2]
          exact ⟨.inr, fun h => h.elim (fun h => (h.2.elim e2 e1).elim) id⟩
    rw [key, ih]
    constructor
    · rintro (⟨rfl, h⟩ | ⟨k, h1, h2, h3, h4⟩)
      · exact ⟨i + 1, rfl, by (first | lia | omega), by (first | lia | omega), by rw [Nat.add_sub_cancel]; exact h⟩
      · exact ⟨k, h1, h2, by (first | lia | omega), h4⟩
    · rintro ⟨k, rfl, h2, h3, h4⟩
      by_cases e : k = i + 1
      · subst e
        rw [Nat.add_sub_cancel] at h4
        exact .inl ⟨rfl, h4⟩
      · exact .inr ⟨k, rfl, h2, by (first | lia | omega), h4⟩
theorem insF_sorted (xs : List Int) {k : Nat} (_ : 0 < k) {l : List Int} (hs : l.Pairwise (fun a b => sg xs a ≤ sg xs b)) (hm : ∀ y ∈ l, ∃ j : Nat, y = j ∧ j ≤ k) : (insF (xs.getD (k - 1) 0) k l).Pairwise (fun a b => sg xs a ≤ sg xs b) := by
  unfold insF
  have e : sg xs (k : Int) = if (xs.getD (k - 1) 0) % 2 = 1 then -(k : Int) else k := by unfold sg; rw [Int.toNat_natCast]
  split
  · rename_i h
    rw [if_pos h] at e
    refine List.pairwise_cons.mpr ⟨fun y hy => ?_, hs⟩
    obtain ⟨j, rfl, hj⟩ := hm y hy
    have := sg_le xs j
    (first | lia | omega)
  · rename_i h
    rw [if_neg h] at e
    refine List.pairwise_append.mpr ⟨hs, List.pairwise_singleton _ _, fun y hy z hz => ?_⟩
    obtain ⟨j, rfl, hj⟩ := hm y hy
    have := sg_le xs j
    rw [List.mem_singleton] at hz
    subst hz
    (first | lia | omega)
/-- each family stands in order -/
theorem famI_sorted (xs : List Int) : ∀ i j, (famI xs i j).Pairwise (fun a b => sg xs a ≤ sg xs b)
  | 0, _ => .nil
  | i + 1, j => by
    have hm : ∀ j y, y ∈ famI xs i j → ∃ k : Nat, y = k ∧ k ≤ i + 1 := fun j y hy => by
      obtain ⟨k, h1, h2, h3, -⟩ := (famI_mem xs i j y).mp hy
      exact ⟨k, h1, by (first | lia | omega)⟩
    have step : ∀ l : List Int, l.Pairwise (fun a b => sg xs a ≤ sg xs b) → (∀ y ∈ l, ∃ k : Nat, y = k ∧ k ≤ i + 1) → (insF (xs.getD i 0) (i + 1) l).Pairwise (fun a b => sg xs a ≤ sg xs b) := fun l h1 h2 => insF_sorted xs (k := i + 1) (Nat.succ_pos i) h1 h2
    have ih := famI_sorted xs i
    rw [famI]
    unfold putF
    split
    · refine step _ ?_ ?_
      · split
        · exact step _ (ih _) (hm _)
        · exact ih _
      · intro y hy
        split at hy
        · rcases insF_mem.mp hy with rfl | hy
          · exact ⟨i + 1, rfl, Nat.le_refl _⟩
          · exact hm _ _ hy
        · exact hm _ _ hy
    · split
      · exact step _ (ih _) (hm _)
      · exact ih _
theorem famI_length (xs : List Int) : ∀ i, (∀ j, (famI xs i j).length ≤ 2 * i)
  | 0, _ => Nat.le_refl _
  | i + 1, j => by
    have ih := famI_length xs i
    have step : ∀ (l : List Int), (insF (xs.getD i 0) (i + 1) l).length = l.length + 1 := fun l => by
      unfold insF; split <;> simp
    rw [famI]
    unfold putF
    have h1 := ih j
    have h2 := ih (oneK (xs.getD i 0) (i + 1))
    have h3 := ih (othK (xs.getD i 0) (i + 1))
    split
    · rw [step]
      split
      · rw [step]; (first | lia | omega)
      · (first | lia | omega)
    · split
      · rw [step]; (first | lia | omega)
      · (first | lia | omega)
/-- the last of the families that holds a node is its parent's -/
theorem tabF_not {x : Int} : ∀ (l : List (Addr × List Int)) (f : Int → Option Value), (∀ q ∈ l, x ∉ q.2) → tabF l f x = f x
  | [], f, _ => rfl
  | (a, es) :: l, f, h => by
    rw [tabF, tabF_not l _ fun q hq => h q (.tail _ hq), if_neg (h (a, es) (.head _))]
theorem tabF_last {x : Int} {a : Addr} {es : List Int} (hx : x ∈ es) : ∀ (l1 l2 : List (Addr × List Int)) (f : Int → Option Value), (∀ q ∈ l2, x ∉ q.2) → tabF (l1 ++ (a, es) :: l2) f x = some (.ref a)
  | [], l2, f, h => by
    show tabF l2 _ x = _
    rw [tabF_not l2 _ h, if_pos hx]
  | (b, fs) :: l1, l2, f, h => by
    show tabF (l1 ++ (a, es) :: l2) _ x = _
    exact tabF_last hx l1 l2 _ h
theorem hand_split (b : Bool) {N q : Nat} (hq : q < N) : ∃ l1 l2, handL b N = l1 ++ q :: l2 ∧ ∀ j ∈ l2, if b then j < q else q < j := by
  have e : List.range N = List.range q ++ q :: (List.range (N - (q + 1))).map (q + 1 + ·) := by
    have h1 : N = q + 1 + (N - (q + 1)) := by (first | lia | omega)
    conv => lhs; rw [h1]
    rw [List.range_add, List.range_succ, List.append_assoc]; rfl
  cases b with
  | false =>
    refine ⟨List.range q, (List.range (N - (q + 1))).map (q + 1 + ·), e, fun j hj => ?_⟩
    obtain ⟨i, -, rfl⟩ := List.mem_map.mp hj
    show q < _
    (first | lia | omega)
  | true =>
    refine ⟨((List.range (N - (q + 1))).map (q + 1 + ·)).reverse, (List.range q).reverse, ?_, fun j hj => ?_⟩
    · show (List.range N).reverse = _
      rw [e, List.reverse_append, List.reverse_cons, List.append_assoc]; rfl
    · exact List.mem_range.mp (List.mem_reverse.mp hj)
/-- what the table says of a node -/
theorem tab_parent (b : Bool) (xs : List Int) (n : Nat) (FA : Nat → Addr) (k : Nat) (h0 : 0 < k) (hk : k ≤ n) :
    tabF ((handL b (n + 1)).map fun j => (FA j, famI xs n j)) (fun _ => none) (k : Int) = some (.ref (FA (pK b xs k))) := by
  have hlt := pK_lt b xs k h0
  obtain ⟨l1, l2, e, h2⟩ := hand_split b (N := n + 1) (q := pK b xs k) (by (first | lia | omega))
  have ep : pK b xs k = parK b (xs.getD (k - 1) 0) k := by unfold pK; rw [if_neg (by (first | lia | omega))]
  rw [e, List.map_append, List.map_cons]
  refine tabF_last ((famI_mem xs n _ _).mpr ⟨k, rfl, h0, hk, ?_⟩) _ _ _ ?_
  · rw [ep]; unfold parK; split <;> (first | lia | omega)
  · intro q hq
    obtain ⟨j, hj, rfl⟩ := List.mem_map.mp hq
    have hj := h2 j hj
    intro hm
    obtain ⟨k', e', -, -, h4⟩ := (famI_mem xs n _ _).mp hm
    obtain rfl : k = k' := by (first | lia | omega)
    rw [ep] at hj
    unfold parK at hj
    split at hj
    · (first | lia | omega)
    · (first | lia | omega)
theorem tab_root (b : Bool) (xs : List Int) (n : Nat) (FA : Nat → Addr) : tabF ((handL b (n + 1)).map fun j => (FA j, famI xs n j)) (fun _ => none) 0 = none := by
  rw [tabF_not]
  intro q hq hm
  obtain ⟨j, -, rfl⟩ := List.mem_map.mp hq
  obtain ⟨k, e, h, -⟩ := (famI_mem xs n _ _).mp hm
  (first | lia | omega)
end Mine
end
section
open PySem PySem.W PySem.Calls PyProof.Rows
set_option Elab.async false
set_option maxRecDepth 100000
set_option maxHeartbeats 2000000
namespace Mine
/-- the row that reduce holds after t steps -/
noncomputable def redT (p : Nat → Nat) (ks : List Nat) (d : Nat) : Nat → List Int
  | 0 => [(d : Int)]
  | t + 1 => redT p ks d t ++ [((way p (((redT p ks d t).getLastD 0).toNat)).take (cp (way p (((redT p ks d t).getLastD 0).toNat)) (way p (ks.getD t 0)))).getLastD 0]
/-- where t ways and a first part -/
noncomputable def mt (p : Nat → Nat) (a : Nat) (ks : List Nat) : Nat → Nat
  | 0 => a
  | t + 1 => meet p (mt p a ks t) (ks.getD t 0)
theorem map_inj {f : Int → Int} (inj : ∀ x y, 0 ≤ x → 0 ≤ y → f x = f y → x = y) : ∀ (xs ys : List Int), (∀ x ∈ xs, 0 ≤ x) → (∀ y ∈ ys, 0 ≤ y) → xs.map f = ys.map f → xs = ys
  | [], [], _, _, _ => rfl
  | [], _ :: _, _, _, h => by simp at h
  | _ :: _, [], _, _, h => by simp at h
  | a :: xs, b :: ys, h1, h2, h => by
    rw [List.map_cons, List.map_cons] at h
    injection h with e1 e2
    rw [inj a b (h1 a (.head _)) (h2 b (.head _)) e1, map_inj inj xs ys (fun x hx => h1 x (.tail _ hx)) (fun y hy => h2 y (.tail _ hy)) e2]
theorem allB_all {l : List Nat} (g : Nat → Bool) : allB (fun i => g (l.getD i 0)) l.length = l.all g := by
  rw [Bool.eq_iff_iff, allB_iff, List.all_eq_true]
  constructor
  · intro h x hx
    obtain ⟨i, hi, e⟩ := List.getElem_of_mem hx
    have := h i hi
    rwa [List.getD_eq_getElem?_getD, List.getElem?_eq_getElem hi, e] at this
  · intro h i hi
    rw [List.getD_eq_getElem?_getD, List.getElem?_eq_getElem hi]
    exact h _ (List.getElem_mem hi)
theorem anyB_any {l : List Nat} (g : Nat → Bool) : anyB (fun i => g (l.getD i 0)) l.length = l.any g := by
  rw [Bool.eq_iff_iff, anyB_iff, List.any_eq_true]
  constructor
  · rintro ⟨i, hi, h⟩
    refine ⟨l[i], List.getElem_mem hi, ?_⟩
    rwa [List.getD_eq_getElem?_getD, List.getElem?_eq_getElem hi] at h
  · rintro ⟨x, hx, h⟩
    obtain ⟨i, hi, e⟩ := List.getElem_of_mem hx
    refine ⟨i, hi, ?_⟩
    rw [List.getD_eq_getElem?_getD, List.getElem?_eq_getElem hi, Option.getD_some, e]
    exact h
section
variable {p : Nat → Nat} (hp : ∀ k, 0 < k → p k < k)
include hp
theorem way_last (a : Nat) : (way p a).getD ((way p a).length - 1) 0 = a := by
  rcases Nat.eq_zero_or_pos a with rfl | ha
  · rfl
  · rw [way_step p hp a ha, List.length_append, List.length_singleton, Nat.add_sub_cancel, getD_last]
theorem way_lastD (a : Nat) : (way p a).getLastD 0 = a := by
  rcases Nat.eq_zero_or_pos a with rfl | ha
  · rfl
  · rw [way_step p hp a ha, List.getLastD_concat]
theorem way_pos (a : Nat) : ∀ x ∈ way p a, 0 ≤ x := fun x hx => by
  obtain ⟨k, rfl, -⟩ := way_mem p hp hx
  omega
theorem way_inj {a b : Nat} (h : way p a = way p b) : a = b := by
  have h1 := way_lastD hp a
  rw [h, way_lastD hp b] at h1
  omega
theorem mt_le (a : Nat) (ks : List Nat) : ∀ t, mt p a ks t ≤ a
  | 0 => Nat.le_refl _
  | t + 1 => Nat.le_trans (meet_le p hp _ _).1 (mt_le a ks t)
theorem onW_mt (k a : Nat) (ks : List Nat) : ∀ t, onW p k (mt p a ks t) = (onW p k a && allB (fun i => onW p k (ks.getD i 0)) t)
  | 0 => by rw [mt, allB, Bool.and_true]
  | t + 1 => by rw [mt, onW_meet p hp, onW_mt k a ks t, allB, Bool.and_assoc]
/-- found: what reduce holds -/
theorem redT_mt (a : Nat) (ks : List Nat) : ∀ t, redT p ks a t = (List.range (t + 1)).map fun i => (mt p a (a :: ks) (i + 1) : Int)
  | 0 => by
    show [(a : Int)] = [((meet p a a : Nat) : Int)]
    rw [meet_self p hp]
  | t + 1 => by
    have ih := redT_mt a ks t
    have e : (redT p ks a t).getLastD 0 = (mt p a (a :: ks) (t + 1) : Int) := by
      rw [ih, List.range_succ, List.map_append, List.map_singleton, List.getLastD_concat]
    rw [redT, e, Int.toNat_natCast, meet_way p hp, way_lastD hp, ih, List.range_succ (n := t + 1), List.map_append, List.map_singleton]
    rfl
variable {f : Int → Int} {av : Nat → List Int} {N : Nat} (inj : ∀ x y, 0 ≤ x → 0 ≤ y → f x = f y → x = y) (hav : ∀ k, k < N → av k = (way p k).map f)
include inj hav
theorem av_inj {a b : Nat} (ha : a < N) (hb : b < N) (h : av a = av b) : a = b := by
  rw [hav a ha, hav b hb] at h
  exact way_inj hp (map_inj inj _ _ (way_pos hp a) (way_pos hp b) h)
theorem comT_mt {a : Nat} {ks : List Nat} (ha : a < N) (hks : ∀ k ∈ ks, k < N) : ∀ t, t ≤ ks.length → comT (av a) av ks t = (way p (mt p a ks t)).map f
  | 0, _ => hav a ha
  | t + 1, h => by
    have hk := getD_lt hks (i := t) (by omega)
    rw [comT, comT_mt ha hks t (by omega), hav _ hk, cp_map f _ _ (fun x hx y hy e => inj x y (way_pos hp _ x hx) (way_pos hp _ y hy) e), ← List.map_take, meet_way p hp]
    rfl
variable (habs : ∀ k : Nat, (f k).natAbs = k)
include habs
theorem holT_mt {a : Nat} {ks : List Nat} (ha : a < N) (hks : ∀ k ∈ ks, k < N) : ∀ t, t ≤ ks.length → holT (av a) av ks t = (List.range t).map fun i => (mt p a ks (i + 1) : Int)
  | 0, _ => rfl
  | t + 1, h => by
    have h0 : f 0 = 0 := by have := habs 0; simpa using this
    rw [holT, holT_mt ha hks t (by omega), comT_mt hp inj hav ha hks (t + 1) h, List.length_map, getD_map f h0, way_last hp, habs, List.range_succ, List.map_append]
    rfl
theorem found_is {a : Nat} {ks : List Nat} (ha : a < N) (hks : ∀ k ∈ ks, k < N) : holT (av a) av (a :: ks) (ks.length + 1) = redT p ks a ks.length := by
  rw [redT_mt hp]
  exact holT_mt hp inj hav habs ha (ks := a :: ks) (fun k hk => by rcases List.mem_cons.mp hk with rfl | hk; exact ha; exact hks k hk) _ (Nat.le_refl _)
omit habs
theorem common_len {a : Nat} {ks : List Nat} (ha : a < N) (hks : ∀ k ∈ ks, k < N) (hm : a ∈ ks) : (comT (av a) av ks ks.length).length = cnt (fun k => ks.all (onW p k)) N := by
  rw [comT_mt hp inj hav ha hks _ (Nat.le_refl _), List.length_map, way_cnt p hp N _ (Nat.lt_of_le_of_lt (mt_le hp a ks _) ha)]
  refine sumN_congr fun k _ => ?_
  dsimp only
  rw [onW_mt hp, allB_all (onW p k)]
  cases q : ks.all (onW p k) with
  | false => rw [Bool.and_false]
  | true => rw [List.all_eq_true.mp q a hm]; rfl
theorem common_pos {a : Nat} {ks : List Nat} (ha : a < N) (hks : ∀ k ∈ ks, k < N) (t : Nat) (ht : t ≤ ks.length) : 0 < (comT (av a) av ks t).length := by
  rw [comT_mt hp inj hav ha hks t ht, List.length_map]
  exact (way_len p hp _).2
/-- nodes below one node stand together in order -/
theorem between {i j l k : Nat} (hi : i < N) (hj : j < N) (hl : l < N) (h1 : rankN av N i ≤ rankN av N j) (h2 : rankN av N j ≤ rankN av N l) (h3 : onW p k i = true) (h4 : onW p k l = true) : onW p k j = true := by
  have e1 := rank_lt av N hj hi
  rw [decide_eq_false (by omega), hav _ hj, hav _ hi] at e1
  have e2 := rank_lt av N hl hj
  rw [decide_eq_false (by omega), hav _ hj, hav _ hl] at e2
  obtain ⟨-, q1⟩ := onW_pre p hp h3
  obtain ⟨-, q2⟩ := onW_pre p hp h4
  have s1 : (way p i).map f = (way p k).map f ++ ((way p i).drop (way p k).length).map f := by
    rw [← List.map_append]
    conv => rhs; rw [q1]
    rw [show (List.take (way p k).length (way p i)).length = (way p k).length from by rw [← q1], List.take_append_drop]
  have s2 : (way p l).map f = (way p k).map f ++ ((way p l).drop (way p k).length).map f := by
    rw [← List.map_append]
    conv => rhs; rw [q2]
    rw [show (List.take (way p k).length (way p l)).length = (way p k).length from by rw [← q2], List.take_append_drop]
  rw [s1] at e1
  rw [s2] at e2
  have := lex_between _ _ _ _ e1 e2
  rw [List.length_map, ← List.map_take] at this
  have := map_inj inj _ _ (fun x hx => way_pos hp j x (List.mem_of_mem_take hx)) (way_pos hp k) this
  exact onW_of_pre p hp this.symm
end
end Mine
end
section
open PySem PySem.W PySem.Calls PyProof.Rows
set_option Elab.async false
set_option maxRecDepth 100000
set_option maxHeartbeats 2000000
namespace Mine
/-- a row, as a permutation lays it out -/
noncomputable def lay1 (rs : List Nat) (q : Array Nat) : List Nat := q.toList.map fun i => rs.getD i 0
theorem map_range (rs : List Nat) : (List.range rs.length).map (fun i => rs.getD i 0) = rs := by
  refine List.ext_getElem (by simp) fun i h1 h2 => ?_
  rw [List.getElem_map, List.getElem_range, List.getD_eq_getElem?_getD, List.getElem?_eq_getElem h2]; rfl
theorem lay1_perm {rs : List Nat} {q : Array Nat} (h : Pm rs.length q) : (lay1 rs q).Perm rs := by
  have := ((Array.perm_iff_toList_perm.mp h).map fun i => rs.getD i 0)
  rw [show (List.toArray (List.range rs.length)).toList = List.range rs.length from rfl, map_range] at this
  exact this
theorem lay1_len {rs : List Nat} {q : Array Nat} (h : Pm rs.length q) : (lay1 rs q).length = rs.length := (lay1_perm h).length_eq
theorem lay1_get {rs : List Nat} {q : Array Nat} (h : Pm rs.length q) {i : Nat} (hi : i < rs.length) : (lay1 rs q).getD i 0 = rs.getD (q.getD i 0) 0 := by
  have hs := h.size
  unfold lay1
  rw [List.getD_eq_getElem?_getD, List.getElem?_map, List.getElem?_eq_getElem (by simpa [hs] using hi)]
  simp [Array.getD, hs, hi]
theorem lay1_sorted {rs : List Nat} {q : Array Nat} {R : Nat → Int} (h : Pm rs.length q) (hs : Srt (fun i => R (rs.getD i 0)) q rs.length) {i j : Nat} (hij : i ≤ j) (hj : j < rs.length) : R ((lay1 rs q).getD i 0) ≤ R ((lay1 rs q).getD j 0) := by
  rw [lay1_get h (by omega), lay1_get h hj]
  exact hs i j hij hj
theorem lay1_pairwise {rs : List Nat} {q : Array Nat} {R : Nat → Int} (h : Pm rs.length q) (hs : Srt (fun i => R (rs.getD i 0)) q rs.length) : (lay1 rs q).Pairwise (fun a b => R a ≤ R b) := by
  rw [List.pairwise_iff_getElem]
  intro i j hi hj hij
  have := lay1_sorted h hs (i := i) (j := j) (by omega) (by rw [← lay1_len h]; exact hj)
  rwa [List.getD_eq_getElem?_getD, List.getElem?_eq_getElem hi, List.getD_eq_getElem?_getD, List.getElem?_eq_getElem hj] at this
section
variable {p : Nat → Nat} (hp : ∀ k, 0 < k → p k < k)
variable {f : Int → Int} {av : Nat → List Int} {N : Nat} (inj : ∀ x y, 0 ≤ x → 0 ≤ y → f x = f y → x = y) (hav : ∀ k, k < N → av k = (way p k).map f)
include hp inj hav
/-- both sorts answer the same row -/
theorem sorts_same {rs : List Nat} {q1 q2 : Array Nat} (hrs : ∀ k ∈ rs, k < N) (h1 : Pm rs.length q1) (s1 : Srt (fun i => rankN av N (rs.getD i 0)) q1 rs.length) (h2 : Pm rs.length q2) (s2 : Srt (fun i => rankN av N (rs.getD i 0)) q2 rs.length) :
    lay1 rs q1 = lay1 rs q2 := by
  have m1 := fun k hk => hrs k ((lay1_perm h1).mem_iff.mp hk)
  have m2 := fun k hk => hrs k ((lay1_perm h2).mem_iff.mp hk)
  refine List.Perm.eq_of_pairwise (le := fun a b => rankN av N a ≤ rankN av N b) (fun a b ha hb l1 l2 => ?_) (lay1_pairwise h1 s1) (lay1_pairwise h2 s2) ((lay1_perm h1).trans (lay1_perm h2).symm)
  exact av_inj hp inj hav (m1 a ha) (m2 b hb) (rank_eq av N (m1 a ha) (m2 b hb) (by omega))
/-- whether a node is in a row of above, either way -/
noncomputable def sideV (av : Nat → List Int) (k g : Nat) : Bool := decide ((k : Int) ∈ av g) || decide (-(k : Int) ∈ av g)
variable (habs : ∀ k : Nat, (f k).natAbs = k)
include habs
omit inj in
theorem side_is (k : Nat) {g : Nat} (hg : g < N) : sideV av k g = onW p k g := by
  unfold sideV onW
  rw [hav g hg, Bool.eq_iff_iff, Bool.or_eq_true, decide_eq_true_eq, decide_eq_true_eq, decide_eq_true_eq, List.mem_map, List.mem_map]
  have back : ∀ x, x ∈ way p g → ∀ j : Nat, (f x).natAbs = j → x = j := fun x hx j e => by
    obtain ⟨y, rfl, -⟩ := way_mem p hp hx
    rw [habs] at e; omega
  constructor
  · rintro (⟨x, hx, e⟩ | ⟨x, hx, e⟩)
    · rw [← back x hx k (by omega)]; exact hx
    · rw [← back x hx k (by omega)]; exact hx
  · intro h
    have := habs k
    by_cases e : 0 ≤ f k
    · exact .inl ⟨k, h, by omega⟩
    · exact .inr ⟨k, h, by omega⟩
/-- least, and the round of told -/
theorem least_is {rs : List Nat} {q : Array Nat} (hrs : ∀ k ∈ rs, k < N) (hm : 0 < rs.length) (h1 : Pm rs.length q) (s1 : Srt (fun i => rankN av N (rs.getD i 0)) q rs.length) :
    roadsum p (lay1 rs q) (lay1 rs q).length = 2 * ((cnt (fun k => rs.any (sideV av k)) N : Int) - (comT (av ((lay1 rs q).getD ((lay1 rs q).length - 1) 0)) av (lay1 rs q).reverse (lay1 rs q).length).length) := by
  have hl := lay1_len h1
  have m1 := fun k hk => hrs k ((lay1_perm h1).mem_iff.mp hk)
  have ha : (lay1 rs q).getD ((lay1 rs q).length - 1) 0 < N := getD_lt m1 (by omega)
  rw [roads_sorted hp m1 (by omega) fun k i j l h2 h3 h4 h5 h6 => between hp inj hav (getD_lt m1 (by omega)) (getD_lt m1 (by omega)) (getD_lt m1 h4)
    (lay1_sorted h1 s1 (by omega) (by omega)) (lay1_sorted h1 s1 (by omega) (by omega)) h5 h6]
  have e1 := common_len hp inj hav (a := (lay1 rs q).getD ((lay1 rs q).length - 1) 0) (ks := (lay1 rs q).reverse) ha (fun k hk => m1 k (List.mem_reverse.mp hk)) (by
    rw [List.mem_reverse, List.getD_eq_getElem?_getD, List.getElem?_eq_getElem (by omega)]
    exact List.getElem_mem _)
  rw [List.length_reverse] at e1
  rw [e1]
  have e2 : cnt (fun k => anyB (fun i => onW p k ((lay1 rs q).getD i 0)) (lay1 rs q).length) N = cnt (fun k => rs.any (sideV av k)) N := sumN_congr fun k _ => by
    dsimp only
    rw [anyB_any (onW p k), Bool.eq_iff_iff.mpr (show (lay1 rs q).any (onW p k) = true ↔ rs.any (sideV av k) = true from ?_)]
    rw [List.any_eq_true, List.any_eq_true]
    constructor
    · rintro ⟨x, hx, e⟩
      have hx := (lay1_perm h1).mem_iff.mp hx
      exact ⟨x, hx, by rw [side_is hp hav habs k (hrs x hx)]; exact e⟩
    · rintro ⟨x, hx, e⟩
      exact ⟨x, (lay1_perm h1).mem_iff.mpr hx, by rw [← side_is hp hav habs k (hrs x hx)]; exact e⟩
  have e3 : cnt (fun k => allB (fun i => onW p k ((lay1 rs q).getD i 0)) (lay1 rs q).length) N = cnt (fun k => (lay1 rs q).reverse.all (onW p k)) N := sumN_congr fun k _ => by
    dsimp only
    rw [allB_all (onW p k), List.all_reverse]
  rw [e2, e3]
/-- turns, and the round of row -/
theorem turns_is {rs : List Nat} (hrs : ∀ k ∈ rs, k < N) : roadsum p rs rs.length = (sumN (fun k => chg (fun i => sideV av k (rs.getD i 0)) rs.length rs.length) N : Nat) := by
  rw [roads_chg hp hrs _ (Nat.le_refl _)]
  refine congrArg _ (sumN_congr fun k _ => ?_)
  have : ∀ j, j ≤ rs.length → chg (fun i => onW p k (rs.getD i 0)) rs.length j = chg (fun i => sideV av k (rs.getD i 0)) rs.length j := fun j => by
    induction j with
    | zero => intro _; rfl
    | succ j ih =>
      intro h
      have h1 : (if j = 0 then rs.length - 1 else j - 1) < rs.length := by split <;> omega
      rw [chg, chg, ih (by omega)]
      rw [side_is hp hav habs k (getD_lt hrs h1), side_is hp hav habs k (getD_lt hrs (show j < rs.length by omega))]
  exact this _ (Nat.le_refl _)
end
/-- the row's numbers are nodes -/
theorem rowI_nat (xs : List Int) : ∀ n, ∃ rs : List Nat, rowI xs n = rs.map (fun k : Nat => (k : Int)) ∧ rs.length = n ∧ ∀ k ∈ rs, k < n + 1
  | 0 => ⟨[], rfl, rfl, fun _ h => nomatch h⟩
  | i + 1 => by
    obtain ⟨rs, e, hl, h⟩ := rowI_nat xs i
    have h1 := Int.emod_nonneg (xs.getD i 0) (show ((i + 1 + 1 : Nat) : Int) ≠ 0 by omega)
    have h2 := Int.emod_lt_of_pos (xs.getD i 0) (show (0 : Int) < ((i + 1 + 1 : Nat) : Int) by omega)
    refine ⟨(xs.getD i 0 % ((i + 1 + 1 : Nat) : Int)).toNat :: rs, ?_, by rw [List.length_cons, hl], fun k hk => ?_⟩
    · rw [rowI, List.map_cons, e, Int.toNat_of_nonneg h1]
    · rcases List.mem_cons.mp hk with rfl | hk
      · omega
      · have := h k hk; omega
end Mine
end
section
open PySem PySem.W PySem.Calls PyProof.Rows
set_option Elab.async false
set_option maxRecDepth 100000
set_option maxHeartbeats 2000000
namespace Mine
section
variable {prog : Program} {w : World} {A : Around} {E : Value → Shared → Prop} {s : Shared} {h₀ : Heap} {L : Addr} {m : Str → Option Value} {env : Env}
/-- where such a comprehension's range comes from -/
inductive CapSrc (s : Shared) (h₀ : Heap) (L : Addr) (m : Str → Option Value) (n : Nat) (J : List (Addr × Obj) → Prop) (xv : Value) (s₁ : Shared) : Prop
  | mk : ∀ (h₁ : Heap) (tk₁ : Nat) (r : Addr) (t u v : Tok) (news : List (Addr × Obj)), s₁ = { s with heap := h₁, toks := tk₁ } → xv = .ref r → St h₀ L h₁ m news → IsRange h₁ r 0 n 1 t u v → J news → CapSrc s h₀ L m n J xv s₁
/-- how its element comes back -/
inductive CapBack (s : Shared) (h₀ : Heap) (L : Addr) (m : Str → Option Value) (pre : List (Addr × Obj)) (J : List (Addr × Obj) → Prop) (s' : Shared) : Prop
  | mk : ∀ (h' : Heap) (tk' : Nat) (news' : List (Addr × Obj)), s' = { s with heap := h', toks := tk' } → St h₀ L h' m (pre ++ news') → J news' → CapBack s h₀ L m pre J s'
/-- its loop, at k turns to go -/
inductive CapI (s : Shared) (h₀ : Heap) (L : Addr) (m : Str → Option Value) (n : Nat) (I D C K : Addr) (Inv : Nat → List Value → List (Addr × Obj) → Prop) (k : Nat) (s' : Shared) : Prop
  | mk : ∀ (h' : Heap) (tk i : Nat) (ys : List Value) (oK : Obj) (c : Option Value) (news' : List (Addr × Obj)), s' = { s with heap := h', toks := tk } → i ≤ n → k = n + 1 - i → ys.length = i → oK.data = .cell c →
      St h₀ L h' m ((K, oK) :: (C, { cls := .type "dict", data := .dict #[] }) :: (D, LCg.lst ys) :: (I, rit (0 + (i : Nat) * 1) ((n : Int) - (i : Nat)) 1) :: news') → Inv i ys news' → CapI s h₀ L m n I D C K Inv k s'
/-- a comprehension over a range whose name a nested one captures -/
theorem Assign_K {elt iter : Expr} {x y : Str} {px py : Pos} {scope : Scope} {cl : List (Str × Addr)} {pos spos : Pos} {n : Nat} {Q : Flow → Shared → Prop} (Inv : Nat → List Value → List (Addr × Obj) → Prop)
    (hLe : env.locals = L) (hsw : swapsWith (.ListComp elt [⟨.Name x px, iter, [], 0⟩] scope pos) (some (.Name y py)) spos.line env = pure true)
    (hy : env.kindOf y = some .local) (hp : (env.scope.kind == .class || (env.scope.kind == .module && env.locals != env.globals)) = false)
    (hclos : closureFor scope env = pure cl) (hcf : ∀ k, cellsFrom k scope.names cl = (x, k) :: cl) (hpc : ∀ h : Heap, pushCells h scope.names = h.push { cls := .type "cell", data := .cell none })
    (hkind : scope.kind = .function) (hnames : ∀ y ∈ scope.names, y.2 = .local → scope.names.lookup y.1 = some .local) (hx : ∀ C K, (compEnvC scope ((x, K) :: cl) C env).kindOf x = some .cell) (hh : A.handled = none) (hsz : n ≤ sizeLine) (hsm : Builtin.Range.small 0 n 1 = true) (hrs : Builtin.Range.rangeSize 0 (n : Int) 1 = ((n : Nat) : Int))
    (h : wpAny (model prog w) A (eval iter env) (fun xv s₁ => CapSrc s h₀ L m n (Inv 0 []) xv s₁) E s)
    (step : ∀ i ys news I oI C oC D K oK t h tk (E' : Value → Shared → Prop), i < n → Inv i ys news → oK.data = .cell (some (.int (i : Int) t)) → St h₀ L h m ((K, oK) :: (C, oC) :: (D, LCg.lst ys) :: (I, oI) :: news) →
      wpAny (model prog w) A (eval elt (compEnvC scope ((x, K) :: cl) C env)) (fun y s' => CapBack s h₀ L m [(K, oK), (C, oC), (D, LCg.lst ys), (I, oI)] (Inv (i + 1) (ys ++ [y])) s') E' { s with heap := h, toks := tk })
    (fin : ∀ ys news' D h tk, Inv n ys news' → St h₀ L h (fun z => if z = y then some (.ref D) else m z) ((D, LCg.lst ys) :: news') → Q .next { s with heap := h, toks := tk })
    (hs : ∀ x, foldedSetIterable iter env x = pure x := by intro _; rfl) :
    wpAny (model prog w) A (exec (.Assign [.Name y py] (.ListComp elt [⟨.Name x px, iter, [], 0⟩] scope pos) spos) env) Q E s := by
  subst hLe
  rw [exec_Assign_Name_used _ _ _ _ hsw]
  refine wpAny_bind (wpAny_standAt (wpAny_bind ?_))
  show wpAny _ A (do let _ ← comprehension (.ListComp elt [⟨.Name x px, iter, [], 0⟩] scope pos) scope env _ (newList []) false (eval iter env) (some (assign (.Name y py) env))) _ _ s
  refine wpAny_bind (wpAny_mono (wpAny_comprehension_free (use := some (assign (.Name y py) env)) (Q := fun _ s' => Q .next s') rfl hs hclos hkind hnames
    (wpAny_mono h (fun xv s₁ h₁ => ?_) fun _ _ e => e)) (fun _ s' hq => wpAny_pure (wpAny_pure hq)) fun _ _ e => e)
  obtain ⟨h₁, tk₁, r, t, u, v, news, rfl, rfl, S₁, hr, I0⟩ := h₁
  refine wpAny_pyIter_range hr hsm ?_
  rw [hrs]
  dsimp only
  have S₂ := S₁.cons (a := h₁.objs.size) (o := rit 0 n 1) (fun _ _ e => Heap.get?_push_of_some _ e) (Heap.get?_push_size _ rfl) (Heap.get?_none_of_le (Nat.le_refl _))
  generalize hH2 : h₁.push _ = h₂ at S₂ ⊢
  have hi2 : h₁.objs.size < h₂.objs.size := by rw [← hH2, Heap.size_push]; exact Nat.lt_succ_self _
  generalize h₁.objs.size = I at *
  refine wpAny_newObj_type ?_
  dsimp only
  have S₃ := S₂.cons (a := h₂.objs.size) (o := LCg.lst []) (fun _ _ e => Heap.get?_push_of_some _ e) (Heap.get?_push_size _ rfl) (Heap.get?_none_of_le (Nat.le_refl _))
  simp only [newFunctionEnv, Option.isSome_some, if_true]
  refine wpAny_bind (wpAny_alloc ?_)
  dsimp only
  generalize hH3 : h₂.push _ = h₃ at S₃ ⊢
  generalize h₂.objs.size = D at *
  have S₄ := S₃.cons (a := h₃.objs.size) (o := { cls := .type "dict", data := .dict #[] }) (fun _ _ e => Heap.get?_push_of_some _ e) (Heap.get?_push_size _ rfl) (Heap.get?_none_of_le (Nat.le_refl _))
  have hns := Heap.Ns.new h₃ (.type "dict")
  generalize hH4 : h₃.push _ = h₄ at S₄ hns ⊢
  generalize h₃.objs.size = C at *
  refine wpAny_bind (wpAny_layCells _ (fun name kind cells => by cases kind == NameKind.cell <;> simp) _ _ _ _ ?_)
  dsimp only
  rw [hcf, hpc]
  have S₅ := S₄.cons (a := h₄.objs.size) (o := { cls := .type "cell", data := .cell none }) (fun _ _ e => Heap.get?_push_of_some _ e) (Heap.get?_push_size _ rfl) (Heap.get?_none_of_le (Nat.le_refl _))
  generalize h₄.push _ = h₅ at S₅ ⊢
  generalize h₄.objs.size = K at *
  refine wpAny_bind (wpAny_pure (wpAny_pure ?_))
  dsimp only
  show codeAny _ _ (.compStart _ 0 (.ref I) (.ref D) (compEnvC scope ((x, K) :: cl) C env)) _ _
  have loop : ∀ s₃ : Shared, s₃ = ⟨h₅, s.gens, s.drawn, tk₁, s.os⟩ →
      codeAny (model prog w) A (.compLoop (.ListComp elt [⟨.Name x px, iter, [], 0⟩] scope pos) 0 (.ref I) (.ref D) (compEnvC scope ((x, K) :: cl) C env))
        (compPost (model prog w) A E (some (assign (.Name y py) env)) (fun _ s' => Q .next s') (.ref D) C) s₃ := by
    rintro s₃ rfl
    refine codeAny_compLoop_tests
      (CapI s h₀ env.locals m n I D C K Inv) ?_ (n + 1)
      ⟨h₅, tk₁, 0, [], _, _, news, rfl, Nat.zero_le _, rfl, rfl, rfl, by simpa using S₅, I0⟩
    rintro k s' ⟨h', tk, i, ys, oK, c, news', rfl, hi, rfl, hyl, hdK, S', I'⟩
    have W := LCg.range_walks (prog := prog) (w := w) (I := I) hh 0 n
    by_cases hlt : i < n
    · refine W.item i _ _ _ hlt (S'.N (I, _) (.tail _ (.tail _ (.tail _ (.head _))))).1 fun v h₂ tk₂ hPv hst₂ hk₂ => ?_
      obtain ⟨t', rfl⟩ := hPv
      have S2 := St.butM (pre := [(K, _), (C, _), (D, _)]) S' hk₂ hst₂
      refine wpAny_assign_Name (wpAny_storeName_cell hkind (hx C K) (by simp [compEnvC]) ⟨oK, (S2.N (K, _) (.head _)).1, hdK⟩ (fun h₃ hc₃ hs₃ => ?_))
      obtain ⟨oK', hK', hdK'⟩ := hc₃
      have S3 := St.change (pre := []) S2 hs₃ hK'
      refine wpAny_tests_nil ?_
      simp only [if_true]
      rw [Int.zero_add] at hdK'
      refine wpAny_mono (step i ys news' I _ C _ D K oK' t' h₃ _ _ hlt I' hdK' S3) (fun y s₄ h₄ => ?_) fun _ _ e => e
      obtain ⟨h₄, tk₄, news₄, rfl, S4, I4⟩ := h₄
      refine append_at (hsz := by show ys.toArray.size ≤ sizeLine; rw [List.size_toArray, hyl]; exact Nat.le_trans hi hsz) (S4.N (D, _) (.tail _ (.tail _ (.head _)))).1 fun h₅ hs₅ hD₅ => ?_
      rw [LCg.lst_snoc] at hD₅
      have S5 := St.change (pre := [(K, _), (C, _)]) S4 hs₅ hD₅
      exact ⟨n + 1 - (i + 1), by omega, h₅, tk₄, i + 1, ys ++ [y], oK', _, news₄, rfl, hlt, rfl, by rw [List.length_append, List.length_singleton, hyl], hdK', S5, I4⟩
    · obtain rfl : i = n := Nat.le_antisymm hi (Nat.not_lt.mp hlt)
      refine W.done _ _ _ (S'.N (I, _) (.tail _ (.tail _ (.tail _ (.head _))))).1 fun h₂ tk₂ hk₂ => ?_
      have S2 : St h₀ env.locals h₂ m ((K, oK) :: (C, { cls := .type "dict", data := .dict #[] }) :: (D, LCg.lst ys) :: news') := by
        have q := (S'.perm (List.perm_middle (l₁ := [(K, _), (C, _), (D, _)])))
        exact ⟨LCg.fr_but q.F hk₂ (Ne.symm (q.N _ (.head _)).2.1) (q.N _ (.head _)).2.2, fun p hp => ⟨hk₂ _ _ (by simpa using q.ne p hp) (q.N p (.tail _ hp)).1, (q.N p (.tail _ hp)).2⟩, (List.nodup_cons.mp q.D).2⟩
      show wpAny _ A (assign (.Name y py) env (.ref D)) _ _ _
      refine wpAny_assign_Name (wpAny_storeName_local hy S2.F.ns (fun h₃ hn₃ hs₃ => ?_) hp)
      have hL₀ : h₀.get? env.locals = none := Heap.get?_none_of_le S2.F.above
      have F₃ : Fr h₀ env.locals h₃ (fun z => if z = y then some (.ref D) else m z) := ⟨hn₃, fun b o e => hs₃.extBut b o (fun q => by rw [q, hL₀] at e; cases e) (S2.F.keep b o e), S2.F.above⟩
      have S3 : St h₀ env.locals h₃ (fun z => if z = y then some (.ref D) else m z) ((K, oK) :: (C, { cls := .type "dict", data := .dict #[] }) :: (D, LCg.lst ys) :: news') :=
        ⟨F₃, fun p hp => ⟨hs₃.extBut _ _ (S2.N p hp).2.1 (S2.N p hp).1, (S2.N p hp).2⟩, S2.D⟩
      have hC := S3.N (C, _) (.tail _ (.head _))
      refine ⟨_, (LCg.NsObj.ns (m := fun _ => none) ⟨#[], 0, rfl, ?_⟩ hC.1), fun h'' hs'' => ?_⟩
      · exact ⟨fun e he => by simp at he, fun name => rfl⟩
      · refine fin ys news' D h'' _ I' ?_
        have q := S3.perm (List.perm_middle (l₁ := [(K, _)]))
        exact ⟨q.F.change hs'' hC.2.1 hC.2.2, fun p hp => ⟨hs''.extBut _ _ (q.ne p (.tail _ hp)) (q.N p (.tail _ (.tail _ hp))).1, (q.N p (.tail _ (.tail _ hp))).2⟩, (List.nodup_cons.mp (List.nodup_cons.mp q.D).2).2⟩
  exact codeAny_compStart_list (loop _ rfl) ((LCg.range_walks hh 0 n).self 0 _ _ _ (S₅.N (I, _) (.tail _ (.tail _ (.tail _ (.head _))))).1 (loop _ rfl))
end
end Mine
end
section
open PySem PySem.W PySem.Calls PyProof.Rows
set_option Elab.async false
set_option maxRecDepth 100000
set_option maxHeartbeats 2000000
namespace Mine
theorem compTurn_2a (elt t1 i1 t2 i2 : Expr) (ifs : List Expr) (scope : Scope) (pos : Pos) (it acc : Value) (env : Env) :
    compTurn (.ListComp elt [⟨t1, i1, [], 0⟩, ⟨t2, i2, ifs, 0⟩] scope pos) 0 it acc env = (standAt i1.pos >>= fun _ => pyNext it >>= fun r => match r with
      | none => pure (.done .next)
      | some v => letOwnedTupleGo t1 it v >>= fun _ => assign t1 env v >>= fun _ =>
        eval i2 env >>= fun x => standAt i2.pos >>= fun _ => foldedSetIterable i2 env x >>= fun x => holding [x] (pyIter x) >>= fun it2 => runOwn (.compStart (.ListComp elt [⟨t1, i1, [], 0⟩, ⟨t2, i2, ifs, 0⟩] scope pos) 1 it2 acc env) env >>= fun _ =>
          again (.compLoop (.ListComp elt [⟨t1, i1, [], 0⟩, ⟨t2, i2, ifs, 0⟩] scope pos) 0 it acc env)) := by
  rfl
theorem compTurn_2b (elt t2 i2 : Expr) (g : Comprehension) (ifs : List Expr) (scope : Scope) (pos : Pos) (it acc : Value) (env : Env) :
    compTurn (.ListComp elt [g, ⟨t2, i2, ifs, 0⟩] scope pos) 1 it acc env = (do
      standAt i2.pos
      match ← pyNext it with
      | none => pure (.done .next)
      | some v =>
        letOwnedTupleGo t2 it v
        assign t2 env v
        let mut ok := true
        for c in ifs do
          if ok then ok ← isTrue c env (eval c env)
        if ok then
          (do let _ ← call (.builtin "list.append") [acc, ← eval elt env])
        again (.compLoop (.ListComp elt [g, ⟨t2, i2, ifs, 0⟩] scope pos) 1 it acc env)) := by rfl
section
variable {prog : Program} {w : World} {A : Around} {R : Result → Shared → Prop} {s : Shared}
theorem compLoop_2b {elt target iter : Expr} {g : Comprehension} {ifs : List Expr} {scope : Scope} {pos : Pos} {it acc : Value} {env : Env} (I : Nat → Shared → Prop)
    (turn : ∀ n s, I n s → wpAny (model prog w) A (pyNext it) (fun r s₁ => match r with
      | none => R (.ok .next) s₁
      | some v => wpAny (model prog w) A (assign target env v) (fun _ s₂ =>
          wpAny (model prog w) A (forIn ifs true fun c r => if r = true then do let ok ← isTrue c env (eval c env); pure (ForInStep.yield ok) else pure (ForInStep.yield r)) (fun ok s₃ =>
            if ok = true then wpAny (model prog w) A (eval elt env) (fun x s₄ =>
              wpAny (model prog w) A (call (.builtin "list.append") [acc, x]) (fun _ s₅ => ∃ m, m < n ∧ I m s₅) (notedBy (model prog w) A env fun e s' => R (.error e) s') s₄) (notedBy (model prog w) A env fun e s' => R (.error e) s') s₃
            else ∃ m, m < n ∧ I m s₃) (notedBy (model prog w) A env fun e s' => R (.error e) s') s₂) (notedBy (model prog w) A env fun e s' => R (.error e) s') s₁) (notedBy (model prog w) A env fun e s' => R (.error e) s') s)
    (n : Nat) (h : I n s) (ht : ∀ v, letOwnedTupleGo target it v = pure () := by intro _; rfl) :
    codeAny (model prog w) A (.compLoop (.ListComp elt [g, ⟨target, iter, ifs, 0⟩] scope pos) 1 it acc env) R s := by
  refine codeAny_loop rfl I (fun n s hI => ?_) n h
  show wpAny _ A ((compTurn (.ListComp elt [g, ⟨target, iter, ifs, 0⟩] scope pos) 1 it acc env).onRaise (fun x => do noteFrame x env; theTreesLotGoes x)) _ _ s
  refine wpAny_noted ?_
  rw [compTurn_2b]
  refine wpAny_bind (wpAny_standAt (wpAny_bind (wpAny_mono (turn n s hI) (fun r s₁ h₁ => ?_) fun _ _ h' => h')))
  cases r with
  | none => exact wpAny_pure h₁
  | some v =>
    refine wpAny_bind (wpAny_of_eq (ht v) ?_)
    refine wpAny_bind (wpAny_mono h₁ (fun _ s₂ h₂ => wpAny_bind (wpAny_mono h₂ (fun ok s₃ h₃ => ?_) fun _ _ h' => h')) fun _ _ h' => h')
    cases ok with
    | false => exact wpAny_pure ⟨rfl, h₃⟩
    | true =>
      exact wpAny_bind (wpAny_bind (wpAny_mono h₃ (fun x s₄ h₄ => wpAny_bind (wpAny_mono h₄ (fun _ s₅ h₅ => wpAny_pure (wpAny_pure ⟨rfl, h₅⟩)) fun _ _ h' => h')) fun _ _ h' => h'))
theorem compStart_2b {elt target iter : Expr} {g : Comprehension} {ifs : List Expr} {scope : Scope} {pos : Pos} {it acc : Value} {env : Env}
    (h0 : codeAny (model prog w) A (.compLoop (.ListComp elt [g, ⟨target, iter, ifs, 0⟩] scope pos) 1 it acc env) R s)
    (h : wpAny (model prog w) A (pyIter it) (fun it' s' => codeAny (model prog w) A (.compLoop (.ListComp elt [g, ⟨target, iter, ifs, 0⟩] scope pos) 1 it' acc env) R s')
      (notedBy (model prog w) A env fun x s' => R (.error x) s') s) :
    codeAny (model prog w) A (.compStart (.ListComp elt [g, ⟨target, iter, ifs, 0⟩] scope pos) 1 it acc env) R s := by
  refine codeAny_of_tree ?_
  show wpAny _ _ ((compStart (.ListComp elt [g, ⟨target, iter, ifs, 0⟩] scope pos) 1 it acc env).onRaise (fun x => do noteFrame x env; standAt theWindowsPlace)) _ _ s
  refine wpAny_notedAt ?_
  unfold compStart
  show wpAny _ _ (ask >>= _) _ _ s
  refine wpAny_bind (wpAny_askSetting (wpAny_ite ?_))
  split
  · first
      | exact wpAny_bind (wpAny_pure (wpAny_pure (And.intro rfl h0)))
      | exact wpAny_pure (And.intro rfl h0)
  · first
      | exact wpAny_bind (wpAny_rule (wpAny_bind (wpAny_standAt (wpAny_bind (wpAny_mono h (fun it' s' h' => wpAny_pure (And.intro rfl h')) fun _ _ x => x)))))
      | (refine wpAny_bind (wpAny_rule ?_); show wpAny _ _ (standAt iter.pos >>= _) _ _ s; exact wpAny_bind (wpAny_standAt (wpAny_bind (wpAny_mono h (fun it' s' h' => wpAny_pure (And.intro rfl h')) fun _ _ x => x))))
/-- the outer loop of two -/
theorem compLoop_2a {elt t1 i1 t2 i2 : Expr} {ifs : List Expr} {scope : Scope} {pos : Pos} {it acc : Value} {env : Env} (I : Nat → Shared → Prop)
    (turn : ∀ n s, I n s → wpAny (model prog w) A (pyNext it) (fun r s₁ => match r with
      | none => R (.ok .next) s₁
      | some v => wpAny (model prog w) A (assign t1 env v) (fun _ s₂ =>
          wpAny (model prog w) A (eval i2 env) (fun x s₃ => wpAny (model prog w) A (pyIter x) (fun it2 s₄ =>
            codeAny (model prog w) A (.compStart (.ListComp elt [⟨t1, i1, [], 0⟩, ⟨t2, i2, ifs, 0⟩] scope pos) 1 it2 acc env) (fun r s₅ => match r with | .ok _ => ∃ m, m < n ∧ I m s₅ | .error _ => False) s₄)
              (notedBy (model prog w) A env fun e s' => R (.error e) s') s₃) (notedBy (model prog w) A env fun e s' => R (.error e) s') s₂) (notedBy (model prog w) A env fun e s' => R (.error e) s') s₁) (notedBy (model prog w) A env fun e s' => R (.error e) s') s)
    (n : Nat) (h : I n s) (hf : ∀ x, foldedSetIterable i2 env x = pure x) (ht : ∀ v, letOwnedTupleGo t1 it v = pure () := by intro _; rfl) :
    codeAny (model prog w) A (.compLoop (.ListComp elt [⟨t1, i1, [], 0⟩, ⟨t2, i2, ifs, 0⟩] scope pos) 0 it acc env) R s := by
  refine codeAny_loop rfl I (fun n s hI => ?_) n h
  show wpAny _ A ((compTurn (.ListComp elt [⟨t1, i1, [], 0⟩, ⟨t2, i2, ifs, 0⟩] scope pos) 0 it acc env).onRaise (fun x => do noteFrame x env; theTreesLotGoes x)) _ _ s
  refine wpAny_noted ?_
  rw [compTurn_2a]
  refine wpAny_bind (wpAny_standAt (wpAny_bind (wpAny_mono (turn n s hI) (fun r s₁ h₁ => ?_) fun _ _ h' => h')))
  cases r with
  | none => exact wpAny_pure h₁
  | some v =>
    refine wpAny_bind (wpAny_of_eq (ht v) ?_)
    refine wpAny_bind (wpAny_mono h₁ (fun _ s₂ h₂ => ?_) fun _ _ h' => h')
    refine wpAny_bind (wpAny_mono h₂ (fun x s₃ h₃ => ?_) fun _ _ h' => h')
    refine wpAny_bind (wpAny_standAt (wpAny_bind (wpAny_of_eq (hf x) (wpAny_bind (wpAny_holding (wpAny_mono h₃ (fun it2 s₄ h₄ => ?_) fun _ _ h' => h'))))))
    refine wpAny_bind (wpAny_runOwn (codeAny_mono h₄ fun r s₅ q => ?_))
    cases r with
    | ok f => exact wpAny_pure ⟨rfl, q⟩
    | error x => exact q.elim
end
section
variable {prog : Program} {w : World} {A : Around} {E : Value → Shared → Prop} {s : Shared} {h₀ : Heap} {L : Addr} {m : Str → Option Value} {env : Env}
/-- the outer loop of two, at k turns to go -/
inductive OutI (s : Shared) (h₀ : Heap) (L : Addr) (m : Str → Option Value) (news : List (Addr × Obj)) (its : Array Value) (n2 : Nat) (b : Nat → Nat → Bool) (ax I D C : Addr) (k : Nat) (s' : Shared) : Prop
  | mk : ∀ (h' : Heap) (tk i : Nat) (ys : List Value) (oC : Obj) (m₂ : Str → Option Value) (oI : Obj), s' = { s with heap := h', toks := tk } → i ≤ its.size → k = its.size + 1 - i → ys.length = sumN (fun i => cnt (b i) n2) i → LCg.NsObj oC m₂ → (∀ h : Heap, h.get? I = some oI → h.IsListIter I ax i) →
      St h₀ L h' m ((C, oC) :: (D, LCg.lst ys) :: (I, oI) :: news) → OutI s h₀ L m news its n2 b ax I D C k s'
/-- the inner loop, likewise -/
inductive InI (s : Shared) (h₀ : Heap) (L : Addr) (m : Str → Option Value) (n2 : Nat) (bi : Nat → Bool) (before : Nat) (x : Str) (v : Value) (J C D : Addr) (rest : List (Addr × Obj)) (k : Nat) (s' : Shared) : Prop
  | mk : ∀ (h' : Heap) (tk j : Nat) (ys : List Value) (oC : Obj) (m₂ : Str → Option Value), s' = { s with heap := h', toks := tk } → j ≤ n2 → k = n2 + 1 - j → ys.length = before + cnt bi j → LCg.NsObj oC m₂ → m₂ x = some v →
      St h₀ L h' m ((J, rit (0 + (j : Nat) * 1) ((n2 : Int) - (j : Nat)) 1) :: (C, oC) :: (D, LCg.lst ys) :: rest) → InI s h₀ L m n2 bi before x v J C D rest k s'
/-- a comprehension of two loops, over a list and a range, with a test; its length -/
theorem ListComp_2 {elt iter1 iter2 c : Expr} {x y : Str} {px py : Pos} {scope : Scope} {cl : List (Str × Addr)} {pos : Pos} {n2 : Nat} {ax : Addr} {its : Array Value} {ek : Nat} {news : List (Addr × Obj)} {b : Nat → Nat → Bool} {Q : Value → Shared → Prop}
    (hclos : closureFor scope env = pure cl) (hcell : ∀ y ∈ scope.names, y.2 ≠ .cell) (hkind : scope.kind = .function) (hnames : ∀ y ∈ scope.names, y.2 = .local → scope.names.lookup y.1 = some .local)
    (hx : scope.names.lookup x = some .local) (hy : scope.names.lookup y = some .local) (hxy : x ≠ y) (hh : A.handled = none)
    (hsm : Builtin.Range.small 0 n2 1 = true) (hrs : Builtin.Range.rangeSize 0 (n2 : Int) 1 = ((n2 : Nat) : Int)) (hsz : ∀ i j, i < its.size → j ≤ n2 → sumN (fun i => cnt (b i) n2) i + cnt (b i) j ≤ sizeLine)
    (hax : (ax, listOf its ek) ∈ news)
    (h : wpAny (model prog w) A (eval iter1 env) (fun xv s₁ => ∃ h₁ tk₁, s₁ = { s with heap := h₁, toks := tk₁ } ∧ xv = .ref ax ∧ St h₀ L h₁ m news) E s)
    (hit2 : ∀ (i : Nat) v C oC m₂ l h tk (E' : Value → Shared → Prop), its[i]? = some v → LCg.NsObj oC m₂ → m₂ x = some v → (C, oC) ∈ l → (∀ q ∈ news, q ∈ l) → Fr h₀ L h m → News h₀ L h l →
      wpAny (model prog w) A (eval iter2 (compEnvC scope cl C env)) (fun xv s' => ∃ h' tk' r t u v, s' = { s with heap := h', toks := tk' } ∧ xv = .ref r ∧ Fr h₀ L h' m ∧ News h₀ L h' l ∧ IsRange h' r 0 n2 1 t u v) E' { s with heap := h, toks := tk })
    (tst : ∀ (i j : Nat) v t C oC m₂ l h tk (E' : Value → Shared → Prop), its[i]? = some v → j < n2 → LCg.NsObj oC m₂ → m₂ x = some v → m₂ y = some (.int (j : Int) t) → (C, oC) ∈ l → (∀ q ∈ news, q ∈ l) → Fr h₀ L h m → News h₀ L h l →
      wpAny (model prog w) A (isTrue c (compEnvC scope cl C env) (eval c (compEnvC scope cl C env))) (fun ok s' => ok = b i j ∧ ∃ h' tk', s' = { s with heap := h', toks := tk' } ∧ Fr h₀ L h' m ∧ News h₀ L h' l) E' { s with heap := h, toks := tk })
    (el : ∀ v C oC m₂ l h tk (E' : Value → Shared → Prop), LCg.NsObj oC m₂ → m₂ x = some v → (C, oC) ∈ l → Fr h₀ L h m → News h₀ L h l →
      wpAny (model prog w) A (eval elt (compEnvC scope cl C env)) (fun _ s' => ∃ h' tk', s' = { s with heap := h', toks := tk' } ∧ Fr h₀ L h' m ∧ News h₀ L h' l) E' { s with heap := h, toks := tk })
    (fin : ∀ ys D h tk, ys.length = sumN (fun i => cnt (b i) n2) its.size → St h₀ L h m ((D, LCg.lst ys) :: news) → Q (.ref D) { s with heap := h, toks := tk })
    (hs : ∀ x, foldedSetIterable iter1 env x = pure x := by intro _; rfl) (hs2 : ∀ C x, foldedSetIterable iter2 (compEnvC scope cl C env) x = pure x := by intro _ _; rfl) :
    wpAny (model prog w) A (eval (.ListComp elt [⟨.Name x px, iter1, [], 0⟩, ⟨.Name y py, iter2, [c], 0⟩] scope pos) env) Q E s := by
  rw [eval_ListComp]
  refine wpAny_comprehension_free (use := none) rfl hs hclos hkind hnames (wpAny_mono h (fun xv s₁ h₁ => ?_) fun _ _ e => e)
  obtain ⟨h₁, tk₁, rfl, rfl, S₁⟩ := h₁
  have hl1 := isList_at (S₁.N _ hax).1
  have hltax : ax < h₁.objs.size := Heap.lt_size (S₁.N _ hax).1
  refine wpAny_pyIter_list hl1 ?_
  dsimp only
  have S₂ := S₁.cons (a := h₁.objs.size) (o := lit ax 0) (fun _ _ e => Heap.get?_push_of_some _ e) (Heap.get?_push_size _ rfl) (Heap.get?_none_of_le (Nat.le_refl _))
  generalize h₁.push _ = h₂ at S₂ ⊢
  have W := Walks.list (prog := prog) (w := w) hh h₁.objs.size ax (Nat.ne_of_lt hltax) its
  generalize h₁.objs.size = I at *
  refine wpAny_newObj_type ?_
  dsimp only
  have S₃ := S₂.cons (a := h₂.objs.size) (o := LCg.lst []) (fun _ _ e => Heap.get?_push_of_some _ e) (Heap.get?_push_size _ rfl) (Heap.get?_none_of_le (Nat.le_refl _))
  generalize h₂.push _ = h₃ at S₃ ⊢
  generalize h₂.objs.size = D at *
  refine wpAny_newFunctionEnv hcell (by intro y hy; simp at hy) (fun h₄ hns hsb => ?_) hkind
  dsimp only at hns hsb ⊢
  obtain ⟨oC0, hC0, hoC0⟩ := LCg.ns_obj hns
  have S₄ := S₃.cons (a := h₃.objs.size) (h' := h₄) (fun b o e => hsb.extBut b o (Nat.ne_of_lt (Heap.lt_size e)) (Heap.get?_push_of_some _ e)) hC0 (Heap.get?_none_of_le (Nat.le_refl _))
  clear hns hsb
  generalize h₃.objs.size = C at *
  have ename : ∀ z, scope.names.lookup z = some .local → (compEnvC scope cl C env).kindOf z = some .local := fun z hz => lookup_relabel_local hz
  have loop : ∀ s₃ : Shared, s₃ = ⟨h₄, s.gens, s.drawn, tk₁ + ([] : List (Str × Value)).length, s.os⟩ →
      codeAny (model prog w) A (.compLoop (.ListComp elt [⟨.Name x px, iter1, [], 0⟩, ⟨.Name y py, iter2, [c], 0⟩] scope pos) 0 (.ref I) (.ref D) (compEnvC scope cl C env))
        (compPost (model prog w) A E none Q (.ref D) C) s₃ := by
    rintro s₃ rfl
    refine compLoop_2a
      (OutI s h₀ L m news its n2 b ax I D C) ?_ (its.size + 1)
      ⟨h₄, _, 0, [], _, _, _, rfl, Nat.zero_le _, rfl, rfl, hoC0, fun h e => ⟨_, e, rfl, rfl⟩, S₄⟩ (hs2 C)
    rintro k s' ⟨h', tk, i, ys, oC, m₂, oI, rfl, hi, rfl, hyl, hoC, hI, S'⟩
    by_cases hlt : i < its.size
    · refine W.item i _ _ _ hlt ⟨hI _ (S'.N (I, _) (.tail _ (.tail _ (.head _)))).1, isList_at (S'.N _ (.tail _ (.tail _ (.tail _ hax)))).1⟩ fun v h₂ tk₂ hPv hst₂ hk₂ => ?_
      obtain ⟨⟨oI2, hI2, hrI2⟩, -⟩ := hst₂
      have S2 := St.butM (pre := [(C, _), (D, _)]) S' hk₂ hI2
      refine wpAny_assign_Name (wpAny_storeName_local (ename x hx) (hoC.ns (S2.N (C, _) (.head _)).1) (fun h₃ hn₃ hs₃ => ?_) (by simp [compEnvC, relabel, hkind]))
      obtain ⟨oC3, hC3, hoC3⟩ := LCg.ns_obj hn₃
      have S3 := St.change (pre := []) S2 hs₃ hC3
      refine wpAny_mono (hit2 i v C oC3 _ _ h₃ _ _ hPv hoC3 (by simp) (.head _) (fun q hq => .tail _ (.tail _ (.tail _ hq))) S3.F S3.N) (fun xv s₄ h₄ => ?_) fun _ _ e => e
      obtain ⟨h₄, tk₄, r, t, u, v', rfl, rfl, F4, N4, hr⟩ := h₄
      have S4 := S3.fr F4 N4
      refine wpAny_pyIter_range hr hsm ?_
      rw [hrs]
      dsimp only
      have S5 := S4.cons (a := h₄.objs.size) (o := rit 0 n2 1) (fun _ _ e => Heap.get?_push_of_some _ e) (Heap.get?_push_size _ rfl) (Heap.get?_none_of_le (Nat.le_refl _))
      generalize h₄.push _ = h₅ at S5 ⊢
      generalize h₄.objs.size = J at *
      have W2 := LCg.range_walks (prog := prog) (w := w) (A := A) (I := J) hh 0 n2
      have loop2 : ∀ s₃ : Shared, s₃ = ⟨h₅, s.gens, s.drawn, tk₄, s.os⟩ →
          codeAny (model prog w) A (.compLoop (.ListComp elt [⟨.Name x px, iter1, [], 0⟩, ⟨.Name y py, iter2, [c], 0⟩] scope pos) 1 (.ref J) (.ref D) (compEnvC scope cl C env))
            (fun r s₅ => match r with | .ok _ => ∃ m', m' < its.size + 1 - i ∧ OutI s h₀ L m news its n2 b ax I D C m' s₅ | .error _ => False) s₃ := by
        rintro s₃ rfl
        refine compLoop_2b
          (InI s h₀ L m n2 (b i) (sumN (fun i => cnt (b i) n2) i) x v J C D ((I, oI2) :: news)) ?_ (n2 + 1)
          ⟨h₅, _, 0, ys, oC3, _, rfl, Nat.zero_le _, rfl, hyl, hoC3, by simp, by simpa using S5⟩
        rintro k s' ⟨h', tk, j, ys, oC, m₂, rfl, hj, rfl, hyl, hoC, hm2, S'⟩
        by_cases hltj : j < n2
        · refine W2.item j _ _ _ hltj (S'.N (J, _) (.head _)).1 fun v2 h₂ tk₂ hPv2 hst₂ hk₂ => ?_
          obtain ⟨t', rfl⟩ := hPv2
          rw [Int.zero_add]
          have S2 := S'.but hk₂ hst₂
          refine wpAny_assign_Name (wpAny_storeName_local (ename y hy) (hoC.ns (S2.N (C, _) (.tail _ (.head _))).1) (fun h₃ hn₃ hs₃ => ?_) (by simp [compEnvC, relabel, hkind]))
          obtain ⟨oC3, hC3, hoC3⟩ := LCg.ns_obj hn₃
          have S3 := St.change (pre := [(J, _)]) S2 hs₃ hC3
          refine wpAny_tests_one ?_
          have hmx : (fun z => if z = y then some (Value.int (j : Int) t') else m₂ z) x = some v := by show (if x = y then _ else _) = _; rw [if_neg hxy]; exact hm2
          refine wpAny_mono (tst i j v t' C oC3 _ _ h₃ _ _ hPv hltj hoC3 hmx (by simp) (.tail _ (.head _)) (fun q hq => .tail _ (.tail _ (.tail _ (.tail _ hq)))) S3.F S3.N) (fun ok s₄ h₄ => ?_) fun _ _ e => e
          obtain ⟨rfl, h₄, tk₄, rfl, F4, N4⟩ := h₄
          have S4 := S3.fr F4 N4
          have hc1 : cnt (b i) (j + 1) = cnt (b i) j + bn (b i j) := rfl
          cases hb : b i j with
          | false =>
            simp only [Bool.false_eq_true, if_false]
            refine ⟨n2 + 1 - (j + 1), by omega, h₄, tk₄, j + 1, ys, oC3, _, rfl, hltj, rfl, ?_, hoC3, hmx, S4⟩
            rw [hc1, hb, hyl]; rfl
          | true =>
            simp only [if_true]
            refine wpAny_mono (el v C oC3 _ _ h₄ _ _ hoC3 hmx (.tail _ (.head _)) S4.F S4.N) (fun yv s₅ h₅ => ?_) fun _ _ e => e
            obtain ⟨h₅, tk₅, rfl, F5, N5⟩ := h₅
            have S5 := S4.fr F5 N5
            refine append_at (hsz := by show ys.toArray.size ≤ sizeLine; rw [List.size_toArray, hyl]; exact hsz i j hlt hj) (S5.N (D, _) (.tail _ (.tail _ (.head _)))).1 fun h₆ hs₆ hD₆ => ?_
            rw [LCg.lst_snoc] at hD₆
            have S6 := St.change (pre := [(J, _), (C, _)]) S5 hs₆ hD₆
            refine ⟨n2 + 1 - (j + 1), by omega, h₆, tk₅, j + 1, ys ++ [yv], oC3, _, rfl, hltj, rfl, ?_, hoC3, hmx, S6⟩
            rw [hc1, hb, List.length_append, hyl]; rfl
        · obtain rfl : j = n2 := Nat.le_antisymm hj (Nat.not_lt.mp hltj)
          refine W2.done _ _ _ (S'.N (J, _) (.head _)).1 fun h₂ tk₂ hk₂ => ?_
          have z := S'.N (J, _) (.head _)
          have S2 : St h₀ L h₂ m ((C, oC) :: (D, LCg.lst ys) :: (I, oI2) :: news) :=
            ⟨LCg.fr_but S'.F hk₂ (Ne.symm z.2.1) z.2.2, fun p hp => ⟨hk₂ _ _ (by simpa using S'.ne p hp) (S'.N p (.tail _ hp)).1, (S'.N p (.tail _ hp)).2⟩, (List.nodup_cons.mp S'.D).2⟩
          exact ⟨its.size + 1 - (i + 1), by omega, h₂, tk₂, i + 1, ys, oC, m₂, oI2, rfl, hlt, rfl, by rw [hyl, sumN], hoC, fun h e => ⟨oI2, e, hrI2⟩, S2⟩
      exact compStart_2b (loop2 _ rfl) (W2.self 0 _ _ _ (by simpa using (S5.N (J, _) (.head _)).1) (loop2 _ rfl))
    · obtain rfl : i = its.size := Nat.le_antisymm hi (Nat.not_lt.mp hlt)
      refine W.done _ _ _ ⟨hI _ (S'.N (I, _) (.tail _ (.tail _ (.head _)))).1, isList_at (S'.N _ (.tail _ (.tail _ (.tail _ hax)))).1⟩ fun h₂ tk₂ hk₂ => ?_
      have q := (S'.perm (List.perm_middle (l₁ := [(C, _), (D, _)])))
      have z := q.N _ (.head _)
      have S2 : St h₀ L h₂ m ((C, oC) :: (D, LCg.lst ys) :: news) :=
        ⟨LCg.fr_but q.F hk₂ (Ne.symm z.2.1) z.2.2, fun p hp => ⟨hk₂ _ _ (by simpa using q.ne p hp) (q.N p (.tail _ hp)).1, (q.N p (.tail _ hp)).2⟩, (List.nodup_cons.mp q.D).2⟩
      have hC := S2.N (C, _) (.head _)
      refine ⟨_, hoC.ns hC.1, fun h'' hs'' => fin ys D h'' tk₂ hyl ?_⟩
      exact ⟨S2.F.change hs'' hC.2.1 hC.2.2, fun p hp => ⟨hs''.extBut _ _ (S2.ne p hp) (S2.N p (.tail _ hp)).1, (S2.N p (.tail _ hp)).2⟩, (List.nodup_cons.mp S2.D).2⟩
  exact codeAny_compStart_list (loop _ rfl) (W.self 0 _ _ _ ⟨⟨_, (S₄.N (I, _) (.tail _ (.tail _ (.head _)))).1, rfl, rfl⟩, isList_at (S₄.N _ (.tail _ (.tail _ (.tail _ hax)))).1⟩ (loop _ rfl))
end
end Mine
end
section
open PySem PySem.W PySem.Calls PyProof.Rows
set_option Elab.async false
set_option maxRecDepth 100000
set_option maxHeartbeats 2000000
namespace Mine
theorem bounds_m2 {n : Nat} (h : 2 ≤ n) : sliceBounds (some (-2)) none (some (-1)) n = (((n - 1 : Nat) : Int) - 1, -1, -1) := by
  simp only [sliceBounds, Option.getD_some, show ¬ ((-1 : Int) > 0) by decide, if_false, show ((-2 : Int) < 0) by decide, if_true]
  congr 1
  omega
theorem pick_m2 {vs : List Value} (h : 2 ≤ vs.length) : (slicePick vs.toArray (some (-2)) none (some (-1))).toList = vs.reverse.tail := by
  unfold slicePick
  rw [bounds_m2 (by rw [List.size_toArray]; exact h)]
  show (sliceRange ((((vs.toArray.size - 1 : Nat) : Int)) - 1) (-1) (-1)).filterMap (vs.toArray[·]?) = _
  rw [krv_sliceRange, krv_range, List.filterMap_reverse]
  have q := pick_run vs.toArray 0 (vs.toArray.size - 1)
  rw [show ((0 + ·) : Nat → Nat) = id from funext fun k => Nat.zero_add k, List.map_id, List.drop_zero] at q
  rw [List.tail_reverse, List.dropLast_eq_take]
  exact congrArg List.reverse q
theorem ints_tail {vs : List Value} {ns : List Int} (h : IntsAre vs ns) : IntsAre vs.tail ns.tail := by
  cases h with
  | nil => exact .nil
  | cons x t h => exact h
theorem lastD_getD (l : List Int) : l.getLastD 0 = l.getD (l.length - 1) 0 := by
  rcases List.eq_nil_or_concat l with rfl | ⟨i, x, rfl⟩
  · rfl
  · rw [List.concat_eq_append, List.getLastD_concat, List.length_append, List.length_singleton, Nat.add_sub_cancel, getD_last]
theorem drop_last1 {ds : List Nat} (h : 1 ≤ ds.length) : (ds.map fun k : Nat => (k : Int)).drop ((ds.map fun k : Nat => (k : Int)).length - (-(-1 : Int)).toNat) = [((ds.getD (ds.length - 1) 0 : Nat) : Int)] := by
  rcases List.eq_nil_or_concat ds with rfl | ⟨i, x, rfl⟩
  · simp at h
  · rw [List.concat_eq_append]
    simp
section
variable {w : World} {A : Around} {s : Shared} {pr : Program} {loose : List Str} {mg mb : Str → Option Value} {base : Heap} {L : Addr} {m : Str → Option Value} {news : List (Addr × Obj)} {Q : Flow → Shared → Prop}
/-- found = reduce(lambda held, k: held + [..], [due[-1:]] + due[-2::-1]) -/
theorem st13 {Du Ws cA0 : Addr} {dv : List Value} {ds : List Nat} {e1 e2 N : Nat} {WA : Nat → Addr} {wo : Nat → Obj} {p : Nat → Nat} {ow oa ot orw ofm : Obj} (hA : Sm A 310 1500) (G : Gd w pr loose mg mb base) (C : CodeHd base 95 93)
    (S : St base L s.heap m (lawCells L ow oa ot orw ofm ++ (93, tabObj #[rawInt 101, rawInt 26, .ref cA0]) :: news)) (how : ow.data = .cell (some (.ref Ws))) (hmd : m (Str.ofString "due") = some (.ref Du))
    (hDu : (Du, listOf dv.toArray e1) ∈ news) (idv : IntsAre dv (ds.map fun k : Nat => (k : Int))) (hd2 : 2 ≤ ds.length) (h64 : ds.length < 64) (hds : ∀ k ∈ ds, k < N) (hN : N ≤ 20)
    (hWs : (Ws, listOf ((List.range N).map fun j => Value.ref (WA j)).toArray e2) ∈ news) (hwo : ∀ j, j < N → (WA j, wo j) ∈ news) (hway : ListsAre N wo (way p)) (hp : ∀ k, 0 < k → p k < k)
    (hq : ∀ h' tk' Fo fv ef p93, St base L h' (fun y => if y = Str.ofString "found" then some (.ref Fo) else m y) (lawCells L ow oa ot orw ofm ++ (Fo, listOf (List.toArray fv) ef) :: (93, tabObj p93) :: news) → IntsAre fv (redT p ds.reverse.tail (ds.getD (ds.length - 1) 0) (ds.length - 1)) → Q .next { s with heap := h', toks := tk' }) :
    wpAny (model PySem.Challenge.rw_ij0154_01.prog w) A (exec (stF w.params 96 13) (lawEnv w.params L)) Q (fun _ _ => False) s := by
  have X := G.X
  have T := G.T
  have e96 := G.X 96 (lk w.params 96) (by kernel_rfl)
  have X0 := G.X
  revert X; k_fill; intro X
  unfold lawEnv
  rw [stF_of (X 96 _ rfl) e96 rfl rfl (i := 13) rfl, scF_of (X 96 _ rfl) e96 rfl rfl]
  clear e96
  have F := S.F
  have N0 := S.N
  refine wk (d := 310) (u := 1500) hA ?_
  generalize hn0 : lawCells L ow oa ot orw ofm ++ (93, tabObj #[rawInt 101, rawInt 26, .ref cA0]) :: news = n0 at *
  walk_at "z_ap"
  refine callWith_F (fnAt_base F (X 58 _ rfl)) ?_
  walk_at "z_ap"
  have S1 := S
  subst hn0
  have S2 := S1.perm (List.perm_middle (l₁ := lawCells L ow oa ot orw ofm))
  refine kla_eval rfl ?_
  refine lam_make S2.F S2.N S2.ne G C rfl rfl (by simp [TriplesOk, rawInt]) (by simp [codeAmong, rawInt]) rfl (fun f c' oc vsl tl ctl h5 tk5 F5 N5 hdl hvl l4 l5 l6 => ?_)
  generalize hn5 : (93, tabObj _) :: (f, _) :: (c', oc) :: (lawCells L ow oa ot orw ofm ++ news) = n5 at N5
  have mDu : (Du, listOf dv.toArray e1) ∈ n5 := by rw [← hn5]; exact .tail _ (.tail _ (.tail _ (List.mem_append_right _ hDu)))
  walk_at "z_ap"
  have hll : (ds.map fun k : Nat => (k : Int)).length = ds.length := List.length_map ..
  have hdv := idv.length
  rw [hll] at hdv
  refine slice_at F5 N5 (isList_at (N5 _ mDu).1) (.int _ _) .none (fun D6 h6 F6 N6 l7 k6 n6 => ?_) (by simp; omega)
  have i6 := kmk_from_neg (vs := dv) (ns := ds.map fun k : Nat => (k : Int)) (x := -1) idv (by decide)
  rw [drop_last1 (by omega)] at i6
  have mDu6 : (Du, listOf dv.toArray e1) ∈ (D6, listOf (slicePick dv.toArray (some (-1)) none none) 0) :: n5 := .tail _ mDu
  clear F5 N5
  walk_at "z_sl"
  rename Fr _ _ _ _ => F7
  rename News _ _ _ _ => N7
  rename_i Da h7 l7'
  refine slice3_at F7 N7 (isList_at (N7 _ (.tail _ mDu6)).1) (.int _ _) .none (.int _ _) (by decide) (pick_m2 (by omega)) (fun D8 h8 F8 N8 l8 => ?_) (by simp; omega)
  clear F7 N7
  walk_at "z_sl"
  refine kmk_add_lit (zs := Value.ref D6 :: dv.reverse.tail) F8 N8 (isList_at (N8 (Da, _) (.tail _ (.head _))).1) (isList_at (N8 _ (.head _)).1) rfl (fun D9 h9 F9 N9 l9 => ?_) (by rw [sizeLine_eq]; simp; omega)
  clear F8 N8
  walk_at "z_sl"
  refine ⟨fnAt_base F9 (X 58 _ rfl), ?_⟩
  have hfo : h9.get? f = some _ := (N9 (f, _) (.tail _ (.tail _ (.tail _ (.tail _ (by rw [← hn5]; exact .tail _ (.head _))))))).1
  have hco : h9.get? c' = some oc := (N9 (c', _) (.tail _ (.tail _ (.tail _ (.tail _ (by rw [← hn5]; exact .tail _ (.tail _ (.head _)))))))).1
  have mem9 : ∀ q ∈ lawCells L ow oa ot orw ofm ++ news, h9.get? q.1 = some q.2 := fun q hq => (N9 q (.tail _ (.tail _ (.tail _ (.tail _ (by rw [← hn5]; exact .tail _ (.tail _ (.tail _ hq)))))))).1
  have m93 : ∃ p93, (93, tabObj p93) ∈ n5 := ⟨_, by rw [← hn5]; exact .head _⟩
  obtain ⟨p93, m93⟩ := m93
  have S9 : St base L h9 m (lawCells L ow oa ot orw ofm ++ (93, tabObj p93) :: news) := (⟨F9, fun q hq => by
    rcases List.mem_cons.mp hq with rfl | hq
    · exact N9 _ (.tail _ (.tail _ (.tail _ (.tail _ m93))))
    · exact N9 q (.tail _ (.tail _ (.tail _ (.tail _ (by rw [← hn5]; exact .tail _ (.tail _ (.tail _ hq))))))), S2.D⟩ : St base L h9 m ((93, tabObj p93) :: (lawCells L ow oa ot orw ofm ++ news))).perm (List.perm_middle (l₁ := lawCells L ow oa ot orw ofm)).symm
  have hD6 : h9.get? D6 = some _ := (N9 (D6, _) (.tail _ (.tail _ (.tail _ (.head _))))).1
  have hcw : h9.get? (L + 1 + 1 + 1 + 1 + 1) = some ow := mem9 (_, ow) (List.mem_append_left _ (by walk_at "z_mem"))
  have hW9 : h9.IsList Ws ((List.range N).map fun j => Value.ref (WA j)).toArray := isList_at (mem9 _ (List.mem_append_right _ hWs))
  have aN : ds.getD (ds.length - 1) 0 < N := getD_lt hds (by omega)
  have itv := ints_tail idv.reverse
  have etl : (ds.map fun k : Nat => (k : Int)).reverse.tail = ds.reverse.tail.map fun k : Nat => (k : Int) := by rw [← List.map_reverse, List.map_tail]
  rw [etl] at itv
  have ltl : ds.reverse.tail.length = ds.length - 1 := by simp
  have ltv : dv.reverse.tail.length = ds.length - 1 := by simp; omega
  have kN : ∀ i, i < ds.reverse.tail.length → ds.reverse.tail.getD i 0 < N := fun i hi => getD_lt (fun k hk => hds k (List.mem_reverse.mp (List.mem_of_mem_tail hk))) hi
  have rd := redT_mt hp (ds.getD (ds.length - 1) 0) ds.reverse.tail
  generalize ds.getD (ds.length - 1) 0 = a0 at *
  generalize ds.reverse.tail = ks at *
  have rl : ∀ i, (redT p ks a0 i).length = i + 1 := fun i => by rw [rd, List.length_map, List.length_range]
  have rg : ∀ i, ∃ x : Nat, (redT p ks a0 i).getD i 0 = (x : Int) ∧ x < N := fun i => ⟨mt p a0 (a0 :: ks) (i + 1), by rw [rd, List.getD_eq_getElem?_getD, List.getElem?_map, List.getElem?_range (by omega)]; rfl, Nat.lt_of_le_of_lt (mt_le hp a0 _ _) aN⟩
  refine wpAny_call (reduceL_spec (s := ⟨h9, s.gens, s.drawn, _, s.os⟩) (J := fun i v news' => ∃ a us e, v = .ref a ∧ IntsAre us (redT p ks a0 i) ∧ ((i = 0 ∧ h9.get? a = some (listOf (List.toArray us) e)) ∨ (a, listOf (List.toArray us) e) ∈ news')) ((sm_AM _ _).le (by decide) (by decide)) (G.keeps F9.keep) (isList_at (N9 _ (.head _)).1) (by omega)
    ⟨D6, (slicePick dv.toArray (some (-1)) none none).toList, 0, rfl, i6, .inl ⟨rfl, by rw [Array.toArray_toList]; exact hD6⟩⟩ hfo ?hcall ?hend)
  case hend =>
    rintro h' tk' v news' kk hnw ⟨a, us, e, rfl, iu, hor⟩
    rw [ltv] at iu hor
    rcases hor with ⟨h0, -⟩ | hm
    · omega
    have S10 := (S9.cons kk (hnw _ hm).1 (hnw _ hm).2)
    dsimp only
    have F10 := S10.F
    have N10 := S10.N
    clear F9 N9
    walk_at "z_gc"
    rename Fr _ _ _ _ => F11
    rename News _ _ _ _ => N11
    refine hq _ _ a us e p93 ((S10.fr F11 N11).perm (List.perm_middle (l₁ := lawCells L ow oa ot orw ofm)).symm) iu
  case hcall =>
    rintro i v x news' s' hx ⟨a, us, e, rfl, iu, hor⟩ hnw kk
    obtain ⟨hi, tx, rfl⟩ := ints_get itv hx
    have kb : ∀ b o, base.get? b = some o → s'.heap.get? b = some o := fun b o e => kk _ _ (F9.keep _ _ e)
    have hla : s'.heap.get? a = some (listOf us.toArray e) := hor.elim (fun h => kk _ _ h.2) (fun h => hnw _ h)
    have kNi := kN i hi
    have rli := rl i
    obtain ⟨x, hgx, hxN⟩ := rg i
    have hul := iu.length
    refine wpAny_call (enterL (d := 510) (u := 2550) (s := s') (binds := [(Str.ofString "held", .ref a), (Str.ofString "k", .int ((ks.getD i 0 : Nat) : Int) tx)]) ⟨rfl, Nat.le_of_ble_eq_true rfl, Nat.le_of_ble_eq_true rfl⟩ (by decide) (kk _ _ hfo) rfl (T.keeps kb).nolimit ⟨c', oc, vsl, tl, rfl, kk _ _ hco, hdl, hvl⟩ (BindsTo.of_eq rfl) (by decide) (locs rfl) (fun h₁ F10 => ?_))
    generalize hm : (fun y => List.lookup y (List.reverse [(Str.ofString "held", Value.ref a), (Str.ofString "k", Value.int ((ks.getD i 0 : Nat) : Int) tx)])) = m10 at F10
    have m1 : m10 (Str.ofString "held") = some (.ref a) := by rw [← hm]; rfl
    have m2 : m10 (Str.ofString "k") = some (.int ((ks.getD i 0 : Nat) : Int) tx) := by rw [← hm]; rfl
    clear hm
    generalize s'.heap.objs.size = L10 at F10 ⊢
    have N10 : News s'.heap L10 h₁ [] := News.nil
    have X10 := X.keeps kb
    have X11 := X0.keeps kb
    have T10 := T.keeps kb
    have hcw' := kk _ _ hcw
    have hWx : s'.heap.IsList Ws ((List.range N).map fun j => Value.ref (WA j)).toArray := let ⟨o, e, r⟩ := hW9; ⟨o, kk _ _ e, r⟩
    obtain ⟨wx, ex, hex, iwx⟩ := hway x hxN
    obtain ⟨wk', ek, hek, iwk⟩ := hway _ kNi
    have hwx := kk _ _ (mem9 _ (List.mem_append_right _ (hwo x hxN)))
    have hwk := kk _ _ (mem9 _ (List.mem_append_right _ (hwo _ kNi)))
    dsimp only at hwx hwk
    rw [hex] at hwx
    rw [hek] at hwk
    have lwx := way_len p hp x
    have lwk := way_len p hp (ks.getD i 0)
    have hcp := cp_pos p hp x (ks.getD i 0)
    have hcl := cp_le (way p x) (way p (ks.getD i 0))
    generalize s'.toks + _ = tk10 at *
    clear F9 N9
    walk_at "z_sl"
    refine callWith_F (fnAt_base F10 (X10 77 _ rfl)) ?_
    walk_at "z_sl"
    refine it_wrap (i := i) (F10.lst (isList_at hla)) iu (.inr ⟨by decide, by omega⟩) (by omega) (by omega) fun t6 => ?_
    rw [hgx]
    walk_at "z_sl"
    refine it_ref (F10.lst hWx) hxN hN ?_
    walk_at "z_sl"
    refine it_ref (F10.lst hWx) kNi hN ?_
    walk_at "z_sl"
    refine ⟨fnAt_base F10 (X10 77 _ rfl), ?_⟩
    refine wpAny_call (shared_spec ((sm_AM _ _).le (by decide) (by decide)) (X11.keeps F10.keep) (T10.keeps F10.keep) (F10.lst (isList_at hwx)) iwx (F10.lst (isList_at hwk)) iwk (by omega) (by omega) fun h5 tk5 r k5 hr5 fr5 => ?_)
    dsimp only
    have F11 := F10.keeps k5
    have N11 := news_cons (N10.grown k5) hr5 (fr_none F10 fr5)
    have ic5 : IntsAre (wx.take (cp (way p x) (way p (ks.getD i 0)))) ((way p x).take (cp (way p x) (way p (ks.getD i 0)))) := iwx.take _
    have lc5 : ((way p x).take (cp (way p x) (way p (ks.getD i 0)))).length = cp (way p x) (way p (ks.getD i 0)) := by rw [List.length_take]; omega
    have eT : redT p ks a0 (i + 1) = redT p ks a0 i ++ [((way p x).take (cp (way p x) (way p (ks.getD i 0)))).getD (((way p x).take (cp (way p x) (way p (ks.getD i 0)))).length - 1) 0] := by
      rw [redT, lastD_getD (redT p ks a0 i), rli, Nat.add_sub_cancel, hgx, Int.toNat_natCast, lastD_getD]
    clear F10 N10
    generalize (way p x).take (cp (way p x) (way p (ks.getD i 0))) = ct at *
    walk_at "z_sl"
    refine it_wrap (i := ct.length - 1) (isList_at hr5) ic5 (.inr ⟨by decide, by omega⟩) (by omega) (by omega) fun t7 => ?_
    walk_at "z_sl"
    rename Fr _ _ _ _ => F12
    rename News _ _ _ _ => N12
    refine kmk_add_ints F12 N12 (F12.lst (isList_at hla)) (isList_at (N12 _ (.head _)).1) iu (.cons _ _ .nil) (fun D13 us13 h13 F13 N13 l13 iu13 => ?_) (by rw [sizeLine_eq]; simp; omega)
    dsimp only
    refine ⟨h13, _, [(D13, listOf us13.toArray 0)], rfl, F13.keep, fun p hp => ?_, D13, us13, 0, rfl, by rw [eT]; exact iu13, .inr (.head _)⟩
    rcases List.mem_cons.mp hp with rfl | hp
    · exact ⟨(N13 _ (.head _)).1, (N13 _ (.head _)).2.2⟩
    · cases hp
end
end Mine
end
section
open PySem PySem.W PySem.Calls PyProof.Rows
set_option Elab.async false
set_option maxRecDepth 100000
set_option maxHeartbeats 2000000
namespace Mine
theorem in_mem {prog : Program} {w : World} {A : Around} {E : Value → Shared → Prop} {s : Shared} {l : Addr} {vs : List Value} {ns : List Int} {k : Int} {t : Tok} {Q : Value → Shared → Prop} (hl : s.heap.IsList l vs.toArray) (hi : IntsAre vs ns)
    (h : Q (.bool (decide (k ∈ ns))) s) : wpAny (model prog w) A (compareOp .In (.int k t) (.ref l)) Q E s := by
  refine in_list_ints hl hi ?_
  rw [show ns.any (· == k) = decide (k ∈ ns) from by
    rw [Bool.eq_iff_iff, List.any_eq_true, decide_eq_true_eq]
    exact ⟨fun ⟨x, hx, e⟩ => by rw [beq_iff_eq] at e; exact e ▸ hx, fun h => ⟨k, h, beq_self_eq_true k⟩⟩]
  exact h
section
variable {w : World} {A : Around} {s : Shared} {pr : Program} {loose : List Str} {mg mb : Str → Option Value} {base : Heap} {L : Addr} {m : Str → Option Value} {news : List (Addr × Obj)} {Q : Flow → Shared → Prop}
/-- sides = [[k in above[g] or -k in above[g] for g in row] for k in range(len(above))] -/
theorem st14 {Ab Rw : Addr} {rv : List Value} {rs : List Nat} {e1 e2 N : Nat} {AA : Nat → Addr} {ao : Nat → Obj} {av : Nat → List Int} {ow oa ot orw ofm : Obj} (hA : Sm A 310 1500) (G : Gd w pr loose mg mb base)
    (S : St base L s.heap m (lawCells L ow oa ot orw ofm ++ news)) (hoa : oa.data = .cell (some (.ref Ab))) (hor : orw.data = .cell (some (.ref Rw)))
    (hRw : (Rw, listOf rv.toArray e1) ∈ news) (irv : IntsAre rv (rs.map fun k : Nat => (k : Int))) (h64 : rs.length < 64) (hrs : ∀ k ∈ rs, k < N) (hN : N ≤ 20)
    (hAb : (Ab, listOf ((List.range N).map fun j => Value.ref (AA j)).toArray e2) ∈ news) (hao : ∀ j, j < N → (AA j, ao j) ∈ news) (hav : ListsAre N ao av) (hal : ∀ j, j < N → (av j).length ≤ 100)
    (hq : ∀ h' tk' Sd SA, St base L h' (fun y => if y = Str.ofString "sides" then some (.ref Sd) else m y) (lawCells L ow oa ot orw ofm ++ ((Sd, LCg.lst ((List.range N).map fun j => Value.ref (SA j))) :: (fam N SA (fun k => LCg.lst (rs.map fun g => Value.bool (sideV av k g))) ++ news))) → Q .next { s with heap := h', toks := tk' }) :
    wpAny (model PySem.Challenge.rw_ij0154_01.prog w) A (exec (stF w.params 96 14) (lawEnv w.params L)) Q (fun _ _ => False) s := by
  have X := G.X
  have T := G.T
  have e96 := G.X 96 (lk w.params 96) (by kernel_rfl)
  revert X; k_fill; intro X
  unfold lawEnv
  rw [stF_of (X 96 _ rfl) e96 rfl rfl (i := 14) rfl, scF_of (X 96 _ rfl) e96 rfl rfl]
  clear e96
  have F := S.F
  have N0 := S.N
  have cA : (L + 1 + 1 + 1 + 1, oa) ∈ lawCells L ow oa ot orw ofm ++ news := by walk_at "z_mem"
  have cR : (L + 1 + 1, orw) ∈ lawCells L ow oa ot orw ofm ++ news := by walk_at "z_mem"
  have cAb : (Ab, listOf ((List.range N).map fun j => Value.ref (AA j)).toArray e2) ∈ lawCells L ow oa ot orw ofm ++ news := List.mem_append_right _ hAb
  have cRw : (Rw, listOf rv.toArray e1) ∈ lawCells L ow oa ot orw ofm ++ news := List.mem_append_right _ hRw
  have cAA : ∀ j, j < N → (AA j, ao j) ∈ lawCells L ow oa ot orw ofm ++ news := fun j hj => List.mem_append_right _ (hao j hj)
  refine wk (d := 310) (u := 1500) hA ?_
  generalize hn0 : lawCells L ow oa ot orw ofm ++ news = n0 at *
  have hlN : ((List.range N).map fun j => Value.ref (AA j)).length = N := by simp
  have hlr := irv.length
  rw [List.length_map] at hlr
  walk_at "z_gc"
  refine' Assign_K (n := N) (h₀ := base) (L := L) (m := m) (fun i ys nws => ∃ sl : List (Addr × Obj), sl.length = i ∧ ys = sl.map (fun p => Value.ref p.1) ∧ nws = sl ++ n0 ∧ ∀ j, j < i → ∃ a, sl[j]? = some (a, LCg.lst (rs.map fun g => Value.bool (sideV av j g)))) ?b1 ?b2 ?b3 ?b4 ?c1 ?c2 ?c3 ?c4 ?c5 ?c6 ?c7 ?c8 ?c9 (range_size N) ?it ?step ?fin ?hs
  case b1 => rfl
  case b2 => rfl
  case b3 => rfl
  case b4 => rfl
  case c1 => rfl
  case c2 => exact fun k => rfl
  case c3 => exact fun h => rfl
  case c4 => rfl
  case c5 => decide
  case c6 => exact fun C K => rfl
  case hs => intro _; rfl
  case c7 => rfl
  case c8 => rw [sizeLine_eq]; omega
  case c9 => exact small_one (by decide) (by decide) (by omega) (by omega)
  case it =>
    walk_at "z_gc"
    refine len_any (isList_at (N0 _ cAb).1) hlN (by omega) fun t5 tk5 => ?_
    walk_at "z_gc"
    rename Fr _ _ _ _ => F5
    rename News _ _ _ _ => N5
    rename IsRange _ _ _ _ _ _ _ _ => hr
    exact ⟨_, _, _, _, _, _, n0, rfl, rfl, S.fr F5 N5, hr, [], rfl, rfl, rfl, fun j hj => absurd hj (Nat.not_lt_zero j)⟩
  case step =>
    rintro i ys nws I oI C oC D K oK t h tk E' hi ⟨sl, hsl, rfl, rfl, hfa⟩ hdK S6
    clear F N0
    have mm : ∀ q ∈ n0, q ∈ (K, oK) :: (C, oC) :: (D, LCg.lst (sl.map fun p => Value.ref p.1)) :: (I, oI) :: (sl ++ n0) := fun q hq => .tail _ (.tail _ (.tail _ (.tail _ (List.mem_append_right _ hq))))
    have cK : (K, oK) ∈ (K, oK) :: (C, oC) :: (D, LCg.lst (sl.map fun p => Value.ref p.1)) :: (I, oI) :: (sl ++ n0) := .head _
    have cA6 := mm _ cA
    have cR6 := mm _ cR
    have cAb6 := mm _ cAb
    have cRw6 := mm _ cRw
    have cAA6 := fun j hj => mm _ (cAA j hj)
    have F6 := S6.F
    have N6 := S6.N
    generalize hn6 : (K, oK) :: (C, oC) :: (D, LCg.lst (sl.map fun p => Value.ref p.1)) :: (I, oI) :: (sl ++ n0) = n6 at *
    refine LCg.ListComp_U (F₀ := F6) rfl (by decide) rfl (by decide) rfl ?_
    walk_at "z_gc"
    refine LCg.CompSrc.ledger rfl F6 N6 cRw6 (by rw [sizeLine_eq, List.size_toArray]; omega) fun g => ?_
    refine compU_ind (fun j ys2 nws2 => nws2 = n6 ∧ ys2 = (rs.take j).map fun g => Value.bool (sideV av i g)) ?step2 ?fin2 ⟨rfl, rfl⟩
    case step2 =>
      rintro j ys2 nws2 v I2 oI2 C2 oC2 D2 m₂ hh tkk E'' hj ⟨rfl, rfl⟩ hv hC hx2 F8 N8 off ne
      obtain ⟨hjr, tv, rfl⟩ := ints_get irv (by simpa using hv)
      have hgN : rs.getD j 0 < N := getD_lt hrs hjr
      obtain ⟨vs, e, he, iv⟩ := hav _ hgN
      have hle := hal _ hgN
      have mAA := cAA6 _ hgN
      rw [he] at mAA
      clear F6 N6
      have mm8 : ∀ q ∈ nws2, q ∈ (I2, oI2) :: (C2, oC2) :: (D2, LCg.lst ((rs.take j).map fun g => Value.bool (sideV av i g))) :: nws2 := fun q hq => .tail _ (.tail _ (.tail _ hq))
      have c1 := mm8 _ cK
      have c2 := mm8 _ cA6
      have c3 := mm8 _ cAb6
      have c4 := mm8 _ mAA
      walk_at "z_gc"
      refine in_mem (isList_at ((by with_reducible assumption : News _ _ _ _) _ c4).1) iv ?_
      have endB : ∀ (b : Bool) (h9 : Heap) (tk9 : Nat), Fr base L h9 m → News base L h9 ((I2, oI2) :: (C2, oC2) :: (D2, LCg.lst ((rs.take j).map fun g => Value.bool (sideV av i g))) :: nws2) → b = sideV av i (rs.getD j 0) →
          LCg.CompEnd base L m ⟨hh, s.gens, s.drawn, tkk, s.os⟩ I2 oI2 C2 oC2 D2 (LCg.lst ((rs.take j).map fun g => Value.bool (sideV av i g))) (LCg.SrcAt base Rw rv.toArray)
            (fun y news' => news' = nws2 ∧ ((rs.take j).map fun g => Value.bool (sideV av i g)) ++ [y] = (rs.take (j + 1)).map fun g => Value.bool (sideV av i g)) (.bool b) ⟨h9, s.gens, s.drawn, tk9, s.os⟩ := by
        rintro b h9 tk9 F9 N9 rfl
        refine LCg.CompEnd.intro (s₁ := ⟨hh, s.gens, s.drawn, tkk, s.os⟩) F9 N9 nws2 (fun q hq => hq) off (.inr ⟨_, cRw6, rfl, _, rfl⟩) ⟨rfl, ?_⟩
        rw [List.take_add_one, List.map_append, List.getElem?_eq_getElem hjr, List.getD_eq_getElem?_getD, List.getElem?_eq_getElem hjr]
        rfl
      have hside : sideV av i (rs.getD j 0) = (decide ((i : Int) ∈ av (rs.getD j 0)) || decide (-(i : Int) ∈ av (rs.getD j 0))) := rfl
      cases hb : decide ((i : Int) ∈ av (rs.getD j 0)) with
      | true =>
        rw [hb, Bool.true_or] at hside
        walk_at "z_gc"
        exact endB true _ _ (by assumption) (by assumption) hside.symm
      | false =>
        rw [hb, Bool.false_or] at hside
        walk_at "z_gc"
        refine in_mem (isList_at ((by with_reducible assumption : News _ _ _ _) _ c4).1) iv ?_
        walk_at "z_gc"
        exact endB _ _ _ (by assumption) (by assumption) hside.symm
    case fin2 =>
      rintro ys2 nws2 ⟨rfl, rfl⟩
      unfold LCg.FinE
      intro D3 h3 tk3 F3 N3 o3
      dsimp only
      rw [List.take_of_length_le (by rw [List.size_toArray]; omega)] at N3
      have S3 : St base L h3 m ((D3, LCg.lst (rs.map fun g => Value.bool (sideV av i g))) :: nws2) := ⟨F3, N3, List.nodup_cons.mpr ⟨fun hm => (by obtain ⟨p, hp, e⟩ := List.mem_map.mp hm; exact off1_mem o3 p hp e), S6.D⟩⟩
      subst hn6
      refine ⟨h3, tk3, (sl ++ [(D3, LCg.lst (rs.map fun g => Value.bool (sideV av i g)))]) ++ n0, rfl, ?_, sl ++ [(D3, LCg.lst (rs.map fun g => Value.bool (sideV av i g)))], by rw [List.length_append, hsl]; rfl, by rw [List.map_append]; rfl, rfl, fun j hj => ?_⟩
      · rw [List.append_assoc]
        exact S3.perm (List.perm_middle (l₁ := [(K, oK), (C, oC), (D, _), (I, oI)] ++ sl) (l₂ := n0)).symm
      · by_cases ej : j < i
        · obtain ⟨a, h1⟩ := hfa j ej
          exact ⟨a, by rw [List.getElem?_append_left (by omega)]; exact h1⟩
        · obtain rfl : j = i := by omega
          exact ⟨D3, by rw [List.getElem?_append_right (by omega), hsl, Nat.sub_self]; rfl⟩
  case fin =>
    rintro ys nws' D h tk ⟨sl, hsl, rfl, rfl, hfa⟩ S7
    have efam : sl = fam N (fun j => (sl.getD j (0, listOf #[] 0)).1) (fun k => LCg.lst (rs.map fun g => Value.bool (sideV av k g))) := by
      refine List.ext_getElem (by simp [hsl]) fun i h1 h2 => ?_
      obtain ⟨a, e⟩ := hfa i (by omega)
      rw [List.getElem?_eq_getElem h1] at e
      injection e with e
      simp [h1, e]
    have eref : sl.map (fun p => Value.ref p.1) = (List.range N).map fun j => Value.ref ((fun j => (sl.getD j (0, listOf #[] 0)).1) j) := by
      refine List.ext_getElem (by simp [hsl]) fun i h1 h2 => ?_
      have h1' : i < sl.length := by simpa using h1
      simp [h1']
    generalize hWA : (fun j => (sl.getD j (0, listOf #[] 0)).1) = SA at efam eref
    rw [eref] at S7
    rw [efam] at S7
    subst hn0
    refine hq h tk D SA (S7.perm ?_)
    exact List.perm_append_comm_assoc ((D, LCg.lst ((List.range N).map fun j => Value.ref (SA j))) :: fam N SA fun k => LCg.lst (rs.map fun g => Value.bool (sideV av k g))) (lawCells L ow oa ot orw ofm) news
end
end Mine
end
section
open PySem PySem.W PySem.Calls PyProof.Rows
set_option Elab.async false
set_option maxRecDepth 100000
set_option maxHeartbeats 2000000
namespace Mine
noncomputable def boolOf : Value → Bool
  | .bool b => b
  | _ => false
theorem in_bools {prog : Program} {w : World} {A : Around} {E : Value → Shared → Prop} {s : Shared} {l : Addr} {rs : List Nat} {f : Nat → Bool} {Q : Value → Shared → Prop} (hl : s.heap.IsList l (rs.map fun g => Value.bool (f g)).toArray)
    (h : Q (.bool (rs.any f)) s) : wpAny (model prog w) A (compareOp .In (.bool true) (.ref l)) Q E s := by
  refine SeqAt.in_listAt boolOf hl (fun y hy => ?_) ?_
  · obtain ⟨g, -, rfl⟩ := List.mem_map.mp (show y ∈ rs.map fun g => Value.bool (f g) by simpa using hy)
    have := SeqAt.EqAt.bool_bool (A := A.in1) (s := s) (f g) true
    rw [show (f g == true) = f g by cases f g <;> rfl] at this
    exact this
  · rw [← Array.any_toList, show (rs.map fun g => Value.bool (f g)).toArray.toList = rs.map fun g => Value.bool (f g) from rfl, List.any_map]
    exact h
section
variable {w : World} {A : Around} {s : Shared} {pr : Program} {loose : List Str} {mg mb : Str → Option Value} {base : Heap} {L : Addr} {m : Str → Option Value} {news : List (Addr × Obj)} {Q : Flow → Shared → Prop}
/-- least = 2 * (len([side for side in sides if True in side]) - len(common)) -/
theorem st15 {Sd Cm : Addr} {cv : List Value} {c0 : List Int} {rs : List Nat} {ec N : Nat} {SA : Nat → Addr} {av : Nat → List Int} {ow oa ot orw ofm : Obj} (hA : Sm A 310 1500) (G : Gd w pr loose mg mb base)
    (S : St base L s.heap m (lawCells L ow oa ot orw ofm ++ news)) (hms : m (Str.ofString "sides") = some (.ref Sd)) (hmc : m (Str.ofString "common") = some (.ref Cm)) (hN : N ≤ 20)
    (hSd : (Sd, LCg.lst ((List.range N).map fun j => Value.ref (SA j))) ∈ news) (hSA : ∀ k, k < N → (SA k, LCg.lst (rs.map fun g => Value.bool (sideV av k g))) ∈ news)
    (hCm : (Cm, listOf (List.toArray cv) ec) ∈ news) (icv : IntsAre cv c0) (hcl : c0.length ≤ 100)
    (hq : ∀ h' tk' t, St base L h' (fun y => if y = Str.ofString "least" then some (.int (2 * ((cnt (fun k => rs.any (sideV av k)) N : Int) - c0.length)) t) else m y) (lawCells L ow oa ot orw ofm ++ news) → Q .next { s with heap := h', toks := tk' }) :
    wpAny (model PySem.Challenge.rw_ij0154_01.prog w) A (exec (stF w.params 96 15) (lawEnv w.params L)) Q (fun _ _ => False) s := by
  have X := G.X
  have T := G.T
  have e96 := G.X 96 (lk w.params 96) (by kernel_rfl)
  revert X; k_fill; intro X
  unfold lawEnv
  rw [stF_of (X 96 _ rfl) e96 rfl rfl (i := 15) rfl, scF_of (X 96 _ rfl) e96 rfl rfl]
  clear e96
  have F := S.F
  have N0 := S.N
  have cSd : (Sd, LCg.lst ((List.range N).map fun j => Value.ref (SA j))) ∈ lawCells L ow oa ot orw ofm ++ news := List.mem_append_right _ hSd
  have cSA : ∀ k, k < N → (SA k, LCg.lst (rs.map fun g => Value.bool (sideV av k g))) ∈ lawCells L ow oa ot orw ofm ++ news := fun k hk => List.mem_append_right _ (hSA k hk)
  have cCm : (Cm, listOf (List.toArray cv) ec) ∈ lawCells L ow oa ot orw ofm ++ news := List.mem_append_right _ hCm
  refine wk (d := 310) (u := 1500) hA ?_
  generalize hn0 : lawCells L ow oa ot orw ofm ++ news = n0 at *
  walk_at "z_gc"
  refine LCt.ListComp_T (F₀ := F) rfl (by decide) rfl (by decide) rfl ?_
  walk_at "z_gc"
  refine LCt.CompSrcT.ledger rfl F N0 cSd (by rw [sizeLine_eq, List.size_toArray]; simp; omega) fun g => ?_
  refine compT_ind (fun i ys nws => nws = n0 ∧ ys.length = cnt (fun k => rs.any (sideV av k)) i) ?step ?fin ⟨rfl, rfl⟩
  case step =>
    rintro i ys nws v I oI C oC D m₂ h tk E' hi ⟨rfl, hyl⟩ hv hC hx2 F6 N6 off ne
    rw [List.size_toArray, List.length_map, List.length_range] at hi
    obtain rfl : v = .ref (SA i) := by simpa [hi] using hv.symm
    have cSA6 : (SA i, LCg.lst (rs.map fun g => Value.bool (sideV av i g))) ∈ (I, oI) :: (C, oC) :: (D, LCg.lst ys) :: nws := .tail _ (.tail _ (.tail _ (cSA i hi)))
    walk_at "z_gc"
    refine in_bools (isList_at ((by with_reducible assumption : News _ _ _ _) _ cSA6).1) ?_
    have hc1 : cnt (fun k => rs.any (sideV av k)) (i + 1) = cnt (fun k => rs.any (sideV av k)) i + bn (rs.any (sideV av i)) := rfl
    cases hb : rs.any (sideV av i) with
    | true =>
      rw [hb] at hc1
      walk_at "z_gc"
      exact LCg.CompEnd.intro (s₁ := ⟨h, s.gens, s.drawn, tk, s.os⟩) (by assumption) (by assumption) nws (fun q hq => hq) off (.inr ⟨_, cSd, rfl, _, rfl⟩) ⟨rfl, by rw [List.length_append, hyl, hc1]; rfl⟩
    | false =>
      rw [hb] at hc1
      walk_at "z_gc"
      exact LCg.CompEnd.intro (s₁ := ⟨h, s.gens, s.drawn, tk, s.os⟩) (by assumption) (by assumption) nws (fun q hq => hq) off (.inr ⟨_, cSd, rfl, _, rfl⟩) ⟨rfl, by rw [hyl, hc1]; rfl⟩
  case fin =>
    rintro ys nws ⟨rfl, hyl⟩
    rw [List.size_toArray, List.length_map, List.length_range] at hyl
    have hcl2 : cnt (fun k => rs.any (sideV av k)) N ≤ N := by
      have : ∀ n, cnt (fun k => rs.any (sideV av k)) n ≤ n := fun n => by
        induction n with
        | zero => exact Nat.le_refl _
        | succ n ih => 
          have hc1 : cnt (fun k => rs.any (sideV av k)) (n + 1) = cnt (fun k => rs.any (sideV av k)) n + bn (rs.any (sideV av n)) := rfl
          have : bn (rs.any (sideV av n)) ≤ 1 := by unfold bn; split <;> omega
          omega
      exact this N
    unfold LCg.FinE
    intro D h7 tk7 F7 N7 o7
    dsimp only
    clear F N0
    walk_at "z_ap"
    refine len_any (isList_at ((by with_reducible assumption : News _ _ _ _) _ (.head _)).1) hyl (by omega) fun t5 tk5 => ?_
    walk_at "z_ap"
    have hcvl := icv.length
    refine len_any (isList_at ((by with_reducible assumption : News _ _ _ _) _ (.tail _ cCm)).1) hcvl (by omega) fun t6 tk6 => ?_
    walk_at "z_gc"
    subst hn0
    rename Fr _ _ _ _ => F9
    rename News _ _ _ _ => N9
    exact hq _ _ _ (S.fr F9 (List.forall_mem_cons.mp N9).2)
end
end Mine
end
section
open PySem PySem.W PySem.Calls PyProof.Rows
set_option Elab.async false
set_option maxRecDepth 100000
set_option maxHeartbeats 2000000
namespace Mine
theorem it_wrapB {prog : Program} {w : World} {A : Around} {E : Value → Shared → Prop} {s : Shared} {value slice : Expr} {l : Addr} {t : Tok} {Q : Value → Shared → Prop} {rs : List Nat} {f : Nat → Bool} {k : Int} {i : Nat} (hl : s.heap.IsList l (rs.map fun g => Value.bool (f g)).toArray)
    (hk : (0 ≤ k ∧ k = (i : Int)) ∨ (k < 0 ∧ k + rs.length = (i : Int))) (hlt : i < rs.length) (hn : rs.length ≤ 1000) (h : Q (.bool (f (rs.getD i 0))) s)
    (hs : subscripted slice false (.ref l) (.int k t) = operate [.ref l, .int k t] (getItem (.ref l) (.int k t)) := by with_unfolding_all rfl) :
    wpAny (model prog w) A (subscriptTail value slice (.ref l) (.int k t)) Q E s := by
  have ha : (rs.map fun g => Value.bool (f g))[i]? = some (.bool (f (rs.getD i 0))) := by
    rw [List.getElem?_map, List.getD_eq_getElem?_getD, List.getElem?_eq_getElem hlt]; rfl
  have hsz : (rs.map fun g => Value.bool (f g)).toArray.size = rs.length := by simp
  rcases hk with ⟨h0, rfl⟩ | ⟨h0, h1⟩
  · exact tail_any hl.typeIs PySem.F.slot_list_getitem.lookup (wpAny_getItem_list hl (by omega) (by omega) (x := .bool (f (rs.getD i 0))) (by rw [Int.toNat_natCast]; simpa using ha) h) hs
  · refine tail_any hl.typeIs PySem.F.slot_list_getitem.lookup (wpAny_getItem_list_neg hl h0 (by rw [hsz]; omega) (by omega) (x := .bool (f (rs.getD i 0))) ?_ h) hs
    rw [hsz, h1, Int.toNat_natCast]
    simpa using ha
theorem ne_bools {prog : Program} {w : World} {A : Around} {E : Value → Shared → Prop} {s : Shared} {a b : Bool} {Q : Value → Shared → Prop} (h : Q (.bool (a != b)) s) : wpAny (model prog w) A (compareOp .NotEq (.bool a) (.bool b)) Q E s :=
  SeqAt.RcNeAt.bool_bool a b prog w E Q h
theorem chg_cnt (s : Nat → Bool) (m : Nat) : ∀ j, chg s m j = cnt (fun j => s (if j = 0 then m - 1 else j - 1) != s j) j
  | 0 => rfl
  | j + 1 => by rw [chg, chg_cnt s m j]; rfl
theorem cnt_small (f : Nat → Bool) : ∀ n, cnt f n ≤ n
  | 0 => Nat.le_refl _
  | n + 1 => by
    have ih := cnt_small f n
    have h1 : cnt f (n + 1) = cnt f n + bn (f n) := rfl
    have : bn (f n) ≤ 1 := by unfold bn; split <;> omega
    omega
theorem sumN_small {f : Nat → Nat} {b : Nat} (h : ∀ k, f k ≤ b) : ∀ n, sumN f n ≤ n * b
  | 0 => Nat.zero_le _
  | n + 1 => by
    have := sumN_small h n
    have := h n
    rw [sumN, Nat.add_mul]; omega
theorem nameC_B {M : Model} {A : Around} {E : Value → Shared → Prop} {s : Shared} {K : Frag} {h₀ : Heap} {L C : Addr} {m mg mb : Str → Option Value} {scope : Scope} {cl : List (Str × Addr)} {p : Program} {loose : List Str} {env : Env}
    {x : Str} {pos : Pos} {v : Value} {Q : Value → Shared → Prop} (F : Fr h₀ L s.heap m) (X : K.In h₀) (T : TopRead p loose mg mb h₀) (e : nsIn K mainGlobals x = some none) (hv : bootBuiltins x = some v) (hn : x ≠ "__name__") (h : Q v s) (hg : env.globals = mainGlobals := by rfl) (hb : env.builtins = builtinsNs := by rfl)
    (hk : (compEnvC scope cl C env).scope.kind = .function := by rfl) (hx : (compEnvC scope cl C env).kindOf x = some .globalImplicit := by rfl) (hd : (x == ("__debug__" : Str)) = false := by decide) :
    wpAny M A (eval (.Name x pos) (compEnvC scope cl C env)) Q E s :=
  Name_function_global hk hx (loadGlobal_builtin (env := compEnvC scope cl C env) (show s.heap.Ns env.globals mg from hg ▸ T.g.keeps F.keep) (mg_none_of X T.g e) (show s.heap.Ns env.builtins mb from hb ▸ T.b.keeps F.keep) ((T.builtins x hn).trans hv) h) hd
local macro_rules | `(tactic| walk_at "eval Name") => `(tactic| (k_here; (with_reducible show wpAny _ _ (eval (Expr.Name _ _) (compEnvC _ _ _ _)) _ _ _); k_dflt (refine nameC_B (by with_reducible assumption) (by with_reducible assumption) (by with_reducible assumption) (by k_is) (by boot_by_name) (by decide) ?_)))
section
variable {w : World} {A : Around} {s : Shared} {pr : Program} {loose : List Str} {mg mb : Str → Option Value} {base : Heap} {L : Addr} {m : Str → Option Value} {news : List (Addr × Obj)} {Q : Flow → Shared → Prop}
/-- turns = len([side for side in sides for j in range(len(row)) if side[j - 1] != side[j]]) -/
theorem st16 {Sd Rw : Addr} {rv : List Value} {rs : List Nat} {e1 N : Nat} {SA : Nat → Addr} {av : Nat → List Int} {ow oa ot orw ofm : Obj} (hA : Sm A 310 1500) (G : Gd w pr loose mg mb base)
    (S : St base L s.heap m (lawCells L ow oa ot orw ofm ++ news)) (hor : orw.data = .cell (some (.ref Rw))) (hms : m (Str.ofString "sides") = some (.ref Sd)) (hN : N ≤ 20)
    (hRw : (Rw, listOf rv.toArray e1) ∈ news) (irv : IntsAre rv (rs.map fun k : Nat => (k : Int))) (h64 : rs.length ≤ 40)
    (hSd : (Sd, LCg.lst ((List.range N).map fun j => Value.ref (SA j))) ∈ news) (hSA : ∀ k, k < N → (SA k, LCg.lst (rs.map fun g => Value.bool (sideV av k g))) ∈ news)
    (hq : ∀ h' tk' t, St base L h' (fun y => if y = Str.ofString "turns" then some (.int (sumN (fun k => chg (fun i => sideV av k (rs.getD i 0)) rs.length rs.length) N : Nat) t) else m y) (lawCells L ow oa ot orw ofm ++ news) → Q .next { s with heap := h', toks := tk' }) :
    wpAny (model PySem.Challenge.rw_ij0154_01.prog w) A (exec (stF w.params 96 16) (lawEnv w.params L)) Q (fun _ _ => False) s := by
  have X := G.X
  have T := G.T
  have e96 := G.X 96 (lk w.params 96) (by kernel_rfl)
  revert X; k_fill; intro X
  unfold lawEnv
  rw [stF_of (X 96 _ rfl) e96 rfl rfl (i := 16) rfl, scF_of (X 96 _ rfl) e96 rfl rfl]
  clear e96
  have F := S.F
  have N0 := S.N
  have cR : (L + 1 + 1, orw) ∈ lawCells L ow oa ot orw ofm ++ news := by walk_at "z_mem"
  have cRw : (Rw, listOf rv.toArray e1) ∈ lawCells L ow oa ot orw ofm ++ news := List.mem_append_right _ hRw
  have cSd : (Sd, LCg.lst ((List.range N).map fun j => Value.ref (SA j))) ∈ lawCells L ow oa ot orw ofm ++ news := List.mem_append_right _ hSd
  have cSA : ∀ k, k < N → (SA k, LCg.lst (rs.map fun g => Value.bool (sideV av k g))) ∈ lawCells L ow oa ot orw ofm ++ news := fun k hk => List.mem_append_right _ (hSA k hk)
  refine wk (d := 310) (u := 1500) hA ?_
  generalize hn0 : lawCells L ow oa ot orw ofm ++ news = n0 at *
  have hlr := irv.length
  rw [List.length_map] at hlr
  have esz : ((List.range N).map fun j => Value.ref (SA j)).toArray.size = N := by simp
  walk_at "z_gc"
  refine' ListComp_2 (s := ⟨s.heap, s.gens, s.drawn, _, s.os⟩) (n2 := rs.length) (news := n0) (h₀ := base) (L := L) (m := m) (b := fun i j => sideV av i (rs.getD (if j = 0 then rs.length - 1 else j - 1) 0) != sideV av i (rs.getD j 0)) ?c1 ?c2 ?c3 ?c4 ?c5 ?c6 ?c7 ?c8 ?c9 (range_size rs.length) ?c10 cSd ?it1 ?it2 ?tst ?el ?fin ?hs ?hs2
  case c1 => rfl
  case c2 => decide
  case c3 => rfl
  case c4 => decide
  case c5 => rfl
  case c6 => rfl
  case c7 => decide
  case c8 => rfl
  case c9 => exact small_one (by decide) (by decide) (by omega) (by omega)
  case c10 =>
    intro i j hi hj
    rw [esz] at hi
    have h1 := sumN_small (f := fun i => cnt (fun j => sideV av i (rs.getD (if j = 0 then rs.length - 1 else j - 1) 0) != sideV av i (rs.getD j 0)) rs.length) (b := rs.length) (fun k => cnt_small _ _) i
    have h2 := cnt_small (fun j => sideV av i (rs.getD (if j = 0 then rs.length - 1 else j - 1) 0) != sideV av i (rs.getD j 0)) j
    have h3 : i * rs.length ≤ 20 * 40 := Nat.mul_le_mul (by omega) (by omega)
    rw [sizeLine_eq]
    omega
  case hs => intro _; rfl
  case hs2 => intro _ _; rfl
  case it1 =>
    walk_at "z_gc"
    exact ⟨_, _, rfl, rfl, S.fr F N0⟩
  case it2 =>
    rintro i v C oC m₂ l h tk E' hv hC hx2 hm sub F6 N6
    have c1 := sub _ cR
    have c2 := sub _ cRw
    clear F N0
    walk_at "z_ap"
    refine len_any (isList_at ((by with_reducible assumption : News _ _ _ _) _ c2).1) hlr (by omega) fun t5 tk5 => ?_
    walk_at "z_gc"
    exact ⟨_, _, _, _, _, _, rfl, rfl, by assumption, by assumption, by assumption⟩
  case tst =>
    rintro i j v t C oC m₂ l h tk E' hv hj hC hx2 hy2 hm sub F6 N6
    have hi : i < N := by
      have := (Array.getElem?_eq_some_iff.mp hv).1
      rwa [esz] at this
    obtain rfl : v = .ref (SA i) := by simpa [hi] using hv.symm
    have c1 := sub _ (cSA i hi)
    clear F N0
    walk_at "z_sl"
    walk1
    dsimp only
    walk_at "z_sl"
    refine it_wrapB (i := if j = 0 then rs.length - 1 else j - 1) (isList_at ((by with_reducible assumption : News _ _ _ _) _ c1).1) (by split <;> omega) (by split <;> omega) (by omega) ?_
    walk_at "z_sl"
    refine it_wrapB (i := j) (isList_at ((by with_reducible assumption : News _ _ _ _) _ c1).1) (.inl ⟨by omega, rfl⟩) hj (by omega) ?_
    walk_at "z_sl"
    exact ⟨rfl, _, _, rfl, by assumption, by assumption⟩
  case el =>
    rintro v C oC m₂ l h tk E' hC hx2 hm F6 N6
    clear F N0
    walk_at "z_gc"
    exact ⟨_, _, rfl, by assumption, by assumption⟩
  case fin =>
    rintro ys D h tk hyl S7
    rw [esz] at hyl
    have F7 := S7.F
    have N7 := S7.N
    clear F N0
    dsimp only
    walk_at "z_ap"
    refine len_any (isList_at ((by with_reducible assumption : News _ _ _ _) _ (.head _)).1) hyl ?_ fun t5 tk5 => ?_
    · have h1 := sumN_small (f := fun i => cnt (fun j => sideV av i (rs.getD (if j = 0 then rs.length - 1 else j - 1) 0) != sideV av i (rs.getD j 0)) rs.length) (b := rs.length) (fun k => cnt_small _ _) N
      have h3 : N * rs.length ≤ 20 * 40 := Nat.mul_le_mul (by omega) (by omega)
      omega
    walk_at "z_gc"
    subst hn0
    rename Fr _ _ _ _ => F9
    rename News _ _ _ _ => N9
    have eS : sumN (fun i => cnt (fun j => sideV av i (rs.getD (if j = 0 then rs.length - 1 else j - 1) 0) != sideV av i (rs.getD j 0)) rs.length) N = sumN (fun k => chg (fun i => sideV av k (rs.getD i 0)) rs.length rs.length) N := sumN_congr fun k _ => (chg_cnt (fun i => sideV av k (rs.getD i 0)) _ _).symm
    rw [eS] at F9
    exact hq _ _ _ (S.fr F9 (List.forall_mem_cons.mp N9).2)
end
end Mine
end
section
open PySem PySem.W PySem.Calls PyProof.Rows
set_option Elab.async false
set_option maxRecDepth 100000
set_option maxHeartbeats 2000000
namespace Mine
theorem ints_eqAt {A : Around} {s : Shared} {ns : List Int} : ∀ {vs ws : List Value}, IntsAre vs ns → IntsAre ws ns → vs.length = ws.length ∧ ∀ j (h1 : j < vs.length) (h2 : j < ws.length), SeqAt.EqAt A s vs[j] ws[j] true := by
  induction ns with
  | nil => intro vs ws h1 h2; cases h1; cases h2; exact ⟨rfl, fun j h1 => by simp at h1⟩
  | cons x ns ih =>
    intro vs ws h1 h2
    cases h1 with
    | cons x t h1 =>
      cases h2 with
      | cons x u h2 =>
        obtain ⟨e, h⟩ := ih h1 h2
        refine ⟨by rw [List.length_cons, List.length_cons, e], fun j l1 l2 => ?_⟩
        cases j with
        | zero =>
          have := SeqAt.EqAt.int_int (A := A) (s := s) x t x u
          rw [beq_self_eq_true] at this
          exact this
        | succ j => exact h j (by simpa using l1) (by simpa using l2)
theorem ne_same {prog : Program} {w : World} {A : Around} {E : Value → Shared → Prop} {s : Shared} {a b : Addr} {vs ws : List Value} {ns : List Int} {Q : Value → Shared → Prop} (hl : s.heap.IsList a vs.toArray) (hb : s.heap.IsList b ws.toArray) (hi : IntsAre vs ns) (hj : IntsAre ws ns) (hu : A.units < cLine)
    (h : Q (.bool false) s) : wpAny (model prog w) A (compareOp .NotEq (.ref a) (.ref b)) Q E s := by
  obtain ⟨e, he⟩ := ints_eqAt (A := A.in1) (s := s) hi hj
  refine SeqAt.RcNeAt.lists (e := fun _ => true) hl hb (by simpa using e) hu (fun j h1 h2 => ?_) prog w E Q ?_
  · simpa using he j (by simpa using h1) (by simpa using h2)
  · rw [List.all_eq_true.mpr fun _ _ => rfl]; exact h
section
variable {w : World} {A : Around} {s : Shared} {pr : Program} {loose : List Str} {mg mb : Str → Option Value} {base : Heap} {L : Addr} {m : Str → Option Value} {news : List (Addr × Obj)} {Q : Flow → Shared → Prop}
/-- if told != due or found != holders: return False -/
theorem st17 {Tl Du Fo Hd : Addr} {tv dv fv hv : List Value} {ns ms : List Int} {e1 e2 e3 e4 : Nat} {ow oa ot orw ofm : Obj} (hA : Sm A 310 1500) (G : Gd w pr loose mg mb base)
    (S : St base L s.heap m (lawCells L ow oa ot orw ofm ++ news)) (hmt : m (Str.ofString "told") = some (.ref Tl)) (hmd : m (Str.ofString "due") = some (.ref Du)) (hmf : m (Str.ofString "found") = some (.ref Fo)) (hmh : m (Str.ofString "holders") = some (.ref Hd))
    (hTl : (Tl, listOf tv.toArray e1) ∈ news) (hDu : (Du, listOf dv.toArray e2) ∈ news) (hFo : (Fo, listOf fv.toArray e3) ∈ news) (hHd : (Hd, listOf hv.toArray e4) ∈ news) (it : IntsAre tv ns) (id : IntsAre dv ns) (jf : IntsAre fv ms) (jh : IntsAre hv ms)
    (hq : ∀ h' tk', St base L h' m (lawCells L ow oa ot orw ofm ++ news) → Q .next { s with heap := h', toks := tk' }) :
    wpAny (model PySem.Challenge.rw_ij0154_01.prog w) A (exec (stF w.params 96 17) (lawEnv w.params L)) Q (fun _ _ => False) s := by
  have X := G.X
  have T := G.T
  have e96 := G.X 96 (lk w.params 96) (by kernel_rfl)
  revert X; k_fill; intro X
  unfold lawEnv
  rw [stF_of (X 96 _ rfl) e96 rfl rfl (i := 17) rfl, scF_of (X 96 _ rfl) e96 rfl rfl]
  clear e96
  have F := S.F
  have N0 := S.N
  refine wk (d := 310) (u := 1500) hA ?_
  have c1 := isList_at (N0 _ (List.mem_append_right _ hTl)).1
  have c2 := isList_at (N0 _ (List.mem_append_right _ hDu)).1
  have c3 := isList_at (N0 _ (List.mem_append_right _ hFo)).1
  have c4 := isList_at (N0 _ (List.mem_append_right _ hHd)).1
  generalize hn0 : lawCells L ow oa ot orw ofm ++ news = n0 at *
  walk_at "z_co"
  refine ne_same c1 c2 it id (by decide) ?_
  walk_at "z_co"
  refine ne_same c3 c4 jf jh (by decide) ?_
  walk_at "z_co"
  subst hn0
  exact hq s.heap s.toks S
/-- return _law_round(told, ways) == least and _law_round(row, ways) == turns -/
theorem st18 {Tl Rw Ws : Addr} {tv rv : List Value} {ts rs : List Nat} {lv uv : Int} {tl tu : Tok} {e1 e2 e3 N : Nat} {WA : Nat → Addr} {wo : Nat → Obj} {p : Nat → Nat} {ow oa ot orw ofm : Obj} (hA : Sm A 310 1500) (G : Gd w pr loose mg mb base) (C : CodeHd base 90 86)
    (S : St base L s.heap m (lawCells L ow oa ot orw ofm ++ (86, tabObj #[]) :: news)) (how : ow.data = .cell (some (.ref Ws))) (hor : orw.data = .cell (some (.ref Rw))) (hmt : m (Str.ofString "told") = some (.ref Tl)) (hml : m (Str.ofString "least") = some (.int lv tl)) (hmu : m (Str.ofString "turns") = some (.int uv tu))
    (hTl : (Tl, listOf tv.toArray e1) ∈ news) (hRw : (Rw, listOf rv.toArray e2) ∈ news) (it : IntsAre tv (ts.map fun k : Nat => (k : Int))) (irv : IntsAre rv (rs.map fun k : Nat => (k : Int))) (ht64 : ts.length < 64) (h64 : rs.length < 64) (hts : ∀ k ∈ ts, k < N) (hrs : ∀ k ∈ rs, k < N) (hN : N ≤ 20)
    (hWs : (Ws, listOf ((List.range N).map fun j => Value.ref (WA j)).toArray e3) ∈ news) (hwo : ∀ j, j < N → (WA j, wo j) ∈ news) (hway : ListsAre N wo (way p)) (hp : ∀ k, 0 < k → p k < k)
    (hle : roadsum p ts ts.length = lv) (htu : roadsum p rs rs.length = uv)
    (hq : ∀ h' tk' p86, (∀ b o, base.get? b = some o → h'.get? b = some o) → (∀ q ∈ news, h'.get? q.1 = some q.2) → h'.get? 86 = some (tabObj p86) → Q (.ret (.bool true)) { s with heap := h', toks := tk' }) :
    wpAny (model PySem.Challenge.rw_ij0154_01.prog w) A (exec (stF w.params 96 18) (lawEnv w.params L)) Q (fun _ _ => False) s := by
  have X := G.X
  have T := G.T
  have e96 := G.X 96 (lk w.params 96) (by kernel_rfl)
  revert X; k_fill; intro X
  unfold lawEnv
  rw [stF_of (X 96 _ rfl) e96 rfl rfl (i := 18) rfl, scF_of (X 96 _ rfl) e96 rfl rfl]
  clear e96
  have F := S.F
  have N0 := S.N
  have cW : (L + 1 + 1 + 1 + 1 + 1, ow) ∈ lawCells L ow oa ot orw ofm ++ (86, tabObj #[]) :: news := by walk_at "z_mem"
  have c86 : (86, tabObj #[]) ∈ lawCells L ow oa ot orw ofm ++ (86, tabObj #[]) :: news := List.mem_append_right _ (.head _)
  have mem : ∀ q ∈ news, q ∈ lawCells L ow oa ot orw ofm ++ (86, tabObj #[]) :: news := fun q hq => List.mem_append_right _ (.tail _ hq)
  refine wk (d := 310) (u := 1500) hA ?_
  generalize hn0 : lawCells L ow oa ot orw ofm ++ (86, tabObj #[]) :: news = n0 at *
  walk_at "z_gc"
  refine callWith_F (fnAt_base (by with_reducible assumption) (X 91 _ rfl)) ?_
  walk_at "z_gc"
  refine ⟨fnAt_base F (X 91 _ rfl), ?_⟩
  subst hn0
  have S86 := S.perm (List.perm_middle (l₁ := lawCells L ow oa ot orw ofm))
  have z86 := S86.N (86, tabObj #[]) (.head _)
  have ne86 : ∀ q ∈ lawCells L ow oa ot orw ofm ++ news, q.1 ∉ [86] := fun q hq hm => S86.ne q hq (List.mem_singleton.mp hm)
  have hb86 : ∀ (h : Heap), Fr base L h m → ∀ b o, base.get? b = some o → (hideAll h [86]).get? b = some o := fun h F b o e => hideAll_get _ (F.keep _ _ e) fun hm => by rw [List.mem_singleton.mp hm, z86.2.2] at e; cases e
  have hm86 : ∀ (h : Heap), News base L h (lawCells L ow oa ot orw ofm ++ news) → ∀ q ∈ news, (hideAll h [86]).get? q.1 = some q.2 := fun h N q hq => hideAll_get _ (N q (List.mem_append_right _ hq)).1 (ne86 q (List.mem_append_right _ hq))
  have N00 : News base L s.heap (lawCells L ow oa ot orw ofm ++ news) := (List.forall_mem_cons.mp S86.N).2
  refine wpAny_call (round_first (s := ⟨s.heap, s.gens, s.drawn, _, s.os⟩) (nF := N) (WA := WA) (p := p) (rs := ts) ((sm_AM _ _).le (by decide) (by decide)) (G.keeps (hb86 _ F)) (C.keeps (hb86 _ F)) z86.1 (isList_at (hm86 _ N00 _ hTl)) it (by omega) hts (isList_at (hm86 _ N00 _ hWs)) hp hN (fun j hj => ?_) fun h1 tk1 t1 k1 q1 => ?_)
  · obtain ⟨us, e, he, iu⟩ := hway j hj
    exact ⟨us, isList_at (he ▸ hm86 _ N00 _ (hwo j hj)), iu⟩
  dsimp only
  rw [hle]
  obtain ⟨cr, cl, ocr, vsr, tr, ocl, vsl, tl', g86, gcr, dcr, qcr, gcl, dcl, qcl⟩ := q1
  have F1 : Fr base L h1 m := LCg.fr_but F (I := 86) (fun b o hb e => k1 b o (by simpa using hb) e) (Ne.symm z86.2.1) z86.2.2
  have N1 : News base L h1 (lawCells L ow oa ot orw ofm ++ news) := LCg.news_but N00 (I := 86) (fun b o hb e => k1 b o (by simpa using hb) e) S86.ne
  have cW1 : (L + 1 + 1 + 1 + 1 + 1, ow) ∈ lawCells L ow oa ot orw ofm ++ news := by walk_at "z_mem"
  have cR1 : (L + 1 + 1, orw) ∈ lawCells L ow oa ot orw ofm ++ news := by walk_at "z_mem"
  clear F N0
  generalize hn1 : lawCells L ow oa ot orw ofm ++ news = n1 at *
  walk_at "z_co"
  walk1
  rw [beq_self_eq_true]
  walk_at "z_gc"
  refine callWith_F (fnAt_base (by with_reducible assumption) (X 91 _ rfl)) ?_
  walk_at "z_gc"
  rename Fr _ _ _ _ => F2
  rename News _ _ _ _ => N2
  refine ⟨fnAt_base F2 (X 91 _ rfl), ?_⟩
  subst hn1
  have nh : ∀ (c : Addr) (o : Obj) (vs : Array Value) (t : Tok) (x : Str), h1.get? c = some o → o.data = .fields vs → vs[1]? = some (.str x t) → (hideAll h1 [86]).get? c = some o := fun c o vs t x e d q => hideAll_get _ e fun hm => by
    rw [List.mem_singleton.mp hm, g86] at e
    injection e with e
    rw [← e] at d
    injection d with d
    rw [← d] at q
    simp [rawInt] at q
  refine wpAny_call (round_again (s := ⟨h1, s.gens, s.drawn, _, s.os⟩) (nF := N) (WA := WA) (p := p) (rs := rs) ((sm_AM _ _).le (by decide) (by decide)) (G.keeps (hb86 _ F2)) (C.keeps (hb86 _ F2)) g86 (nh _ _ _ _ _ gcr dcr qcr) dcr qcr (nh _ _ _ _ _ gcl dcl qcl) dcl qcl (isList_at (hm86 _ N2 _ hRw)) irv (by omega) hrs (isList_at (hm86 _ N2 _ hWs)) hp hN (fun j hj => ?_) fun h3 tk3 t3 k3 g3 => ?_)
  · obtain ⟨us, e, he, iu⟩ := hway j hj
    exact ⟨us, isList_at (he ▸ hm86 _ N2 _ (hwo j hj)), iu⟩
  dsimp only
  rw [htu]
  have F3 : Fr base L h3 m := LCg.fr_but F2 (I := 86) (fun b o hb e => k3 b o (by simpa using hb) e) (Ne.symm z86.2.1) z86.2.2
  have N3 : News base L h3 (lawCells L ow oa ot orw ofm ++ news) := LCg.news_but N2 (I := 86) (fun b o hb e => k3 b o (by simpa using hb) e) S86.ne
  clear F2 N2
  have kb3 := F3.keep
  have kn3 : ∀ q ∈ news, h3.get? q.1 = some q.2 := fun q hq => (N3 q (List.mem_append_right _ hq)).1
  generalize hn1 : lawCells L ow oa ot orw ofm ++ news = n1 at N3
  walk_at "z_co"
  walk1
  rw [beq_self_eq_true]
  walk_at "z_gc"
  exact hq _ _ _ kb3 kn3 g3
end
end Mine
end
end
end
end
section
open PySem PySem.W PySem.Calls PyProof.Rows
set_option Elab.async false
set_option maxRecDepth 100000
set_option maxHeartbeats 2000000
namespace Mine
local macro_rules | `(tactic| walk_at "z_loc") => `(tactic| first | with_reducible assumption | exact if_pos rfl | (refine (if_neg (by decide)).trans ?_; walk_at "z_loc"))
noncomputable def xsL (ns : List Int) : List Int := ns.take 8 ++ [23, 5, 6, 14]
theorem xsL_len (ns : List Int) : 4 ≤ (xsL ns).length ∧ (xsL ns).length ≤ 12 := by
  unfold xsL
  rw [List.length_append, List.length_take, show ([23, 5, 6, 14] : List Int).length = 4 from rfl]
  omega
theorem permA {α : Type} (P F T : List α) (r a x f nb : α) : (P ++ (r :: (a :: (x :: (f :: (F ++ nb :: T)))))).Perm ((P ++ [r, a, f, nb]) ++ (F ++ ([x] ++ T))) := by
  rw [List.append_assoc]
  refine List.Perm.append_left P (.cons _ (.cons _ ?_))
  have h1 : (x :: (f :: (F ++ nb :: T))).Perm (x :: (f :: (nb :: (F ++ T)))) := .cons _ (.cons _ List.perm_middle)
  have h2 : (x :: (f :: (nb :: (F ++ T)))).Perm ([f, nb] ++ x :: (F ++ T)) := (List.perm_middle (l₁ := [f, nb])).symm
  have h3 : (x :: (F ++ T)).Perm (F ++ x :: T) := List.perm_middle.symm
  exact h1.trans (h2.trans (.cons _ (.cons _ h3)))
theorem mvT {α : Type} (P A B C : List α) (t : α) : (P ++ (A ++ (B ++ t :: C))).Perm (P ++ t :: (A ++ (B ++ C))) := by
  refine List.Perm.append_left P ?_
  rw [← List.append_assoc, ← List.append_assoc]
  exact List.perm_middle
section
variable {w : World} {A : Around} {s : Shared} {pr : Program} {loose : List Str} {mg mb : Str → Option Value} {base : Heap} {L : Addr} {m : Str → Option Value} {news : List (Addr × Obj)} {Q : Flow → Shared → Prop}
/-- the law's statements to the end of its first loop -/
theorem runA {sc : Addr} {vs : List Value} {ns : List Int} {rest : List Stmt} {ow oa ot orw ofm : Obj} (hA : Sm A 310 1500) (G : Gd w pr loose mg mb base) (S : St base L s.heap m (lawCells L ow oa ot orw ofm ++ news))
    (hoa : oa.data = .cell none) (hor : orw.data = .cell none) (hof : ofm.data = .cell none) (hsc : base.IsList sc vs.toArray) (hi : IntsAre vs ns) (hlen : ns.length ≤ 63) (hm : m (Str.ofString "script") = some (.ref sc))
    (hq : ∀ h' tk m' Rw Ab Fl Nb rv us e1 e2 e3 e4 FA AA fo ao oa' orw' ofm', St base L h' m' (lawCells L ow oa' ot orw' ofm' ++ ([(Rw, listOf (List.toArray rv) e1), (Ab, listOf ((List.range ((xsL ns).length + 1)).map fun j => Value.ref (AA j)).toArray e2), (Fl, listOf ((List.range ((xsL ns).length + 1)).map fun j => Value.ref (FA j)).toArray e3), (Nb, listOf (List.toArray us) e4)] ++ (fam ((xsL ns).length + 1) FA fo ++ (fam ((xsL ns).length + 1) AA ao ++ news)))) →
      m' (Str.ofString "script") = some (.ref sc) → oa'.data = .cell (some (.ref Ab)) → orw'.data = .cell (some (.ref Rw)) → ofm'.data = .cell (some (.ref Fl)) → IntsAre rv (rowI (xsL ns) (xsL ns).length) → ListsAre ((xsL ns).length + 1) fo (famI (xsL ns) (xsL ns).length) →
      ListsAre ((xsL ns).length + 1) ao (fun j => (abvL (decide (ns.length % 2 = 1)) (xsL ns) (xsL ns).length).getD j []) → wpAny (model PySem.Challenge.rw_ij0154_01.prog w) A (execs rest (lawEnv w.params L)) Q (fun _ _ => False) { s with heap := h', toks := tk }) :
    wpAny (model PySem.Challenge.rw_ij0154_01.prog w) A (execs (stF w.params 96 0 :: stF w.params 96 1 :: stF w.params 96 2 :: stF w.params 96 3 :: stF w.params 96 4 :: rest) (lawEnv w.params L)) Q (fun _ _ => False) s := by
  have hxl := xsL_len ns
  refine wpAny_execs_cons (st0 hA G S hsc hi hlen hm fun h1 t1 Nb us e4 S1 iu => ?_)
  dsimp only
  have iu : IntsAre us (xsL ns) := iu
  refine wpAny_execs_cons (st1 (nb := Nb) (us := us) (ns := xsL ns) (eb := e4) hA G (S1.perm (List.perm_middle (l₁ := lawCells L ow oa ot orw ofm)).symm) (.head _) iu (by omega) (by walk_at "z_loc") hof fun h2 t2 FA Fl e3 ofm2 S2 hof2 => ?_)
  dsimp only
  refine wpAny_execs_cons (st2 hA G S2 hoa fun h3 t3 Ab a0 tk0 e2 e0 oa3 S3 hoa3 => ?_)
  dsimp only
  refine wpAny_execs_cons (st3 hA G S3 hor fun h4 t4 Rw e1 orw4 S4 hor4 => ?_)
  dsimp only
  refine wpAny_execs_cons (st4 (Rw := Rw) (Ab := Ab) (Fl := Fl) (Nb := Nb) (us := us) (ss := ns) (xs := xsL ns) (e1 := e1) (e2 := e2) (e3 := e3) (e4 := e4) (FA := FA) (AA := fun _ => a0) (fo := fun _ => listOf #[] 0) (ao := fun _ => listOf #[.int 0 tk0] e0) hA G (S4.perm (permA (lawCells L ow oa3 ot orw4 ofm2) (fam ((xsL ns).length + 1) FA fun _ => listOf #[] 0) news (Rw, listOf #[] e1) (Ab, listOf #[.ref a0] e2) (a0, listOf #[.int 0 tk0] e0) (Fl, _) (Nb, _)))
    hsc hi hlen iu (by omega) (by walk_at "z_loc") (by walk_at "z_loc") hoa3 hor4 hof2 (fun j _ => ⟨[], 0, rfl, .nil⟩) (fun j _ => ⟨[.int 0 tk0], e0, rfl, .cons _ _ .nil⟩) fun h5 t5 m5 rv e1' e2' AA' fo' ao' S5 hs5 irv lfo lao => ?_)
  dsimp only
  exact hq h5 t5 m5 Rw Ab Fl Nb rv us e1' e2' e3 e4 FA AA' fo' ao' oa3 orw4 ofm2 (by rw [← List.append_assoc]; exact S5) hs5 hoa3 hor4 hof2 irv lfo lao
end
theorem mvX {α : Type} (P A : List α) (x a b c d e : α) : (P ++ x :: a :: b :: (A ++ [c, d, e])).Perm (P ++ ((x :: A) ++ [b, c, a, d, e])) := by
  refine List.Perm.append_left P (.cons _ ?_)
  exact (List.perm_append_comm_assoc [a, b] A [c, d, e]).trans (List.Perm.append_left A (List.perm_middle (l₁ := [b, c]) (l₂ := [d, e])).symm)
theorem mvB {α : Type} (P A B C : List α) (x t : α) : (P ++ x :: t :: (A ++ (B ++ C))).Perm (P ++ ((x :: A) ++ (B ++ t :: C))) :=
  (List.Perm.append_left P (.swap _ _ _)).trans (mvT P (x :: A) B C t).symm
theorem mem_pull {α : Type} {A B C : List α} {q t : α} (h : q ∈ A ++ (B ++ t :: C)) (hn : q ≠ t) : q ∈ A ++ (B ++ C) := by
  simp only [List.mem_append, List.mem_cons] at h ⊢
  rcases h with h | h | h | h
  · exact .inl h
  · exact .inr (.inl h)
  · exact absurd h hn
  · exact .inr (.inr h)
theorem ints_lay {rv : List Value} {rs : List Nat} (hi : IntsAre rv (rs.map fun k : Nat => (k : Int))) : ∀ (l : List Nat), (∀ i ∈ l, i < rs.length) → IntsAre (l.map fun i => rv.getD i Value.none) ((l.map fun i => rs.getD i 0).map fun k : Nat => (k : Int))
  | [], _ => .nil
  | i :: l, h => by
    have hl := hi.length
    rw [List.length_map] at hl
    have h1 := h i (.head _)
    obtain ⟨-, t, e⟩ := ints_get hi (List.getElem?_eq_getElem (show i < rv.length by omega))
    rw [List.map_cons, List.map_cons, List.map_cons, List.getD_eq_getElem?_getD, List.getElem?_eq_getElem (show i < rv.length by omega), Option.getD_some, e]
    exact .cons _ _ (ints_lay hi l fun j hj => h j (.tail _ hj))
theorem ints_lay1 {rv : List Value} {rs : List Nat} {q : Array Nat} (hi : IntsAre rv (rs.map fun k : Nat => (k : Int))) (hq : Pm rs.length q) : IntsAre (q.toList.map fun i => rv.getD i Value.none) ((lay1 rs q).map fun k : Nat => (k : Int)) :=
  ints_lay hi q.toList fun i hm => by
    have := (Array.perm_iff_toList_perm.mp hq).mem_iff.mp hm
    simpa using this
section
variable {w : World} {A : Around} {s : Shared} {pr : Program} {loose : List Str} {mg mb : Str → Option Value} {base : Heap} {L : Addr} {m : Str → Option Value} {Q : Flow → Shared → Prop}
/-- the law's statements to told -/
theorem runB {sc Rw Ab Fl : Addr} {vs rv : List Value} {ns : List Int} {rs : List Nat} {rest : List Stmt} {N e1 e2 e3 : Nat} {FA AA : Nat → Addr} {fo ao : Nat → Obj} {fm av : Nat → List Int} {p : Nat → Nat} {R : Nat → Int} {B0 : List (Addr × Obj)} {ow oa ot orw ofm : Obj} (hA : Sm A 310 1500) (G : Gd w pr loose mg mb base) (C44 : CodeHd base 48 44) (C93 : CodeHd base 95 93)
    (S : St base L s.heap m (lawCells L ow oa ot orw ofm ++ (B0 ++ [(44, tabObj #[]), (60, tabObj #[]), (79, tabObj #[]), (86, tabObj #[]), (93, tabObj #[])])))
    (how : ow.data = .cell none) (hot : ot.data = .cell none) (hoa : oa.data = .cell (some (.ref Ab))) (hor : orw.data = .cell (some (.ref Rw))) (hof : ofm.data = .cell (some (.ref Fl)))
    (hsc : base.IsList sc vs.toArray) (hi : IntsAre vs ns) (hlen : ns.length ≤ 63) (hm : m (Str.ofString "script") = some (.ref sc))
    (mRw : (Rw, listOf rv.toArray e1) ∈ B0) (mAb : (Ab, listOf ((List.range N).map fun j => Value.ref (AA j)).toArray e2) ∈ B0) (mFl : (Fl, listOf ((List.range N).map fun j => Value.ref (FA j)).toArray e3) ∈ B0) (mFA : ∀ j, j < N → (FA j, fo j) ∈ B0) (mAA : ∀ j, j < N → (AA j, ao j) ∈ B0)
    (irv : IntsAre rv (rs.map fun k : Nat => (k : Int))) (lfo : ListsAre N fo fm) (lao : ListsAre N ao av) (h2 : 2 ≤ rs.length) (h40 : rs.length ≤ 40) (hrs : ∀ k ∈ rs, k < N) (hN : N ≤ 20)
    (hcnt : ((handL (decide (ns.length % 2 = 1)) N).map fun j => (fm j).length).sum ≤ 1000) (hfl : ∀ j, j < N → (fm j).length ≤ 100) (inj : ∀ i j, i < N → j < N → FA i = FA j → i = j) (hp : ∀ k, 0 < k → p k < k)
    (htab0 : tabF ((handL (decide (ns.length % 2 = 1)) N).map fun j => (FA j, fm j)) (fun _ => none) 0 = none) (htab : ∀ k : Nat, 0 < k → k < N → tabF ((handL (decide (ns.length % 2 = 1)) N).map fun j => (FA j, fm j)) (fun _ => none) k = some (.ref (FA (p k))))
    (hin : ∀ k : Nat, 0 < k → k < N → (k : Int) ∈ fm (p k)) (hsm : ∀ j, j < N → ∀ x ∈ fm j, 0 ≤ x ∧ x < 64)
    (hR1 : ∀ a b, a < N → b < N → lexLt (av a) (av b) = decide (R a < R b)) (hR2 : ∀ a b, a < N → b < N → decide (cmpV p fm a b < 0) = decide (R a < R b))
    (hq : ∀ h' tk m' Du Tl Ws dv tv e7 e8 e9 (WA : Nat → Addr) (wo : Nat → Obj) q1 q2 ow' ot' B' p44 p60 p79 c93, St base L h' m' (lawCells L ow' oa ot' orw ofm ++ (B' ++ [(44, tabObj p44), (60, tabObj p60), (79, tabObj p79), (86, tabObj #[]), (93, tabObj #[rawInt 101, rawInt 26, .ref c93])])) →
      ow'.data = .cell (some (.ref Ws)) → m' (Str.ofString "due") = some (.ref Du) → m' (Str.ofString "told") = some (.ref Tl) → (Du, listOf (List.toArray dv) e8) ∈ B' → (Tl, listOf (List.toArray tv) e9) ∈ B' → (Ws, listOf ((List.range N).map fun j => Value.ref (WA j)).toArray e7) ∈ B' → (∀ j, j < N → (WA j, wo j) ∈ B') → (∀ q ∈ B0, q ∈ B') →
      IntsAre dv ((lay1 rs q1).map fun k : Nat => (k : Int)) → IntsAre tv ((lay1 rs q2).map fun k : Nat => (k : Int)) → ListsAre N wo (way p) → Pm rs.length q1 → Srt (fun i => R (rs.getD i 0)) q1 rs.length → Pm rs.length q2 → Srt (fun i => R (rs.getD i 0)) q2 rs.length →
      wpAny (model PySem.Challenge.rw_ij0154_01.prog w) A (execs rest (lawEnv w.params L)) Q (fun _ _ => False) { s with heap := h', toks := tk }) :
    wpAny (model PySem.Challenge.rw_ij0154_01.prog w) A (execs (stF w.params 96 5 :: stF w.params 96 6 :: stF w.params 96 7 :: stF w.params 96 8 :: stF w.params 96 9 :: rest) (lawEnv w.params L)) Q (fun _ _ => False) s := by
  refine wpAny_execs_cons (st5 hA G S hsc hi hlen hm hof (List.mem_append_left _ mFl) hN fun h1 t1 H extra e5 S1 mH => ?_)
  dsimp only
  have hneH : (H, listOf ((handL (decide (ns.length % 2 = 1)) N).map fun j => Value.ref (FA j)).toArray e5) ≠ (60, tabObj #[]) := fun e => by
    have e := congrArg (fun x : Addr × Obj => x.2) e
    dsimp only at e
    exact nomatch (congrArg Obj.cls e)
  have S1 : St base L h1 _ (lawCells L ow oa ot orw ofm ++ ((extra ++ B0) ++ ([(44, tabObj #[])] ++ (60, tabObj #[]) :: [(79, tabObj #[]), (86, tabObj #[]), (93, tabObj #[])]))) := S1.perm (.of_eq (by simp only [List.cons_append, List.append_assoc, List.nil_append]))
  have mH := mem_pull (A := extra ++ B0) (B := [(44, tabObj #[])]) (t := (60, tabObj #[])) (C := [(79, tabObj #[]), (86, tabObj #[]), (93, tabObj #[])]) (by rw [List.append_assoc extra]; exact mH) hneH
  have inE : ∀ q ∈ B0, q ∈ extra ++ B0 := fun q hq => List.mem_append_right _ hq
  generalize extra ++ B0 = B1 at S1 mH inE
  refine wpAny_execs_cons (st6 (H := H) (hs := (handL (decide (ns.length % 2 = 1)) N).map fun j => (FA j, fm j)) (eh := e5) hA G (S1.perm (mvT _ B1 _ _ _)) (by walk_at "z_loc") (by rw [List.map_map]; exact mH) (fun x hx => ?_) (by rw [List.map_map]; exact hcnt) (by rw [List.length_map]; unfold handL; split <;> simp <;> omega) hot fun h2' t2 Td od ot2 p60 S2 hD hot2 => ?_)
  · obtain ⟨j, hj, rfl⟩ := List.mem_map.mp hx
    have hj : j < N := by unfold handL at hj; split at hj <;> simpa using hj
    obtain ⟨us, e, he, iu⟩ := lfo j hj
    exact ⟨us, e, List.mem_append_left _ (inE _ (he ▸ mFA j hj)), iu⟩
  dsimp only
  have S2 := S2.perm (mvB (lawCells L ow oa ot2 orw ofm) B1 [(44, tabObj #[])] [(79, tabObj #[]), (86, tabObj #[]), (93, tabObj #[])] (Td, od) (60, tabObj p60))
  have mTd : (Td, od) ∈ (Td, od) :: B1 := .head _
  have inE2 : ∀ q ∈ B0, q ∈ (Td, od) :: B1 := fun q hq => .tail _ (inE q hq)
  generalize (Td, od) :: B1 = B2 at S2 mTd inE2
  refine wpAny_execs_cons (st7 (Td := Td) (od := od) (f := tabF ((handL (decide (ns.length % 2 = 1)) N).map fun j => (FA j, fm j)) fun _ => none) (FA := FA) (p := p) hA G S2 hof hot2 how (List.mem_append_left _ (inE2 _ mFl)) (List.mem_append_left _ mTd) hD hN inj htab0 htab hp (fun j hj => ?_) fun h3 t3 Ws e7 WA wo ow3 S3 lwo how3 => ?_)
  · obtain ⟨us, e, he, -⟩ := lfo j hj
    exact ⟨us.toArray, e, List.mem_append_left _ (inE2 _ (he ▸ mFA j hj))⟩
  dsimp only
  have S3 : St base L h3 _ (lawCells L ow3 oa ot2 orw ofm ++ (((Ws, listOf ((List.range N).map fun j => Value.ref (WA j)).toArray e7) :: (fam N WA wo ++ B2)) ++ ([(44, tabObj #[]), (60, tabObj p60), (79, tabObj #[]), (86, tabObj #[])] ++ (93, tabObj #[]) :: []))) := S3.perm (.of_eq (by simp only [List.cons_append, List.append_assoc, List.nil_append]))
  have mWs : (Ws, listOf ((List.range N).map fun j => Value.ref (WA j)).toArray e7) ∈ (Ws, listOf ((List.range N).map fun j => Value.ref (WA j)).toArray e7) :: (fam N WA wo ++ B2) := .head _
  have mWA : ∀ j, j < N → (WA j, wo j) ∈ (Ws, listOf ((List.range N).map fun j => Value.ref (WA j)).toArray e7) :: (fam N WA wo ++ B2) := fun j hj => .tail _ (List.mem_append_left _ (fam_mem hj))
  have inE3 : ∀ q ∈ B2, q ∈ (Ws, listOf ((List.range N).map fun j => Value.ref (WA j)).toArray e7) :: (fam N WA wo ++ B2) := fun q hq => .tail _ (List.mem_append_right _ hq)
  generalize (Ws, listOf ((List.range N).map fun j => Value.ref (WA j)).toArray e7) :: (fam N WA wo ++ B2) = B3 at S3 mWs mWA inE3
  have in3 : ∀ q ∈ B0, q ∈ B3 := fun q hq => inE3 q (inE2 q hq)
  refine wpAny_execs_cons (st8 (Rw := Rw) (Ab := Ab) (rv := rv) (rs := rs) (N := N) (AA := AA) (ao := ao) (av := av) (rank := fun i => R (rs.getD i 0)) hA G C93 (S3.perm (mvT _ B3 _ _ _)) hoa hor (List.mem_append_left _ (in3 _ mRw)) irv h2 (by omega) hrs hN (List.mem_append_left _ (in3 _ mAb)) (fun j hj => List.mem_append_left _ (in3 _ (mAA j hj))) lao (fun i j hi hj => hR1 _ _ (getD_lt hrs hi) (getD_lt hrs hj)) fun h4 t4 Du q1 e8 c93 S4 hpm1 hsr1 => ?_)
  dsimp only
  have idv := ints_lay1 irv hpm1
  generalize (q1.toList.map fun i => rv.getD i Value.none) = dv at S4 idv
  have S4 : St base L h4 _ (lawCells L ow3 oa ot2 orw ofm ++ (((Du, listOf dv.toArray e8) :: B3) ++ ([] ++ (44, tabObj #[]) :: [(60, tabObj p60), (79, tabObj #[]), (86, tabObj #[]), (93, tabObj #[rawInt 101, rawInt 26, .ref c93])]))) := S4.perm (mvT (lawCells L ow3 oa ot2 orw ofm) ((Du, listOf dv.toArray e8) :: B3) [(44, tabObj #[]), (60, tabObj p60), (79, tabObj #[]), (86, tabObj #[])] [] (93, tabObj #[rawInt 101, rawInt 26, .ref c93])).symm
  have mDu : (Du, listOf dv.toArray e8) ∈ (Du, listOf dv.toArray e8) :: B3 := .head _
  have inE4 : ∀ q ∈ B3, q ∈ (Du, listOf dv.toArray e8) :: B3 := fun q hq => .tail _ hq
  generalize (Du, listOf dv.toArray e8) :: B3 = B4 at S4 mDu inE4
  have in4 : ∀ q ∈ B0, q ∈ B4 := fun q hq => inE4 q (in3 q hq)
  have S4 : St base L h4 _ (lawCells L ow3 oa ot2 orw ofm ++ (79, tabObj #[]) :: ((44, tabObj #[]) :: (B4 ++ [(60, tabObj p60), (86, tabObj #[]), (93, tabObj #[rawInt 101, rawInt 26, .ref c93])]))) := (S4.perm (mvT _ B4 _ _ _)).perm (mvT (lawCells L ow3 oa ot2 orw ofm) ((44, tabObj #[]) :: B4) [(60, tabObj p60)] [(86, tabObj #[]), (93, tabObj #[rawInt 101, rawInt 26, .ref c93])] (79, tabObj #[]))
  refine wpAny_execs_cons (st9 (Rw := Rw) (Td := Td) (Ws := Ws) (od := od) (rv := rv) (rs := rs) (N := N) (FA := FA) (WA := WA) (fo := fo) (wo := wo) (p := p) (fm := fm) (rank := fun i => R (rs.getD i 0)) hA G C44 S4 how3 hor hot2 (List.mem_append_left _ (in4 _ mRw)) irv h2 (by omega) hrs hN (List.mem_append_left _ (inE4 _ (inE3 _ mTd))) hD (List.mem_append_left _ (inE4 _ mWs)) (fun j hj => List.mem_append_left _ (inE4 _ (mWA j hj))) lwo
    (fun j hj => List.mem_append_left _ (in4 _ (mFA j hj))) lfo htab0 htab hp hfl hin hsm (fun i j hi hj => hR2 _ _ (getD_lt hrs hi) (getD_lt hrs hj)) fun h5 t5 Tl q2 e9 p79 p44 S5 hpm2 hsr2 => ?_)
  dsimp only
  have itv := ints_lay1 irv hpm2
  generalize (q2.toList.map fun i => rv.getD i Value.none) = tv at S5 itv
  have S5 := S5.perm (mvX (lawCells L ow3 oa ot2 orw ofm) B4 (Tl, listOf tv.toArray e9) (79, tabObj p79) (44, tabObj p44) (60, tabObj p60) (86, tabObj #[]) (93, tabObj #[rawInt 101, rawInt 26, .ref c93]))
  exact hq h5 t5 _ Du Tl Ws dv tv e7 e8 e9 WA wo q1 q2 ow3 ot2 _ p44 p60 p79 c93 S5 how3 (by walk_at "z_loc") (by walk_at "z_loc") (.tail _ mDu) (.head _) (.tail _ (inE4 _ mWs)) (fun j hj => .tail _ (inE4 _ (mWA j hj))) (fun q hq => .tail _ (in4 q hq)) idv itv lwo hpm1 hsr1 hpm2 hsr2
end
theorem notab {a : Addr} {its : Array Value} {e : Nat} {T : List (Addr × Obj)} (hT : ∀ q ∈ T, q.2.cls = .none) (h : (a, (listOf its e : Obj)) ∈ T) : False := nomatch (hT _ h)
section
variable {w : World} {A : Around} {s : Shared} {pr : Program} {loose : List Str} {mg mb : Str → Option Value} {base : Heap} {L : Addr} {m : Str → Option Value} {Q : Flow → Shared → Prop}
/-- the law's statements from common to its end -/
theorem runC {Ab Rw Du Tl Ws : Addr} {rv dv tv : List Value} {rs ds : List Nat} {e1 e2 e7 e8 e9 N : Nat} {AA WA : Nat → Addr} {ao wo : Nat → Obj} {av : Nat → List Int} {p : Nat → Nat} {B : List (Addr × Obj)} {p44 p60 p79 : Array Value} {c93 : Addr} {ow oa ot orw ofm : Obj}
    (hA : Sm A 310 1500) (G : Gd w pr loose mg mb base) (C86 : CodeHd base 90 86) (C93 : CodeHd base 95 93)
    (S : St base L s.heap m (lawCells L ow oa ot orw ofm ++ (B ++ [(44, tabObj p44), (60, tabObj p60), (79, tabObj p79), (86, tabObj #[]), (93, tabObj #[rawInt 101, rawInt 26, .ref c93])])))
    (how : ow.data = .cell (some (.ref Ws))) (hoa : oa.data = .cell (some (.ref Ab))) (hor : orw.data = .cell (some (.ref Rw))) (hmd : m (Str.ofString "due") = some (.ref Du)) (hmt : m (Str.ofString "told") = some (.ref Tl))
    (mRw : (Rw, listOf rv.toArray e1) ∈ B) (mAb : (Ab, listOf ((List.range N).map fun j => Value.ref (AA j)).toArray e2) ∈ B) (mAA : ∀ j, j < N → (AA j, ao j) ∈ B) (mDu : (Du, listOf dv.toArray e8) ∈ B) (mTl : (Tl, listOf tv.toArray e9) ∈ B)
    (mWs : (Ws, listOf ((List.range N).map fun j => Value.ref (WA j)).toArray e7) ∈ B) (mWA : ∀ j, j < N → (WA j, wo j) ∈ B)
    (irv : IntsAre rv (rs.map fun k : Nat => (k : Int))) (idv : IntsAre dv (ds.map fun k : Nat => (k : Int))) (itv : IntsAre tv (ds.map fun k : Nat => (k : Int))) (lao : ListsAre N ao av) (lwo : ListsAre N wo (way p)) (hp : ∀ k, 0 < k → p k < k)
    (h2 : 2 ≤ ds.length) (h40 : ds.length ≤ 40) (hr40 : rs.length ≤ 40) (hds : ∀ k ∈ ds, k < N) (hrs : ∀ k ∈ rs, k < N) (hN : N ≤ 20) (hal : ∀ j, j < N → (av j).length ≤ 100)
    (hne : ∀ t, t ≤ ds.length → 0 < (comT (av (ds.getD (ds.length - 1) 0)) av ds.reverse t).length)
    (hfound : holT (av (ds.getD (ds.length - 1) 0)) av ds.reverse ds.length = redT p ds.reverse.tail (ds.getD (ds.length - 1) 0) (ds.length - 1))
    (hleast : roadsum p ds ds.length = 2 * ((cnt (fun k => rs.any (sideV av k)) N : Int) - (comT (av (ds.getD (ds.length - 1) 0)) av ds.reverse ds.length).length))
    (hturns : roadsum p rs rs.length = (sumN (fun k => chg (fun i => sideV av k (rs.getD i 0)) rs.length rs.length) N : Nat))
    (hR : ∀ h' tk, (∀ b o, base.get? b = some o → h'.get? b = some o) → (∃ q, h'.get? 44 = some (tabObj q)) → (∃ q, h'.get? 60 = some (tabObj q)) → (∃ q, h'.get? 79 = some (tabObj q)) → (∃ q, h'.get? 86 = some (tabObj q)) → (∃ q, h'.get? 93 = some (tabObj q)) → Q (.ret (.bool true)) { s with heap := h', toks := tk }) :
    wpAny (model PySem.Challenge.rw_ij0154_01.prog w) A (execs [stF w.params 96 10, stF w.params 96 11, stF w.params 96 12, stF w.params 96 13, stF w.params 96 14, stF w.params 96 15, stF w.params 96 16, stF w.params 96 17, stF w.params 96 18] (lawEnv w.params L)) Q (fun _ _ => False) s := by
  have lN : ds.getD (ds.length - 1) 0 < N := getD_lt hds (by omega)
  have hcl := comT_len (av (ds.getD (ds.length - 1) 0)) av ds.reverse ds.length
  have hlal := hal _ lN
  refine wpAny_execs_cons (st10 hA G S hoa hmd (List.mem_append_left _ mDu) idv (by omega) (by omega) hds hN (List.mem_append_left _ mAb) fun h1 t1 S1 => ?_)
  dsimp only
  refine wpAny_execs_cons (st11 hA G S1 fun h2' t2 Hd eh S2 => ?_)
  dsimp only
  obtain ⟨cv, ec, hec, icv⟩ := lao _ lN
  have mCm : (AA (ds.getD (ds.length - 1) 0), listOf cv.toArray ec) ∈ B := hec ▸ mAA _ lN
  refine wpAny_execs_cons (st12 (Du := Du) (Ab := Ab) (Hd := Hd) (Cm := AA (ds.getD (ds.length - 1) 0)) (dv := dv) (cv := cv) (ds := ds) (c0 := av (ds.getD (ds.length - 1) 0)) (N := N) (AA := AA) (ao := ao) (av := av) hA G S2 hoa (by walk_at "z_loc") (by walk_at "z_loc") (by walk_at "z_loc") (List.mem_append_left _ mDu) idv (by omega) (by omega) hds hN (List.mem_append_left _ mAb) (fun j hj => List.mem_append_left _ (mAA j hj)) lao hal (List.mem_append_left _ mCm) icv hlal hne
    fun h3 t3 m3 Cm3 cv3 ec3 hv3 eh3 nw3 S3 hX md mh mc mo hm ic ih => ?_)
  dsimp only
  obtain ⟨X3, rfl⟩ := hX
  have mt3 : m3 (Str.ofString "told") = some (.ref Tl) := (mo _ (by decide) (by decide)).trans (by walk_at "z_loc")
  have S3 : St base L h3 m3 (lawCells L ow oa ot orw ofm ++ (((Hd, listOf hv3.toArray eh3) :: (X3 ++ B)) ++ ([(44, tabObj p44), (60, tabObj p60), (79, tabObj p79), (86, tabObj #[])] ++ (93, tabObj #[rawInt 101, rawInt 26, .ref c93]) :: []))) := S3.perm (.of_eq (by simp only [List.cons_append, List.append_assoc, List.nil_append]))
  have mCm3 : (Cm3, listOf cv3.toArray ec3) ∈ (Hd, listOf hv3.toArray eh3) :: (X3 ++ B) := by
    rw [← List.append_assoc] at hm
    rcases List.mem_append.mp hm with h | h
    · exact .tail _ h
    · refine (notab (fun q hq => ?_) h).elim
      simp only [List.mem_cons, List.not_mem_nil, or_false] at hq
      rcases hq with rfl | rfl | rfl | rfl | rfl <;> rfl
  have mHd : (Hd, listOf hv3.toArray eh3) ∈ (Hd, listOf hv3.toArray eh3) :: (X3 ++ B) := .head _
  have in3 : ∀ q ∈ B, q ∈ (Hd, listOf hv3.toArray eh3) :: (X3 ++ B) := fun q hq => .tail _ (List.mem_append_right _ hq)
  generalize (Hd, listOf hv3.toArray eh3) :: (X3 ++ B) = B3 at S3 mCm3 mHd in3
  refine wpAny_execs_cons (st13 (Du := Du) (Ws := Ws) (dv := dv) (ds := ds) (N := N) (WA := WA) (wo := wo) (p := p) hA G C93 (S3.perm (mvT _ B3 _ _ _)) how md (List.mem_append_left _ (in3 _ mDu)) idv h2 (by omega) hds hN (List.mem_append_left _ (in3 _ mWs)) (fun j hj => List.mem_append_left _ (in3 _ (mWA j hj))) lwo hp fun h4 t4 Fo fv ef p93 S4 ifv => ?_)
  dsimp only
  have S4 := S4.perm (mvB (lawCells L ow oa ot orw ofm) B3 [(44, tabObj p44), (60, tabObj p60), (79, tabObj p79), (86, tabObj #[])] [] (Fo, listOf fv.toArray ef) (93, tabObj p93))
  have mFo : (Fo, listOf fv.toArray ef) ∈ (Fo, listOf fv.toArray ef) :: B3 := .head _
  have in4 : ∀ q ∈ B3, q ∈ (Fo, listOf fv.toArray ef) :: B3 := fun q hq => .tail _ hq
  generalize (Fo, listOf fv.toArray ef) :: B3 = B4 at S4 mFo in4
  refine wpAny_execs_cons (st14 (Ab := Ab) (Rw := Rw) (rv := rv) (rs := rs) (N := N) (AA := AA) (ao := ao) (av := av) hA G S4 hoa hor (List.mem_append_left _ (in4 _ (in3 _ mRw))) irv (by omega) hrs hN (List.mem_append_left _ (in4 _ (in3 _ mAb))) (fun j hj => List.mem_append_left _ (in4 _ (in3 _ (mAA j hj)))) lao hal fun h5 t5 Sd SA S5 => ?_)
  dsimp only
  have S5 : St base L h5 _ (lawCells L ow oa ot orw ofm ++ (((Sd, LCg.lst ((List.range N).map fun j => Value.ref (SA j))) :: (fam N SA (fun k => LCg.lst (rs.map fun g => Value.bool (sideV av k g))) ++ B4)) ++ ([(44, tabObj p44), (60, tabObj p60), (79, tabObj p79)] ++ (86, tabObj #[]) :: [(93, tabObj p93)]))) := S5.perm (.of_eq (by simp only [List.cons_append, List.append_assoc, List.nil_append]))
  have mSd : (Sd, LCg.lst ((List.range N).map fun j => Value.ref (SA j))) ∈ (Sd, LCg.lst ((List.range N).map fun j => Value.ref (SA j))) :: (fam N SA (fun k => LCg.lst (rs.map fun g => Value.bool (sideV av k g))) ++ B4) := .head _
  have mSA : ∀ k, k < N → (SA k, LCg.lst (rs.map fun g => Value.bool (sideV av k g))) ∈ (Sd, LCg.lst ((List.range N).map fun j => Value.ref (SA j))) :: (fam N SA (fun k => LCg.lst (rs.map fun g => Value.bool (sideV av k g))) ++ B4) := fun k hk => .tail _ (List.mem_append_left _ (fam_mem (fo := fun k => LCg.lst (rs.map fun g => Value.bool (sideV av k g))) hk))
  have in5 : ∀ q ∈ B4, q ∈ (Sd, LCg.lst ((List.range N).map fun j => Value.ref (SA j))) :: (fam N SA (fun k => LCg.lst (rs.map fun g => Value.bool (sideV av k g))) ++ B4) := fun q hq => .tail _ (List.mem_append_right _ hq)
  generalize (Sd, LCg.lst ((List.range N).map fun j => Value.ref (SA j))) :: (fam N SA (fun k => LCg.lst (rs.map fun g => Value.bool (sideV av k g))) ++ B4) = B5 at S5 mSd mSA in5
  have inB : ∀ q ∈ B, q ∈ B5 := fun q hq => in5 _ (in4 _ (in3 _ hq))
  refine wpAny_execs_cons (st15 (Sd := Sd) (Cm := Cm3) (cv := cv3) (c0 := comT (av (ds.getD (ds.length - 1) 0)) av ds.reverse ds.length) (rs := rs) (N := N) (SA := SA) (av := av) hA G S5 (by walk_at "z_loc") (by walk_at "z_loc") hN (List.mem_append_left _ mSd) (fun k hk => List.mem_append_left _ (mSA k hk)) (List.mem_append_left _ (in5 _ (in4 _ mCm3))) ic (by omega) fun h6 t6 tl S6 => ?_)
  dsimp only
  refine wpAny_execs_cons (st16 (Sd := Sd) (Rw := Rw) (rv := rv) (rs := rs) (N := N) (SA := SA) (av := av) hA G S6 hor (by walk_at "z_loc") hN (List.mem_append_left _ (inB _ mRw)) irv hr40 (List.mem_append_left _ mSd) (fun k hk => List.mem_append_left _ (mSA k hk)) fun h7 t7 tu S7 => ?_)
  dsimp only
  rw [← hfound] at ifv
  refine wpAny_execs_cons (st17 (Tl := Tl) (Du := Du) (Fo := Fo) (Hd := Hd) (tv := tv) (dv := dv) (fv := fv) (hv := hv3) hA G S7 (by walk_at "z_loc") (by walk_at "z_loc") (by walk_at "z_loc") (by walk_at "z_loc") (List.mem_append_left _ (inB _ mTl)) (List.mem_append_left _ (inB _ mDu)) (List.mem_append_left _ (in5 _ mFo)) (List.mem_append_left _ (in5 _ (in4 _ mHd))) itv idv ifv ih fun h8 t8 S8 => ?_)
  dsimp only
  refine wpAny_execs_cons (st18 (Tl := Tl) (Rw := Rw) (Ws := Ws) (tv := tv) (rv := rv) (ts := ds) (rs := rs) (N := N) (WA := WA) (wo := wo) (p := p) hA G C86 (S8.perm (mvT _ B5 _ _ _)) how hor (by walk_at "z_loc") (by walk_at "z_loc") (by walk_at "z_loc") (List.mem_append_left _ (inB _ mTl)) (List.mem_append_left _ (inB _ mRw)) itv irv (by omega) (by omega) hds hrs hN (List.mem_append_left _ (inB _ mWs)) (fun j hj => List.mem_append_left _ (inB _ (mWA j hj))) lwo hp hleast hturns fun h9 t9 p86 kb kn g86 => ?_)
  dsimp only
  exact hR h9 t9 kb ⟨p44, kn (44, tabObj p44) (List.mem_append_right _ (.head _))⟩ ⟨p60, kn (60, tabObj p60) (List.mem_append_right _ (.tail _ (.head _)))⟩ ⟨p79, kn (79, tabObj p79) (List.mem_append_right _ (.tail _ (.tail _ (.head _))))⟩ ⟨p86, g86⟩ ⟨p93, kn (93, tabObj p93) (List.mem_append_right _ (.tail _ (.tail _ (.tail _ (.head _)))))⟩
end
end Mine
end
section
open PySem PySem.W PySem.Calls PyProof.Rows
set_option Elab.async false
set_option maxRecDepth 100000
set_option maxHeartbeats 4000000
namespace Mine
theorem sum_le {α : Type} (f : α → Nat) (c : Nat) : ∀ (l : List α), (∀ x ∈ l, f x ≤ c) → (l.map f).sum ≤ l.length * c
  | [], _ => Nat.zero_le _
  | x :: l, h => by
    have h1 := h x (.head _)
    have h2 := sum_le f c l fun y hy => h y (.tail _ hy)
    rw [List.map_cons, List.sum_cons, List.length_cons, Nat.add_mul]; omega
theorem rev_cons {ds : List Nat} (h : 0 < ds.length) : ds.reverse = ds.getD (ds.length - 1) 0 :: ds.reverse.tail := by
  rcases List.eq_nil_or_concat ds with rfl | ⟨i, x, rfl⟩
  · simp at h
  · rw [List.concat_eq_append]; simp
section
variable {w : World} {A : Around} {s : Shared} {pr : Program} {loose : List Str} {mg mb : Str → Option Value} {base : Heap} {L : Addr} {m : Str → Option Value} {Q : Flow → Shared → Prop}
/-- the law's statements, all of them -/
theorem runAll {sc : Addr} {vs : List Value} {ns : List Int} {ow oa ot orw ofm : Obj} (hA : Sm A 310 1500) (G : Gd w pr loose mg mb base) (C44 : CodeHd base 48 44) (C86 : CodeHd base 90 86) (C93 : CodeHd base 95 93)
    (S : St base L s.heap m (lawCells L ow oa ot orw ofm ++ [(44, tabObj #[]), (60, tabObj #[]), (79, tabObj #[]), (86, tabObj #[]), (93, tabObj #[])]))
    (how : ow.data = .cell none) (hoa : oa.data = .cell none) (hot : ot.data = .cell none) (hor : orw.data = .cell none) (hof : ofm.data = .cell none) (hsc : base.IsList sc vs.toArray) (hi : IntsAre vs ns) (hlen : ns.length ≤ 63) (hm : m (Str.ofString "script") = some (.ref sc))
    (hR : ∀ h' tk, (∀ b o, base.get? b = some o → h'.get? b = some o) → (∃ q, h'.get? 44 = some (tabObj q)) → (∃ q, h'.get? 60 = some (tabObj q)) → (∃ q, h'.get? 79 = some (tabObj q)) → (∃ q, h'.get? 86 = some (tabObj q)) → (∃ q, h'.get? 93 = some (tabObj q)) → Q (.ret (.bool true)) { s with heap := h', toks := tk }) :
    wpAny (model PySem.Challenge.rw_ij0154_01.prog w) A (execs [stF w.params 96 0, stF w.params 96 1, stF w.params 96 2, stF w.params 96 3, stF w.params 96 4, stF w.params 96 5, stF w.params 96 6, stF w.params 96 7, stF w.params 96 8, stF w.params 96 9, stF w.params 96 10, stF w.params 96 11, stF w.params 96 12, stF w.params 96 13, stF w.params 96 14, stF w.params 96 15, stF w.params 96 16, stF w.params 96 17, stF w.params 96 18] (lawEnv w.params L)) Q (fun _ _ => False) s := by
  refine runA hA G S hoa hor hof hsc hi hlen hm fun h1 t1 m1 Rw Ab Fl Nb rv us e1 e2 e3 e4 FA AA fo ao oa1 orw1 ofm1 S1 hm1 hoa1 hor1 hof1 irv lfo lao => ?_
  obtain ⟨hx4, hx12⟩ := xsL_len ns
  generalize xsL ns = xs at *
  obtain ⟨rs, ers, lrs, hrs⟩ := rowI_nat xs xs.length
  rw [ers] at irv
  have inj : ∀ i j, i < xs.length + 1 → j < xs.length + 1 → FA i = FA j → i = j := fun i j h1 h2 e =>
    fam_inj (S1.drop ((List.sublist_append_right _ _).trans (List.sublist_append_right _ _))).D h1 h2 e
  generalize hb : decide (ns.length % 2 = 1) = b at *
  have hp := pK_lt b xs
  obtain ⟨av, eav⟩ : ∃ av : Nat → List Int, av = fun j => (abvL b xs xs.length).getD j [] := ⟨_, rfl⟩
  rw [← eav] at lao
  have hav : ∀ k, k < xs.length + 1 → av k = (way (pK b xs) k).map (sg xs) := fun k hk => by rw [eav]; exact abvL_way b xs xs.length k (by omega)
  clear eav
  have sinj := sg_inj xs
  have sabs := sg_abs xs
  have hin : ∀ k : Nat, 0 < k → k < xs.length + 1 → (k : Int) ∈ famI xs xs.length (pK b xs k) := fun k h0 hk => (famI_mem xs _ _ _).mpr ⟨k, rfl, h0, by omega, by
    unfold pK parK
    rw [if_neg (by omega)]
    split <;> omega⟩
  have hfl : ∀ j, (famI xs xs.length j).length ≤ 24 := fun j => Nat.le_trans (famI_length xs _ j) (by omega)
  have hhl : ∀ N, (handL b N).length = N := fun N => by unfold handL; split <;> simp
  have S1 : St base L h1 m1 (lawCells L ow oa1 ot orw1 ofm1 ++ (([(Rw, listOf rv.toArray e1), (Ab, listOf ((List.range (xs.length + 1)).map fun j => Value.ref (AA j)).toArray e2), (Fl, listOf ((List.range (xs.length + 1)).map fun j => Value.ref (FA j)).toArray e3), (Nb, listOf us.toArray e4)] ++ (fam (xs.length + 1) FA fo ++ fam (xs.length + 1) AA ao)) ++ [(44, tabObj #[]), (60, tabObj #[]), (79, tabObj #[]), (86, tabObj #[]), (93, tabObj #[])])) := S1.perm (.of_eq (by simp only [List.cons_append, List.append_assoc, List.nil_append]))
  have mRw : (Rw, listOf rv.toArray e1) ∈ [(Rw, listOf rv.toArray e1), (Ab, listOf ((List.range (xs.length + 1)).map fun j => Value.ref (AA j)).toArray e2), (Fl, listOf ((List.range (xs.length + 1)).map fun j => Value.ref (FA j)).toArray e3), (Nb, listOf us.toArray e4)] ++ (fam (xs.length + 1) FA fo ++ fam (xs.length + 1) AA ao) := .head _
  have mAb : (Ab, listOf ((List.range (xs.length + 1)).map fun j => Value.ref (AA j)).toArray e2) ∈ [(Rw, listOf rv.toArray e1), (Ab, listOf ((List.range (xs.length + 1)).map fun j => Value.ref (AA j)).toArray e2), (Fl, listOf ((List.range (xs.length + 1)).map fun j => Value.ref (FA j)).toArray e3), (Nb, listOf us.toArray e4)] ++ (fam (xs.length + 1) FA fo ++ fam (xs.length + 1) AA ao) := .tail _ (.head _)
  have mFl : (Fl, listOf ((List.range (xs.length + 1)).map fun j => Value.ref (FA j)).toArray e3) ∈ [(Rw, listOf rv.toArray e1), (Ab, listOf ((List.range (xs.length + 1)).map fun j => Value.ref (AA j)).toArray e2), (Fl, listOf ((List.range (xs.length + 1)).map fun j => Value.ref (FA j)).toArray e3), (Nb, listOf us.toArray e4)] ++ (fam (xs.length + 1) FA fo ++ fam (xs.length + 1) AA ao) := .tail _ (.tail _ (.head _))
  have mFA : ∀ j, j < xs.length + 1 → (FA j, fo j) ∈ [(Rw, listOf rv.toArray e1), (Ab, listOf ((List.range (xs.length + 1)).map fun j => Value.ref (AA j)).toArray e2), (Fl, listOf ((List.range (xs.length + 1)).map fun j => Value.ref (FA j)).toArray e3), (Nb, listOf us.toArray e4)] ++ (fam (xs.length + 1) FA fo ++ fam (xs.length + 1) AA ao) := fun j hj => List.mem_append_right _ (List.mem_append_left _ (fam_mem hj))
  have mAA : ∀ j, j < xs.length + 1 → (AA j, ao j) ∈ [(Rw, listOf rv.toArray e1), (Ab, listOf ((List.range (xs.length + 1)).map fun j => Value.ref (AA j)).toArray e2), (Fl, listOf ((List.range (xs.length + 1)).map fun j => Value.ref (FA j)).toArray e3), (Nb, listOf us.toArray e4)] ++ (fam (xs.length + 1) FA fo ++ fam (xs.length + 1) AA ao) := fun j hj => List.mem_append_right _ (List.mem_append_right _ (fam_mem hj))
  generalize [(Rw, listOf rv.toArray e1), (Ab, listOf ((List.range (xs.length + 1)).map fun j => Value.ref (AA j)).toArray e2), (Fl, listOf ((List.range (xs.length + 1)).map fun j => Value.ref (FA j)).toArray e3), (Nb, listOf us.toArray e4)] ++ (fam (xs.length + 1) FA fo ++ fam (xs.length + 1) AA ao) = B0 at S1 mRw mAb mFl mFA mAA
  have hR1 := fun (a c : Nat) (ha : a < xs.length + 1) (hc : c < xs.length + 1) => rank_lt av (xs.length + 1) ha hc
  refine runB (ns := ns) (p := pK b xs) (fm := famI xs xs.length) (av := av) (R := rankN av (xs.length + 1)) (N := xs.length + 1) (rs := rs) hA G C44 C93 S1 how hot hoa1 hor1 hof1 hsc hi hlen hm1 mRw mAb mFl mFA mAA irv lfo lao (by omega) (by omega) hrs (by omega)
    ?hcnt (fun j _ => Nat.le_trans (hfl j) (by decide)) inj hp (by rw [hb]; exact tab_root b xs xs.length FA) (fun k h0 hk => by rw [hb]; exact tab_parent b xs xs.length FA k h0 (by omega)) hin ?hsm hR1 ?hR2 ?go
  case hcnt =>
    rw [hb]
    have := sum_le (fun j => (famI xs xs.length j).length) 24 (handL b (xs.length + 1)) fun j _ => hfl j
    rw [hhl] at this
    have : (xs.length + 1) * 24 ≤ 13 * 24 := Nat.mul_le_mul (by omega) (Nat.le_refl _)
    omega
  case hsm =>
    intro j _ x hx
    obtain ⟨k, rfl, -, hk, -⟩ := (famI_mem xs _ _ _).mp hx
    omega
  case hR2 =>
    intro a c ha hc
    rw [← hR1 a c ha hc, hav a ha, hav c hc]
    exact cmp_lt hp (sg_zero xs) sinj (famI_sorted xs _) hin ha hc
  case go =>
    intro h2 t2 m2 Du Tl Ws dv tv e7 e8 e9 WA wo q1 q2 ow2 ot2 B' p44 p60 p79 c93 S2 how2 hmd hmt mDu mTl mWs mWA sub idv itv lwo hpm1 hsr1 hpm2 hsr2
    rw [sorts_same hp sinj hav hrs hpm2 hsr2 hpm1 hsr1] at itv
    have hdl := lay1_len hpm1
    have hds : ∀ k ∈ lay1 rs q1, k < xs.length + 1 := fun k hk => hrs k ((lay1_perm hpm1).mem_iff.mp hk)
    have hle := least_is hp sinj hav sabs hrs (by omega) hpm1 hsr1
    generalize lay1 rs q1 = ds at *
    have lN : ds.getD (ds.length - 1) 0 < xs.length + 1 := getD_lt hds (by omega)
    have hrk : ∀ k ∈ ds.reverse, k < xs.length + 1 := fun k hk => hds k (List.mem_reverse.mp hk)
    refine runC (rs := rs) (ds := ds) (N := xs.length + 1) (AA := AA) (WA := WA) (av := av) (p := pK b xs) hA G C86 C93 S2 how2 hoa1 hor1 hmd hmt (sub _ mRw) (sub _ mAb) (fun j hj => sub _ (mAA j hj)) mDu mTl mWs mWA irv idv itv lao lwo hp (by omega) (by omega) (by omega) hds hrs (by omega) ?hal ?hne ?hfo hle (turns_is hp sinj hav sabs hrs) hR
    case hal =>
      intro j hj
      rw [hav j hj, List.length_map]
      have := (way_len (pK b xs) hp j).1
      omega
    case hne =>
      intro t ht
      exact common_pos hp sinj hav lN hrk t (by rw [List.length_reverse]; exact ht)
    case hfo =>
      have hc := rev_cons (ds := ds) (by omega)
      have htl : ds.reverse.tail.length = ds.length - 1 := by simp
      have := found_is hp sinj hav sabs lN (ks := ds.reverse.tail) fun k hk => hrk k (List.mem_of_mem_tail hk)
      rw [← hc, htl, Nat.sub_add_cancel (by omega)] at this
      exact this
end
end Mine
end
section
open PySem PySem.W PySem.Calls PyProof.Rows
set_option Elab.async false
set_option maxRecDepth 100000
set_option maxHeartbeats 4000000
namespace Mine
noncomputable abbrev five : List Addr := [44, 60, 79, 86, 93]
noncomputable abbrev tabs5 : List (Addr × Addr) := [(48, 44), (64, 60), (83, 79), (90, 86), (95, 93)]
section
variable {w : World} {A : Around} {R : Result → Shared → Prop} {s : Shared} {pr : Program} {loose : List Str} {mg mb : Str → Option Value}
/-- the law, called -/
theorem law_spec {sc : Addr} {vs : List Value} {ns : List Int} (hA : Sm A 305 1000) (G : Gd w pr loose mg mb (hideAll s.heap five)) (C44 : CodeHd (hideAll s.heap five) 48 44) (C86 : CodeHd (hideAll s.heap five) 90 86) (C93 : CodeHd (hideAll s.heap five) 95 93)
    (t44 : s.heap.get? 44 = some (tabObj #[])) (t60 : s.heap.get? 60 = some (tabObj #[])) (t79 : s.heap.get? 79 = some (tabObj #[])) (t86 : s.heap.get? 86 = some (tabObj #[])) (t93 : s.heap.get? 93 = some (tabObj #[]))
    (hsc : (hideAll s.heap five).IsList sc vs.toArray) (hi : IntsAre vs ns) (hlen : ns.length ≤ 63)
    (hR : ∀ h' tk, (∀ b o, (hideAll s.heap five).get? b = some o → h'.get? b = some o) → (∃ q, h'.get? 44 = some (tabObj q)) → (∃ q, h'.get? 60 = some (tabObj q)) → (∃ q, h'.get? 79 = some (tabObj q)) → (∃ q, h'.get? 86 = some (tabObj q)) → (∃ q, h'.get? 93 = some (tabObj q)) → R (.ok (.ret (.bool true))) { s with heap := h', toks := tk }) :
    codeAny (model PySem.Challenge.rw_ij0154_01.prog w) A (.call (.ref 96) ⟨[.ref sc], []⟩) R s := by
  have X := G.X
  have T := G.T
  have e96 := G.X 96 (lk w.params 96) (by kernel_rfl)
  revert X; k_fill; intro X
  have h0 := stF_of (X 96 _ rfl) e96 rfl rfl (i := 0) rfl
  have h1 := stF_of (X 96 _ rfl) e96 rfl rfl (i := 1) rfl
  have h2 := stF_of (X 96 _ rfl) e96 rfl rfl (i := 2) rfl
  have h3 := stF_of (X 96 _ rfl) e96 rfl rfl (i := 3) rfl
  have h4 := stF_of (X 96 _ rfl) e96 rfl rfl (i := 4) rfl
  have h5 := stF_of (X 96 _ rfl) e96 rfl rfl (i := 5) rfl
  have h6 := stF_of (X 96 _ rfl) e96 rfl rfl (i := 6) rfl
  have h7 := stF_of (X 96 _ rfl) e96 rfl rfl (i := 7) rfl
  have h8 := stF_of (X 96 _ rfl) e96 rfl rfl (i := 8) rfl
  have h9 := stF_of (X 96 _ rfl) e96 rfl rfl (i := 9) rfl
  have h10 := stF_of (X 96 _ rfl) e96 rfl rfl (i := 10) rfl
  have h11 := stF_of (X 96 _ rfl) e96 rfl rfl (i := 11) rfl
  have h12 := stF_of (X 96 _ rfl) e96 rfl rfl (i := 12) rfl
  have h13 := stF_of (X 96 _ rfl) e96 rfl rfl (i := 13) rfl
  have h14 := stF_of (X 96 _ rfl) e96 rfl rfl (i := 14) rfl
  have h15 := stF_of (X 96 _ rfl) e96 rfl rfl (i := 15) rfl
  have h16 := stF_of (X 96 _ rfl) e96 rfl rfl (i := 16) rfl
  have h17 := stF_of (X 96 _ rfl) e96 rfl rfl (i := 17) rfl
  have h18 := stF_of (X 96 _ rfl) e96 rfl rfl (i := 18) rfl
  have hs := scF_of (X 96 _ rfl) e96 rfl rfl
  have X1 : (KR w.params).In s.heap := fun a o e => of_hideAll _ (G.X a o e)
  have T1 : TopRead pr loose mg mb s.heap := T.keeps fun b o e => of_hideAll _ e
  refine enterC (binds := [(Str.ofString "script", .ref sc)]) hA (by decide) (of_hideAll _ (X 96 _ rfl)) rfl T1.nolimit ?hcode (BindsTo.of_eq rfl) ?hkind (by decide) (fun h₁ tk cells F₁ N₁ Y => ?_)
  case hcode =>
    revert X1; k_fill; intro X1
    exact codeRec_of X1 (by k_is)
  case hkind =>
    intro n y hy
    rw [List.mem_singleton] at hy
    subst hy
    exact .inl rfl
  obtain ⟨ow, oa, ot, orw, ofm, rfl, e1, e2, e3, e4, e5⟩ := kc_five Y
  have e1' : ow.data = .cell none := e1.trans (by kernel_rfl)
  have e2' : oa.data = .cell none := e2.trans (by kernel_rfl)
  have e3' : ot.data = .cell none := e3.trans (by kernel_rfl)
  have e4' : orw.data = .cell none := e4.trans (by kernel_rfl)
  have e5' : ofm.data = .cell none := e5.trans (by kernel_rfl)
  clear e1 e2 e3 e4 e5 Y
  have hL : 93 < s.heap.objs.size := Heap.lt_size t93
  have F : Fr (hideAll s.heap five) s.heap.objs.size h₁ _ := ⟨F₁.ns, fun b o e => F₁.keep b o (of_hideAll _ e), by rw [hideAll_size]; exact F₁.above⟩
  have N5 : ∀ (P : Addr) (o : Obj), P ∈ five → s.heap.get? P = some o → h₁.get? P = some o ∧ (@Ne Nat P s.heap.objs.size) ∧ (hideAll s.heap five).get? P = none := fun P o hP e => ⟨F₁.keep _ _ e, Nat.ne_of_lt (Heap.lt_size e), hideAll_none _ hP⟩
  have S : St (hideAll s.heap five) s.heap.objs.size h₁ _ (lawCells s.heap.objs.size ow oa ot orw ofm ++ [(44, tabObj #[]), (60, tabObj #[]), (79, tabObj #[]), (86, tabObj #[]), (93, tabObj #[])]) := ⟨F, fun q hq => by
    rcases List.mem_append.mp hq with hq | hq
    · have := N₁ q hq
      refine ⟨this.1, this.2.1, ?_⟩
      cases e : (hideAll s.heap five).get? q.1 with
      | none => rfl
      | some o => rw [of_hideAll _ e] at this; exact absurd this.2.2 (by simp)
    · simp only [List.mem_cons, List.not_mem_nil, or_false] at hq
      rcases hq with rfl | rfl | rfl | rfl | rfl
      · exact N5 _ _ (by decide) t44
      · exact N5 60 _ (show (60 : Nat) ∈ five by decide) t60
      · exact N5 79 _ (show (79 : Nat) ∈ five by decide) t79
      · exact N5 _ _ (by decide) t86
      · exact N5 _ _ (by decide) t93, by
    generalize s.heap.objs.size = L at hL
    show List.Nodup ([L + 1 + 1 + 1 + 1 + 1, L + 1 + 1 + 1 + 1, L + 1 + 1 + 1, L + 1 + 1, L + 1, 44, 60, 79, 86, 93] : List Nat)
    have hL : 93 < (show Nat from L) := hL
    simp only [List.nodup_cons, List.mem_cons, List.not_mem_nil, or_false, not_or, not_false_eq_true, List.nodup_nil, and_true]
    omega⟩
  refine execs_to (l' := [stF w.params 96 0, stF w.params 96 1, stF w.params 96 2, stF w.params 96 3, stF w.params 96 4, stF w.params 96 5, stF w.params 96 6, stF w.params 96 7, stF w.params 96 8, stF w.params 96 9, stF w.params 96 10, stF w.params 96 11, stF w.params 96 12, stF w.params 96 13, stF w.params 96 14, stF w.params 96 15, stF w.params 96 16, stF w.params 96 17, stF w.params 96 18]) (env' := lawEnv w.params s.heap.objs.size) ?_ ?_ ?_
  · rw [h0, h1, h2, h3, h4, h5, h6, h7, h8, h9, h10, h11, h12, h13, h14, h15, h16, h17, h18]
  · unfold lawEnv
    rw [hs]
  · exact runAll ((sm_AM _ _).le (by decide) (by decide)) G C44 C86 C93 S e1' e2' e3' e4' e5' hsc hi hlen (by kernel_rfl) hR
end
end Mine
end
section
open PySem PySem.W PyProof.Rows
set_option Elab.async false
set_option maxRecDepth 100000
set_option maxHeartbeats 8000000
namespace Mine
/-- the rows' test of the text -/
theorem said : OpenLaw.wellSaid PySem.Challenge.rw_ij0154_01 = true := by
  rw [PySem.W.Fast.te9446332074065402090]
  decide +kernel
noncomputable def vw : Program := view PySem.Challenge.pw_ij0154_01 [1, 2, 4, 5, 8, 9, 10, 11, 12, 13]
noncomputable def lo : List Str := [Str.ofString "_SelectorContext", Str.ofString "_initial_missing", Str.ofString "reduce"]
noncomputable def ads : List Addr := [nat_lit 2, nat_lit 3, nat_lit 6, nat_lit 15, nat_lit 17, nat_lit 18, nat_lit 20, nat_lit 21, nat_lit 29, nat_lit 31, nat_lit 32, nat_lit 34, nat_lit 35, nat_lit 36, nat_lit 37, nat_lit 38, nat_lit 39, nat_lit 40, nat_lit 43, nat_lit 45, nat_lit 46, nat_lit 48, nat_lit 49, nat_lit 50, nat_lit 51, nat_lit 52, nat_lit 54, nat_lit 55, nat_lit 57, nat_lit 58, nat_lit 59, nat_lit 61, nat_lit 62, nat_lit 64, nat_lit 65, nat_lit 66, nat_lit 69, nat_lit 70, nat_lit 71, nat_lit 73, nat_lit 74, nat_lit 76, nat_lit 77, nat_lit 78, nat_lit 80, nat_lit 81, nat_lit 83, nat_lit 84, nat_lit 85, nat_lit 87, nat_lit 88, nat_lit 90, nat_lit 91, nat_lit 92, nat_lit 95, nat_lit 96]
theorem ads_is (P : Params) : ads = (KK P).map (·.1) := by kernel_rfl
noncomputable def hk : Hook := kmHook KK ads ads_is five
noncomputable def xt (s : Shared) : Bool := xlAt vw [] s && recOk (RowW.records PySem.Challenge.rw_ij0154_01.row.toRowW) s
theorem boot (w : World) : (fencedOpening treeTable PySem.Challenge.pw_ij0154_01 w 1254).map (fun s => (s.heap, s.gens, s.drawn, s.toks)) = some (boot_heap w.params, Array.mk [], boot_drawn, boot_toks) :=
  boot_open (by kernel_rfl) (by kernel_rfl) (fun s => by kernel_rfl) w
theorem core (w : World) (os : OsState) : (topFrom treeTable PySem.Challenge.pw_ij0154_01 w 1254 ⟨boot_heap w.params, Array.mk [], boot_drawn, boot_toks, os⟩).map
    (fun s => (openSeen vw lo (importedModules PySem.Challenge.pw_ij0154_01.main.body) xt true s, hk.obs s)) = some (openGood vw lo, hk.val w) := by
  unfold topFrom
  rw [PySem.W.Fast.te14082659384304107361, PySem.W.Fast.te14364793385576792824, PySem.W.Fast.te4187177175401517315]
  kernel_rfl
theorem left : LeftO PySem.Challenge.pw_ij0154_01 vw lo xt hk.obs hk.val 1254 := fun w => by
  obtain ⟨⟨h, gs, d, k, os⟩, e, e'⟩ := Option.map_eq_some_iff.mp (boot w)
  obtain ⟨rfl, rfl, rfl, rfl⟩ : h = boot_heap w.params ∧ gs = Array.mk [] ∧ d = boot_drawn ∧ k = boot_toks := by simpa using e'
  unfold openEnds
  rw [e, Option.bind_some]
  exact core w os
theorem chok : (chainsOk vw && opensWell PySem.Challenge.rw_ij0154_01.row.prog && (frees PySem.Challenge.rw_ij0154_01.row.toRowW && PySem.Challenge.rw_ij0154_01.row.within.isEmpty)) = true := by decide +kernel
end Mine
end
section
open PySem PySem.W PySem.Calls PyProof.Rows
set_option Elab.async false
set_option maxRecDepth 100000
set_option maxHeartbeats 4000000
namespace Mine
/-- the written heap holds what KR says of it -/
theorem KR_heap (P : Params) : ∀ q ∈ KR P, (KK P).lookup q.1 = some q.2 := by
  unfold KR
  repeat (refine List.forall_mem_cons.mpr ⟨by kernel_rfl, ?_⟩)
  exact fun _ h => nomatch h
theorem KR_of {w : World} {h : Heap} (X : (KK w.params).In h) : (KR w.params).In h := fun a o e => X a o (KR_heap w.params (a, o) (mem_of_lookupK e))
theorem KR_five (P : Params) : ∀ b ∈ five, (KR P).lookup b = none := by
  refine List.forall_mem_cons.mpr ⟨by kernel_rfl, ?_⟩
  refine List.forall_mem_cons.mpr ⟨by kernel_rfl, ?_⟩
  refine List.forall_mem_cons.mpr ⟨by kernel_rfl, ?_⟩
  refine List.forall_mem_cons.mpr ⟨by kernel_rfl, ?_⟩
  refine List.forall_mem_cons.mpr ⟨by kernel_rfl, ?_⟩
  exact fun _ h => nomatch h
theorem tabs_at {w : World} {h : Heap} (X : (KK w.params).In h) (hT : ∀ P ∈ five, h.get? P = some (tabObj #[])) : TabsAt tabs5 h := by
  refine List.forall_mem_cons.mpr ⟨⟨codeHd_of_K X (by kernel_rfl), hT 44 (show (44 : Nat) ∈ five by decide)⟩, ?_⟩
  refine List.forall_mem_cons.mpr ⟨⟨codeHd_of_K X (by kernel_rfl), hT 60 (show (60 : Nat) ∈ five by decide)⟩, ?_⟩
  refine List.forall_mem_cons.mpr ⟨⟨codeHd_of_K X (by kernel_rfl), hT 79 (show (79 : Nat) ∈ five by decide)⟩, ?_⟩
  refine List.forall_mem_cons.mpr ⟨⟨codeHd_of_K X (by kernel_rfl), hT 86 (show (86 : Nat) ∈ five by decide)⟩, ?_⟩
  refine List.forall_mem_cons.mpr ⟨⟨codeHd_of_K X (by kernel_rfl), hT 93 (show (93 : Nat) ∈ five by decide)⟩, ?_⟩
  exact fun _ h => nomatch h
theorem law_at {w : World} {h : Heap} {mg : Str → Option Value} (X : (KK w.params).In h) (g : h.Ns mainGlobals mg) : mg (Str.ofString "law") = some (.ref 96) := mg_of X g (by kernel_rfl)
end Mine
open Mine in
theorem PySem.Challenge.cw_ij0154_01_holds : PySem.Challenge.rw_ij0154_01.Holds := by
  refine holds_law Mine.said fun said => ?_
  refine holds_open (q := vw) (loose := lo) (Xt := xt) (XP := XL vw []) (Yf := hk.obs) (Ya := hk.val) (YP := hk.says) (N := 1254) left (Hook.of hk) (Hook.keeps hk) (fun s e => xl_of s (Bool.and_eq_true_iff.mp e).1) XL.keeps (by rfl) (by rfl) (by rfl) (fun s e => recFacts_of (Bool.and_eq_true_iff.mp e).2) (by rfl) (by assumption) chok ⟨rfl, rfl, rfl, rfl, rfl, by decide +kernel⟩ ?hw ?hc
  case hw => w_witness2
  intro w s₀ s₁ mg mb G Y fa o pm cd doc dV kV ho hdd hcd hD hmg hg args vals as hpre hlay hrd hwl hlo
  have KX := km_in_of Y
  have hT8 := km_tabs_of Y
  refine Ground.open G ?_
  intro T B D TE TW
  clear D
  wrow_args hpre hlay hrd hwl hlo
  all_goals (first | refine callC_kw (enter_call ?_) | refine enter_call ?_)
  clear hcd hdd hD
  replace hmg : mg (Str.ofString "law") = some (.ref fa) := hmg
  have hT9 := tabs_at KX hT8
  rw [law_at KX T.g] at hmg
  injection hmg with hmg
  injection hmg with hmg
  subst hmg
  rename IntsAre _ _ => hi
  rename Heap.IsList _ _ _ => hl
  refine kn_post hT9 (fun _ _ => rfl) ?_
  have hT := ghost_top hT9 T
  have hC := ghost_code hT9
  have hG : Gd w _ _ mg mb (hideAll s₁.heap five) := ⟨fun a o e => hideAll_get _ (KR_of KX a o e) (fun hm => by rw [KR_five _ a hm] at e; cases e), topRead_of hT, hT.bmain⟩
  have a60 := (hT9 (64, 60) (by decide)).2
  have a79 := (hT9 (83, 79) (by decide)).2
  have hA : Sm callerA 305 1000 := ⟨rfl, by decide, by decide⟩
  have hgl := ghost_list hT9 hl
  have t44 := (hT9 (48, 44) (by decide)).2
  have t86 := (hT9 (90, 86) (by decide)).2
  have t93 := (hT9 (95, 93) (by decide)).2
  have key := fun R hlen => law_spec (w := w) (A := callerA) (s := s₁) (R := R) hA hG hC.1 hC.2.2.2.1 hC.2.2.2.2.1 t44 a60 a79 t86 t93 hgl hi hlen
  show codeAny (model PySem.Challenge.rw_ij0154_01.prog w) callerA _ _ s₁
  refine key _ (by omega) fun h' tk kb q44 q60 q79 q86 q93 => ?_
  refine ⟨⟨.inl ⟨.bool true, .bool true, [], rfl, fun _ => rfl, ?_, ?_, fun _ => ⟨List.nodup_nil, fun _ h => nomatch h⟩⟩, kb, rfl, hg⟩, q44, q60, q79, q86, q93, trivial⟩
  · constructor
  · refine postW_of (X := true) ?_ ?_ rfl
    · kernel_rfl
    · kernel_rfl
end
