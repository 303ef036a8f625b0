import PyProof.Rows.All
import Wide.All
import OpenK.AllK
import Wide.FinOn
import OpenK.XSeg
import PyProof.Draws
import PyProof.EnumMake
import PySem.Challenge.RW_ux0023_01
open PySem PySem.W PySem.Calls PyProof.Rows
set_option Elab.async false
set_option linter.unusedVariables false
set_option linter.unusedSectionVars false
set_option maxRecDepth 100000
noncomputable section
set_option maxHeartbeats 8000000
namespace Mine
theorem oB {a b c k : Nat} (h : a ≤ b) (e : b + k ≤ c) : a + k ≤ c := Nat.le_trans (Nat.add_le_add_right h k) e
theorem oB2 {a b c k l : Nat} (h : a ≤ b) (e : b + k + l ≤ c) : a + k + l ≤ c := oB (oB h (Nat.le_refl _)) e
theorem oB3 {a b c k l m : Nat} (h : a ≤ b) (e : b + k + l + m ≤ c) : a + k + l + m ≤ c := oB (oB2 h (Nat.le_refl _)) e
theorem oL {a b : Nat} {c : Int} (h : a < b) (e : (b : Int) ≤ c) : (a : Int) < c := Int.lt_of_lt_of_le (Int.ofNat_lt.mpr h) e
theorem oL' {a b : Nat} {c : Int} (h : a ≤ b) (e : (b : Int) < c) : (a : Int) < c := Int.lt_of_le_of_lt (Int.ofNat_le.mpr h) e
theorem oE {a b c : Nat} (h : a = b) (e : b ≤ c) : a ≤ c := h ▸ e
noncomputable abbrev PG : Program := PySem.Challenge.rw_ux0023_01.row.prog
noncomputable def atS : List Stmt → Nat → Stmt
  | [], _ => .Pass ⟨0, 0, 0, 0⟩
  | s :: _, 0 => s
  | _ :: l, n + 1 => atS l n
noncomputable def stP : Stmt → Arguments
  | .FunctionDef _ p _ _ _ _ _ _ _ _ => p
  | _ => ⟨[], [], none, [], [], none, []⟩
noncomputable def stB : Stmt → List Stmt
  | .FunctionDef _ _ b _ _ _ _ _ _ _ => b
  | .ClassDef _ _ _ b _ _ _ _ _ _ _ => b
  | _ => []
noncomputable def stS : Stmt → Scope
  | .FunctionDef _ _ _ _ _ _ s _ _ _ => s
  | _ => PG.main.scope
noncomputable def nth (i : Nat) : Stmt := atS PySem.Challenge.pw_ux0023_01.main.body i
noncomputable def mth (j : Nat) : Stmt := atS (stB (nth 9)) j
noncomputable abbrev tO (vs : Array Value) : Obj := { cls := Value.type "tuple", data := Data.seq vs }
noncomputable abbrev fO (s : Stmt) (name qual : Str) (dV kV doc pm : Value) (an : Option Addr) (cdv ct : Value) : Obj :=
  { cls := Value.type "function", data := Data.func (fnOf name qual (stP s) (stB s) (stS s) dV kV doc pm an cdv ct) }
noncomputable def KH : Params → Frag := fun P =>
  (nat_lit 2, { cls := Value.none, data := Data.dict #[] }) ::
   (nat_lit 3, { cls := Value.type "dict", data := Data.dict #[{ hash := PyData.keyHash P (Str.ofString "__name__"), key := Value.str (Str.ofString "__name__") 165, val := Value.str (Str.ofString "law_ux0023_01") 378 }, { hash := PyData.keyHash P (Str.ofString "__doc__"), key := Value.str (Str.ofString "__doc__") 166, val := Value.none }, { hash := PyData.keyHash P (Str.ofString "__package__"), key := Value.str (Str.ofString "__package__") 167, val := Value.none }, { hash := PyData.keyHash P (Str.ofString "__loader__"), key := Value.str (Str.ofString "__loader__") 168, val := Value.builtin "__main__.__loader__#opaque" }, { hash := PyData.keyHash P (Str.ofString "__spec__"), key := Value.str (Str.ofString "__spec__") 169, val := Value.none }, { hash := PyData.keyHash P (Str.ofString "__annotations__"), key := Value.str (Str.ofString "__annotations__") 170, val := Value.ref 6 }, { hash := PyData.keyHash P (Str.ofString "__builtins__"), key := Value.str (Str.ofString "__builtins__") 171, val := Value.ref 4 }, { hash := PyData.keyHash P (Str.ofString "__file__"), key := Value.str (Str.ofString "__file__") 173, val := Value.str (Str.ofString "/claim/cut.py") 172 }, { hash := PyData.keyHash P (Str.ofString "__cached__"), key := Value.str (Str.ofString "__cached__") 174, val := Value.none }, { hash := PyData.keyHash P (Str.ofString "insort_right"), key := Value.str (Str.ofString "insort_right") 201, val := Value.ref 23 }, { hash := PyData.keyHash P (Str.ofString "bisect_right"), key := Value.str (Str.ofString "bisect_right") 215, val := Value.ref 32 }, { hash := PyData.keyHash P (Str.ofString "bisect_left"), key := Value.str (Str.ofString "bisect_left") 229, val := Value.ref 41 }, { hash := PyData.keyHash P (Str.ofString "_iter_escaped_chars"), key := Value.str (Str.ofString "_iter_escaped_chars") 241, val := Value.ref 48 }, { hash := PyData.keyHash P (Str.ofString "_strip_quoted_realnames"), key := Value.str (Str.ofString "_strip_quoted_realnames") 253, val := Value.ref 55 }, { hash := PyData.keyHash P (Str.ofString "_check_parenthesis"), key := Value.str (Str.ofString "_check_parenthesis") 263, val := Value.ref 62 }, { hash := PyData.keyHash P (Str.ofString "QName"), key := Value.str (Str.ofString "QName") 356, val := Value.ref 136 }, { hash := PyData.keyHash P (Str.ofString "_raise_serialization_error"), key := Value.str (Str.ofString "_raise_serialization_error") 363, val := Value.ref 147 }, { hash := PyData.keyHash P (Str.ofString "_escape_cdata"), key := Value.str (Str.ofString "_escape_cdata") 370, val := Value.ref 154 }, { hash := PyData.keyHash P (Str.ofString "_escape_cdata_c14n"), key := Value.str (Str.ofString "_escape_cdata_c14n") 377, val := Value.ref 161 }, { hash := PyData.keyHash P (Str.ofString "_law_signs"), key := Value.str (Str.ofString "_law_signs") 390, val := Value.ref 168 }, { hash := PyData.keyHash P (Str.ofString "_law_hand"), key := Value.str (Str.ofString "_law_hand") 399, val := Value.ref 175 }, { hash := PyData.keyHash P (Str.ofString "_law_due"), key := Value.str (Str.ofString "_law_due") 407, val := Value.ref 182 }, { hash := PyData.keyHash P (Str.ofString "_law_row"), key := Value.str (Str.ofString "_law_row") 413, val := Value.ref 187 }, { hash := PyData.keyHash P (Str.ofString "_law_range"), key := Value.str (Str.ofString "_law_range") 426, val := Value.ref 194 }, { hash := PyData.keyHash P (Str.ofString "_law_ranges"), key := Value.str (Str.ofString "_law_ranges") 432, val := Value.ref 199 }, { hash := PyData.keyHash P (Str.ofString "_law_nest"), key := Value.str (Str.ofString "_law_nest") 438, val := Value.ref 204 }, { hash := PyData.keyHash P (Str.ofString "_law_ways"), key := Value.str (Str.ofString "_law_ways") 454, val := Value.ref 211 }, { hash := PyData.keyHash P (Str.ofString "law"), key := Value.str (Str.ofString "law") 460, val := Value.ref 216 }] 28 }) ::
   (nat_lit 15, tO #[Value.int 0 189, Value.none]) ::
   (nat_lit 16, { cls := Value.type "dict", data := Data.dict #[{ hash := PyData.keyHash P (Str.ofString "key"), key := Value.str (Str.ofString "key") 190, val := Value.none }] 1 }) ::
   (nat_lit 17, tO #[]) ::
   (nat_lit 19, tO #[Value.str (Str.ofString "a") 194, Value.str (Str.ofString "x") 195, Value.str (Str.ofString "lo") 196, Value.str (Str.ofString "hi") 197, Value.str (Str.ofString "key") 198]) ::
   (nat_lit 20, tO #[]) ::
   (nat_lit 22, { cls := Value.type "code", data := Data.fields #[Value.str (Str.ofString "insort_right") 191, Value.str (Str.ofString "insort_right") 192, Value.str (Str.ofString "/claim/cut.py") 193, Value.int 2 0, Value.int 4 0, Value.int 0 0, Value.int 1 0, Value.int 3 0, Value.ref 17, Value.bool true, Value.int 181 0, Value.ref 18, Value.none, Value.ref 19, Value.ref 20, Value.ref 21, Value.int 199 0, Value.int 2 0, Value.str (Str.ofString "/claim/cut.py") 200] }) ::
   (nat_lit 23, fO (nth 1) (Str.ofString "insort_right") (Str.ofString "insort_right") (Value.ref 15) (Value.ref 16) Value.none (Value.str (Str.ofString "cpy313.bisect") 187) none (Value.ref 22) Value.none) ::
   (nat_lit 24, tO #[Value.int 0 202, Value.none]) ::
   (nat_lit 25, { cls := Value.type "dict", data := Data.dict #[{ hash := PyData.keyHash P (Str.ofString "key"), key := Value.str (Str.ofString "key") 203, val := Value.none }] 1 }) ::
   (nat_lit 26, tO #[]) ::
   (nat_lit 28, tO #[Value.str (Str.ofString "a") 207, Value.str (Str.ofString "x") 208, Value.str (Str.ofString "lo") 209, Value.str (Str.ofString "hi") 210, Value.str (Str.ofString "key") 211, Value.str (Str.ofString "mid") 212]) ::
   (nat_lit 29, tO #[]) ::
   (nat_lit 31, { cls := Value.type "code", data := Data.fields #[Value.str (Str.ofString "bisect_right") 204, Value.str (Str.ofString "bisect_right") 205, Value.str (Str.ofString "/claim/cut.py") 206, Value.int 8 0, Value.int 4 0, Value.int 0 0, Value.int 1 0, Value.int 3 0, Value.ref 26, Value.bool true, Value.int 181 0, Value.ref 27, Value.none, Value.ref 28, Value.ref 29, Value.ref 30, Value.int 213 0, Value.int 8 0, Value.str (Str.ofString "/claim/cut.py") 214] }) ::
   (nat_lit 32, fO (nth 2) (Str.ofString "bisect_right") (Str.ofString "bisect_right") (Value.ref 24) (Value.ref 25) Value.none (Value.str (Str.ofString "cpy313.bisect") 187) none (Value.ref 31) Value.none) ::
   (nat_lit 33, tO #[Value.int 0 216, Value.none]) ::
   (nat_lit 34, { cls := Value.type "dict", data := Data.dict #[{ hash := PyData.keyHash P (Str.ofString "key"), key := Value.str (Str.ofString "key") 217, val := Value.none }] 1 }) ::
   (nat_lit 35, tO #[]) ::
   (nat_lit 37, tO #[Value.str (Str.ofString "a") 221, Value.str (Str.ofString "x") 222, Value.str (Str.ofString "lo") 223, Value.str (Str.ofString "hi") 224, Value.str (Str.ofString "key") 225, Value.str (Str.ofString "mid") 226]) ::
   (nat_lit 38, tO #[]) ::
   (nat_lit 40, { cls := Value.type "code", data := Data.fields #[Value.str (Str.ofString "bisect_left") 218, Value.str (Str.ofString "bisect_left") 219, Value.str (Str.ofString "/claim/cut.py") 220, Value.int 28 0, Value.int 4 0, Value.int 0 0, Value.int 1 0, Value.int 3 0, Value.ref 35, Value.bool true, Value.int 181 0, Value.ref 36, Value.none, Value.ref 37, Value.ref 38, Value.ref 39, Value.int 227 0, Value.int 28 0, Value.str (Str.ofString "/claim/cut.py") 228] }) ::
   (nat_lit 41, fO (nth 3) (Str.ofString "bisect_left") (Str.ofString "bisect_left") (Value.ref 33) (Value.ref 34) Value.none (Value.str (Str.ofString "cpy313.bisect") 187) none (Value.ref 40) Value.none) ::
   (nat_lit 42, tO #[]) ::
   (nat_lit 44, tO #[Value.str (Str.ofString "addr") 235, Value.str (Str.ofString "pos") 236, Value.str (Str.ofString "escape") 237, Value.str (Str.ofString "ch") 238]) ::
   (nat_lit 45, tO #[]) ::
   (nat_lit 47, { cls := Value.type "code", data := Data.fields #[Value.str (Str.ofString "_iter_escaped_chars") 232, Value.str (Str.ofString "_iter_escaped_chars") 233, Value.str (Str.ofString "/claim/cut.py") 234, Value.int 49 0, Value.int 1 0, Value.int 0 0, Value.int 0 0, Value.int 35 0, Value.ref 42, Value.bool true, Value.int 181 0, Value.ref 43, Value.none, Value.ref 44, Value.ref 45, Value.ref 46, Value.int 239 0, Value.int 49 0, Value.str (Str.ofString "/claim/cut.py") 240] }) ::
   (nat_lit 48, fO (nth 5) (Str.ofString "_iter_escaped_chars") (Str.ofString "_iter_escaped_chars") Value.none Value.none Value.none (Value.str (Str.ofString "cpy313.email.utils") 230) none (Value.ref 47) Value.none) ::
   (nat_lit 49, tO #[]) ::
   (nat_lit 51, tO #[Value.str (Str.ofString "addr") 245, Value.str (Str.ofString "start") 246, Value.str (Str.ofString "open_pos") 247, Value.str (Str.ofString "result") 248, Value.str (Str.ofString "pos") 249, Value.str (Str.ofString "ch") 250]) ::
   (nat_lit 52, tO #[]) ::
   (nat_lit 54, { cls := Value.type "code", data := Data.fields #[Value.str (Str.ofString "_strip_quoted_realnames") 242, Value.str (Str.ofString "_strip_quoted_realnames") 243, Value.str (Str.ofString "/claim/cut.py") 244, Value.int 62 0, Value.int 1 0, Value.int 0 0, Value.int 0 0, Value.int 3 0, Value.ref 49, Value.bool true, Value.int 181 0, Value.ref 50, Value.none, Value.ref 51, Value.ref 52, Value.ref 53, Value.int 251 0, Value.int 62 0, Value.str (Str.ofString "/claim/cut.py") 252] }) ::
   (nat_lit 55, fO (nth 6) (Str.ofString "_strip_quoted_realnames") (Str.ofString "_strip_quoted_realnames") Value.none Value.none Value.none (Value.str (Str.ofString "cpy313.email.utils") 230) none (Value.ref 54) Value.none) ::
   (nat_lit 56, tO #[]) ::
   (nat_lit 58, tO #[Value.str (Str.ofString "addr") 257, Value.str (Str.ofString "opens") 258, Value.str (Str.ofString "pos") 259, Value.str (Str.ofString "ch") 260]) ::
   (nat_lit 59, tO #[]) ::
   (nat_lit 61, { cls := Value.type "code", data := Data.fields #[Value.str (Str.ofString "_check_parenthesis") 254, Value.str (Str.ofString "_check_parenthesis") 255, Value.str (Str.ofString "/claim/cut.py") 256, Value.int 80 0, Value.int 1 0, Value.int 0 0, Value.int 0 0, Value.int 3 0, Value.ref 56, Value.bool true, Value.int 181 0, Value.ref 57, Value.none, Value.ref 58, Value.ref 59, Value.ref 60, Value.int 261 0, Value.int 80 0, Value.str (Str.ofString "/claim/cut.py") 262] }) ::
   (nat_lit 62, fO (nth 7) (Str.ofString "_check_parenthesis") (Str.ofString "_check_parenthesis") Value.none Value.none Value.none (Value.str (Str.ofString "cpy313.email.utils") 230) none (Value.ref 61) Value.none) ::
   (nat_lit 70, tO #[Value.none]) ::
   (nat_lit 71, tO #[]) ::
   (nat_lit 73, tO #[Value.str (Str.ofString "self") 281, Value.str (Str.ofString "text_or_uri") 282, Value.str (Str.ofString "tag") 283]) ::
   (nat_lit 74, tO #[]) ::
   (nat_lit 76, { cls := Value.type "code", data := Data.fields #[Value.str (Str.ofString "__init__") 278, Value.str (Str.ofString "QName.__init__") 279, Value.str (Str.ofString "/claim/cut.py") 280, Value.int 94 0, Value.int 3 0, Value.int 0 0, Value.int 0 0, Value.int 3 0, Value.ref 71, Value.bool true, Value.int 181 0, Value.ref 72, Value.none, Value.ref 73, Value.ref 74, Value.ref 75, Value.int 284 0, Value.int 94 0, Value.str (Str.ofString "/claim/cut.py") 285] }) ::
   (nat_lit 77, fO (mth 0) (Str.ofString "__init__") (Str.ofString "QName.__init__") (Value.ref 70) Value.none Value.none (Value.str (Str.ofString "cpy313.xml.etree.ElementTree") 264) none (Value.ref 76) Value.none) ::
   (nat_lit 78, tO #[]) ::
   (nat_lit 80, tO #[Value.str (Str.ofString "self") 290]) ::
   (nat_lit 81, tO #[]) ::
   (nat_lit 83, { cls := Value.type "code", data := Data.fields #[Value.str (Str.ofString "__str__") 287, Value.str (Str.ofString "QName.__str__") 288, Value.str (Str.ofString "/claim/cut.py") 289, Value.int 99 0, Value.int 1 0, Value.int 0 0, Value.int 0 0, Value.int 3 0, Value.ref 78, Value.bool true, Value.int 181 0, Value.ref 79, Value.none, Value.ref 80, Value.ref 81, Value.ref 82, Value.int 291 0, Value.int 99 0, Value.str (Str.ofString "/claim/cut.py") 292] }) ::
   (nat_lit 84, fO (mth 1) (Str.ofString "__str__") (Str.ofString "QName.__str__") Value.none Value.none Value.none (Value.str (Str.ofString "cpy313.xml.etree.ElementTree") 264) none (Value.ref 83) Value.none) ::
   (nat_lit 85, tO #[]) ::
   (nat_lit 87, tO #[Value.str (Str.ofString "self") 297]) ::
   (nat_lit 88, tO #[]) ::
   (nat_lit 90, { cls := Value.type "code", data := Data.fields #[Value.str (Str.ofString "__repr__") 294, Value.str (Str.ofString "QName.__repr__") 295, Value.str (Str.ofString "/claim/cut.py") 296, Value.int 102 0, Value.int 1 0, Value.int 0 0, Value.int 0 0, Value.int 3 0, Value.ref 85, Value.bool true, Value.int 181 0, Value.ref 86, Value.none, Value.ref 87, Value.ref 88, Value.ref 89, Value.int 298 0, Value.int 102 0, Value.str (Str.ofString "/claim/cut.py") 299] }) ::
   (nat_lit 91, fO (mth 2) (Str.ofString "__repr__") (Str.ofString "QName.__repr__") Value.none Value.none Value.none (Value.str (Str.ofString "cpy313.xml.etree.ElementTree") 264) none (Value.ref 90) Value.none) ::
   (nat_lit 92, tO #[]) ::
   (nat_lit 94, tO #[Value.str (Str.ofString "self") 304]) ::
   (nat_lit 95, tO #[]) ::
   (nat_lit 97, { cls := Value.type "code", data := Data.fields #[Value.str (Str.ofString "__hash__") 301, Value.str (Str.ofString "QName.__hash__") 302, Value.str (Str.ofString "/claim/cut.py") 303, Value.int 105 0, Value.int 1 0, Value.int 0 0, Value.int 0 0, Value.int 3 0, Value.ref 92, Value.bool true, Value.int 181 0, Value.ref 93, Value.none, Value.ref 94, Value.ref 95, Value.ref 96, Value.int 305 0, Value.int 105 0, Value.str (Str.ofString "/claim/cut.py") 306] }) ::
   (nat_lit 98, fO (mth 3) (Str.ofString "__hash__") (Str.ofString "QName.__hash__") Value.none Value.none Value.none (Value.str (Str.ofString "cpy313.xml.etree.ElementTree") 264) none (Value.ref 97) Value.none) ::
   (nat_lit 99, tO #[]) ::
   (nat_lit 101, tO #[Value.str (Str.ofString "self") 311, Value.str (Str.ofString "other") 312]) ::
   (nat_lit 102, tO #[]) ::
   (nat_lit 104, { cls := Value.type "code", data := Data.fields #[Value.str (Str.ofString "__le__") 308, Value.str (Str.ofString "QName.__le__") 309, Value.str (Str.ofString "/claim/cut.py") 310, Value.int 108 0, Value.int 2 0, Value.int 0 0, Value.int 0 0, Value.int 3 0, Value.ref 99, Value.bool true, Value.int 181 0, Value.ref 100, Value.none, Value.ref 101, Value.ref 102, Value.ref 103, Value.int 313 0, Value.int 108 0, Value.str (Str.ofString "/claim/cut.py") 314] }) ::
   (nat_lit 105, fO (mth 4) (Str.ofString "__le__") (Str.ofString "QName.__le__") Value.none Value.none Value.none (Value.str (Str.ofString "cpy313.xml.etree.ElementTree") 264) none (Value.ref 104) Value.none) ::
   (nat_lit 106, tO #[]) ::
   (nat_lit 108, tO #[Value.str (Str.ofString "self") 319, Value.str (Str.ofString "other") 320]) ::
   (nat_lit 109, tO #[]) ::
   (nat_lit 111, { cls := Value.type "code", data := Data.fields #[Value.str (Str.ofString "__lt__") 316, Value.str (Str.ofString "QName.__lt__") 317, Value.str (Str.ofString "/claim/cut.py") 318, Value.int 113 0, Value.int 2 0, Value.int 0 0, Value.int 0 0, Value.int 3 0, Value.ref 106, Value.bool true, Value.int 181 0, Value.ref 107, Value.none, Value.ref 108, Value.ref 109, Value.ref 110, Value.int 321 0, Value.int 113 0, Value.str (Str.ofString "/claim/cut.py") 322] }) ::
   (nat_lit 112, fO (mth 5) (Str.ofString "__lt__") (Str.ofString "QName.__lt__") Value.none Value.none Value.none (Value.str (Str.ofString "cpy313.xml.etree.ElementTree") 264) none (Value.ref 111) Value.none) ::
   (nat_lit 113, tO #[]) ::
   (nat_lit 115, tO #[Value.str (Str.ofString "self") 327, Value.str (Str.ofString "other") 328]) ::
   (nat_lit 116, tO #[]) ::
   (nat_lit 118, { cls := Value.type "code", data := Data.fields #[Value.str (Str.ofString "__ge__") 324, Value.str (Str.ofString "QName.__ge__") 325, Value.str (Str.ofString "/claim/cut.py") 326, Value.int 118 0, Value.int 2 0, Value.int 0 0, Value.int 0 0, Value.int 3 0, Value.ref 113, Value.bool true, Value.int 181 0, Value.ref 114, Value.none, Value.ref 115, Value.ref 116, Value.ref 117, Value.int 329 0, Value.int 118 0, Value.str (Str.ofString "/claim/cut.py") 330] }) ::
   (nat_lit 119, fO (mth 6) (Str.ofString "__ge__") (Str.ofString "QName.__ge__") Value.none Value.none Value.none (Value.str (Str.ofString "cpy313.xml.etree.ElementTree") 264) none (Value.ref 118) Value.none) ::
   (nat_lit 120, tO #[]) ::
   (nat_lit 122, tO #[Value.str (Str.ofString "self") 335, Value.str (Str.ofString "other") 336]) ::
   (nat_lit 123, tO #[]) ::
   (nat_lit 125, { cls := Value.type "code", data := Data.fields #[Value.str (Str.ofString "__gt__") 332, Value.str (Str.ofString "QName.__gt__") 333, Value.str (Str.ofString "/claim/cut.py") 334, Value.int 123 0, Value.int 2 0, Value.int 0 0, Value.int 0 0, Value.int 3 0, Value.ref 120, Value.bool true, Value.int 181 0, Value.ref 121, Value.none, Value.ref 122, Value.ref 123, Value.ref 124, Value.int 337 0, Value.int 123 0, Value.str (Str.ofString "/claim/cut.py") 338] }) ::
   (nat_lit 126, fO (mth 7) (Str.ofString "__gt__") (Str.ofString "QName.__gt__") Value.none Value.none Value.none (Value.str (Str.ofString "cpy313.xml.etree.ElementTree") 264) none (Value.ref 125) Value.none) ::
   (nat_lit 127, tO #[]) ::
   (nat_lit 129, tO #[Value.str (Str.ofString "self") 343, Value.str (Str.ofString "other") 344]) ::
   (nat_lit 130, tO #[]) ::
   (nat_lit 132, { cls := Value.type "code", data := Data.fields #[Value.str (Str.ofString "__eq__") 340, Value.str (Str.ofString "QName.__eq__") 341, Value.str (Str.ofString "/claim/cut.py") 342, Value.int 128 0, Value.int 2 0, Value.int 0 0, Value.int 0 0, Value.int 3 0, Value.ref 127, Value.bool true, Value.int 181 0, Value.ref 128, Value.none, Value.ref 129, Value.ref 130, Value.ref 131, Value.int 345 0, Value.int 128 0, Value.str (Str.ofString "/claim/cut.py") 346] }) ::
   (nat_lit 133, fO (mth 8) (Str.ofString "__eq__") (Str.ofString "QName.__eq__") Value.none Value.none Value.none (Value.str (Str.ofString "cpy313.xml.etree.ElementTree") 264) none (Value.ref 132) Value.none) ::
   (nat_lit 134, tO #[Value.str (Str.ofString "text") 348]) ::
   (nat_lit 135, { cls := Value.type "dict", data := Data.dict #[{ hash := PyData.keyHash P (Str.ofString "__module__"), key := Value.str (Str.ofString "__module__") 273, val := Value.str (Str.ofString "cpy313.xml.etree.ElementTree") 264 }, { hash := PyData.keyHash P (Str.ofString "__firstlineno__"), key := Value.str (Str.ofString "__firstlineno__") 277, val := Value.int 92 276 }, { hash := PyData.keyHash P (Str.ofString "__init__"), key := Value.str (Str.ofString "__init__") 286, val := Value.ref 77 }, { hash := PyData.keyHash P (Str.ofString "__str__"), key := Value.str (Str.ofString "__str__") 293, val := Value.ref 84 }, { hash := PyData.keyHash P (Str.ofString "__repr__"), key := Value.str (Str.ofString "__repr__") 300, val := Value.ref 91 }, { hash := PyData.keyHash P (Str.ofString "__hash__"), key := Value.str (Str.ofString "__hash__") 307, val := Value.ref 98 }, { hash := PyData.keyHash P (Str.ofString "__le__"), key := Value.str (Str.ofString "__le__") 315, val := Value.ref 105 }, { hash := PyData.keyHash P (Str.ofString "__lt__"), key := Value.str (Str.ofString "__lt__") 323, val := Value.ref 112 }, { hash := PyData.keyHash P (Str.ofString "__ge__"), key := Value.str (Str.ofString "__ge__") 331, val := Value.ref 119 }, { hash := PyData.keyHash P (Str.ofString "__gt__"), key := Value.str (Str.ofString "__gt__") 339, val := Value.ref 126 }, { hash := PyData.keyHash P (Str.ofString "__eq__"), key := Value.str (Str.ofString "__eq__") 347, val := Value.ref 133 }, { hash := PyData.keyHash P (Str.ofString "__static_attributes__"), key := Value.str (Str.ofString "__static_attributes__") 349, val := Value.ref 134 }, { hash := PyData.keyHash P (Str.ofString "__dict__"), key := Value.str (Str.ofString "__dict__") 351, val := Value.ref 137 }, { hash := PyData.keyHash P (Str.ofString "__weakref__"), key := Value.str (Str.ofString "__weakref__") 353, val := Value.ref 138 }, { hash := PyData.keyHash P (Str.ofString "__doc__"), key := Value.str (Str.ofString "__doc__") 354, val := Value.none }] 4 }) ::
   (nat_lit 136, { cls := Value.type "type", data := Data.cls { name := Str.ofString "QName", bases := [Value.type "object"], mro := [Value.ref 136, Value.type "object"], ns := 135, qualname := Str.ofString "QName" }, slots := #[none, none, some (Value.str (Str.ofString "QName") 266), some (Value.str (Str.ofString "QName") 274), some (Value.builtin "object.__new__"), some (Value.bool true)] }) ::
   (nat_lit 137, { cls := Value.type "getset_descriptor", data := Data.fields #[Value.str (Str.ofString "__dict__") 350, Value.ref 136, Value.builtin "function.__dict__", Value.builtin "function.__dict__#set"] }) ::
   (nat_lit 138, { cls := Value.type "getset_descriptor", data := Data.fields #[Value.str (Str.ofString "__weakref__") 352, Value.ref 136, Value.builtin "ExceptionGroup.__weakref__", Value.none] }) ::
   (nat_lit 141, tO #[]) ::
   (nat_lit 143, tO #[Value.str (Str.ofString "text") 360]) ::
   (nat_lit 144, tO #[]) ::
   (nat_lit 146, { cls := Value.type "code", data := Data.fields #[Value.str (Str.ofString "_raise_serialization_error") 357, Value.str (Str.ofString "_raise_serialization_error") 358, Value.str (Str.ofString "/claim/cut.py") 359, Value.int 132 0, Value.int 1 0, Value.int 0 0, Value.int 0 0, Value.int 3 0, Value.ref 141, Value.bool true, Value.int 181 0, Value.ref 142, Value.none, Value.ref 143, Value.ref 144, Value.ref 145, Value.int 361 0, Value.int 132 0, Value.str (Str.ofString "/claim/cut.py") 362] }) ::
   (nat_lit 147, fO (nth 10) (Str.ofString "_raise_serialization_error") (Str.ofString "_raise_serialization_error") Value.none Value.none Value.none (Value.str (Str.ofString "cpy313.xml.etree.ElementTree") 264) none (Value.ref 146) Value.none) ::
   (nat_lit 148, tO #[]) ::
   (nat_lit 150, tO #[Value.str (Str.ofString "text") 367]) ::
   (nat_lit 151, tO #[]) ::
   (nat_lit 153, { cls := Value.type "code", data := Data.fields #[Value.str (Str.ofString "_escape_cdata") 364, Value.str (Str.ofString "_escape_cdata") 365, Value.str (Str.ofString "/claim/cut.py") 366, Value.int 134 0, Value.int 1 0, Value.int 0 0, Value.int 0 0, Value.int 3 0, Value.ref 148, Value.bool true, Value.int 181 0, Value.ref 149, Value.none, Value.ref 150, Value.ref 151, Value.ref 152, Value.int 368 0, Value.int 134 0, Value.str (Str.ofString "/claim/cut.py") 369] }) ::
   (nat_lit 154, fO (nth 11) (Str.ofString "_escape_cdata") (Str.ofString "_escape_cdata") Value.none Value.none Value.none (Value.str (Str.ofString "cpy313.xml.etree.ElementTree") 264) none (Value.ref 153) Value.none) ::
   (nat_lit 155, tO #[]) ::
   (nat_lit 157, tO #[Value.str (Str.ofString "text") 374]) ::
   (nat_lit 158, tO #[]) ::
   (nat_lit 160, { cls := Value.type "code", data := Data.fields #[Value.str (Str.ofString "_escape_cdata_c14n") 371, Value.str (Str.ofString "_escape_cdata_c14n") 372, Value.str (Str.ofString "/claim/cut.py") 373, Value.int 145 0, Value.int 1 0, Value.int 0 0, Value.int 0 0, Value.int 3 0, Value.ref 155, Value.bool true, Value.int 181 0, Value.ref 156, Value.none, Value.ref 157, Value.ref 158, Value.ref 159, Value.int 375 0, Value.int 145 0, Value.str (Str.ofString "/claim/cut.py") 376] }) ::
   (nat_lit 161, fO (nth 12) (Str.ofString "_escape_cdata_c14n") (Str.ofString "_escape_cdata_c14n") Value.none Value.none Value.none (Value.str (Str.ofString "cpy313.xml.etree.ElementTree") 264) none (Value.ref 160) Value.none) ::
   (nat_lit 162, tO #[]) ::
   (nat_lit 164, tO #[Value.str (Str.ofString "script") 383, Value.str (Str.ofString "added") 384, Value.str (Str.ofString "signs") 385, Value.str (Str.ofString "turn") 386, Value.str (Str.ofString "cell") 387]) ::
   (nat_lit 165, tO #[]) ::
   (nat_lit 167, { cls := Value.type "code", data := Data.fields #[Value.str (Str.ofString "_law_signs") 380, Value.str (Str.ofString "_law_signs") 381, Value.str (Str.ofString "/claim/cut.py") 382, Value.int 159 0, Value.int 1 0, Value.int 0 0, Value.int 0 0, Value.int 3 0, Value.ref 162, Value.bool true, Value.int 181 0, Value.ref 163, Value.none, Value.ref 164, Value.ref 165, Value.ref 166, Value.int 388 0, Value.int 159 0, Value.str (Str.ofString "/claim/cut.py") 389] }) ::
   (nat_lit 168, fO (nth 14) (Str.ofString "_law_signs") (Str.ofString "_law_signs") Value.none Value.none Value.none (Value.str (Str.ofString "law_ux0023_01") 378) none (Value.ref 167) Value.none) ::
   (nat_lit 169, tO #[]) ::
   (nat_lit 171, tO #[Value.str (Str.ofString "odd") 394, Value.str (Str.ofString "sign") 395, Value.str (Str.ofString "written") 396]) ::
   (nat_lit 172, tO #[]) ::
   (nat_lit 174, { cls := Value.type "code", data := Data.fields #[Value.str (Str.ofString "_law_hand") 391, Value.str (Str.ofString "_law_hand") 392, Value.str (Str.ofString "/claim/cut.py") 393, Value.int 168 0, Value.int 2 0, Value.int 0 0, Value.int 0 0, Value.int 3 0, Value.ref 169, Value.bool true, Value.int 181 0, Value.ref 170, Value.none, Value.ref 171, Value.ref 172, Value.ref 173, Value.int 397 0, Value.int 168 0, Value.str (Str.ofString "/claim/cut.py") 398] }) ::
   (nat_lit 175, fO (nth 15) (Str.ofString "_law_hand") (Str.ofString "_law_hand") Value.none Value.none Value.none (Value.str (Str.ofString "law_ux0023_01") 378) none (Value.ref 174) Value.none) ::
   (nat_lit 176, tO #[]) ::
   (nat_lit 178, tO #[Value.str (Str.ofString "odd") 403, Value.str (Str.ofString "sign") 404]) ::
   (nat_lit 179, tO #[]) ::
   (nat_lit 181, { cls := Value.type "code", data := Data.fields #[Value.str (Str.ofString "_law_due") 400, Value.str (Str.ofString "_law_due") 401, Value.str (Str.ofString "/claim/cut.py") 402, Value.int 175 0, Value.int 2 0, Value.int 0 0, Value.int 0 0, Value.int 3 0, Value.ref 176, Value.bool true, Value.int 181 0, Value.ref 177, Value.none, Value.ref 178, Value.ref 179, Value.ref 180, Value.int 405 0, Value.int 175 0, Value.str (Str.ofString "/claim/cut.py") 406] }) ::
   (nat_lit 182, fO (nth 16) (Str.ofString "_law_due") (Str.ofString "_law_due") Value.none Value.none Value.none (Value.str (Str.ofString "law_ux0023_01") 378) none (Value.ref 181) Value.none) ::
   (nat_lit 183, tO #[]) ::
   (nat_lit 186, { cls := Value.type "code", data := Data.fields #[Value.str (Str.ofString "_law_row") 408, Value.str (Str.ofString "_law_row") 409, Value.str (Str.ofString "/claim/cut.py") 410, Value.int 185 0, Value.int 1 0, Value.int 0 0, Value.int 0 0, Value.int 3 0, Value.ref 183, Value.bool true, Value.int 181 0, Value.ref 184, Value.none, Value.none, Value.none, Value.ref 185, Value.int 411 0, Value.int 185 0, Value.str (Str.ofString "/claim/cut.py") 412] }) ::
   (nat_lit 187, fO (nth 17) (Str.ofString "_law_row") (Str.ofString "_law_row") Value.none Value.none Value.none (Value.str (Str.ofString "law_ux0023_01") 378) none (Value.ref 186) Value.none) ::
   (nat_lit 188, tO #[]) ::
   (nat_lit 190, tO #[Value.str (Str.ofString "tails") 417, Value.str (Str.ofString "row") 418, Value.str (Str.ofString "part") 419, Value.str (Str.ofString "low") 420, Value.str (Str.ofString "high") 421]) ::
   (nat_lit 191, tO #[Value.str (Str.ofString "tails") 422, Value.str (Str.ofString "part") 423]) ::
   (nat_lit 193, { cls := Value.type "code", data := Data.fields #[Value.str (Str.ofString "_law_range") 414, Value.str (Str.ofString "_law_range") 415, Value.str (Str.ofString "/claim/cut.py") 416, Value.int 196 0, Value.int 3 0, Value.int 0 0, Value.int 0 0, Value.int 3 0, Value.ref 188, Value.bool true, Value.int 181 0, Value.ref 189, Value.none, Value.ref 190, Value.ref 191, Value.ref 192, Value.int 424 0, Value.int 196 0, Value.str (Str.ofString "/claim/cut.py") 425] }) ::
   (nat_lit 194, fO (nth 18) (Str.ofString "_law_range") (Str.ofString "_law_range") Value.none Value.none Value.none (Value.str (Str.ofString "law_ux0023_01") 378) none (Value.ref 193) Value.none) ::
   (nat_lit 195, tO #[]) ::
   (nat_lit 198, { cls := Value.type "code", data := Data.fields #[Value.str (Str.ofString "_law_ranges") 427, Value.str (Str.ofString "_law_ranges") 428, Value.str (Str.ofString "/claim/cut.py") 429, Value.int 200 0, Value.int 3 0, Value.int 0 0, Value.int 0 0, Value.int 3 0, Value.ref 195, Value.bool true, Value.int 181 0, Value.ref 196, Value.none, Value.none, Value.none, Value.ref 197, Value.int 430 0, Value.int 200 0, Value.str (Str.ofString "/claim/cut.py") 431] }) ::
   (nat_lit 199, fO (nth 19) (Str.ofString "_law_ranges") (Str.ofString "_law_ranges") Value.none Value.none Value.none (Value.str (Str.ofString "law_ux0023_01") 378) none (Value.ref 198) Value.none) ::
   (nat_lit 200, tO #[]) ::
   (nat_lit 203, { cls := Value.type "code", data := Data.fields #[Value.str (Str.ofString "_law_nest") 433, Value.str (Str.ofString "_law_nest") 434, Value.str (Str.ofString "/claim/cut.py") 435, Value.int 221 0, Value.int 2 0, Value.int 0 0, Value.int 0 0, Value.int 3 0, Value.ref 200, Value.bool true, Value.int 181 0, Value.ref 201, Value.none, Value.none, Value.none, Value.ref 202, Value.int 436 0, Value.int 221 0, Value.str (Str.ofString "/claim/cut.py") 437] }) ::
   (nat_lit 204, fO (nth 20) (Str.ofString "_law_nest") (Str.ofString "_law_nest") Value.none Value.none Value.none (Value.str (Str.ofString "law_ux0023_01") 378) none (Value.ref 203) Value.none) ::
   (nat_lit 205, tO #[]) ::
   (nat_lit 207, tO #[Value.str (Str.ofString "line") 442, Value.str (Str.ofString "ways") 443, Value.str (Str.ofString "way") 444, Value.str (Str.ofString "piece") 445, Value.str (Str.ofString "often") 446, Value.str (Str.ofString "sizes") 447, Value.str (Str.ofString "fresh") 448, Value.str (Str.ofString "size") 449, Value.str (Str.ofString "place") 450, Value.str (Str.ofString "unit") 451]) ::
   (nat_lit 208, tO #[]) ::
   (nat_lit 210, { cls := Value.type "code", data := Data.fields #[Value.str (Str.ofString "_law_ways") 439, Value.str (Str.ofString "_law_ways") 440, Value.str (Str.ofString "/claim/cut.py") 441, Value.int 234 0, Value.int 1 0, Value.int 0 0, Value.int 0 0, Value.int 3 0, Value.ref 205, Value.bool true, Value.int 181 0, Value.ref 206, Value.none, Value.ref 207, Value.ref 208, Value.ref 209, Value.int 452 0, Value.int 234 0, Value.str (Str.ofString "/claim/cut.py") 453] }) ::
   (nat_lit 211, fO (nth 21) (Str.ofString "_law_ways") (Str.ofString "_law_ways") Value.none Value.none Value.none (Value.str (Str.ofString "law_ux0023_01") 378) none (Value.ref 210) Value.none) ::
   (nat_lit 212, tO #[]) ::
   (nat_lit 215, { cls := Value.type "code", data := Data.fields #[Value.str (Str.ofString "law") 455, Value.str (Str.ofString "law") 456, Value.str (Str.ofString "/claim/cut.py") 457, Value.int 262 0, Value.int 1 0, Value.int 0 0, Value.int 0 0, Value.int 3 0, Value.ref 212, Value.bool true, Value.int 181 0, Value.ref 213, Value.none, Value.none, Value.none, Value.ref 214, Value.int 458 0, Value.int 262 0, Value.str (Str.ofString "/claim/cut.py") 459] }) ::
   (nat_lit 216, fO (nth 22) (Str.ofString "law") (Str.ofString "law") Value.none Value.none Value.none (Value.str (Str.ofString "law_ux0023_01") 378) none (Value.ref 215) Value.none) :: []
noncomputable def asH : List Addr := 2 :: 3 :: 15 :: 16 :: 17 :: 19 :: 20 :: 22 :: 23 :: 24 :: 25 :: 26 :: 28 :: 29 :: 31 :: 32 :: 33 :: 34 :: 35 :: 37 :: 38 :: 40 :: 41 :: 42 :: 44 :: 45 :: 47 :: 48 :: 49 :: 51 :: 52 :: 54 :: 55 :: 56 :: 58 :: 59 :: 61 :: 62 :: 70 :: 71 :: 73 :: 74 :: 76 :: 77 :: 78 :: 80 :: 81 :: 83 :: 84 :: 85 :: 87 :: 88 :: 90 :: 91 :: 92 :: 94 :: 95 :: 97 :: 98 :: 99 :: 101 :: 102 :: 104 :: 105 :: 106 :: 108 :: 109 :: 111 :: 112 :: 113 :: 115 :: 116 :: 118 :: 119 :: 120 :: 122 :: 123 :: 125 :: 126 :: 127 :: 129 :: 130 :: 132 :: 133 :: 134 :: 135 :: 136 :: 137 :: 138 :: 141 :: 143 :: 144 :: 146 :: 147 :: 148 :: 150 :: 151 :: 153 :: 154 :: 155 :: 157 :: 158 :: 160 :: 161 :: 162 :: 164 :: 165 :: 167 :: 168 :: 169 :: 171 :: 172 :: 174 :: 175 :: 176 :: 178 :: 179 :: 181 :: 182 :: 183 :: 186 :: 187 :: 188 :: 190 :: 191 :: 193 :: 194 :: 195 :: 198 :: 199 :: 200 :: 203 :: 204 :: 205 :: 207 :: 208 :: 210 :: 211 :: 212 :: 215 :: 216 :: []
end Mine
set_option maxHeartbeats 8000000
namespace Mine
noncomputable section
noncomputable def topRunT (tb : String → Option Builtin) (p : Program) (w : World) (n₀ : Nat) (ann : Option Value) : Nat → SharedT → Thread → Option SharedT
  | 0, _, _ => none
  | n + 1, s, t => match through t with
    | true => some s
    | false => match stepOk n₀ ann t with
      | false => none
      | true => match stepT (denote tb) p w s t with
        | some (s', t') => topRunT tb p w n₀ ann n s' t'
        | none => none
theorem topRun_of {tb : String → Option Builtin} {p : Program} {w : World} {n₀ : Nat} {ann : Option Value} : ∀ {n : Nat} {s s' : SharedT} {t : Thread}, topRunT tb p w n₀ ann n s t = some s' → topRun tb p w n₀ ann n s.abs t = some s'.abs
  | 0, _, _, _, h => by cases h
  | n + 1, s, s', t, h => by
    unfold topRunT at h
    unfold topRun
    cases he : through t with
    | true => rw [he] at h; cases h; rfl
    | false =>
      rw [he] at h
      cases hk : stepOk n₀ ann t with
      | false => rw [hk] at h; cases h
      | true =>
        rw [hk] at h
        cases hs : stepT (denote tb) p w s t with
        | none => rw [hs] at h; cases h
        | some r => obtain ⟨s₂, t₂⟩ := r; rw [hs] at h; rw [stepT_spec hs]; exact topRun_of h
noncomputable def bootT (P : Params) : BT := ((boot_heap P).objs.toList.foldl (fun x o => (x.1.ins x.2 o, x.2 + 1)) (BT.nil, 0)).1
noncomputable def bootS (w : World) (os : OsState) : SharedT := ⟨bootT w.params, 11, (boot_heap w.params).life, Array.mk [], boot_drawn, boot_toks, os⟩
theorem bootA (w : World) (os : OsState) : (bootS w os).abs = ⟨boot_heap w.params, Array.mk [], boot_drawn, boot_toks, os⟩ := by kernel_rfl

noncomputable abbrev loose3 : List Str := [Str.ofString "insort_right", Str.ofString "bisect_right", Str.ofString "bisect_left", Str.ofString "_iter_escaped_chars", Str.ofString "_strip_quoted_realnames", Str.ofString "_check_parenthesis", Str.ofString "QName", Str.ofString "_raise_serialization_error", Str.ofString "_escape_cdata", Str.ofString "_escape_cdata_c14n", Str.ofString "_law_signs", Str.ofString "_law_hand", Str.ofString "_law_due", Str.ofString "_law_row", Str.ofString "_law_range", Str.ofString "_law_ranges", Str.ofString "_law_nest", Str.ofString "_law_ways"]
noncomputable def VW : Program := { PG with main := { PG.main with body := [nth 22] } }
noncomputable def tabsH : List Addr := [189, 184]
theorem asE (P : Params) : asH = (KH P).map (·.1) := by kernel_rfl
noncomputable abbrev HK : Hook := kmHook KH asH asE tabsH
noncomputable abbrev XtH (s : Shared) : Bool := xlAt VW [] s && recOk PySem.Challenge.rw_ux0023_01.row.records s

noncomputable def lookT (p q : Program) (al : List Addr) (tl : List Addr) (rec : WRecords) (w : World) (os : OsState) :=
  (topRunT treeTable p w 11 (some (.ref 6)) 2310 (bootS w os) (topStub p)).map fun t =>
    (staticsOk (importedModules p.main.body) (boot_heap w.params) t.abs.heap && namesBound p t.abs.heap && gensDone t.abs && laidKept (boot_heap w.params) t.abs.heap,
     openSeen q loose3 (importedModules p.main.body) (fun s => xlAt q [] s && recOk rec s) true t.abs,
     (al.map t.abs.heap.get?, tl.map t.abs.heap.get?))
noncomputable def goodT (q : Program) := openGood q loose3
theorem qd : (fun (_ : Program → Program → List Addr → List Addr → WRecords → World → OsState → _) (_ : Program → _) => true) lookT goodT = true := by k_qdec
theorem runL (w : World) (os : OsState) : lookT PG VW asH tabsH PySem.Challenge.rw_ux0023_01.row.records w os = some (true, goodT VW, ((KH w.params).map fun p => some p.2, tabsH.map fun _ => some (tabObj #[]))) := by
  rw [PySem.W.Fast.te16432311211671700021, PySem.W.Fast.te15373350099974320332]
  kernel_rfl
theorem LeftO.of_tree {p q : Program} {loose : List Str} {Xt : Shared → Bool} {α : Type} {Yf : Shared → α} {Ya : World → α} {N : Nat} {g0 : Bool} {m₀ : Nat} {ann : Option Value}
    (open_ : ∀ w : World, (fencedOpening treeTable p w N).map (fun s => (s.heap, s.gens, s.drawn, s.toks)) = some (boot_heap w.params, Array.mk [], boot_drawn, boot_toks))
    (size : ∀ w : World, ((boot_heap w.params).isNs mainGlobals && (Array.mk [] : Array GenState).size == 0, (boot_heap w.params).objs.size, (boot_heap w.params).nsMap mainGlobals "__annotations__") = (true, m₀, ann))
    (run : ∀ (w : World) (os : OsState), (topRunT treeTable p w m₀ ann N (bootS w os) (topStub p)).map (fun t =>
      (staticsOk (importedModules p.main.body) (boot_heap w.params) t.abs.heap && namesBound p t.abs.heap && gensDone t.abs && laidKept (boot_heap w.params) t.abs.heap,
       openSeen q loose (importedModules p.main.body) Xt g0 t.abs, Yf t.abs)) = some (true, openGood q loose, Ya w)) : LeftO p q loose Xt Yf Ya N g0 := fun w => by
  obtain ⟨⟨h, gs, d, k, os⟩, e, e'⟩ := Option.map_eq_some_iff.mp (open_ w)
  obtain ⟨rfl, rfl, rfl, rfl⟩ : h = boot_heap w.params ∧ gs = Array.mk [] ∧ d = boot_drawn ∧ k = boot_toks := by simpa using e'
  obtain ⟨z1, z2, z3⟩ : _ ∧ _ ∧ _ := by simpa only [Prod.mk.injEq] using size w
  obtain ⟨t, ht, hl⟩ := Option.map_eq_some_iff.mp (run w os)
  obtain ⟨l1, l2, l3⟩ : _ ∧ _ ∧ _ := by simpa only [Prod.mk.injEq] using hl
  have r := topRun_of ht
  rw [bootA] at r
  have ht : topFrom treeTable p w N ⟨boot_heap w.params, Array.mk [], boot_drawn, boot_toks, os⟩ = some t.abs := by
    unfold topFrom
    dsimp only
    rw [z1, z2, z3, r]
    show (match staticsOk (importedModules p.main.body) (boot_heap w.params) t.abs.heap && namesBound p t.abs.heap && gensDone t.abs && laidKept (boot_heap w.params) t.abs.heap with | true => _ | false => _) = _
    rw [l1]
  unfold openEnds
  rw [e]
  show (topFrom treeTable p w N _).map _ = _
  rw [ht]
  exact congrArg some (Prod.ext l2 l3)
noncomputable def saidT (l : OpenLaw) : Bool := l.wellSaid
theorem qd2 : (fun (_ : OpenLaw → Bool) => true) saidT = true := by k_qdec
noncomputable def stN : Stmt → Pos
  | .FunctionDef _ _ _ _ _ _ _ _ _ q => q
  | _ => ⟨0, 0, 0, 0⟩
noncomputable def dL : DefRec := ⟨Str.ofString "law", stP (nth 22), stB (nth 22), stS (nth 22), stN (nth 22)⟩
theorem left : LeftO PySem.Challenge.rw_ux0023_01.row.prog VW loose3 XtH HK.obs HK.val 2310 :=
  LeftO.of_tree (m₀ := 11) (ann := some (.ref 6)) (boot_open (by kernel_rfl) (by decide) (fun _ => by kernel_rfl)) (fun w => by kernel_rfl) runL
theorem said : PySem.Challenge.rw_ux0023_01.wellSaid = true := by
  show saidT _ = true
  rw [PySem.W.Fast.te10836580085690924135]
  (repeat (refine Bool.and_eq_true_iff.mpr ⟨?_, by decide +kernel⟩))
  decide +kernel
theorem hd (call : WalkO VW loose3 (XL VW []) (kmHook KH asH asE [189, 184]).says PySem.Challenge.rw_ux0023_01.row.toRowW dL [] fun f vs => PySem.call f vs) : PySem.Challenge.rw_ux0023_01.Holds :=
  holds_law said fun said' => holds_open (q := VW) (loose := loose3) (Xt := XtH) (XP := XL VW []) (Yf := HK.obs) (Ya := HK.val) (YP := HK.says) (N := 2310) left HK.of HK.keeps
    (fun s e => xl_of s (Bool.and_eq_true_iff.mp e).1) XL.keeps (by kernel_rfl) (by kernel_rfl) (by kernel_rfl) (fun s e => recFacts_of (Bool.and_eq_true_iff.mp e).2) (by kernel_rfl)
    said' (by decide +kernel) ⟨rfl, rfl, rfl, rfl, rfl, by decide +kernel⟩ ⟨[WData.list []], by decide +kernel, by decide +kernel⟩ call
end
end Mine
set_option maxHeartbeats 8000000
namespace Mine

theorem len0 {α : Type} {l : List α} (h : l.length = 0) : l = [] := List.eq_nil_of_length_eq_zero h
theorem len1 {α : Type} {l : List α} (h : l.length = 1) : ∃ a, l = [a] := List.length_eq_one_iff.mp h
theorem lenS {α : Type} {l : List α} {n : Nat} (h : l.length = n + 1) : ∃ a r, l = a :: r ∧ r.length = n := by
  cases l with
  | nil => cases h
  | cons a r => exact ⟨a, r, rfl, Nat.succ.inj h⟩
theorem len2 {α : Type} {l : List α} (h : l.length = 2) : ∃ a b, l = [a, b] := by
  obtain ⟨a, r, rfl, e⟩ := lenS h
  obtain ⟨b, rfl⟩ := len1 e
  exact ⟨a, b, rfl⟩
theorem len3 {α : Type} {l : List α} (h : l.length = 3) : ∃ a b c, l = [a, b, c] := by
  obtain ⟨a, r, rfl, e⟩ := lenS h
  obtain ⟨b, c, rfl⟩ := len2 e
  exact ⟨a, b, c, rfl⟩
theorem len4 {α : Type} {l : List α} (h : l.length = 4) : ∃ a b c d, l = [a, b, c, d] := by
  obtain ⟨a, r, rfl, e⟩ := lenS h
  obtain ⟨b, c, d, rfl⟩ := len3 e
  exact ⟨a, b, c, d, rfl⟩
structure Wd where
  w : World
  sc : Addr
  ns : List Int
noncomputable abbrev KK (w : Wd) : Frag := KH w.w.params
noncomputable abbrev Led := List (Addr × Obj)
noncomputable abbrev MVal := PySem.Value
noncomputable abbrev MStr := PySem.Str

structure CloS where
  qual : MStr
  params : Arguments
  body : PySem.Expr
  scope : Scope
  cl : List (MStr × Addr)

inductive PV where
  | none
  | bool (b : Bool)
  | int (i : Int)
  | str (x : MStr)
  | tup (l : List PV)
  | lst (a : Addr)
  | st (v : MVal)
  | qn (x : MStr)
  | clo (c : CloS)

noncomputable abbrev tupO (vs : List MVal) (n : Nat) : Obj := { cls := .type "tuple", data := .seq vs.toArray n }

noncomputable def CodeAt (imm : Led) (c' : Addr) (qual : MStr) : Prop := ∃ oc vs t, (c', oc) ∈ imm ∧ oc.data = .fields vs ∧ vs[1]? = some (.str qual t)

mutual
inductive VRel (imm : Led) : MVal → PV → Prop
  | none : VRel imm .none .none
  | bool (b : Bool) : VRel imm (.bool b) (.bool b)
  | int (i : Int) (t : Tok) : VRel imm (.int i t) (.int i)
  | str (x : MStr) (t : Tok) : VRel imm (.str x t) (.str x)
  | tup {a : Addr} {vs : List MVal} {n : Nat} {ds : List PV} : (a, tupO vs n) ∈ imm → VAll imm vs ds → VRel imm (.ref a) (.tup ds)
  | lst (a : Addr) : VRel imm (.ref a) (.lst a)
  | st (v : MVal) : VRel imm v (.st v)
  | qn {a d : Addr} {es : List DictEntry} {n : Nat} {x : MStr} {t : Tok} : (a, instObj 136 d) ∈ imm → (d, dictOf es n) ∈ imm → getL (Str.ofString "text") es = some (some (.str x t)) → VRel imm (.ref a) (.qn x)
  | clo {f c' : Addr} {pm ctv : MVal} {c : CloS} : (f, kla_obj (Str.ofString "<lambda>") c.qual c.params c.body c.scope c.cl pm c' ctv) ∈ imm → CodeAt imm c' c.qual → VRel imm (.ref f) (.clo c)
inductive VAll (imm : Led) : List MVal → List PV → Prop
  | nil : VAll imm [] []
  | cons {v : MVal} {vs : List MVal} {d : PV} {ds : List PV} : VRel imm v d → VAll imm vs ds → VAll imm (v :: vs) (d :: ds)
end

theorem CodeAt.mono {i j : Led} (hs : ∀ p ∈ i, p ∈ j) {c : Addr} {q : MStr} (h : CodeAt i c q) : CodeAt j c q :=
  let ⟨oc, vs, t, a, b, d⟩ := h; ⟨oc, vs, t, hs _ a, b, d⟩
mutual
theorem VRel.mono {i j : Led} (hs : ∀ p ∈ i, p ∈ j) : ∀ {v : MVal} {d : PV}, VRel i v d → VRel j v d
  | _, _, .none => .none
  | _, _, .bool b => .bool b
  | _, _, .int a t => .int a t
  | _, _, .str x t => .str x t
  | _, _, .tup h r => .tup (hs _ h) (VAll.mono hs r)
  | _, _, .lst a => .lst a
  | _, _, .st v => .st v
  | _, _, .qn a b c => .qn (hs _ a) (hs _ b) c
  | _, _, .clo a b => .clo (hs _ a) (b.mono hs)
theorem VAll.mono {i j : Led} (hs : ∀ p ∈ i, p ∈ j) : ∀ {vs : List MVal} {ds : List PV}, VAll i vs ds → VAll j vs ds
  | _, _, .nil => .nil
  | _, _, .cons h r => .cons (VRel.mono hs h) (VAll.mono hs r)
end
section
variable {imm : Led} {v : MVal} {d : PV} {vs ws : List MVal} {ds es : List PV}
theorem VAll.length (h : VAll imm vs ds) : vs.length = ds.length := by
  induction vs generalizing ds with
  | nil => cases h; rfl
  | cons v vs ih => cases h with | cons _ r => rw [List.length_cons, List.length_cons, ih r]
theorem VAll.append (h : VAll imm vs ds) (k : VAll imm ws es) : VAll imm (vs ++ ws) (ds ++ es) := by
  induction vs generalizing ds with
  | nil => cases h; exact k
  | cons v vs ih => cases h with | cons h r => exact .cons h (ih r)
theorem VAll.get (h : VAll imm vs ds) {k : Nat} {d : PV} (hk : ds[k]? = some d) : ∃ v, vs[k]? = some v ∧ VRel imm v d := by
  induction vs generalizing ds k with
  | nil => cases h; cases hk
  | cons v vs ih =>
    cases h with
    | cons h r =>
      cases k with
      | zero => cases hk; exact ⟨v, rfl, h⟩
      | succ k => exact ih r hk
theorem VAll.get' (h : VAll imm vs ds) {k : Nat} {v : MVal} (hk : vs[k]? = some v) : ∃ d, ds[k]? = some d ∧ VRel imm v d := by
  induction vs generalizing ds k with
  | nil => cases hk
  | cons v vs ih =>
    cases h with
    | cons h r =>
      cases k with
      | zero => cases hk; exact ⟨_, rfl, h⟩
      | succ k => exact ih r hk
theorem VAll.take (h : VAll imm vs ds) (k : Nat) : VAll imm (vs.take k) (ds.take k) := by
  induction vs generalizing ds k with
  | nil => cases h; simp; exact .nil
  | cons v vs ih =>
    cases h with
    | cons h r => cases k with
      | zero => exact .nil
      | succ k => exact .cons h (ih r k)
theorem VAll.drop (h : VAll imm vs ds) (k : Nat) : VAll imm (vs.drop k) (ds.drop k) := by
  induction vs generalizing ds k with
  | nil => cases h; simp; exact .nil
  | cons v vs ih =>
    cases h with
    | cons h r => cases k with
      | zero => exact .cons h r
      | succ k => exact ih r k
end

noncomputable def setL (D : Addr) (o : Obj) (l : Led) : Led := l.map fun p => if p.1 = D then (D, o) else p
theorem setL_fst (D : Addr) (o : Obj) (l : Led) : (setL D o l).map (·.1) = l.map (·.1) := by
  unfold setL
  rw [List.map_map]
  apply List.map_congr_left
  intro p _
  show (if p.1 = D then (D, o) else p).1 = p.1
  split <;> simp_all
theorem setL_off {D : Addr} {o : Obj} {l : Led} (h : ∀ p ∈ l, p.1 ≠ D) : setL D o l = l := by
  unfold setL
  conv => rhs; rw [← List.map_id l]
  apply List.map_congr_left
  intro p hp
  rw [if_neg (h p hp)]; rfl
theorem setL_app (D : Addr) (o : Obj) (l k : Led) : setL D o (l ++ k) = setL D o l ++ setL D o k := List.map_append
theorem mem_setL {D : Addr} {o : Obj} {l : Led} {p : Addr × Obj} (h : p ∈ l) (hn : p.1 ≠ D) : p ∈ setL D o l :=
  List.mem_map.mpr ⟨p, h, by rw [if_neg hn]⟩
theorem mem_setL_self {D : Addr} {o o' : Obj} {l : Led} (h : (D, o') ∈ l) : (D, o) ∈ setL D o l :=
  List.mem_map.mpr ⟨_, h, by rw [if_pos rfl]⟩
theorem upd_setL {D : Addr} {o o' : Obj} : ∀ {l : Led}, (l.map (·.1)).Nodup → (D, o) ∈ l → Upd D o o' l (setL D o' l)
  | p :: r, hn, hm => by
    rw [List.map_cons, List.nodup_cons] at hn
    by_cases h : p.1 = D
    · have hoff : ∀ q ∈ r, q.1 ≠ D := fun q hq e => hn.1 (h ▸ e ▸ List.mem_map_of_mem hq)
      have hp : p = (D, o) := by
        rcases List.mem_cons.mp hm with e | e
        · exact e.symm
        · exact absurd rfl (hoff _ e)
      subst hp
      have : setL D o' ((D, o) :: r) = (D, o') :: r := by
        show (if D = D then (D, o') else (D, o)) :: setL D o' r = _
        rw [if_pos rfl, setL_off hoff]
      rw [this]
      exact .head hoff
    · have : setL D o' (p :: r) = p :: setL D o' r := by
        show (if p.1 = D then (D, o') else p) :: setL D o' r = _
        rw [if_neg h]
      rw [this]
      refine .tail h (upd_setL hn.2 ?_)
      rcases List.mem_cons.mp hm with e | e
      · exact absurd (by rw [← e]) h
      · exact e
theorem nodup_mem_eq {D : Addr} {o o' : Obj} : ∀ {l : Led}, (l.map (·.1)).Nodup → (D, o) ∈ l → (D, o') ∈ l → o = o'
  | p :: r, hn, h1, h2 => by
    rw [List.map_cons, List.nodup_cons] at hn
    rcases List.mem_cons.mp h1 with e1 | e1 <;> rcases List.mem_cons.mp h2 with e2 | e2
    · exact (Prod.mk.inj (e1.trans e2.symm)).2
    · exact absurd (e1 ▸ List.mem_map_of_mem (f := (·.1)) e2) hn.1
    · exact absurd (e2 ▸ List.mem_map_of_mem (f := (·.1)) e1) hn.1
    · exact nodup_mem_eq hn.2 e1 e2

structure FS where
  cn : MStr
  cs : Scope
  a : Addr
  ccd : MVal
  cl : List (MStr × Addr)

noncomputable def Heads (h : Heap) : Prop := CodeHd h 193 189 ∧ CodeHd h 186 184
theorem Heads.keeps {h h' : Heap} (x : Heads h) (k : ∀ b o, h.get? b = some o → h'.get? b = some o) : Heads h' := ⟨x.1.keeps k, x.2.keeps k⟩

noncomputable def ScrAt (h : Heap) (a : Addr) (ns : List Int) : Prop := ∃ vs, h.IsList a vs.toArray ∧ IntsAre vs ns
theorem ScrAt.keeps {h h' : Heap} {a : Addr} {ns : List Int} (x : ScrAt h a ns) (k : ∀ b o, h.get? b = some o → h'.get? b = some o) : ScrAt h' a ns := let ⟨vs, l, i⟩ := x; ⟨vs, lstKept l k, i⟩
structure Cx (w : Wd) (fs : FS) where
  dp : Nat
  un : Nat
  gd : Option (List Code)
  L : Addr
  outer : List Env
  A₀ : Around
  base : Heap
  h₀ : Heap
  loose : List MStr
  mean : ExcName → Option MVal
  mg : MStr → Option MVal
  mb : MStr → Option MVal
  dr : Drawn
  os : OsState
  below : Below A₀ base outer h₀
  kin : (KK w).In h₀
  top : Top topProg loose mean mg mb h₀
  hds : Heads h₀
  scr : ScrAt h₀ w.sc w.ns
  kind : fs.cs.kind = .function

noncomputable abbrev Cx.A {w : Wd} {fs : FS} (c : Cx w fs) : Around := ktrTop c.dp c.un c.gd fs.cn fs.cs c.L fs.a fs.ccd fs.cl c.outer
noncomputable abbrev Cx.env {w : Wd} {fs : FS} (_c : Cx w fs) : Env := envX fs.cn fs.cs _c.L fs.a fs.ccd fs.cl

noncomputable abbrev Loc := List (MStr × PV)
structure GS where
  lists : List (Addr × List PV)
  cells : List (Addr × Option PV)
  nss : List (Addr × Loc)
  raws : List (Addr × Obj)
  gens : Array GenState

noncomputable def LocOk (imm : Led) (loc : Loc) (m : MStr → Option MVal) : Prop := ∀ x pv, loc.lookup x = some pv → ∃ v, m x = some v ∧ VRel imm v pv
theorem LocOk.mono {imm imm' : Led} {loc : Loc} {m : MStr → Option MVal} (h : LocOk imm loc m) (hs : ∀ p ∈ imm, p ∈ imm') : LocOk imm' loc m := fun x q hq => let ⟨v, a, b⟩ := h x q hq; ⟨v, a, b.mono hs⟩

noncomputable def tabList : List (Addr × MStr) := [(189, (Str.ofString "_law_range" ++ ".<locals>.") ++ "<lambda>"), (184, (Str.ofString "_law_row" ++ ".<locals>.") ++ "<lambda>")]
noncomputable def TabOk (imm : Led) (q : MStr) (ps : Array MVal) : Prop := TriplesOk ps.toList ∧ ∀ pos v, codeAmong pos ps.toList = some v → ∃ a, v = .ref a ∧ CodeAt imm a q
noncomputable def ListAt (imm mu : Led) (a : Addr) (items : List PV) : Prop := ∃ vs n, (a, listOf vs.toArray n) ∈ mu ∧ VAll imm vs items
noncomputable def CellV (imm : Led) (p : Option PV) (ov : Option MVal) : Prop := match p with
  | .none => ov = .none
  | some pv => ∃ v, ov = some v ∧ VRel imm v pv
noncomputable def CellAt (imm mu : Led) (a : Addr) (p : Option PV) : Prop := ∃ o ov, (a, o) ∈ mu ∧ o.data = .cell ov ∧ CellV imm p ov
noncomputable def NsAt (imm mu : Led) (a : Addr) (l : Loc) : Prop := ∃ o m, (a, o) ∈ mu ∧ LCg.NsObj o m ∧ LocOk imm l m
noncomputable def rawOk (a : Addr) (o : Obj) : Bool := (tabList.all fun p => p.1 != a) && (match o.data with | .seq _ _ => false | .cell _ => false | .dict _ _ => false | _ => true)
noncomputable def TabAt (imm mu : Led) (a : Addr) (q : MStr) : Prop := ∃ ps, (a, tabObj ps) ∈ mu ∧ TabOk imm q ps

structure StoreOk (imm mu : Led) (g : GS) : Prop where
  lists : ∀ a items, (a, items) ∈ g.lists → ListAt imm mu a items
  lnd : (g.lists.map (·.1)).Nodup
  cells : ∀ a p, (a, p) ∈ g.cells → CellAt imm mu a p
  cnd : (g.cells.map (·.1)).Nodup
  nss : ∀ a l, (a, l) ∈ g.nss → NsAt imm mu a l
  nnd : (g.nss.map (·.1)).Nodup
  raws : ∀ a o, (a, o) ∈ g.raws → (a, o) ∈ mu ∧ rawOk a o = true
  rnd : (g.raws.map (·.1)).Nodup
  tabs : ∀ a q, (a, q) ∈ tabList → TabAt imm mu a q

section
variable {imm imm' mu mu' : Led} {a : Addr} {items : List PV} {p : Option PV} {l : Loc} {q : MStr} {g : GS}
theorem ListAt.mono (hs : ∀ p ∈ imm, p ∈ imm') (h : ListAt imm mu a items) : ListAt imm' mu a items := let ⟨vs, n, h1, h2⟩ := h; ⟨vs, n, h1, h2.mono hs⟩
theorem CellAt.mono (hs : ∀ p ∈ imm, p ∈ imm') (h : CellAt imm mu a p) : CellAt imm' mu a p := by
  obtain ⟨o, ov, h1, h2, h3⟩ := h
  refine ⟨o, ov, h1, h2, ?_⟩
  cases p with
  | none => exact h3
  | some pv => obtain ⟨v, e, r⟩ := h3; exact ⟨v, e, r.mono hs⟩
theorem NsAt.mono (hs : ∀ p ∈ imm, p ∈ imm') (h : NsAt imm mu a l) : NsAt imm' mu a l := let ⟨o, m, h1, h2, h3⟩ := h; ⟨o, m, h1, h2, h3.mono hs⟩
theorem TabOk.mono (hs : ∀ p ∈ imm, p ∈ imm') {ps : Array MVal} (h : TabOk imm q ps) : TabOk imm' q ps := ⟨h.1, fun pos v e => let ⟨a, e1, r⟩ := h.2 pos v e; ⟨a, e1, r.mono hs⟩⟩
theorem TabAt.mono (hs : ∀ p ∈ imm, p ∈ imm') (h : TabAt imm mu a q) : TabAt imm' mu a q := let ⟨ps, h1, h2⟩ := h; ⟨ps, h1, h2.mono hs⟩
theorem StoreOk.mono (S : StoreOk imm mu g) (hs : ∀ p ∈ imm, p ∈ imm') : StoreOk imm' mu g :=
  { S with
    lists := fun a i h => (S.lists a i h).mono hs
    cells := fun a i h => (S.cells a i h).mono hs
    nss := fun a i h => (S.nss a i h).mono hs
    tabs := fun a i h => (S.tabs a i h).mono hs }
theorem StoreOk.more (S : StoreOk imm mu g) (hs : ∀ p ∈ mu, p ∈ mu') : StoreOk imm mu' g :=
  { S with
    lists := fun a i h => let ⟨x, y, h1, h2⟩ := S.lists a i h; ⟨x, y, hs _ h1, h2⟩
    cells := fun a i h => let ⟨x, y, h1, h2⟩ := S.cells a i h; ⟨x, y, hs _ h1, h2⟩
    nss := fun a i h => let ⟨x, y, h1, h2⟩ := S.nss a i h; ⟨x, y, hs _ h1, h2⟩
    raws := fun a o h => ⟨hs _ (S.raws a o h).1, (S.raws a o h).2⟩
    tabs := fun a i h => let ⟨x, h1, h2⟩ := S.tabs a i h; ⟨x, hs _ h1, h2⟩ }
theorem nodup_cons_of {β : Type} {b : β} {k : List (Addr × β)} (hn : (k.map (·.1)).Nodup) (lt : ∀ p ∈ k, p.1 ≠ a) : (((a, b) :: k).map (·.1)).Nodup := by
  rw [List.map_cons, List.nodup_cons]
  exact ⟨fun hm => let ⟨p, hp, e⟩ := List.mem_map.mp hm; lt p hp e, hn⟩
theorem StoreOk.addList (S : StoreOk imm mu g) (h : ListAt imm mu a items) (lt : ∀ p ∈ g.lists, p.1 ≠ a) : StoreOk imm mu { g with lists := (a, items) :: g.lists } :=
  { S with
    lists := fun b i hb => (List.mem_cons.mp hb).elim (fun e => by cases e; exact h) (S.lists b i)
    lnd := nodup_cons_of S.lnd lt }
theorem StoreOk.addNs (S : StoreOk imm mu g) (h : NsAt imm mu a l) (lt : ∀ p ∈ g.nss, p.1 ≠ a) : StoreOk imm mu { g with nss := (a, l) :: g.nss } :=
  { S with
    nss := fun b i hb => (List.mem_cons.mp hb).elim (fun e => by cases e; exact h) (S.nss b i)
    nnd := nodup_cons_of S.nnd lt }
theorem StoreOk.addRaw {o : Obj} (S : StoreOk imm mu g) (h : (a, o) ∈ mu) (ho : rawOk a o = true) (lt : ∀ p ∈ g.raws, p.1 ≠ a) : StoreOk imm mu { g with raws := (a, o) :: g.raws } :=
  { S with
    raws := fun b i hb => (List.mem_cons.mp hb).elim (fun e => by cases e; exact ⟨h, ho⟩) (S.raws b i)
    rnd := nodup_cons_of S.rnd lt }
end

structure GLe (g g' : GS) : Prop where
  lists : g.lists.Sublist g'.lists
  cells : g.cells.Sublist g'.cells
  nss : g.nss.Sublist g'.nss
  raws : g.raws.Sublist g'.raws
  gens : g.gens = g'.gens
theorem GLe.rfl {g : GS} : GLe g g := ⟨.refl _, .refl _, .refl _, .refl _, Eq.refl _⟩
theorem StoreOk.drop {imm mu : Led} {g g' : GS} (S : StoreOk imm mu g') (h : GLe g g') : StoreOk imm mu g :=
  { S with
    lists := fun a i k => S.lists a i (h.lists.subset k)
    lnd := S.lnd.sublist (h.lists.map _)
    cells := fun a i k => S.cells a i (h.cells.subset k)
    cnd := S.cnd.sublist (h.cells.map _)
    nss := fun a i k => S.nss a i (h.nss.subset k)
    nnd := S.nnd.sublist (h.nss.map _)
    raws := fun a i k => S.raws a i (h.raws.subset k)
    rnd := S.rnd.sublist (h.raws.map _) }

structure RelW {w : Wd} {fs : FS} (c : Cx w fs) (loc : Loc) (g : GS) (ts : List (MVal × PV)) (rs : Led) (s : Shared) (m : MStr → Option MVal) (imm mu : Led) : Prop where
  fr : Fr c.h₀ c.L s.heap m
  nw : News c.h₀ c.L s.heap (imm ++ (mu ++ rs))
  nd : ((imm ++ (mu ++ rs)).map (·.1)).Nodup
  loc : LocOk imm loc m
  st : StoreOk imm mu g
  temps : ∀ p ∈ ts, VRel imm p.1 p.2
  tk : 0 < s.toks
  gens : s.gens = g.gens
  dr : s.drawn = c.dr
  os : s.os = c.os

noncomputable def Rel {w : Wd} {fs : FS} (c : Cx w fs) (loc : Loc) (g : GS) (ts : List (MVal × PV)) (rs : Led) (s : Shared) : Prop := ∃ m imm mu, RelW c loc g ts rs s m imm mu

theorem Rel.weaken {w : Wd} {fs : FS} {c : Cx w fs} {loc : Loc} {g : GS} {ts ts' : List (MVal × PV)} {rs : Led} {s : Shared} (h : Rel c loc g ts rs s) (hs : ∀ p ∈ ts', p ∈ ts) : Rel c loc g ts' rs s :=
  let ⟨m, i, u, R⟩ := h
  ⟨m, i, u, { R with temps := fun p hp => R.temps p (hs p hp) }⟩
theorem Rel.drop {w : Wd} {fs : FS} {c : Cx w fs} {loc : Loc} {g g' : GS} {ts : List (MVal × PV)} {rs : Led} {s : Shared} (R : Rel c loc g' ts rs s) (h : GLe g g') : Rel c loc g ts rs s :=
  let ⟨m, i, u, R⟩ := R
  ⟨m, i, u, { R with st := R.st.drop h, gens := R.gens.trans h.gens.symm }⟩
end Mine
set_option maxHeartbeats 8000000
namespace Mine
noncomputable abbrev M0 (w : Wd) : Model := model PG w.w
variable {w : Wd} {fs : FS} {c : Cx w fs} {env : Env} {loc : Loc} {g : GS}

theorem cx_depth (c : Cx w fs) : c.A.depth = c.dp := rfl
theorem cx_hand (c : Cx w fs) : c.A.handled = none := rfl
theorem cx_units (c : Cx w fs) : c.A.units = c.un := rfl

section pack
variable {ts : List (MVal × PV)} {rs : Led} {s : Shared} {m m' : MStr → Option MVal} {imm mu : Led} {h' : Heap} {tk : Nat} {v : MVal} {pv : PV} {x : MStr}
theorem RelW.moved (R : RelW c loc g ts rs s m imm mu) (F : Fr c.h₀ c.L h' m) (N : News c.h₀ c.L h' (imm ++ (mu ++ rs))) (htk : 0 < tk) : RelW c loc g ts rs { s with heap := h', toks := tk } m imm mu :=
  { R with fr := F, nw := N, tk := htk, gens := R.gens, dr := R.dr, os := R.os }
theorem RelW.ticked (R : RelW c loc g ts rs s m imm mu) (htk : 0 < tk := by first | exact Nat.succ_pos _ | assumption) : RelW c loc g ts rs { s with toks := tk } m imm mu :=
  { R with tk := htk, gens := R.gens, dr := R.dr, os := R.os }
theorem RelW.temp (R : RelW c loc g ts rs s m imm mu) (h : VRel imm v pv) : RelW c loc g ((v, pv) :: ts) rs s m imm mu :=
  { R with temps := List.forall_mem_cons.mpr ⟨h, R.temps⟩ }
theorem Rel.ticked (R : Rel c loc g ts rs s) (htk : 0 < tk := by first | exact Nat.succ_pos _ | assumption) : Rel c loc g ts rs { s with toks := tk } :=
  let ⟨m, i, u, R⟩ := R
  ⟨m, i, u, R.ticked htk⟩
theorem Rel.tkp (R : Rel c loc g ts rs s) : 0 < s.toks := let ⟨_, _, _, R⟩ := R; R.tk
theorem Rel.prim (R : Rel c loc g ts rs s) (h : ∀ imm, VRel imm v pv) : Rel c loc g ((v, pv) :: ts) rs s :=
  let ⟨m, i, u, R⟩ := R
  ⟨m, i, u, R.temp (h i)⟩
theorem LocOk.set (h : LocOk imm loc m) (hv : VRel imm v pv) : LocOk imm ((x, pv) :: loc) (fun y => if y = x then some v else m y) := by
  intro y q hq
  by_cases e : y = x
  · subst e
    rw [List.lookup_cons] at hq
    simp at hq
    subst hq
    exact ⟨v, by simp, hv⟩
  · rw [List.lookup_cons] at hq
    have : (y == x) = false := by simpa using e
    rw [this] at hq
    obtain ⟨u, hu, hr⟩ := h y q hq
    exact ⟨u, by simp only [e, if_false]; exact hu, hr⟩
theorem RelW.setLocal (R : RelW c loc g ts rs s m imm mu) (hv : VRel imm v pv) (F : Fr c.h₀ c.L h' (fun y => if y = x then some v else m y)) (N : News c.h₀ c.L h' (imm ++ (mu ++ rs))) (htk : 0 < tk) :
    RelW c ((x, pv) :: loc) g ts rs { s with heap := h', toks := tk } (fun y => if y = x then some v else m y) imm mu :=
  { R with fr := F, nw := N, loc := R.loc.set hv, tk := htk, gens := R.gens, dr := R.dr, os := R.os }
theorem RelW.pushI (R : RelW c loc g ts rs s m imm mu) {a : Addr} {o : Obj} (F : Fr c.h₀ c.L h' m) (N : News c.h₀ c.L h' ((a, o) :: (imm ++ (mu ++ rs)))) (lt : ∀ p ∈ imm ++ (mu ++ rs), p.1 < a) (htk : 0 < tk) :
    RelW c loc g ts rs { s with heap := h', toks := tk } m ((a, o) :: imm) mu :=
  have hs : ∀ p ∈ imm, p ∈ (a, o) :: imm := fun p hp => .tail _ hp
  { R with
    fr := F, nw := N
    nd := by
      show ((a, o) :: (imm ++ (mu ++ rs)) |>.map (·.1)).Nodup
      rw [List.map_cons, List.nodup_cons]
      refine ⟨fun hm => ?_, R.nd⟩
      obtain ⟨p, hp, e⟩ := List.mem_map.mp hm
      exact Nat.lt_irrefl _ (e ▸ lt p hp)
    loc := R.loc.mono hs
    st := R.st.mono hs
    temps := fun p hp => (R.temps p hp).mono hs
    tk := htk, gens := R.gens, dr := R.dr, os := R.os }
theorem nodup_mid {a : Addr} {o : Obj} {l k : Led} (hn : ((l ++ k).map (·.1)).Nodup) (lt : ∀ p ∈ l ++ k, p.1 < a) : ((l ++ ((a, o) :: k)).map (·.1)).Nodup := by
  have hp : List.Perm ((l ++ ((a, o) :: k)).map (·.1)) (((a, o) :: (l ++ k)).map (·.1)) := List.perm_middle.map _
  rw [hp.nodup_iff, List.map_cons, List.nodup_cons]
  refine ⟨fun hm => ?_, hn⟩
  obtain ⟨p, hp, e⟩ := List.mem_map.mp hm
  exact Nat.lt_irrefl _ (e ▸ lt p hp)
theorem news_mid {h₀ h : Heap} {L a : Addr} {o : Obj} {l k : Led} (N : News h₀ L h ((a, o) :: (l ++ k))) : News h₀ L h (l ++ ((a, o) :: k)) := fun p hp => N p (by
  rcases List.mem_append.mp hp with h | h
  · exact .tail _ (List.mem_append.mpr (.inl h))
  · rcases List.mem_cons.mp h with rfl | h
    · exact .head _
    · exact .tail _ (List.mem_append.mpr (.inr h)))
theorem RelW.pushM (R : RelW c loc g ts rs s m imm mu) {a : Addr} {o : Obj} {g' : GS} (hg : g'.gens = g.gens) (F : Fr c.h₀ c.L h' m) (N : News c.h₀ c.L h' ((a, o) :: (imm ++ (mu ++ rs)))) (lt : ∀ p ∈ imm ++ (mu ++ rs), p.1 < a) (htk : 0 < tk)
    (S : StoreOk imm ((a, o) :: mu) g → (∀ b, (∃ o', (b, o') ∈ mu) → b ≠ a) → StoreOk imm ((a, o) :: mu) g') : RelW c loc g' ts rs { s with heap := h', toks := tk } m imm ((a, o) :: mu) :=
  { R with
    fr := F
    nw := news_mid N
    nd := nodup_mid R.nd lt
    st := S (R.st.more fun p hp => .tail _ hp) fun b ⟨o', hb⟩ e => Nat.lt_irrefl _ (e ▸ lt _ (List.mem_append_right imm (List.mem_append_left rs hb)))
    tk := htk, gens := R.gens.trans hg.symm, dr := R.dr, os := R.os }
theorem StoreOk.lofs (S : StoreOk imm mu g) {a : Addr} (h : ∀ b, (∃ o', (b, o') ∈ mu) → b ≠ a) : (∀ p ∈ g.lists, p.1 ≠ a) ∧ (∀ p ∈ g.cells, p.1 ≠ a) ∧ (∀ p ∈ g.nss, p.1 ≠ a) ∧ (∀ p ∈ g.raws, p.1 ≠ a) :=
  ⟨fun p hp => let ⟨vs, n, h1, _⟩ := S.lists p.1 p.2 hp; h _ ⟨_, h1⟩, fun p hp => let ⟨vs, n, h1, _⟩ := S.cells p.1 p.2 hp; h _ ⟨_, h1⟩,
    fun p hp => let ⟨vs, n, h1, _⟩ := S.nss p.1 p.2 hp; h _ ⟨_, h1⟩, fun p hp => h _ ⟨_, (S.raws p.1 p.2 hp).1⟩⟩
theorem RelW.pushL (R : RelW c loc g ts rs s m imm mu) {a : Addr} {vs : List MVal} {n : Nat} {ds : List PV} (hv : VAll imm vs ds) (F : Fr c.h₀ c.L h' m) (N : News c.h₀ c.L h' ((a, listOf vs.toArray n) :: (imm ++ (mu ++ rs)))) (lt : ∀ p ∈ imm ++ (mu ++ rs), p.1 < a) (htk : 0 < tk) :
    RelW c loc { g with lists := (a, ds) :: g.lists } ts rs { s with heap := h', toks := tk } m imm ((a, listOf vs.toArray n) :: mu) :=
  R.pushM rfl F N lt htk fun S h => S.addList ⟨vs, n, .head _, hv⟩ (R.st.lofs h).1
theorem RelW.pushN (R : RelW c loc g ts rs s m imm mu) {a : Addr} {o : Obj} {l : Loc} {m' : MStr → Option MVal} (ho : LCg.NsObj o m') (hv : LocOk imm l m') (F : Fr c.h₀ c.L h' m) (N : News c.h₀ c.L h' ((a, o) :: (imm ++ (mu ++ rs)))) (lt : ∀ p ∈ imm ++ (mu ++ rs), p.1 < a) (htk : 0 < tk) :
    RelW c loc { g with nss := (a, l) :: g.nss } ts rs { s with heap := h', toks := tk } m imm ((a, o) :: mu) :=
  R.pushM rfl F N lt htk fun S h => S.addNs ⟨o, m', .head _, ho, hv⟩ (R.st.lofs h).2.2.1
theorem RelW.pushR (R : RelW c loc g ts rs s m imm mu) {a : Addr} {o : Obj} (ho : rawOk a o = true) (F : Fr c.h₀ c.L h' m) (N : News c.h₀ c.L h' ((a, o) :: (imm ++ (mu ++ rs)))) (lt : ∀ p ∈ imm ++ (mu ++ rs), p.1 < a) (htk : 0 < tk) :
    RelW c loc { g with raws := (a, o) :: g.raws } ts rs { s with heap := h', toks := tk } m imm ((a, o) :: mu) :=
  R.pushM rfl F N lt htk fun S h => S.addRaw (.head _) ho (R.st.lofs h).2.2.2
end pack

inductive LUpd {β : Type} (a : Addr) (x y : β) : List (Addr × β) → List (Addr × β) → Prop
  | head {r} : LUpd a x y ((a, x) :: r) ((a, y) :: r)
  | tail {p r r'} : LUpd a x y r r' → LUpd a x y (p :: r) (p :: r')
theorem LUpd.mem {β : Type} {a : Addr} {x y : β} : ∀ {l l'}, LUpd a x y l l' → (a, x) ∈ l
  | _, _, .head => .head _
  | _, _, .tail h => .tail _ h.mem
theorem LUpd.fst {β : Type} {a : Addr} {x y : β} : ∀ {l l'}, LUpd a x y l l' → l'.map (·.1) = l.map (·.1)
  | _, _, .head => rfl
  | _, _, .tail h => by rw [List.map_cons, List.map_cons, h.fst]
theorem LUpd.inv {β : Type} {a : Addr} {x y : β} : ∀ {l l'}, LUpd a x y l l' → (l.map (·.1)).Nodup → ∀ {b z}, (b, z) ∈ l' → (b = a ∧ z = y) ∨ (b ≠ a ∧ (b, z) ∈ l)
  | _, _, .head, hn, b, z, hm => by
    rw [List.map_cons, List.nodup_cons] at hn
    rcases List.mem_cons.mp hm with e | hm
    · cases e; exact .inl ⟨rfl, rfl⟩
    · exact .inr ⟨fun e => hn.1 (e ▸ List.mem_map_of_mem (f := (·.1)) hm), .tail _ hm⟩
  | _, _, .tail h, hn, b, z, hm => by
    rw [List.map_cons, List.nodup_cons] at hn
    rcases List.mem_cons.mp hm with e | hm
    · exact .inr ⟨fun q => hn.1 (by rw [← e]; show b ∈ _; rw [q]; exact List.mem_map_of_mem (f := (·.1)) h.mem), e ▸ .head _⟩
    · rcases h.inv hn.2 hm with e | ⟨e, k⟩
      · exact .inl e
      · exact .inr ⟨e, .tail _ k⟩

section sets
variable {imm mu : Led} {D a : Addr} {o o' : Obj}
theorem ListAt.set {items : List PV} (h : ListAt imm mu a items) (hn : (mu.map (·.1)).Nodup) (hm : (D, o) ∈ mu) (hk : ∀ its k, o.data ≠ .seq its k) : ListAt imm (setL D o' mu) a items := by
  obtain ⟨vs, n, h1, h2⟩ := h
  refine ⟨vs, n, mem_setL h1 ?_, h2⟩
  rintro rfl
  have := nodup_mem_eq hn h1 hm
  subst this
  exact hk _ _ rfl
theorem CellAt.set {p : Option PV} (h : CellAt imm mu a p) (hn : (mu.map (·.1)).Nodup) (hm : (D, o) ∈ mu) (hk : ∀ ov, o.data ≠ .cell ov) : CellAt imm (setL D o' mu) a p := by
  obtain ⟨ob, ov, h1, h2, h3⟩ := h
  refine ⟨ob, ov, mem_setL h1 ?_, h2, h3⟩
  rintro rfl
  have := nodup_mem_eq hn h1 hm
  subst this
  exact hk _ h2
theorem NsAt.set {l : Loc} (h : NsAt imm mu a l) (hn : (mu.map (·.1)).Nodup) (hm : (D, o) ∈ mu) (hk : ∀ es ep, o.data ≠ .dict es ep) : NsAt imm (setL D o' mu) a l := by
  obtain ⟨ob, m, h1, h2, h3⟩ := h
  refine ⟨ob, m, mem_setL h1 ?_, h2, h3⟩
  rintro rfl
  have := nodup_mem_eq hn h1 hm
  subst this
  obtain ⟨es, ep, e, _⟩ := h2
  exact hk _ _ e
theorem TabAt.set {q : MStr} (h : TabAt imm mu a q) (hne : a ≠ D) : TabAt imm (setL D o' mu) a q := let ⟨ps, h1, h2⟩ := h; ⟨ps, mem_setL h1 hne, h2⟩
theorem TabAt.ne {q : MStr} (h : TabAt imm mu a q) (hn : (mu.map (·.1)).Nodup) (hm : (D, o) ∈ mu) (hk : ∀ ps, o.data ≠ .fields ps) : a ≠ D := by
  obtain ⟨ps, h1, _⟩ := h
  rintro rfl
  have := nodup_mem_eq hn h1 hm
  subst this
  exact hk _ rfl
theorem raw_set {g : GS} (S : StoreOk imm mu g) (hn : (mu.map (·.1)).Nodup) (hm : (D, o) ∈ mu) (hk : rawOk D o = false) {b : Addr} {ob : Obj} (h : (b, ob) ∈ g.raws) : (b, ob) ∈ setL D o' mu ∧ rawOk b ob = true := by
  obtain ⟨h1, h2⟩ := S.raws b ob h
  refine ⟨mem_setL h1 ?_, h2⟩
  rintro rfl
  have := nodup_mem_eq hn h1 hm
  subst this
  rw [h2] at hk; cases hk
theorem StoreOk.setList {g : GS} {x y : List PV} {ls' : List (Addr × List PV)} {vs : List MVal} {n k : Nat} {its : Array MVal} (S : StoreOk imm mu g) (hn : (mu.map (·.1)).Nodup) (hm : (D, listOf its k) ∈ mu) (hU : LUpd D x y g.lists ls') (hv : VAll imm vs y) :
    StoreOk imm (setL D (listOf vs.toArray n) mu) { g with lists := ls' } :=
  { S with
    lists := fun b items hb => by
      rcases hU.inv S.lnd hb with ⟨rfl, rfl⟩ | ⟨hne, hb⟩
      · exact ⟨vs, n, mem_setL_self hm, hv⟩
      · obtain ⟨ws, k, h1, h2⟩ := S.lists b items hb
        exact ⟨ws, k, mem_setL h1 hne, h2⟩
    lnd := by show (ls'.map (·.1)).Nodup; rw [hU.fst]; exact S.lnd
    cells := fun b q hb => (S.cells b q hb).set hn hm nofun
    nss := fun b q hb => (S.nss b q hb).set hn hm nofun
    raws := fun b q hb => raw_set S hn hm (by simp [rawOk]) hb
    tabs := fun b q hb => (S.tabs b q hb).set ((S.tabs b q hb).ne hn hm nofun) }
theorem StoreOk.setCell {g : GS} {x y : Option PV} {cs' : List (Addr × Option PV)} {ov ov' : Option MVal} (S : StoreOk imm mu g) (hn : (mu.map (·.1)).Nodup) (hm : (D, o) ∈ mu) (ho : o.data = .cell ov) (ho' : o'.data = .cell ov') (hU : LUpd D x y g.cells cs')
    (hv : CellV imm y ov') :
    StoreOk imm (setL D o' mu) { g with cells := cs' } :=
  { S with
    cells := fun b p hb => by
      rcases hU.inv S.cnd hb with ⟨rfl, rfl⟩ | ⟨hne, hb⟩
      · exact ⟨o', ov', mem_setL_self hm, ho', hv⟩
      · obtain ⟨ws, k, h1, h2⟩ := S.cells b p hb
        exact ⟨ws, k, mem_setL h1 hne, h2⟩
    cnd := by show (cs'.map (·.1)).Nodup; rw [hU.fst]; exact S.cnd
    lists := fun b q hb => (S.lists b q hb).set hn hm (by rw [ho]; nofun)
    nss := fun b q hb => (S.nss b q hb).set hn hm (by rw [ho]; nofun)
    raws := fun b q hb => raw_set S hn hm (by simp [rawOk, ho]) hb
    tabs := fun b q hb => (S.tabs b q hb).set ((S.tabs b q hb).ne hn hm (by rw [ho]; nofun)) }
theorem StoreOk.setNs {g : GS} {x y : Loc} {ns' : List (Addr × Loc)} {m m' : MStr → Option MVal} (S : StoreOk imm mu g) (hn : (mu.map (·.1)).Nodup) (hm : (D, o) ∈ mu) (ho : LCg.NsObj o m) (ho' : LCg.NsObj o' m') (hU : LUpd D x y g.nss ns')
    (hv : LocOk imm y m') : StoreOk imm (setL D o' mu) { g with nss := ns' } :=
  have ⟨es, ep, e, _⟩ := ho
  { S with
    nss := fun b p hb => by
      rcases hU.inv S.nnd hb with ⟨rfl, rfl⟩ | ⟨hne, hb⟩
      · exact ⟨o', m', mem_setL_self hm, ho', hv⟩
      · obtain ⟨ws, k, h1, h2⟩ := S.nss b p hb
        exact ⟨ws, k, mem_setL h1 hne, h2⟩
    nnd := by show (ns'.map (·.1)).Nodup; rw [hU.fst]; exact S.nnd
    lists := fun b q hb => (S.lists b q hb).set hn hm (by rw [e]; nofun)
    cells := fun b q hb => (S.cells b q hb).set hn hm (by rw [e]; nofun)
    raws := fun b q hb => raw_set S hn hm (by simp [rawOk, e]) hb
    tabs := fun b q hb => (S.tabs b q hb).set ((S.tabs b q hb).ne hn hm (by rw [e]; nofun)) }
theorem rawOk_kind {a : Addr} {o : Obj} (h : rawOk a o = true) : (∀ its k, o.data ≠ .seq its k) ∧ (∀ ov, o.data ≠ .cell ov) ∧ (∀ es ep, o.data ≠ .dict es ep) ∧ (∀ p ∈ tabList, p.1 ≠ a) := by
  rw [rawOk, Bool.and_eq_true] at h
  refine ⟨fun its k e => ?_, fun ov e => ?_, fun es ep e => ?_, fun p hp => ?_⟩
  · rw [e] at h; cases h.2
  · rw [e] at h; cases h.2
  · rw [e] at h; cases h.2
  · exact of_decide_eq_true (by simpa using List.all_eq_true.mp h.1 p hp)
theorem StoreOk.setRaw {g : GS} {rw' : List (Addr × Obj)} (S : StoreOk imm mu g) (hn : (mu.map (·.1)).Nodup) (ho' : rawOk D o' = true) (hU : LUpd D o o' g.raws rw') : StoreOk imm (setL D o' mu) { g with raws := rw' } :=
  have ⟨hm, ho⟩ := S.raws D o hU.mem
  have ⟨k1, k2, k3, k4⟩ := rawOk_kind ho
  { S with
    raws := fun b p hb => by
      rcases hU.inv S.rnd hb with ⟨rfl, rfl⟩ | ⟨hne, hb⟩
      · exact ⟨mem_setL_self hm, ho'⟩
      · exact ⟨mem_setL (S.raws b p hb).1 hne, (S.raws b p hb).2⟩
    rnd := by show (rw'.map (·.1)).Nodup; rw [hU.fst]; exact S.rnd
    lists := fun b q hb => (S.lists b q hb).set hn hm k1
    cells := fun b q hb => (S.cells b q hb).set hn hm k2
    nss := fun b q hb => (S.nss b q hb).set hn hm k3
    tabs := fun b q hb => (S.tabs b q hb).set (k4 _ hb) }
theorem StoreOk.setTab {g : GS} {q : MStr} {ps ps' : Array MVal} (S : StoreOk imm mu g) (hn : (mu.map (·.1)).Nodup) (hm : (D, tabObj ps) ∈ mu) (hq : (D, q) ∈ tabList) (h : TabOk imm q ps') : StoreOk imm (setL D (tabObj ps') mu) g :=
  { S with
    lists := fun b q hb => (S.lists b q hb).set hn hm nofun
    cells := fun b q hb => (S.cells b q hb).set hn hm nofun
    nss := fun b q hb => (S.nss b q hb).set hn hm nofun
    raws := fun b o hb => by
      refine ⟨mem_setL (S.raws b o hb).1 ?_, (S.raws b o hb).2⟩
      rintro rfl
      exact (rawOk_kind (S.raws b o hb).2).2.2.2 _ hq rfl
    tabs := fun b r hb => by
      by_cases e : b = D
      · subst e
        have : r = q := by
          rcases List.mem_cons.mp hb with e1 | hb <;> rcases List.mem_cons.mp hq with e2 | hq
          · cases e1; cases e2; rfl
          · cases e1; have := List.mem_singleton.mp hq; cases this
          · cases e2; have := List.mem_singleton.mp hb; cases this
          · have e1 := List.mem_singleton.mp hb; have e2 := List.mem_singleton.mp hq; cases e1; cases e2; rfl
        subst this
        exact ⟨ps', mem_setL_self hm, h⟩
      · exact (S.tabs b r hb).set e }
end sets

section pack
variable {ts : List (MVal × PV)} {rs : Led} {s : Shared} {m m' : MStr → Option MVal} {imm mu : Led} {h' : Heap} {tk : Nat} {v : MVal} {pv : PV} {x : MStr}
theorem RelW.off_imm (R : RelW c loc g ts rs s m imm mu) {D : Addr} {o : Obj} (h : (D, o) ∈ mu) : ∀ p ∈ imm, p.1 ≠ D := fun p hp e => by
  have := R.nd
  rw [List.map_append, List.nodup_append] at this
  exact this.2.2 p.1 (List.mem_map_of_mem hp) D (List.mem_map_of_mem (f := (·.1)) (List.mem_append_left rs h)) e
theorem RelW.off_rs (R : RelW c loc g ts rs s m imm mu) {D : Addr} {o : Obj} (h : (D, o) ∈ mu) : ∀ p ∈ rs, p.1 ≠ D := fun p hp e => by
  have := R.nd
  rw [List.map_append, List.nodup_append, List.map_append, List.nodup_append] at this
  exact this.2.1.2.2 D (List.mem_map_of_mem (f := (·.1)) h) p.1 (List.mem_map_of_mem hp) e.symm
theorem RelW.all_set (R : RelW c loc g ts rs s m imm mu) {D : Addr} {o o' : Obj} (h : (D, o) ∈ mu) : setL D o' (imm ++ (mu ++ rs)) = imm ++ (setL D o' mu ++ rs) := by
  rw [setL_app, setL_app, setL_off (R.off_imm h), setL_off (R.off_rs h)]
theorem RelW.upd (R : RelW c loc g ts rs s m imm mu) {D : Addr} {o o' : Obj} (h : (D, o) ∈ mu) : Upd D o o' (imm ++ (mu ++ rs)) (imm ++ (setL D o' mu ++ rs)) :=
  R.all_set h ▸ upd_setL R.nd (List.mem_append_right imm (List.mem_append_left rs h))
theorem RelW.munod (R : RelW c loc g ts rs s m imm mu) : (mu.map (·.1)).Nodup := by
  have := R.nd
  rw [List.map_append, List.nodup_append, List.map_append, List.nodup_append] at this
  exact this.2.1.1
theorem RelW.setM (R : RelW c loc g ts rs s m imm mu) {D : Addr} {o o' : Obj} {g' : GS} (hm : (D, o) ∈ mu) (hg : g'.gens = g.gens) (S : StoreOk imm (setL D o' mu) g') (F : Fr c.h₀ c.L h' m)
    (N : News c.h₀ c.L h' (imm ++ (setL D o' mu ++ rs))) (htk : 0 < tk) : RelW c loc g' ts rs { s with heap := h', toks := tk } m imm (setL D o' mu) :=
  { R with
    fr := F
    nw := N
    nd := by
      rw [← R.all_set hm, setL_fst]; exact R.nd
    st := S
    tk := htk, gens := R.gens.trans hg.symm, dr := R.dr, os := R.os }
theorem RelW.setList (R : RelW c loc g ts rs s m imm mu) {D : Addr} {o : Obj} {vs : List MVal} {n : Nat} {x y : List PV} {ls' : List (Addr × List PV)} (hm : (D, o) ∈ mu) (ho : ∃ its k, o = listOf its k) (hU : LUpd D x y g.lists ls') (hv : VAll imm vs y) (F : Fr c.h₀ c.L h' m)
    (N : News c.h₀ c.L h' (imm ++ (setL D (listOf vs.toArray n) mu ++ rs))) (htk : 0 < tk) :
    RelW c loc { g with lists := ls' } ts rs { s with heap := h', toks := tk } m imm (setL D (listOf vs.toArray n) mu) := by
  obtain ⟨its, k, rfl⟩ := ho
  exact R.setM hm rfl (R.st.setList R.munod hm hU hv) F N htk
end pack
end Mine
set_option maxHeartbeats 8000000
namespace Mine
variable {w : Wd} {fs : FS} {c : Cx w fs} {env : Env} {loc : Loc} {g : GS}

noncomputable def TreeV (c : Cx w fs) (t : Sem MVal) (loc : Loc) (g : GS) (ts : List (MVal × PV)) (rs : Led) (Φ : PV → GS → Prop) : Prop :=
  ∀ s (Q : MVal → Shared → Prop) (E : MVal → Shared → Prop), Rel c loc g ts rs s → (∀ v pv g' s', Rel c loc g' ((v, pv) :: ts) rs s' → Φ pv g' → Q v s') → wpAny (M0 w) c.A t Q E s
noncomputable def EvalV (c : Cx w fs) (env : Env) (e : PySem.Expr) (loc : Loc) (g : GS) (Φ : PV → GS → Prop) : Prop := ∀ ts rs, TreeV c (eval e env) loc g ts rs Φ
noncomputable def ArgsV (c : Cx w fs) (env : Env) (pos : Pos) (es : List PySem.Expr) (loc : Loc) (g : GS) (Φ : List PV → GS → Prop) : Prop :=
  ∀ ts rs s (Q : List MVal → Shared → Prop) (E : MVal → Shared → Prop), Rel c loc g ts rs s → (∀ vs ps g' s', vs.length = ps.length → Rel c loc g' (vs.zip ps ++ ts) rs s' → Φ ps g' → Q vs s') → wpAny (M0 w) c.A (spliced (backTo pos (starEach es env))) Q E s
noncomputable def TestV (c : Cx w fs) (env : Env) (e : PySem.Expr) (loc : Loc) (g : GS) (Φ : Bool → GS → Prop) : Prop :=
  ∀ ts rs s (Q : Bool → Shared → Prop) (E : MVal → Shared → Prop), Rel c loc g ts rs s → (∀ b g' s', Rel c loc g' ts rs s' → Φ b g' → Q b s') → wpAny (M0 w) c.A (isTrue e env (eval e env)) Q E s

inductive FV where
  | next | brk | cont
  | ret (p : PV)
inductive FlowIs : Flow → FV → List (MVal × PV) → Prop
  | next : FlowIs .next .next []
  | brk : FlowIs .brk .brk []
  | cont : FlowIs .cont .cont []
  | ret (v : MVal) (p : PV) : FlowIs (.ret v) (.ret p) [(v, p)]
noncomputable def ExecV (c : Cx w fs) (b : List Stmt) (loc : Loc) (g : GS) (Ψ : FV → Loc → GS → Prop) : Prop :=
  ∀ ts rs s (Q : Flow → Shared → Prop) (E : MVal → Shared → Prop), Rel c loc g ts rs s → (∀ f fv us loc' g' s', FlowIs f fv us → Rel c loc' g' (us ++ ts) rs s' → Ψ fv loc' g' → Q f s') → wpAny (M0 w) c.A (execs b c.env) Q E s
noncomputable def StmtV (c : Cx w fs) (b : Stmt) (loc : Loc) (g : GS) (Ψ : FV → Loc → GS → Prop) : Prop :=
  ∀ ts rs s (Q : Flow → Shared → Prop) (E : MVal → Shared → Prop), Rel c loc g ts rs s → (∀ f fv us loc' g' s', FlowIs f fv us → Rel c loc' g' (us ++ ts) rs s' → Ψ fv loc' g' → Q f s') → wpAny (M0 w) c.A (exec b c.env) Q E s

noncomputable def CallR (w : Wd) (d : Nat) (f : PV) (pos : List PV) (kw : List (MStr × PV)) (g : GS) (Φ : PV → GS → Prop) : Prop :=
  ∀ (fs : FS) (c : Cx w fs) loc ts rs s (Q : MVal → Shared → Prop) (E : MVal → Shared → Prop) fv vs ks, c.dp ≤ d → c.un ≤ 10 * d → Rel c loc g ts rs s → (fv, f) ∈ ts → vs.length = pos.length → (∀ p ∈ vs.zip pos, p ∈ ts) →
    ks.length = kw.length → (∀ p ∈ ks.zip (kw.map (·.2)), p ∈ ts) → (∀ v pv g' s', Rel c loc g' ((v, pv) :: ts) rs s' → Φ pv g' → Q v s') → wpAny (M0 w) c.A (call fv vs ((kw.map (·.1)).zip ks)) Q E s

noncomputable def BinR (w : Wd) (op : Operator) (a b : PV) (g : GS) (Φ : PV → GS → Prop) : Prop :=
  ∀ (fs : FS) (c : Cx w fs) loc ts rs s (Q : MVal → Shared → Prop) (E : MVal → Shared → Prop) va vb, Rel c loc g ts rs s → (va, a) ∈ ts → (vb, b) ∈ ts → (∀ v pv g' s', Rel c loc g' ((v, pv) :: ts) rs s' → Φ pv g' → Q v s') → wpAny (M0 w) c.A (binaryOp op va vb) Q E s
noncomputable def CmpR (w : Wd) (d : Nat) (op : CmpOp) (a b : PV) (g : GS) (Φ : PV → GS → Prop) : Prop :=
  ∀ (fs : FS) (c : Cx w fs) loc ts rs s (Q : MVal → Shared → Prop) (E : MVal → Shared → Prop) va vb, c.dp ≤ d → c.un ≤ 10 * d → Rel c loc g ts rs s → (va, a) ∈ ts → (vb, b) ∈ ts → (∀ v pv g' s', Rel c loc g' ((v, pv) :: ts) rs s' → Φ pv g' → Q v s') → wpAny (M0 w) c.A (compareOp op va vb) Q E s
noncomputable def TruthR (w : Wd) (a : PV) (g : GS) (Φ : Bool → GS → Prop) : Prop :=
  ∀ (fs : FS) (c : Cx w fs) loc ts rs s (Q : Bool → Shared → Prop) (E : MVal → Shared → Prop) va, Rel c loc g ts rs s → (va, a) ∈ ts → (∀ b g' s', Rel c loc g' ts rs s' → Φ b g' → Q b s') → wpAny (M0 w) c.A (truthy va) Q E s

theorem tl1 {a : MVal × PV} {ts : List (MVal × PV)} : ∀ p ∈ ts, p ∈ a :: ts := fun _ h => .tail _ h
theorem dr1 {a b : MVal × PV} {ts : List (MVal × PV)} : ∀ p ∈ a :: ts, p ∈ a :: b :: ts := fun _ h => (List.mem_cons.mp h).elim (fun e => e ▸ .head _) fun e => .tail _ (.tail _ e)
theorem dr2 {a b d : MVal × PV} {ts : List (MVal × PV)} : ∀ p ∈ a :: ts, p ∈ a :: b :: d :: ts := fun _ h => (List.mem_cons.mp h).elim (fun e => e ▸ .head _) fun e => .tail _ (.tail _ (.tail _ e))

theorem TreeV.mono {t : Sem MVal} {ts : List (MVal × PV)} {rs : Led} {Φ Φ' : PV → GS → Prop} (h : TreeV c t loc g ts rs Φ) (k : ∀ p g', Φ p g' → Φ' p g') : TreeV c t loc g ts rs Φ' :=
  fun s Q E R q => h s Q E R fun v pv g' s' R' f => q v pv g' s' R' (k _ _ f)
theorem EvalV.mono {e : PySem.Expr} {Φ Φ' : PV → GS → Prop} (h : EvalV c env e loc g Φ) (k : ∀ p g', Φ p g' → Φ' p g') : EvalV c env e loc g Φ' := fun ts rs => (h ts rs).mono k
section names
variable {x : MStr} {pos : Pos} {k : Nat} {pv : PV} {Φ : PV → GS → Prop}
theorem E_local (hl : loc.lookup x = some pv) (h : Φ pv g) (hk : fs.cs.names.lookup x = some .local := by rfl) (hd : (x == ("__debug__" : MStr)) = false := by decide) : EvalV c c.env (.Name x pos) loc g Φ := by
  intro ts rs s Q E R q
  obtain ⟨m, i, u, R⟩ := R
  obtain ⟨v, hv, hr⟩ := R.loc x pv hl
  exact nameX_L R.fr hv (q v pv g s ⟨m, i, u, R.temp hr⟩ h) c.kind hk hd
theorem E_global {v : MVal} (e : nsIn (KK w) mainGlobals x = some (some v)) (h : Φ (.st v) g) (hk : fs.cs.names.lookup x = some .globalImplicit := by rfl) (hd : (x == ("__debug__" : MStr)) = false := by decide) : EvalV c c.env (.Name x pos) loc g Φ := by
  intro ts rs s Q E R q
  obtain ⟨m, i, u, R⟩ := R
  exact nameX_K R.fr c.kin (topRead_of c.top) e (q v _ g s ⟨m, i, u, R.temp (.st v)⟩ h) c.kind hk hd
theorem E_builtin {v : MVal} (e : nsIn (KK w) mainGlobals x = some none) (hv : bootBuiltins x = some v) (hn : x ≠ "__name__") (h : Φ (.st v) g) (hk : fs.cs.names.lookup x = some .globalImplicit := by rfl) (hd : (x == ("__debug__" : MStr)) = false := by decide) : EvalV c c.env (.Name x pos) loc g Φ := by
  intro ts rs s Q E R q
  obtain ⟨m, i, u, R⟩ := R
  exact nameX_B R.fr c.kin (topRead_of c.top) e hv hn (q v _ g s ⟨m, i, u, R.temp (.st v)⟩ h) c.kind hk hd
theorem E_cell {a : Addr} (hc : fs.cl.lookup x = some a) (hm : (a, some pv) ∈ g.cells) (h : Φ pv g) (hk : fs.cs.names.lookup x = some .cell := by rfl) (hd : (x == ("__debug__" : MStr)) = false := by decide) : EvalV c c.env (.Name x pos) loc g Φ := by
  intro ts rs s Q E R q
  obtain ⟨m, i, u, R⟩ := R
  obtain ⟨o, ov, h1, h2, v, rfl, h3⟩ := R.st.cells a _ hm
  exact nameX_C R.nw hc (List.mem_append_right i (List.mem_append_left rs h1)) h2 (q v pv g s ⟨m, i, u, R.temp h3⟩ h) c.kind hk hd
theorem E_free {a : Addr} (hc : fs.cl.lookup x = some a) (hm : (a, some pv) ∈ g.cells) (h : Φ pv g) (hk : fs.cs.names.lookup x = some .free := by rfl) (hd : (x == ("__debug__" : MStr)) = false := by decide) (hn : (x == ("__classdict__" : MStr)) = false := by decide) : EvalV c c.env (.Name x pos) loc g Φ := by
  intro ts rs s Q E R q
  obtain ⟨m, i, u, R⟩ := R
  obtain ⟨o, ov, h1, h2, v, rfl, h3⟩ := R.st.cells a _ hm
  exact nameX_F R.nw hc (List.mem_append_right i (List.mem_append_left rs h1)) h2 (q v pv g s ⟨m, i, u, R.temp h3⟩ h) c.kind hk hd hn
theorem E_int {n : Int} (h : Φ (.int n) g) : EvalV c env (.Constant (.int n) k pos) loc g Φ := fun _ _ s _ _ R q => wpAny_Constant_int (q _ _ g _ (R.ticked.prim fun _ => .int n s.toks) h)
theorem E_str {y : MStr} (h : Φ (.str y) g) : EvalV c env (.Constant (.str y) k pos) loc g Φ := by
  intro ts rs s Q E R q
  exact wpAny_mkText (q _ _ g _ (R.ticked.prim fun _ => .str y s.toks) h)
theorem E_none (h : Φ .none g) : EvalV c env (.Constant .none k pos) loc g Φ := fun _ _ s _ _ R q => wpAny_pure (q _ _ g _ (R.prim fun _ => .none) h)
theorem E_bool {b : Bool} (h : Φ (.bool b) g) : EvalV c env (.Constant (.bool b) k pos) loc g Φ := fun _ _ s _ _ R q => wpAny_pure (q _ _ g _ (R.prim fun _ => .bool b) h)
end names

section ops
variable {l r : PySem.Expr} {pos : Pos} {Φ : PV → GS → Prop} {op : Operator} {cop : CmpOp}
noncomputable abbrev kB2 (w : Wd) (op : Operator) (a : PV) (Φ : PV → GS → Prop) : PV → GS → Prop := fun b g2 => BinR w op a b g2 Φ
noncomputable abbrev kB1 (c : Cx w fs) (env : Env) (op : Operator) (r : PySem.Expr) (loc : Loc) (Φ : PV → GS → Prop) : PV → GS → Prop := fun a g1 => EvalV c env r loc g1 (kB2 w op a Φ)
noncomputable abbrev kC2 (w : Wd) (d : Nat) (cop : CmpOp) (a : PV) (Φ : PV → GS → Prop) : PV → GS → Prop := fun b g2 => CmpR w d cop a b g2 Φ
noncomputable abbrev kC1 (c : Cx w fs) (env : Env) (d : Nat) (cop : CmpOp) (r : PySem.Expr) (loc : Loc) (Φ : PV → GS → Prop) : PV → GS → Prop := fun a g1 => EvalV c env r loc g1 (kC2 w d cop a Φ)
noncomputable abbrev kT3 (Ψ : Bool → GS → Prop) : PV → GS → Prop := fun p g3 => ∃ b, p = .bool b ∧ Ψ b g3
theorem E_bin (h : EvalV c env l loc g (kB1 c env op r loc Φ)) : EvalV c env (.BinOp l op r pos) loc g Φ := by
  intro ts rs s Q E R q
  refine wpAny_BinOp (h ts rs s _ E R fun a pa g1 s1 R1 h1 => ?_)
  refine h1 _ rs s1 _ E R1 fun b pb g2 s2 R2 h2 => ?_
  exact h2 _ c loc _ rs s2 Q E a b R2 (.tail _ (.head _)) (.head _) fun v pv g' s' R' f => q v pv g' s' (R'.weaken dr2) f
theorem E_cmp (d : Nat) (hd : c.dp ≤ d) (hu : c.un ≤ 10 * d) (h : EvalV c env l loc g (kC1 c env d cop r loc Φ)) (hm : behindInMarks cop r = false := by with_unfolding_all rfl) : EvalV c env (.Compare l [cop] [r] pos) loc g Φ := by
  intro ts rs s Q E R q
  refine wpAny_Compare1 (h ts rs s _ E R fun a pa g1 s1 R1 h1 => ?_) hm
  refine h1 _ rs s1 _ E R1 fun b pb g2 s2 R2 h2 => ?_
  exact h2 _ c loc _ rs s2 Q E a b hd hu R2 (.tail _ (.head _)) (.head _) fun v pv g' s' R' f => q v pv g' s' (R'.weaken dr2) f
theorem T_cmp (d : Nat) {Ψ : Bool → GS → Prop} (hd : c.dp ≤ d) (hu : c.un ≤ 10 * d) (h : EvalV c env l loc g (kC1 c env d cop r loc (kT3 Ψ))) (hm : behindInMarks cop r = false := by with_unfolding_all rfl) : TestV c env (.Compare l [cop] [r] pos) loc g Ψ := by
  intro ts rs s Q E R q
  refine wpAny_isTrue_Compare1 (h ts rs s _ E R fun a pa g1 s1 R1 h1 => ?_) hm
  refine h1 _ rs s1 _ E R1 fun b pb g2 s2 R2 h2 => ?_
  refine h2 _ c loc _ rs s2 _ E a b hd hu R2 (.tail _ (.head _)) (.head _) fun v pv g' s' R' f => ?_
  obtain ⟨t, rfl, f⟩ := f
  obtain ⟨m, i, u, R'⟩ := R'
  have hv := R'.temps _ (.head _)
  cases hv with
  | bool _ => exact wpAny_truthy_bool (q t g' s' (Rel.weaken ⟨m, i, u, R'⟩ fun p hp => .tail _ (.tail _ (.tail _ hp))) f)
end ops

theorem yes_ {b : Bool} {P Q : Prop} (e : b = true) (p : P) : (b = true → P) ∧ (b = false → Q) := ⟨fun _ => p, fun h => Bool.noConfusion (e.symm.trans h)⟩
theorem no_ {b : Bool} {P Q : Prop} (e : b = false) (q : Q) : (b = true → P) ∧ (b = false → Q) := ⟨fun h => Bool.noConfusion (e.symm.trans h), fun _ => q⟩

section stmts
variable {Ψ : FV → Loc → GS → Prop} {x : MStr} {pos pos' : Pos} {e : PySem.Expr} {st : Stmt} {b b' : List Stmt}
theorem X_nil (h : Ψ .next loc g) : ExecV c [] loc g Ψ := fun ts rs s Q E R q => wpAny_execs_nil (q _ _ _ _ _ _ .next R h)
noncomputable abbrev kX (c : Cx w fs) (b : List Stmt) (Ψ : FV → Loc → GS → Prop) : FV → Loc → GS → Prop := fun f l g' => match f with | .next => ExecV c b l g' Ψ | f => Ψ f l g'
noncomputable abbrev kR (Ψ : FV → Loc → GS → Prop) (loc : Loc) : PV → GS → Prop := fun p g' => Ψ (.ret p) loc g'
noncomputable abbrev kAs (Ψ : FV → Loc → GS → Prop) (x : MStr) (loc : Loc) : PV → GS → Prop := fun p g' => Ψ .next ((x, p) :: loc) g'
noncomputable abbrev kIf (c : Cx w fs) (b b' : List Stmt) (loc : Loc) (Ψ : FV → Loc → GS → Prop) : Bool → GS → Prop := fun t g' => (t = true → ExecV c b loc g' Ψ) ∧ (t = false → ExecV c b' loc g' Ψ)
noncomputable abbrev kIt (c : Cx w fs) (v : Bool) (b : List Stmt) (loc : Loc) (Ψ : FV → Loc → GS → Prop) : Bool → GS → Prop := fun t g' => t = v ∧ ExecV c b loc g' Ψ
theorem X_cons (h : StmtV c st loc g (kX c b Ψ)) : ExecV c (st :: b) loc g Ψ := by
  intro ts rs s Q E R q
  refine wpAny_execs_cons (h ts rs s _ E R fun f fv us l g' s' a R' p => ?_)
  cases a with
  | next => exact p ts rs s' Q E R' q
  | brk => exact q _ _ _ _ _ _ .brk R' p
  | cont => exact q _ _ _ _ _ _ .cont R' p
  | ret v pv => exact q _ _ _ _ _ _ (.ret v pv) R' p
theorem X_join (P : Loc → GS → Prop) (h : StmtV c st loc g fun f l g' => f = .next ∧ P l g') (k : ∀ l g', P l g' → ExecV c b l g' Ψ) : ExecV c (st :: b) loc g Ψ :=
  X_cons fun ts rs s Q E R q => h ts rs s Q E R fun f fv us l g' s' a R' p => q f fv us l g' s' a R' (by obtain ⟨rfl, p⟩ := p; exact k l g' p)
theorem S_ret (h : EvalV c c.env e loc g (kR Ψ loc)) : StmtV c (.Return (some e) pos) loc g Ψ := by
  intro ts rs s Q E R q
  exact wpAny_Return_some (h ts rs s _ E R fun v pv g' s' R' f => q _ _ _ _ _ _ (.ret v pv) R' f)
theorem S_assign (h : EvalV c c.env e loc g (kAs Ψ x loc)) (hk : fs.cs.names.lookup x = some .local := by rfl) (hs : swapsWith e (some (.Name x pos')) pos.line c.env = pure false := by rfl) : StmtV c (.Assign [.Name x pos'] e pos) loc g Ψ := by
  intro ts rs s Q E R q
  refine wpAny_Assign_Name (h ts rs s _ E R fun v pv g' s' R' f => ?_) hs
  obtain ⟨m, i, u, R'⟩ := R'
  have hv := R'.temps _ (.head _)
  refine storeX_L R'.fr R'.nw (fun h' F' N' => ?_) c.kind hk
  exact q _ _ _ _ _ _ .next (Rel.weaken ⟨_, i, u, R'.setLocal hv F' N' (Nat.succ_pos _)⟩ fun p hp => .tail _ hp) f
theorem S_if (h : TestV c c.env e loc g (kIf c b b' loc Ψ)) : StmtV c (.If e b b' pos) loc g Ψ := by
  intro ts rs s Q E R q
  refine wpAny_If (h ts rs s _ E R fun t g' s' R' f => ?_)
  cases t with
  | true => exact f.1 rfl ts rs s' Q E R' q
  | false => exact f.2 rfl ts rs s' Q E R' q
theorem S_ift (h : TestV c c.env e loc g (kIt c true b loc Ψ)) : StmtV c (.If e b b' pos) loc g Ψ :=
  S_if fun ts rs s Q E R q => h ts rs s Q E R fun t g' s' R' f => q t g' s' R' ⟨fun _ => f.2, fun e => (nomatch f.1.symm.trans e)⟩
theorem S_iff (h : TestV c c.env e loc g (kIt c false b' loc Ψ)) : StmtV c (.If e b b' pos) loc g Ψ :=
  S_if fun ts rs s Q E R q => h ts rs s Q E R fun t g' s' R' f => q t g' s' R' ⟨fun e => (nomatch f.1.symm.trans e), fun _ => f.2⟩
end stmts
end Mine
set_option maxHeartbeats 8000000
namespace Mine
variable {w : Wd} {fs : FS} {c : Cx w fs} {env : Env} {loc : Loc} {g : GS}

noncomputable abbrev kW (I : Nat → Loc → GS → Prop) (n : Nat) (Ψ : FV → Loc → GS → Prop) : FV → Loc → GS → Prop := fun f loc' g'' => match f with | .next => ∃ m, m < n ∧ I m loc' g'' | .cont => ∃ m, m < n ∧ I m loc' g'' | .brk => Ψ .next loc' g'' | .ret p => Ψ (.ret p) loc' g''
theorem S_while {Ψ : FV → Loc → GS → Prop} {test : PySem.Expr} {body orelse : List Stmt} {pos : Pos} (I : Nat → Loc → GS → Prop)
    (turn : ∀ n loc g, I n loc g → TestV c c.env test loc g fun t g' => (t = true → ExecV c body loc g' (kW I n Ψ)) ∧ (t = false → ExecV c orelse loc g' Ψ))
    (n : Nat) (h : I n loc g) : StmtV c (.While test body orelse pos) loc g Ψ := by
  intro ts rs s Q E R q
  refine wpAny_While ?_
  refine codeAny_whileLoop (fun n s => ∃ loc g, Rel c loc g ts rs s ∧ I n loc g) ?_ n ⟨loc, g, R, h⟩
  rintro n s ⟨loc, g, R, h⟩
  refine turn n loc g h ts rs s _ _ R fun t g' s' R' f => ?_
  cases t with
  | true =>
    simp only [if_true]
    refine f.1 rfl ts rs s' _ _ R' fun f fv us loc' g'' s'' a R'' p => ?_
    cases a with
    | next => obtain ⟨m, hm, p⟩ := p; exact ⟨m, hm, loc', g'', R'', p⟩
    | cont => obtain ⟨m, hm, p⟩ := p; exact ⟨m, hm, loc', g'', R'', p⟩
    | brk => exact q _ _ _ _ _ _ .next R'' p
    | ret v pv => exact q _ _ _ _ _ _ (.ret v pv) R'' p
  | false =>
    simp only [Bool.false_eq_true, if_false]
    exact f.2 rfl ts rs s' _ _ R' q

noncomputable abbrev Has (loc : Loc) (x : MStr) (p : PV) : Prop := loc.lookup x = some p

noncomputable def retP : FV → PV
  | .ret p => p
  | _ => .none

theorem loc_temps {imm : Led} {m : MStr → Option MVal} (h : LocOk imm loc m) : ∃ tl : List (MVal × PV), (∀ x pv, loc.lookup x = some pv → ∃ v, m x = some v ∧ (v, pv) ∈ tl) ∧ ∀ p ∈ tl, VRel imm p.1 p.2 := by
  have key : ∀ l : List (MStr × PV), ∃ tl : List (MVal × PV), (∀ e ∈ l, ∀ pv, loc.lookup e.1 = some pv → ∃ v, m e.1 = some v ∧ (v, pv) ∈ tl) ∧ ∀ p ∈ tl, VRel imm p.1 p.2 := by
    intro l
    induction l with
    | nil => exact ⟨[], fun _ h => (nomatch h), fun _ h => (nomatch h)⟩
    | cons e r ih =>
      obtain ⟨tl, h1, h2⟩ := ih
      cases hq : loc.lookup e.1 with
      | none =>
        refine ⟨tl, fun e' he pv hp => ?_, h2⟩
        rcases List.mem_cons.mp he with rfl | he
        · rw [hq] at hp; cases hp
        · exact h1 e' he pv hp
      | some pv =>
        obtain ⟨v, hv, hr⟩ := h _ _ hq
        refine ⟨(v, pv) :: tl, fun e' he pv' hp => ?_, List.forall_mem_cons.mpr ⟨hr, h2⟩⟩
        rcases List.mem_cons.mp he with rfl | he
        · rw [hq] at hp; cases hp; exact ⟨v, hv, .head _⟩
        · obtain ⟨u, a, b⟩ := h1 e' he pv' hp
          exact ⟨u, a, .tail _ b⟩
  obtain ⟨tl, h1, h2⟩ := key loc
  refine ⟨tl, fun x pv hp => ?_, h2⟩
  have : ∃ e ∈ loc, e.1 = x := by
    clear h1 h2 key h
    induction loc with
    | nil => cases hp
    | cons e r ih =>
      rw [List.lookup_cons] at hp
      by_cases hx : x = e.1
      · exact ⟨e, .head _, hx.symm⟩
      · have : (x == e.1) = false := by simpa using hx
        rw [this] at hp
        obtain ⟨e', he, q⟩ := ih hp
        exact ⟨e', .tail _ he, q⟩
  obtain ⟨e, he, rfl⟩ := this
  exact h1 e he pv hp

theorem LocOk.nil {imm : Led} {m : MStr → Option MVal} : LocOk imm [] m := fun _ _ h => nomatch h
noncomputable def Binds (imm : Led) : List (MStr × MVal) → Loc → Prop
  | [], [] => True
  | (x, v) :: bs, (y, pv) :: l => x = y ∧ VRel imm v pv ∧ Binds imm bs l
  | _, _ => False
theorem lookup_reverse {α β : Type} [BEq α] [LawfulBEq α] {x : α} : ∀ {l : List (α × β)}, (l.map (·.1)).Nodup → l.reverse.lookup x = l.lookup x
  | [], _ => rfl
  | (y, v) :: r, h => by
    rw [List.map_cons, List.nodup_cons] at h
    rw [List.reverse_cons, List.lookup_append, lookup_reverse h.2, List.lookup_cons, List.lookup_cons]
    by_cases e : x = y
    · subst e
      have : r.lookup x = none := by
        cases q : r.lookup x with
        | none => rfl
        | some b => exact absurd (List.mem_map_of_mem (f := (·.1)) (mem_of_lookup q)) h.1
      simp [this]
    · have : (x == y) = false := by simpa using e
      simp [this]
where
  mem_of_lookup {α β : Type} [BEq α] [LawfulBEq α] {x : α} {b : β} : ∀ {l : List (α × β)}, l.lookup x = some b → (x, b) ∈ l
  | (y, v) :: r, h => by
    rw [List.lookup_cons] at h
    by_cases e : x = y
    · subst e; simp at h; subst h; exact .head _
    · have : (x == y) = false := by simpa using e
      rw [this] at h
      exact .tail _ (mem_of_lookup h)
theorem LocOk.binds {imm : Led} : ∀ {bs : List (MStr × MVal)} {l : Loc}, Binds imm bs l → ∀ x pv, l.lookup x = some pv → ∃ v, bs.lookup x = some v ∧ VRel imm v pv
  | [], [], _, _, _, h => nomatch h
  | (y, v) :: bs, (z, p) :: l, ⟨e, hv, r⟩, x, pv, h => by
    subst e
    rw [List.lookup_cons] at h ⊢
    by_cases q : x = y
    · subst q; simp at h ⊢; subst h; exact hv
    · have : (x == y) = false := by simpa using q
      rw [this] at h ⊢
      exact LocOk.binds r x pv h
theorem LocOk.of_binds {imm : Led} {bs : List (MStr × MVal)} {l : Loc} {ns : List MStr} (e : bs.map (·.1) = ns) (hn : ns.Nodup) (h : Binds imm bs l) : LocOk imm l (fun y => bs.reverse.lookup y) := fun x pv q => by
  subst e
  show ∃ v, bs.reverse.lookup x = some v ∧ _
  rw [lookup_reverse hn]
  exact LocOk.binds h x pv q

theorem RelW.back {fs' : FS} {c' : Cx w fs'} {loc' : Loc} {g' : GS} {ts tl us : List (MVal × PV)} {rs : Led} {s s' : Shared} {m m' : MStr → Option MVal} {imm mu imm' mu' : Led} (R : RelW c loc g ts rs s m imm mu)
    (hdr : c'.dr = c.dr) (hos : c'.os = c.os) (h1 : ∀ x pv, loc.lookup x = some pv → ∃ v, m x = some v ∧ (v, pv) ∈ tl)
    (R' : RelW c' loc' g' (us ++ (ts ++ tl)) rs s' m' imm' mu') (F : Fr c.h₀ c.L s'.heap m) (N : News c.h₀ c.L s'.heap (imm' ++ (mu' ++ rs))) : RelW c loc g' (us ++ ts) rs s' m imm' mu' :=
  { R' with
    fr := F, nw := N
    loc := fun x pv hp => let ⟨v, a, b⟩ := h1 x pv hp; ⟨v, a, R'.temps _ (List.mem_append_right us (List.mem_append_right ts b))⟩
    temps := fun p hp => R'.temps p ((List.mem_append.mp hp).elim (fun h => List.mem_append_left _ h) fun h => List.mem_append_right us (List.mem_append_left tl h))
    dr := R'.dr.trans hdr, os := R'.os.trans hos }

theorem CallR_fn {d : Nat} {f : Addr} {name qual : MStr} {params : Arguments} {body : List Stmt} {scope : Scope} {dV kV doc pm cdv ct oc : MVal} {an od : Option Addr} {osl : Array (Option MVal)} {pos : List PV} {kw : List (MStr × PV)} {loc' : Loc} {Φ : PV → GS → Prop}
    (ho : (KK w).lookup f = some ⟨oc, od, .func (fnOf name qual params body scope dV kV doc pm an cdv ct), osl⟩) (hcd : codeIn (KK w) cdv qual = true) (hd : d ≤ 900)
    (hb : ∀ vs ks : List MVal, vs.length = pos.length → ks.length = kw.length → ∃ binds, (∀ S, peek (KK w) S (bindArgs (fnOf name qual params body scope dV kV doc pm an cdv ct) ⟨vs, (kw.map (·.1)).zip ks⟩) = some binds) ∧
      (binds.all fun x => decide (scope.names.lookup x.1 = some .local)) = true ∧ ∀ imm, (∀ p ∈ vs.zip pos, VRel imm p.1 p.2) → (∀ p ∈ ks.zip (kw.map (·.2)), VRel imm p.1 p.2) → LocOk imm loc' (fun y => binds.reverse.lookup y))
    (hk : scope.kind = .function)
    (h : ∀ c' : Cx w ⟨qual, scope, f, cdv, []⟩, c'.dp ≤ d + 1 → c'.un ≤ 10 * (d + 1) → ExecV c' body loc' g fun fv _ g' => Φ (retP fv) g')
    (hco : scope.isCoroutine = false) (hgen : scope.isGenerator = false) (hcell : ∀ x ∈ scope.names, x.2 ≠ .cell) : CallR w d (.st (.ref f)) pos kw g Φ := by
  intro fs c loc ts rs s Q E fv vs ks a1 a2 R a4 a5 a6 a7 a8 q
  obtain ⟨m, imm, mu, R⟩ := R
  have hfv : fv = .ref f := by
    have := R.temps _ a4
    cases this; rfl
  subst hfv
  obtain ⟨binds, hb1, hb2, hb3⟩ := hb vs ks a5 a7
  refine wpAny_call ?_
  refine code_def (K := KK w) (env := c.env) (outer := c.outer) c.below R.fr c.kin R.nw c.top rfl rfl c.kind ho hcd (by show c.dp < recursionLimit; unfold recursionLimit; (first | lia | omega)) (kp_binds (c.kin.keeps R.fr.keep) hb1) (locs hb2) ?_ hco hgen hk hcell
  intro gh L' h₁ FG F' N' B' X' T'
  obtain ⟨tl, ht1, ht2⟩ := loc_temps R.loc
  let c' : Cx w ⟨qual, scope, f, cdv, []⟩ := { dp := c.dp + 1, un := c.un + 3, gd := c.gd, L := L', outer := c.env :: c.outer, A₀ := c.A, base := c.base, h₀ := gh, loose := c.loose, mean := c.mean, mg := c.mg, mb := c.mb, dr := c.dr, os := c.os, below := B', kin := X', top := T', hds := c.hds.keeps FG.keep, scr := c.scr.keeps FG.keep, kind := hk }
  have R1 : RelW c' loc' g (ts ++ tl) rs { s with heap := h₁, toks := s.toks + binds.length } (fun y => binds.reverse.lookup y) imm mu :=
    { fr := F', nw := N', nd := R.nd, loc := hb3 imm (fun p hp => R.temps p (a6 p hp)) (fun p hp => R.temps p (a8 p hp)), st := R.st,
      temps := fun p hp => (List.mem_append.mp hp).elim (R.temps p) (ht2 p), tk := Nat.lt_of_lt_of_le R.tk (Nat.le_add_right _ _), gens := R.gens, dr := R.dr, os := R.os }
  refine h c' (by show c.dp + 1 ≤ d + 1; (first | lia | omega)) (by show c.un + 3 ≤ 10 * (d + 1); (first | lia | omega)) (ts ++ tl) rs _ _ _ ⟨_, imm, mu, R1⟩ fun fl fv us loc'' g' s' a R' p => ?_
  obtain ⟨m', imm', mu', R'⟩ := R'
  refine leaveK_ R'.fr R'.nw fun F N => ?_
  have RB := RelW.back R (c' := c') rfl rfl ht1 R' F N
  cases a with
  | next => exact q _ _ _ _ ⟨m, imm', mu', RB.temp .none⟩ p
  | brk => exact q _ _ _ _ ⟨m, imm', mu', RB.temp .none⟩ p
  | cont => exact q _ _ _ _ ⟨m, imm', mu', RB.temp .none⟩ p
  | ret v pv => exact q _ _ _ _ ⟨m, imm', mu', RB⟩ p

section args
variable {pos : Pos} {e : PySem.Expr} {es : List PySem.Expr} {kws : List Keyword} {Φ : List PV → GS → Prop}
theorem A_nil (h : Φ [] g) : ArgsV c env pos [] loc g Φ := fun ts rs s Q E R q => args_nil (q [] [] g s rfl R h)
noncomputable abbrev kA2 (p : PV) (Φ : List PV → GS → Prop) : List PV → GS → Prop := fun ps g2 => Φ (p :: ps) g2
noncomputable abbrev kA (c : Cx w fs) (env : Env) (pos : Pos) (es : List PySem.Expr) (loc : Loc) (Φ : List PV → GS → Prop) : PV → GS → Prop := fun p g1 => ArgsV c env pos es loc g1 (kA2 p Φ)
theorem A_cons (h : EvalV c env e loc g (kA c env pos es loc Φ)) (he : starEach (e :: es) env = (false, eval e env) :: starEach es env := by rfl) : ArgsV c env pos (e :: es) loc g Φ := by
  intro ts rs s Q E R q
  refine args_cons (h ts rs s _ E R fun v p g1 s1 R1 f => ?_) he
  refine f _ rs s1 _ E R1 fun vs ps g2 s2 hl R2 f2 => ?_
  refine q (v :: vs) (p :: ps) g2 s2 (by simp [hl]) (R2.weaken fun x hx => ?_) f2
  rcases List.mem_append.mp hx with hx | hx
  · rcases List.mem_cons.mp hx with rfl | hx
    · exact List.mem_append_right _ (.head _)
    · exact List.mem_append_left _ hx
  · exact List.mem_append_right _ (.tail _ hx)
end args
end Mine
namespace Mine
variable {w : Wd} {fs : FS} {c : Cx w fs} {env : Env} {loc : Loc} {g : GS}
section calls
variable {pos : Pos} {e func : PySem.Expr} {es : List PySem.Expr} {kws : List Keyword} {Φ : PV → GS → Prop} {d : Nat}
theorem zip_in {vs : List MVal} {ps : List PV} {a : MVal × PV} {ts : List (MVal × PV)} : ∀ p ∈ vs.zip ps, p ∈ vs.zip ps ++ a :: ts := fun _ h => List.mem_append_left _ h
theorem CallR.use {f : PV} {ps : List PV} {vs : List MVal} {ts : List (MVal × PV)} {rs : Led} {fv : MVal} {s : Shared} {Q : MVal → Shared → Prop} {E : MVal → Shared → Prop} (h : CallR w d f ps [] g Φ) (hd : c.dp ≤ d) (hu : c.un ≤ 10 * d) (hl : vs.length = ps.length)
    (R : Rel c loc g (vs.zip ps ++ (fv, f) :: ts) rs s) (q : ∀ v pv g' s', Rel c loc g' ((v, pv) :: ts) rs s' → Φ pv g' → Q v s') : wpAny (M0 w) c.A (call fv vs) Q E s :=
  h fs c loc _ rs s Q E fv vs [] hd hu R (List.mem_append_right _ (.head _)) hl zip_in rfl (fun _ h => (nomatch h)) fun v pv g' s' R' f => q v pv g' s' (R'.weaken fun p hp => (List.mem_cons.mp hp).elim (fun e => e ▸ .head _) fun h => .tail _ (List.mem_append_right _ (.tail _ h))) f
noncomputable abbrev kF2 (w : Wd) (d : Nat) (f : PV) (Φ : PV → GS → Prop) : List PV → GS → Prop := fun ps g1 => CallR w d f ps [] g1 Φ
noncomputable abbrev kF (c : Cx w fs) (env : Env) (pos : Pos) (es : List PySem.Expr) (loc : Loc) (d : Nat) (f : PV) (Φ : PV → GS → Prop) : PV → GS → Prop := fun p g0 => p = f ∧ ArgsV c env pos es loc g0 (kF2 w d f Φ)
theorem E_call {f : Addr} (hk : keepIn (KK w) (.ref f) = true) (hd : c.dp ≤ d) (hu : c.un ≤ 10 * d) (h : EvalV c env func loc g (kF c env pos (e :: es) loc d (.st (.ref f)) Φ))
    (hc : eval (.Call func (e :: es) [] pos) env = (do callWith pos (← eval func env) [] (backTo pos (starEach (e :: es) env)) (backToKw pos (keywordEach [] env))) := by rfl)
    (he : starEach (e :: es) env = (false, eval e env) :: starEach es env := by rfl) (hp : (backTo pos (starEach es env)).any (·.1) = false := by rfl) : EvalV c env (.Call func (e :: es) [] pos) loc g Φ := by
  intro ts rs s Q E R q
  refine Call_ (h ts rs s _ E R fun v pv g0 s0 R0 f0 => ?_) hc
  obtain ⟨rfl, f0⟩ := f0
  have hv : v = .ref f := by
    obtain ⟨m, i, u, R0⟩ := R0
    have := R0.temps _ (.head _)
    cases this; rfl
  subst hv
  refine callWith_K (h₀ := c.h₀) c.kin hk ?_ he hp
  refine f0 _ rs s0 _ E R0 fun vs ps g1 s1 hl R1 f1 => ⟨?_, ?_⟩
  · obtain ⟨m, i, u, R1⟩ := R1; exact c.kin.keeps R1.fr.keep
  · exact f1.use hd hu hl R1 q
theorem E_call_bi {id : String} (hd : c.dp ≤ d) (hu : c.un ≤ 10 * d) (h : EvalV c env func loc g (kF c env pos (e :: es) loc d (.st (.builtin id)) Φ))
    (hc : eval (.Call func (e :: es) [] pos) env = (do callWith pos (← eval func env) [] (backTo pos (starEach (e :: es) env)) (backToKw pos (keywordEach [] env))) := by rfl)
    (he : starEach (e :: es) env = (false, eval e env) :: starEach es env := by rfl) (hp : (backTo pos (starEach es env)).any (·.1) = false := by rfl) : EvalV c env (.Call func (e :: es) [] pos) loc g Φ := by
  intro ts rs s Q E R q
  refine Call_ (h ts rs s _ E R fun v pv g0 s0 R0 f0 => ?_) hc
  obtain ⟨rfl, f0⟩ := f0
  have hv : v = .builtin id := by
    obtain ⟨m, i, u, R0⟩ := R0
    have := R0.temps _ (.head _)
    cases this; rfl
  subst hv
  refine PyProof.Rows.callWith_builtin1 ?_ he hp
  exact f0 _ rs s0 _ E R0 fun vs ps g1 s1 hl R1 f1 => f1.use hd hu hl R1 q
theorem E_call_ty {T : String} (hd : c.dp ≤ d) (hu : c.un ≤ 10 * d) (h : EvalV c env func loc g (kF c env pos (e :: es) loc d (.st (.type T)) Φ))
    (hc : eval (.Call func (e :: es) [] pos) env = (do callWith pos (← eval func env) [] (backTo pos (starEach (e :: es) env)) (backToKw pos (keywordEach [] env))) := by rfl)
    (he : starEach (e :: es) env = (false, eval e env) :: starEach es env := by rfl) (hp : (backTo pos (starEach es env)).any (·.1) = false := by rfl) : EvalV c env (.Call func (e :: es) [] pos) loc g Φ := by
  intro ts rs s Q E R q
  refine Call_ (h ts rs s _ E R fun v pv g0 s0 R0 f0 => ?_) hc
  obtain ⟨rfl, f0⟩ := f0
  have hv : v = .type T := by
    obtain ⟨m, i, u, R0⟩ := R0
    have := R0.temps _ (.head _)
    cases this; rfl
  subst hv
  refine PyProof.Rows.callWith_type1 ?_ he hp
  exact f0 _ rs s0 _ E R0 fun vs ps g1 s1 hl R1 f1 => f1.use hd hu hl R1 q
end calls
end Mine
set_option maxHeartbeats 8000000


namespace Mine
variable {w : Wd} {fs : FS} {c : Cx w fs} {env : Env} {loc : Loc} {g : GS}

noncomputable abbrev kK3 (w : Wd) (d : Nat) (f : PV) (ps : List PV) (n : MStr) (Φ : PV → GS → Prop) : PV → GS → Prop := fun kv g2 => CallR w d f ps [(n, kv)] g2 Φ
noncomputable abbrev kK2 (c : Cx w fs) (env : Env) (ke : PySem.Expr) (loc : Loc) (d : Nat) (f : PV) (n : MStr) (Φ : PV → GS → Prop) : List PV → GS → Prop := fun ps g1 => EvalV c env ke loc g1 (kK3 w d f ps n Φ)
noncomputable abbrev kK1 (c : Cx w fs) (env : Env) (pos : Pos) (es : List PySem.Expr) (ke : PySem.Expr) (loc : Loc) (d : Nat) (f : PV) (n : MStr) (Φ : PV → GS → Prop) : PV → GS → Prop := fun p g0 => p = f ∧ ArgsV c env pos es loc g0 (kK2 c env ke loc d f n Φ)
theorem E_call_kw1 {f : Addr} {x n : MStr} {xp kp pos : Pos} {e ke : PySem.Expr} {es : List PySem.Expr} {d : Nat} {Φ : PV → GS → Prop} (hk : keepIn (KK w) (.ref f) = true) (hd : c.dp ≤ d) (hu : c.un ≤ 10 * d)
    (h : EvalV c env (.Name x xp) loc g (kK1 c env pos (e :: es) ke loc d (.st (.ref f)) n Φ))
    (hall : (backToKw pos (keywordEach [⟨some n, ke, kp⟩] env)).all (·.1.isSome) = true := by rfl)
    (hplain : ((backTo pos (starEach (e :: es) env)).any (·.1) || (backToKw pos (keywordEach [⟨some n, ke, kp⟩] env)).any (·.1.isNone)) = false := by rfl) (he : starEach (e :: es) env = (false, eval e env) :: starEach es env := by rfl) :
    EvalV c env (.Call (.Name x xp) (e :: es) [⟨some n, ke, kp⟩] pos) loc g Φ := by
  intro ts rs s Q E R q
  refine wpAny_Call_Name_kw (h ts rs s _ E R fun v pv g0 s0 R0 f0 => ?_)
  obtain ⟨rfl, f0⟩ := f0
  have hv : v = .ref f := by
    obtain ⟨m, i, u, R0⟩ := R0
    have := R0.temps _ (.head _)
    cases this; rfl
  subst hv
  refine callWith_KW (h₀ := c.h₀) c.kin hk hall ?_ hplain he
  refine f0 _ rs s0 _ E R0 fun vs ps g1 s1 hl R1 f1 => ?_
  refine kwAll_cons (f1 _ rs s1 _ E R1 fun kv kpv g2 s2 R2 f2 => ?_)
  refine kwAll_nil ⟨?_, ?_⟩
  · obtain ⟨m, i, u, R2⟩ := R2; exact c.kin.keeps R2.fr.keep
  · refine f2 fs c loc _ rs s2 Q E (.ref f) vs [kv] hd hu R2 (.tail _ (List.mem_append_right _ (.head _))) hl (fun p hp => .tail _ (List.mem_append_left _ hp)) rfl (fun p hp => ?_) fun v pv g' s' R' f => q v pv g' s' (R'.weaken fun p hp => (List.mem_cons.mp hp).elim (fun e => e ▸ .head _) fun h => .tail _ (.tail _ (List.mem_append_right _ (.tail _ h)))) f
    have : p = (kv, kpv) := by simpa using hp
    subst this; exact .head _

section bin
variable {a b : Int} {x y : MStr} {Φ : PV → GS → Prop}
theorem vrel_int {imm : Led} {v : MVal} {i : Int} (h : VRel imm v (.int i)) : ∃ t, v = .int i t := by cases h; exact ⟨_, rfl⟩
theorem vrel_str {imm : Led} {v : MVal} {x : MStr} (h : VRel imm v (.str x)) : ∃ t, v = .str x t := by cases h; exact ⟨_, rfl⟩
theorem vrel_st {imm : Led} {v u : MVal} (h : VRel imm v (.st u)) : v = u := by cases h; rfl
theorem vrel_lst {imm : Led} {v : MVal} {a : Addr} (h : VRel imm v (.lst a)) : v = .ref a := by cases h; rfl
theorem vrel_none {imm : Led} {v : MVal} (h : VRel imm v .none) : v = .none := by cases h; rfl
theorem vrel_bool {imm : Led} {v : MVal} {b : Bool} (h : VRel imm v (.bool b)) : v = .bool b := by cases h; rfl
theorem Rel.int {ts : List (MVal × PV)} {rs : Led} {s : Shared} {v : MVal} {i : Int} (R : Rel c loc g ts rs s) (h : (v, PV.int i) ∈ ts) : ∃ t, v = .int i t := let ⟨_, _, _, R⟩ := R; vrel_int (R.temps _ h)
theorem Rel.str {ts : List (MVal × PV)} {rs : Led} {s : Shared} {v : MVal} {i : MStr} (R : Rel c loc g ts rs s) (h : (v, PV.str i) ∈ ts) : ∃ t, v = .str i t := let ⟨_, _, _, R⟩ := R; vrel_str (R.temps _ h)
theorem Rel.st {ts : List (MVal × PV)} {rs : Led} {s : Shared} {v u : MVal} (R : Rel c loc g ts rs s) (h : (v, PV.st u) ∈ ts) : v = u := let ⟨_, _, _, R⟩ := R; vrel_st (R.temps _ h)
theorem Rel.lst {ts : List (MVal × PV)} {rs : Led} {s : Shared} {v : MVal} {a : Addr} (R : Rel c loc g ts rs s) (h : (v, PV.lst a) ∈ ts) : v = .ref a := let ⟨_, _, _, R⟩ := R; vrel_lst (R.temps _ h)
theorem Rel.none {ts : List (MVal × PV)} {rs : Led} {s : Shared} {v : MVal} (R : Rel c loc g ts rs s) (h : (v, PV.none) ∈ ts) : v = .none := let ⟨_, _, _, R⟩ := R; vrel_none (R.temps _ h)
theorem Rel.bool {ts : List (MVal × PV)} {rs : Led} {s : Shared} {v : MVal} {b : Bool} (R : Rel c loc g ts rs s) (h : (v, PV.bool b) ∈ ts) : v = .bool b := let ⟨_, _, _, R⟩ := R; vrel_bool (R.temps _ h)

theorem B_add (h : Φ (.int (a + b)) g) : BinR w .Add (.int a) (.int b) g Φ := by
  intro fs c loc ts rs s Q E va vb R ha hb q
  obtain ⟨t, rfl⟩ := R.int ha
  obtain ⟨u, rfl⟩ := R.int hb
  exact PyProof.Rows.add_int (q _ _ g _ (R.ticked.prim fun _ => .int _ _) h)
theorem B_sub (h : Φ (.int (a - b)) g) : BinR w .Sub (.int a) (.int b) g Φ := by
  intro fs c loc ts rs s Q E va vb R ha hb q
  obtain ⟨t, rfl⟩ := R.int ha
  obtain ⟨u, rfl⟩ := R.int hb
  exact PyProof.Rows.sub_int (q _ _ g _ (R.ticked.prim fun _ => .int _ _) h)
theorem B_div (hb0 : b ≠ 0) (hp : b.natAbs < 1073741824) (h : Φ (.int (a.fdiv b)) g) : BinR w .FloorDiv (.int a) (.int b) g Φ := by
  intro fs c loc ts rs s Q E va vb R ha hb q
  obtain ⟨t, rfl⟩ := R.int ha
  obtain ⟨u, rfl⟩ := R.int hb
  exact PyProof.Rows.floordiv_int hb0 (q _ _ g _ (R.ticked.prim fun _ => .int _ _) h) (hp := .inl (PyProof.noPylong_small hp))
theorem B_mod (hb0 : b ≠ 0) (h : Φ (.int (a.fmod b)) g) : BinR w .Mod (.int a) (.int b) g Φ := by
  intro fs c loc ts rs s Q E va vb R ha hb q
  obtain ⟨t, rfl⟩ := R.int ha
  obtain ⟨u, rfl⟩ := R.int hb
  exact PyProof.Rows.mod_int' hb0 (q _ _ g _ (R.ticked.prim fun _ => .int _ _) h) 
theorem B_cat (hsz : x.length + y.length ≤ sizeLine) (h : Φ (.str (x ++ y)) g) : BinR w .Add (.str x) (.str y) g Φ := by
  intro fs c loc ts rs s Q E va vb R ha hb q
  obtain ⟨t, rfl⟩ := R.str ha
  obtain ⟨u, rfl⟩ := R.str hb
  refine wpAny_with_toks (n := 1) R.tkp (PyProof.Rows.add_str (fun t' tk (htk : 0 < tk) => q _ _ g _ (R.ticked.prim fun _ => .str _ _) h) hsz)
end bin

section cmp
variable {a b : Int} {x y : MStr} {Φ : PV → GS → Prop} {d : Nat}
theorem C_lt (h : Φ (.bool (decide (a < b))) g) : CmpR w d .Lt (.int a) (.int b) g Φ := by
  intro fs c loc ts rs s Q E va vb _ _ R ha hb q
  obtain ⟨t, rfl⟩ := R.int ha
  obtain ⟨u, rfl⟩ := R.int hb
  exact PyProof.Rows.lt_int (q _ _ g _ (R.prim fun _ => .bool _) h)
theorem C_le (h : Φ (.bool (decide (a ≤ b))) g) : CmpR w d .LtE (.int a) (.int b) g Φ := by
  intro fs c loc ts rs s Q E va vb _ _ R ha hb q
  obtain ⟨t, rfl⟩ := R.int ha
  obtain ⟨u, rfl⟩ := R.int hb
  exact P.le_int (q _ _ g _ (R.prim fun _ => .bool _) h)
theorem C_gt (h : Φ (.bool (decide (a > b))) g) : CmpR w d .Gt (.int a) (.int b) g Φ := by
  intro fs c loc ts rs s Q E va vb _ _ R ha hb q
  obtain ⟨t, rfl⟩ := R.int ha
  obtain ⟨u, rfl⟩ := R.int hb
  exact P.gt_int (q _ _ g _ (R.prim fun _ => .bool _) h)
theorem C_eqi (h : Φ (.bool (a == b)) g) : CmpR w d .Eq (.int a) (.int b) g Φ := by
  intro fs c loc ts rs s Q E va vb _ _ R ha hb q
  obtain ⟨t, rfl⟩ := R.int ha
  obtain ⟨u, rfl⟩ := R.int hb
  exact PyProof.Rows.eq_int (q _ _ g _ (R.prim fun _ => .bool _) h)
theorem C_nei (h : Φ (.bool (a != b)) g) : CmpR w d .NotEq (.int a) (.int b) g Φ := by
  intro fs c loc ts rs s Q E va vb _ _ R ha hb q
  obtain ⟨t, rfl⟩ := R.int ha
  obtain ⟨u, rfl⟩ := R.int hb
  exact P.ne_int (q _ _ g _ (R.prim fun _ => .bool _) h)
theorem C_eqs (h : Φ (.bool (x == y)) g) : CmpR w d .Eq (.str x) (.str y) g Φ := by
  intro fs c loc ts rs s Q E va vb _ _ R ha hb q
  obtain ⟨t, rfl⟩ := R.str ha
  obtain ⟨u, rfl⟩ := R.str hb
  exact PyProof.Rows.eq_str (q _ _ g _ (R.prim fun _ => .bool _) h)
theorem C_nes (h : Φ (.bool (x.cps.toList != y.cps.toList)) g) : CmpR w d .NotEq (.str x) (.str y) g Φ := by
  intro fs c loc ts rs s Q E va vb _ _ R ha hb q
  obtain ⟨t, rfl⟩ := R.str ha
  obtain ⟨u, rfl⟩ := R.str hb
  exact P.ne_str (q _ _ g _ (R.prim fun _ => .bool _) h)
theorem C_lts (h : Φ (.bool (x.cps.toList < y.cps.toList)) g) : CmpR w d .Lt (.str x) (.str y) g Φ := by
  intro fs c loc ts rs s Q E va vb _ _ R ha hb q
  obtain ⟨t, rfl⟩ := R.str ha
  obtain ⟨u, rfl⟩ := R.str hb
  exact PyProof.Rows.lt_str (q _ _ g _ (R.prim fun _ => .bool _) h)
theorem C_in (h : Φ (.bool (Txt.contains x y)) g) : CmpR w d .In (.str y) (.str x) g Φ := by
  intro fs c loc ts rs s Q E va vb _ _ R ha hb q
  obtain ⟨t, rfl⟩ := R.str ha
  obtain ⟨u, rfl⟩ := R.str hb
  exact SB.contains (q _ _ g _ (R.prim fun _ => .bool _) h)
theorem C_notin (h : Φ (.bool (!Txt.contains x y)) g) : CmpR w d .NotIn (.str y) (.str x) g Φ := by
  intro fs c loc ts rs s Q E va vb _ _ R ha hb q
  obtain ⟨t, rfl⟩ := R.str ha
  obtain ⟨u, rfl⟩ := R.str hb
  exact SB.notContains (q _ _ g _ (R.prim fun _ => .bool _) h)
noncomputable def PV.isNone : PV → Bool
  | .none => true
  | _ => false
theorem vrel_isNone {imm : Led} {v : MVal} {p : PV} (hs : ∀ u, p ≠ .st u) (h : VRel imm v p) : (v == .none) = p.isNone := by
  cases h <;> first | rfl | exact absurd rfl (hs _)
theorem C_is_none {p : PV} (hs : ∀ u, p ≠ .st u) (h : Φ (.bool p.isNone) g) : CmpR w d .Is p .none g Φ := by
  intro fs c loc ts rs s Q E va vb _ _ R ha hb q
  have hb' := R.none hb
  subst hb'
  refine PySem.is_none ?_
  obtain ⟨m, i, u, R'⟩ := R
  rw [vrel_isNone hs (R'.temps _ ha)]
  exact q _ _ g _ (Rel.prim ⟨m, i, u, R'⟩ fun _ => .bool _) h
end cmp

section sub
variable {value slice : PySem.Expr} {pos : Pos} {Φ : PV → GS → Prop}
noncomputable def SubR (w : Wd) (o i : PV) (g : GS) (Φ : PV → GS → Prop) : Prop :=
  ∀ (fs : FS) (c : Cx w fs) loc ts rs s (Q : MVal → Shared → Prop) (E : MVal → Shared → Prop) (value slice : PySem.Expr) vo vi, (∀ a b, subscripted slice false a b = operate [a, b] (getItem a b)) → Rel c loc g ts rs s → (vo, o) ∈ ts → (vi, i) ∈ ts → (∀ v pv g' s', Rel c loc g' ((v, pv) :: ts) rs s' → Φ pv g' → Q v s') → wpAny (M0 w) c.A (subscriptTail value slice vo vi) Q E s
noncomputable abbrev kS2 (w : Wd) (o : PV) (Φ : PV → GS → Prop) : PV → GS → Prop := fun i g2 => SubR w o i g2 Φ
noncomputable abbrev kS1 (c : Cx w fs) (env : Env) (slice : PySem.Expr) (loc : Loc) (Φ : PV → GS → Prop) : PV → GS → Prop := fun o g1 => EvalV c env slice loc g1 (kS2 w o Φ)
theorem E_sub (h : EvalV c env value loc g (kS1 c env slice loc Φ)) (hs : ∀ a b, subscripted slice false a b = operate [a, b] (getItem a b) := by intro _ _; with_unfolding_all rfl) : EvalV c env (.Subscript value slice pos) loc g Φ := by
  intro ts rs s Q E R q
  refine Subscript_ (h ts rs s _ E R fun o po g1 s1 R1 h1 => ?_)
  refine h1 _ rs s1 _ E R1 fun i pi g2 s2 R2 h2 => ?_
  exact h2 fs c loc _ rs s2 Q E value slice o i hs R2 (.tail _ (.head _)) (.head _) fun v pv g' s' R' f => q v pv g' s' (R'.weaken dr2) f
theorem I_list {a : Addr} {items : List PV} {k : Int} {p : PV} (hm : (a, items) ∈ g.lists) (h0 : 0 ≤ k) (hf : k < 2 ^ 63) (hx : items[k.toNat]? = some p) (h : Φ p g) : SubR w (.lst a) (.int k) g Φ := by
  intro fs c loc ts rs s Q E value slice vo vi hs R ho hi q
  have := R.lst ho; subst this
  obtain ⟨t, rfl⟩ := R.int hi
  obtain ⟨m, i, u, R'⟩ := R
  obtain ⟨vs, n, h1, h2⟩ := R'.st.lists a items hm
  have hget := R'.nw.get (List.mem_append_right i (List.mem_append_left rs h1))
  have hL : s.heap.IsList a vs.toArray := ⟨_, hget, rfl, n, rfl⟩
  obtain ⟨v, hv, hr⟩ := h2.get hx
  exact tail_any hL.typeIs list_getitem_lookup (wpAny_getItem_list hL h0 hf (by simpa using hv) (q _ _ g _ ⟨m, i, u, R'.temp hr⟩ h)) (hs _ _)
theorem I_tup {items : List PV} {k : Int} {j : Nat} {p : PV} (hlo : -(2 ^ 63) ≤ k) (hf : k < 2 ^ 63) (hj : seqIndex? k items.length = some j) (hx : items[j]? = some p) (h : Φ p g) : SubR w (.tup items) (.int k) g Φ := by
  intro fs c loc ts rs s Q E value slice vo vi hs R ho hi q
  obtain ⟨t, rfl⟩ := R.int hi
  obtain ⟨m, i, u, R'⟩ := R
  have hr := R'.temps _ ho
  cases hr with
  | @tup a vs n _ h1 h2 =>
    obtain ⟨v, hv, hr⟩ := h2.get hx
    have hget := R'.nw.get (List.mem_append_left (u ++ rs) h1)
    have hT : IsTup s.heap a vs.toArray := ⟨_, hget, rfl, n, rfl⟩
    exact tail_any hT.typeIs slot_tuple_getitem.lookup (getItem_tuple hT hlo hf (by simpa [h2.length] using hj) (by simpa using hv) (q _ _ g _ ⟨m, i, u, R'.temp hr⟩ h)) (hs _ _)
theorem I_str {x : MStr} {k : Int} (hr : fitsSsize k = true) (hin : (Txt.charAt x k).isSome = true) (h : Φ (.str (Txt.item x k)) g) : SubR w (.str x) (.int k) g Φ := by
  intro fs c loc ts rs s Q E value slice vo vi hs R ho hi q
  obtain ⟨t, rfl⟩ := R.int hi
  obtain ⟨u, rfl⟩ := R.str ho
  exact tail_any (typeIs_str _ _ _) slot_str_getitem.lookup (SB.getItem hr hin (q _ _ g _ (R.ticked.prim fun _ => .str _ _) h)) (hs _ _)
end sub
end Mine
namespace Mine
variable {w : Wd} {fs : FS} {c : Cx w fs} {env : Env} {loc : Loc} {g : GS}
section builtins
variable {Φ : PV → GS → Prop} {d : Nat}
theorem F_len_list {a : Addr} {items : List PV} (hm : (a, items) ∈ g.lists) (hfit : (items.length : Int) < 2 ^ 63) (h : Φ (.int items.length) g) : CallR w d (.st (.builtin "len")) [.lst a] [] g Φ := by
  intro fs c loc ts rs s Q E fv vs ks _ _ R hf hl hp hk hkp q
  have := R.st hf; subst this
  obtain ⟨v, rfl⟩ : ∃ v, vs = [v] := by
    match vs, hl with
    | [v], _ => exact ⟨v, rfl⟩
  have hv := R.lst (hp (v, .lst a) (by simp)); subst hv
  obtain ⟨m, i, u, R'⟩ := R
  obtain ⟨ws, n, h1, h2⟩ := R'.st.lists a items hm
  have hget := R'.nw.get (List.mem_append_right i (List.mem_append_left rs h1))
  have hL : s.heap.IsList a ws.toArray := ⟨_, hget, rfl, n, rfl⟩
  have e : ws.toArray.size = items.length := by simp [h2.length]
  refine call_len_list hL (by rw [e]; exact hfit) ?_
  rw [e]
  exact q _ _ g _ (Rel.prim (Rel.ticked ⟨m, i, u, R'⟩) fun _ => .int _ _) h
end builtins
end Mine
set_option maxHeartbeats 8000000
namespace Mine
variable {w : Wd} {fs : FS} {c : Cx w fs} {env : Env} {loc : Loc} {g : GS}

section upd
variable {ts : List (MVal × PV)} {rs : Led} {s : Shared} {m : MStr → Option MVal} {imm mu : Led} {tk : Nat}
theorem RelW.heap_upd (R : RelW c loc g ts rs s m imm mu) {D : Addr} {o o' : Obj} {f : Obj → Obj} (hm : (D, o) ∈ mu) (e : f o = o') (hf : o'.isFreed = false) :
    Fr c.h₀ c.L (s.heap.update D f) m ∧ News c.h₀ c.L (s.heap.update D f) (imm ++ (setL D o' mu ++ rs)) := by
  have hmem : (D, o) ∈ imm ++ (mu ++ rs) := List.mem_append_right imm (List.mem_append_left rs hm)
  have z := R.nw _ hmem
  have hs : Heap.SameBut D s.heap (s.heap.update D f) := Heap.SameBut.update ..
  have ge : (s.heap.update D f).get? D = some o' := by
    have : (s.heap.update D f).get? D = some (f o) := Heap.get?_update_self f z.1 (by rw [e]; exact hf)
    rw [this, e]
  refine ⟨R.fr.change hs z.2.1 z.2.2, ?_⟩
  rw [← R.all_set hm]
  intro p hp
  obtain ⟨q, hq, rfl⟩ := List.mem_map.mp hp
  by_cases h : q.1 = D
  · rw [if_pos h]; exact ⟨ge, z.2.1, z.2.2⟩
  · rw [if_neg h]
    have y := R.nw q hq
    exact ⟨(hs.2 q.1 h).trans y.1, y.2.1, y.2.2⟩
theorem RelW.listSet (R : RelW c loc g ts rs s m imm mu) {D : Addr} {vs us : List MVal} {n k : Nat} {x y : List PV} {ls' : List (Addr × List PV)} {f : Obj → Obj} (hm : (D, listOf vs.toArray n) ∈ mu) (e : f (listOf vs.toArray n) = listOf us.toArray k) (hU : LUpd D x y g.lists ls') (hv : VAll imm us y) (htk : 0 < tk) :
    RelW c loc { g with lists := ls' } ts rs { s with heap := s.heap.update D f, toks := tk } m imm (setL D (listOf us.toArray k) mu) :=
  have h := R.heap_upd hm e rfl
  R.setList hm ⟨_, _, rfl⟩ hU hv h.1 h.2 htk
theorem RelW.listAt (R : RelW c loc g ts rs s m imm mu) {D : Addr} {items : List PV} (hm : (D, items) ∈ g.lists) : ∃ vs n, (D, listOf vs.toArray n) ∈ mu ∧ VAll imm vs items ∧ s.heap.get? D = some (listOf vs.toArray n) ∧ s.heap.IsList D vs.toArray :=
  let ⟨vs, n, h1, h2⟩ := R.st.lists D items hm
  have h := R.nw.get (List.mem_append_right imm (List.mem_append_left rs h1))
  ⟨vs, n, h1, h2, h, _, h, rfl, n, rfl⟩
end upd

theorem mapSeq_listOf (F : Array MVal → Array MVal) {vs us : List MVal} {n : Nat} (h : F vs.toArray = us.toArray) : ∃ k, Obj.mapSeq F (listOf vs.toArray n) = listOf us.toArray k :=
  ⟨if (F vs.toArray).size == vs.toArray.size then n else n + 1, by rw [← h]; rfl⟩
noncomputable def InpR (w : Wd) (op : Operator) (a b : PV) (g : GS) (Φ : PV → GS → Prop) : Prop :=
  ∀ (fs : FS) (c : Cx w fs) loc ts rs s (Q : MVal → Shared → Prop) (E : MVal → Shared → Prop) va vb, Rel c loc g ts rs s → (va, a) ∈ ts → (vb, b) ∈ ts → (∀ v pv g' s', Rel c loc g' ((v, pv) :: ts) rs s' → Φ pv g' → Q v s') → wpAny (M0 w) c.A (inplaceOp op va vb) Q E s
section calls
variable {pos apos : Pos} {o e func : PySem.Expr} {es : List PySem.Expr} {Φ : PV → GS → Prop} {d : Nat} {name : MStr} {id : String}
noncomputable abbrev kM2 (w : Wd) (d : Nat) (id : String) (o : PV) (Φ : PV → GS → Prop) : List PV → GS → Prop := fun ps g1 => CallR w d (.st (.builtin id)) (o :: ps) [] g1 Φ
noncomputable abbrev kMs (c : Cx w fs) (env : Env) (pos : Pos) (es : List PySem.Expr) (loc : Loc) (d : Nat) (id : String) (Φ : PV → GS → Prop) : PV → GS → Prop := fun p g0 => ∃ x, p = .str x ∧ ArgsV c env pos es loc g0 (kM2 w d id (.str x) Φ)
noncomputable abbrev kMl (c : Cx w fs) (env : Env) (pos : Pos) (es : List PySem.Expr) (loc : Loc) (d : Nat) (id : String) (Φ : PV → GS → Prop) : PV → GS → Prop := fun p g0 => ∃ a items, p = .lst a ∧ (a, items) ∈ g0.lists ∧ ArgsV c env pos es loc g0 (kM2 w d id (.lst a) Φ)
noncomputable abbrev kM0 (w : Wd) (d : Nat) (id : String) (Φ : PV → GS → Prop) : PV → GS → Prop := fun p g0 => ∃ a items, p = .lst a ∧ (a, items) ∈ g0.lists ∧ CallR w d (.st (.builtin id)) [.lst a] [] g0 Φ
noncomputable abbrev kRp (y z : MStr) (Φ : PV → GS → Prop) : PV → GS → Prop := fun p g0 => ∃ x, p = .str x ∧ x.length + (x.length + 1) * z.length ≤ 16777216 ∧ Φ (.str (Txt.replace x y z)) g0
theorem E_meth_str (slot : Slot "str" name id) (ty : typeOf (.builtin id) = pure (.type "method_descriptor")) (hd : c.dp ≤ d) (hu : c.un ≤ 10 * d)
    (h : EvalV c env o loc g (kMs c env pos (e :: es) loc d id Φ)) {pl : Sem Bool}
    (hc : eval (.Call (.Attribute o name apos) (e :: es) [] pos) env = (do let ov ← eval o env; standAt apos.atName; let (f, first) ← holding [ov] (getMethod ov name pl); callWith pos f first (backTo pos (starEach (e :: es) env)) []) := by rfl)
    (he : starEach (e :: es) env = (false, eval e env) :: starEach es env := by rfl) (hp : (backTo pos (starEach es env)).any (·.1) = false := by rfl) : EvalV c env (.Call (.Attribute o name apos) (e :: es) [] pos) loc g Φ := by
  intro ts rs s Q E R q
  refine MethodCall_ (h ts rs s _ E R fun v pv g0 s0 R0 f0 => ?_) hc
  obtain ⟨x, rfl, f0⟩ := f0
  obtain ⟨t, rfl⟩ := R0.str (.head _)
  refine GM.of _ (typeIs_str _ _ _) slot ty GM.noRef ?_
  refine callWith_method1 ?_ he hp
  refine f0 _ rs s0 _ E R0 fun vs ps g1 s1 hl R1 f1 => ?_
  refine f1 fs c loc ((.builtin id, .st (.builtin id)) :: (vs.zip ps ++ ((.str x t, .str x) :: ts))) rs s1 Q E (.builtin id) (.str x t :: vs) [] hd hu (R1.prim fun _ => .st _) (.head _) (by simp [hl]) (fun p hp => ?_) rfl (fun _ h => (nomatch h)) fun v pv g' s' R' f => q v pv g' s' (R'.weaken fun p hp => (List.mem_cons.mp hp).elim (fun e => e ▸ .head _) fun h => .tail _ (.tail _ (List.mem_append_right _ (.tail _ h)))) f
  rcases List.mem_cons.mp hp with rfl | hp
  · exact .tail _ (List.mem_append_right _ (.head _))
  · exact .tail _ (List.mem_append_left _ hp)
theorem E_meth_list (slot : Slot "list" name id) (ty : typeOf (.builtin id) = pure (.type "method_descriptor")) (hd : c.dp ≤ d) (hu : c.un ≤ 10 * d)
    (h : EvalV c env o loc g (kMl c env pos (e :: es) loc d id Φ)) {pl : Sem Bool}
    (hc : eval (.Call (.Attribute o name apos) (e :: es) [] pos) env = (do let ov ← eval o env; standAt apos.atName; let (f, first) ← holding [ov] (getMethod ov name pl); callWith pos f first (backTo pos (starEach (e :: es) env)) []) := by rfl)
    (he : starEach (e :: es) env = (false, eval e env) :: starEach es env := by rfl) (hp : (backTo pos (starEach es env)).any (·.1) = false := by rfl) : EvalV c env (.Call (.Attribute o name apos) (e :: es) [] pos) loc g Φ := by
  intro ts rs s Q E R q
  refine MethodCall_ (h ts rs s _ E R fun v pv g0 s0 R0 f0 => ?_) hc
  obtain ⟨a, items, rfl, hm, f0⟩ := f0
  have hv := R0.lst (.head _); subst hv
  obtain ⟨m, i, u, R0'⟩ := _root_.id R0
  obtain ⟨ws, n, h1, h2, h3, h4⟩ := R0'.listAt hm
  refine getMethod_list_of slot ty h4 ⟨_, h3, rfl⟩ ?_
  refine callWith_method1 ?_ he hp
  refine f0 _ rs s0 _ E R0 fun vs ps g1 s1 hl R1 f1 => ?_
  refine f1 fs c loc ((.builtin _, .st (.builtin _)) :: (vs.zip ps ++ ((.ref a, .lst a) :: ts))) rs s1 Q E (.builtin _) (.ref a :: vs) [] hd hu (R1.prim fun _ => .st _) (.head _) (by simp [hl]) (fun p hp => ?_) rfl (fun _ h => (nomatch h)) fun v pv g' s' R' f => q v pv g' s' (R'.weaken fun p hp => (List.mem_cons.mp hp).elim (fun e => e ▸ .head _) fun h => .tail _ (.tail _ (List.mem_append_right _ (.tail _ h)))) f
  rcases List.mem_cons.mp hp with rfl | hp
  · exact .tail _ (List.mem_append_right _ (.head _))
  · exact .tail _ (List.mem_append_left _ hp)
theorem E_meth0_list (slot : Slot "list" name id) (ty : typeOf (.builtin id) = pure (.type "method_descriptor")) (hd : c.dp ≤ d) (hu : c.un ≤ 10 * d)
    (h : EvalV c env o loc g (kM0 w d id Φ)) {pl : Sem Bool}
    (hc : eval (.Call (.Attribute o name apos) [] [] pos) env = (do let ov ← eval o env; standAt apos.atName; let (f, first) ← holding [ov] (getMethod ov name pl); callWith pos f first (backTo pos (starEach [] env)) []) := by rfl) : EvalV c env (.Call (.Attribute o name apos) [] [] pos) loc g Φ := by
  intro ts rs s Q E R q
  refine MethodCall_ (h ts rs s _ E R fun v pv g0 s0 R0 f0 => ?_) hc
  obtain ⟨a, items, rfl, hm, f0⟩ := f0
  have hv := R0.lst (.head _); subst hv
  obtain ⟨m, i, u, R0'⟩ := _root_.id R0
  obtain ⟨ws, n, h1, h2, h3, h4⟩ := R0'.listAt hm
  refine getMethod_list_of slot ty h4 ⟨_, h3, rfl⟩ ?_
  refine callWith_method0 ?_
  refine f0 fs c loc ((.builtin _, .st (.builtin _)) :: ((.ref a, .lst a) :: ts)) rs s0 Q E (.builtin _) [.ref a] [] hd hu (R0.prim fun _ => .st _) (.head _) rfl (fun p hp => ?_) rfl (fun _ h => (nomatch h)) fun v pv g' s' R' f => q v pv g' s' (R'.weaken dr2) f
  have : p = (.ref a, .lst a) := by simpa using hp
  subst this; exact .tail _ (.head _)
end calls

theorem insert_at {A : Around} {s : Shared} {Q : MVal → Shared → Prop} {E : MVal → Shared → Prop} (a : Addr) (items : Array MVal) (n : Nat) (k : Int) (t : Tok) (x : MVal) (hfit : ¬(!Builtin.List.listFitsIndex (k : Int)) = true) (hsz' : items.size ≤ sizeLine)
    (h3 : s.heap.get? a = some (listOf items n)) (h4 : s.heap.IsList a items) (hq : Q .none { s with heap := s.heap.update a (Obj.mapSeq fun xs => have k := if k < 0 then (k + ((xs.size : Nat) : Int)).toNat else min k.toNat xs.size; (xs.extract 0 k).push x ++ xs.extract k), toks := s.toks }) :
    wpAny (M0 w) A (call (.builtin "list.insert") [.ref a, .int k t, x]) Q E s := by
  refine call_meets (B := Builtin.«list.insert») PySem.F.slot_list_insert h4.typeIs PySem.F.entry_list_insert (PySem.F.args_list_insert_3 (.ref a) (.int k t) x) (@PySem.AutoListH.list_insert_list_int_val_1 a items n k t x hfit hsz') ⟨h3, ?_⟩
  exact hq
section builtins
variable {Φ : PV → GS → Prop} {d : Nat} {a : Addr} {items : List PV} {p : PV} {ls' : List (Addr × List PV)}
theorem F_append (hU : LUpd a items (items ++ [p]) g.lists ls') (hsz : items.length ≤ 1000000) (h : Φ .none { g with lists := ls' }) : CallR w d (.st (.builtin "list.append")) [.lst a, p] [] g Φ := by
  intro fs c loc ts rs s Q E fv vs ks _ _ R hf hl hp hk hkp q
  have := R.st hf; subst this
  obtain ⟨v, x, rfl⟩ := len2 hl
  have hv := R.lst (hp (v, .lst a) (by simp)); subst hv
  obtain ⟨m, i, u, R'⟩ := R
  obtain ⟨ws, n, h1, h2, h3, h4⟩ := R'.listAt hU.mem
  have hx := R'.temps _ (hp (x, p) (by simp))
  have e24 : sizeLine = 16777216 := by decide
  have hws : ws.length ≤ 1000000 := h2.length ▸ hsz
  refine append_K (D := a) (its := ws.toArray) (n := n) R'.fr R'.nw (R'.upd (o' := listOf (ws ++ [x]).toArray (n + 1)) h1 |> fun U => by simpa using U) (fun h' F' N' => ?_) (by rw [e24]; simp; (first | lia | omega))
  refine q _ _ _ _ (Rel.prim ⟨m, i, _, R'.setList (vs := ws ++ [x]) (n := n + 1) (tk := s.toks) h1 ⟨_, _, rfl⟩ hU (h2.append (.cons hx .nil)) F' (by simpa using N') R'.tk⟩ fun _ => .none) h
theorem F_insert {k : Nat} (hU : LUpd a items (items.take k ++ p :: items.drop k) g.lists ls') (hsz : items.length ≤ 1000000) (hk : k ≤ items.length) (h : Φ .none { g with lists := ls' }) : CallR w d (.st (.builtin "list.insert")) [.lst a, .int k, p] [] g Φ := by
  intro fs c loc ts rs s Q E fv vs ks _ _ R hf hl hp hkk hkp q
  have := R.st hf; subst this
  obtain ⟨v, y, x, rfl⟩ := len3 hl
  have hv := R.lst (hp (v, .lst a) (by simp)); subst hv
  obtain ⟨t, rfl⟩ := R.int (hp (y, .int k) (by simp))
  obtain ⟨m, i, u, R'⟩ := R
  obtain ⟨ws, n, h1, h2, h3, h4⟩ := R'.listAt hU.mem
  have hx := R'.temps _ (hp (x, p) (by simp))
  have e24 : sizeLine = 16777216 := by decide
  have hws : ws.length ≤ 1000000 := h2.length ▸ hsz
  have hkw : k ≤ ws.length := h2.length ▸ hk
  let FF : Array MVal → Array MVal := fun xs => have k := if (k : Int) < 0 then ((k : Int) + ((xs.size : Nat) : Int)).toNat else min (k : Int).toNat xs.size; (xs.extract 0 k).push x ++ xs.extract k
  have eF : FF ws.toArray = (ws.take k ++ x :: ws.drop k).toArray := by
    have h0 : ¬ (k : Int) < 0 := by (first | lia | omega)
    apply Array.ext'
    simp [FF, h0, Nat.min_eq_left hkw]
    exact List.take_of_length_le (by simp)
  obtain ⟨k', ek⟩ := mapSeq_listOf FF (n := n) eF
  have hfit : ¬(!Builtin.List.listFitsIndex (k : Int)) = true := by
    have e1 : decide (-(2 ^ 63 : Int) ≤ (k : Int)) = true := decide_eq_true (by (first | lia | omega))
    have e2 : decide ((k : Int) < 2 ^ 63) = true := decide_eq_true (by (first | lia | omega))
    rw [Builtin.List.listFitsIndex, e1, e2]; decide
  have RR := R'.listSet (tk := s.toks) h1 ek hU ((h2.take k).append (.cons hx (h2.drop k))) R'.tk
  exact insert_at a ws.toArray n k t x hfit (by rw [e24]; simp; (first | lia | omega)) h3 h4 (q _ _ _ _ (Rel.prim ⟨m, i, _, RR⟩ fun _ => .none) h)
theorem F_pop (hU : LUpd a (items ++ [p]) items g.lists ls') (hsz : items.length ≤ 1000000) (h : Φ p { g with lists := ls' }) : CallR w d (.st (.builtin "list.pop")) [.lst a] [] g Φ := by
  intro fs c loc ts rs s Q E fv vs ks _ _ R hf hl hp hkk hkp q
  have := R.st hf; subst this
  obtain ⟨v, rfl⟩ := len1 hl
  have hv := R.lst (hp (v, .lst a) (by simp)); subst hv
  obtain ⟨m, i, u, R'⟩ := R
  obtain ⟨ws, n, h1, h2, h3, h4⟩ := R'.listAt hU.mem
  have e24 : sizeLine = 16777216 := by decide
  have hws : ws.length = items.length + 1 := by rw [h2.length]; simp
  obtain ⟨x, hx, hr⟩ := h2.get (k := items.length) (d := p) (by simp)
  have hd := h2.take items.length
  rw [List.take_left] at hd
  let FF : Array MVal → Array MVal := fun xs => xs.eraseIdxIfInBounds (ws.toArray.size - 1)
  have eF : FF ws.toArray = (ws.take items.length).toArray := by
    apply Array.ext'
    have : ws.length - 1 = items.length := by (first | lia | omega)
    simp [FF, Array.eraseIdxIfInBounds, hws]
    rw [List.eraseIdx_eq_take_drop_succ]
    simp [hws]
  obtain ⟨k', ek⟩ := mapSeq_listOf FF (n := n) eF
  refine call_meets PySem.F.slot_list_pop h4.typeIs PySem.F.entry_list_pop (PySem.F.args_list_pop_1 _) (PySem.MeetsSeq.list_pop_last a ws.toArray n x (by simpa [hws] using hx) (by rw [e24]; simp; (first | lia | omega))) ⟨h3, ?_⟩
  exact q _ _ _ _ ⟨m, i, _, (R'.listSet (tk := s.toks) h1 ek hU hd R'.tk).temp hr⟩ h
end builtins

section texts
variable {pos apos : Pos} {o : PySem.Expr} {Φ : PV → GS → Prop} {d : Nat} {x y z : MStr}
theorem F_startswith (h : Φ (.bool (Txt.startswith x y)) g) : CallR w d (.st (.builtin "str.startswith")) [.str x, .str y] [] g Φ := by
  intro fs c loc ts rs s Q E fv vs ks _ _ R hf hl hp hkk hkp q
  have := R.st hf; subst this
  obtain ⟨v, u, rfl⟩ := len2 hl
  obtain ⟨t, rfl⟩ := R.str (hp (v, .str x) (by simp))
  obtain ⟨t', rfl⟩ := R.str (hp (u, .str y) (by simp))
  exact SC.startswith (q _ _ g _ (R.prim fun _ => .bool _) h)
theorem vall_strs {imm : Led} : ∀ {vs : List MVal} {ss : List MStr}, VAll imm vs (ss.map .str) → StrsAre vs ss
  | [], [], _ => .nil
  | v :: vs, x :: ss, h => by
    cases h with
    | cons h r =>
      obtain ⟨t, rfl⟩ := vrel_str h
      exact .cons x t (vall_strs r)
theorem F_join {a : Addr} {ss : List MStr} (hm : (a, ss.map .str) ∈ g.lists) (hsz : (ss.map (·.length)).sum + ss.length * x.length ≤ 16777216) (h : Φ (.str (Txt.join x ss)) g) : CallR w d (.st (.builtin "str.join")) [.str x, .lst a] [] g Φ := by
  intro fs c loc ts rs s Q E fv vs ks _ _ R hf hl hp hkk hkp q
  have := R.st hf; subst this
  obtain ⟨v, u, rfl⟩ := len2 hl
  obtain ⟨t, rfl⟩ := R.str (hp (v, .str x) (by simp))
  have hv := R.lst (hp (u, .lst a) (by simp)); subst hv
  obtain ⟨m, i, u, R'⟩ := R
  obtain ⟨ws, n, h1, h2, h3, h4⟩ := R'.listAt hm
  refine wpAny_with_toks (n := 1) R'.tk (join_list h4 (by simpa using vall_strs h2) hsz fun t' k (htk : 0 < k) => ?_)
  exact q _ _ g _ (Rel.prim (Rel.ticked ⟨m, i, u, R'⟩ htk) fun _ => .str _ _) h
theorem E_replace {k1 k2 : Nat} {p1 p2 : Pos} (hyz : (y == z) = false) (h : EvalV c env o loc g (kRp y z Φ)) {pl : Sem Bool}
    (hc : eval (.Call (.Attribute o "replace" apos) [.Constant (.str y) k1 p1, .Constant (.str z) k2 p2] [] pos) env = (do let ov ← eval o env; standAt apos.atName; let (f, first) ← holding [ov] (getMethod ov "replace" pl); callWith pos f first (backTo pos (starEach [.Constant (.str y) k1 p1, .Constant (.str z) k2 p2] env)) []) := by rfl) :
    EvalV c env (.Call (.Attribute o "replace" apos) [.Constant (.str y) k1 p1, .Constant (.str z) k2 p2] [] pos) loc g Φ := by
  intro ts rs s Q E R q
  refine MethodCall_ (h ts rs s _ E R fun v pv g0 s0 R0 f0 => ?_) hc
  obtain ⟨x, rfl, hb, f0⟩ := f0
  obtain ⟨t, rfl⟩ := R0.str (.head _)
  refine GM.of _ (typeIs_str _ _ _) PySem.F.slot_str_replace PySem.F.type_str_replace GM.noRef ?_
  refine callWith_method1 (args_cons (wpAny_mkText (args_cons (wpAny_mkText (args_nil ?_))))) rfl rfl
  have h0 := R0.tkp
  refine wpAny_with_toks (n := 1) (Nat.succ_pos _) (SC.replace (Nat.ne_of_gt h0) (Nat.succ_ne_zero _) (Nat.ne_of_lt (Nat.lt_succ_self _)) hyz hb fun t' k (htk : 0 < k) => ?_)
  exact q _ _ g0 _ ((R0.ticked (tk := k)).weaken tl1 |>.prim fun _ => .str _ _) f0
end texts

section stmts
variable {Ψ : FV → Loc → GS → Prop} {pos pos' : Pos} {e : PySem.Expr} {x : MStr}
noncomputable abbrev kEx (Ψ : FV → Loc → GS → Prop) (loc : Loc) : PV → GS → Prop := fun p g' => Ψ .next loc g'
theorem S_expr (h : EvalV c c.env e loc g (kEx Ψ loc)) (hi : interactive c.env = false := by rfl) (hs : swapsWith e none pos.line c.env = pure false := by rfl) : StmtV c (.Expr e pos) loc g Ψ := by
  intro ts rs s Q E R q
  rw [exec_Expr c.env e pos hi hs]
  refine wpAny_bind (wpAny_standAt (wpAny_bind (h ts rs s _ E R fun v pv g' s' R' f => ?_)))
  have fin : Q .next s' := q _ _ _ _ _ _ .next (R'.weaken tl1) f
  unfold dropValue
  split
  · exact wpAny_pure fin
  · exact wpAny_bind (wpAny_standAt (wpAny_bind (wpAny_runValue (codeAny_builtin entry_let_go (show wpAny _ _ (ret .none) _ _ _ from wpAny_pure (wpAny_pure fin))))))
  · exact wpAny_pure fin
noncomputable abbrev kOr (c : Cx w fs) (env : Env) (vs : List PySem.Expr) (pos : Pos) (loc : Loc) (Φ : Bool → GS → Prop) : Bool → GS → Prop := fun b g' => (b = true → Φ true g') ∧ (b = false → TestV c env (.BoolOp .Or vs pos) loc g' Φ)
noncomputable abbrev kAnd (c : Cx w fs) (env : Env) (vs : List PySem.Expr) (pos : Pos) (loc : Loc) (Φ : Bool → GS → Prop) : Bool → GS → Prop := fun b g' => (b = false → Φ false g') ∧ (b = true → TestV c env (.BoolOp .And vs pos) loc g' Φ)
theorem T_or {vs : List PySem.Expr} {Φ : Bool → GS → Prop} (h : TestV c env e loc g (kOr c env vs pos loc Φ)) : TestV c env (.BoolOp .Or (e :: vs) pos) loc g Φ := by
  intro ts rs s Q E R q
  refine wpAny_isTrue_BoolOp (wpAny_allTrue_Or_cons (h ts rs s _ E R fun b g' s' R' f => ?_))
  cases b with
  | true => exact q true g' s' R' (f.1 rfl)
  | false => exact f.2 rfl ts rs s' Q E R' q
theorem T_or_nil {Φ : Bool → GS → Prop} (h : Φ false g) : TestV c env (.BoolOp .Or [] pos) loc g Φ := fun ts rs s Q E R q => wpAny_isTrue_BoolOp (wpAny_allTrue_Or_nil (q false g s R h))
theorem T_and {vs : List PySem.Expr} {Φ : Bool → GS → Prop} (h : TestV c env e loc g (kAnd c env vs pos loc Φ)) : TestV c env (.BoolOp .And (e :: vs) pos) loc g Φ := by
  intro ts rs s Q E R q
  refine wpAny_isTrue_BoolOp (wpAny_allTrue_And_cons (h ts rs s _ E R fun b g' s' R' f => ?_))
  cases b with
  | false => exact q false g' s' R' (f.1 rfl)
  | true => exact f.2 rfl ts rs s' Q E R' q
theorem T_and_nil {Φ : Bool → GS → Prop} (h : Φ true g) : TestV c env (.BoolOp .And [] pos) loc g Φ := fun ts rs s Q E R q => wpAny_isTrue_BoolOp (wpAny_allTrue_And_nil (q true g s R h))
theorem S_try {body orelse : List Stmt} {h₀ : ExceptHandler} {hs : List ExceptHandler} (h : ExecV c body loc g fun f l g' => match f with | .next => ExecV c orelse l g' Ψ | f => Ψ f l g') : StmtV c (.Try body (h₀ :: hs) orelse [] pos) loc g Ψ := by
  intro ts rs s Q E R q
  refine wpAny_Try_except (h ts rs s _ _ R fun f fv us l g' s' a R' p => ?_)
  cases a with
  | next => exact p ts rs s' Q E R' q
  | brk => exact q _ _ _ _ _ _ .brk R' p
  | cont => exact q _ _ _ _ _ _ .cont R' p
  | ret v pv => exact q _ _ _ _ _ _ (.ret v pv) R' p
theorem S_aug {op : Operator} {pv : PV} (hl : loc.lookup x = some pv) (h : EvalV c c.env e loc g fun p g' => InpR w op pv p g' fun r g'' => Ψ .next ((x, r) :: loc) g'') (hk : fs.cs.names.lookup x = some .local := by rfl) : StmtV c (.AugAssign (.Name x pos') op e pos) loc g Ψ := by
  intro ts rs s Q E R q
  obtain ⟨m, i, u, R0⟩ := _root_.id R
  obtain ⟨v, hv, hr⟩ := R0.loc x pv hl
  refine wpAny_AugAssign_Name (wpAny_loadName_local c.kind hk R0.fr.ns hv ?_)
  refine h ((v, pv) :: ts) rs s _ E ⟨m, i, u, R0.temp hr⟩ fun v2 p2 g1 s1 R1 f => ?_
  refine f fs c loc _ rs s1 _ E v v2 R1 (.tail _ (.head _)) (.head _) fun r pr g' s' R' f' => ?_
  obtain ⟨m', i', u', R'⟩ := R'
  have hv := R'.temps _ (.head _)
  refine storeX_L R'.fr R'.nw (fun h' F' N' => ?_) c.kind hk
  exact q _ _ _ _ _ _ .next (Rel.weaken ⟨_, i', u', R'.setLocal hv F' N' (Nat.succ_pos _)⟩ fun p hp => .tail _ (.tail _ (.tail _ hp))) f'
end stmts
section inp
variable {a b : Int} {Φ : PV → GS → Prop}
theorem N_add (h : Φ (.int (a + b)) g) : InpR w .Add (.int a) (.int b) g Φ := by
  intro fs c loc ts rs s Q E va vb R ha hb q
  obtain ⟨t, rfl⟩ := R.int ha
  obtain ⟨u, rfl⟩ := R.int hb
  exact P.iadd_int (q _ _ g _ (R.ticked.prim fun _ => .int _ _) h)
theorem N_sub (h : Φ (.int (a - b)) g) : InpR w .Sub (.int a) (.int b) g Φ := by
  intro fs c loc ts rs s Q E va vb R ha hb q
  obtain ⟨t, rfl⟩ := R.int ha
  obtain ⟨u, rfl⟩ := R.int hb
  exact P.isub_int (q _ _ g _ (R.ticked.prim fun _ => .int _ _) h)
end inp
end Mine
set_option maxHeartbeats 8000000
namespace Mine
variable {w : Wd} {fs : FS} {c : Cx w fs} {env : Env} {loc : Loc} {g : GS}

section isi
variable {prog : Program} {w' : World} {A : Around} {E : MVal → Shared → Prop} {s : Shared} {K : Frag} {C : Addr} {x : MStr} {u : Tok}
theorem kstr_nested {dep : Int} {tk : Tok} {Q : Fin → Shared → Prop} (hty : Looks (model prog w') s.heap (typeOf (.ref C)) (.type "type")) (his : Looks (model prog w') s.heap (isType (.ref C)) true)
    (hsub : Looks (model prog w') s.heap (isSubtype (.type "str") (.ref C)) false) (h : Q (.done (.ret (.bool false))) { s with toks := s.toks + 1 }) :
    wpAny (model prog w') A (Builtin.«isinstance.nested» ⟨[.str x u, .ref C, .int dep tk], []⟩) Q E s := by
  obtain ⟨h0, g, d, tt, os⟩ := s
  have hT : (⟨h0, g, d, tt, os⟩ : Shared).TypeIs (.str x u) "str" := rfl
  have L0 : Looks (model prog w') h0 (typeOf (.str x u)) (.type "str") := Looks.of_pure rfl
  have LI : Looks (model prog w') h0 (isInstance (.str x u) (.ref C)) false := L0.andThen hsub
  unfold Builtin.«isinstance.nested»
  refine wpAny_bind (L0.at ?_)
  rw [if_neg (fun e => by have := beq_iff_eq.mp e; cases this)]
  refine wpAny_bind (hty.at ?_)
  rw [if_pos (by decide)]
  k_delta "plainIsInstance"
  refine wpAny_bind (wpAny_bind (his.at ?_))
  simp only [Bool.not_true, Bool.false_eq_true, if_false]
  refine wpAny_bind (LI.at ?_)
  simp only [Bool.false_eq_true, if_false]
  refine wpAny_bind (class_attr_str ?_)
  refine wpAny_bind ((Looks.of_pure (M := model prog w') (t := isType (.type "str")) (r := true) rfl).at ?_)
  simp only [Bool.not_true, Bool.false_eq_true, if_false]
  refine wpAny_bind (wpAny_rule ?_)
  refine hsub.at ?_
  first
    | exact wpAny_pure h
    | exact wpAny_pure (wpAny_pure h)
    | exact wpAny_bind (wpAny_pure (wpAny_pure h))
theorem looks_isCls {M : Model} {h : Heap} (X : K.In h) (hcl : (clsIn K C).isSome = true) : Looks M h (isType (.ref C)) true := by
  obtain ⟨cd, hc⟩ := Option.isSome_iff_exists.mp hcl
  unfold clsIn at hc
  split at hc
  · rename_i c' d' cd' sl' ho
    intro A' Q' E' s' k q
    unfold isType loadHead
    exact wpAny_bind (wpAny_loadPart (k _ _ (X _ _ ho)) (wpAny_pure q))
  · cases hc
theorem kstr_isi {Q : MVal → Shared → Prop} (X : K.In s.heap) (hty : typeIn K (.ref C) = some (.type "type")) (hcl : (clsIn K C).isSome = true) (hsub : subIn K (.type "str") (.ref C) = some false) (h : Q (.bool false) { s with toks := s.toks + 1 }) :
    wpAny (model prog w') A (call (.builtin "isinstance") [.str x u, .ref C]) Q E s :=
  call_isinstance (S := fun _ R s => K.In s.heap ∧ R (.ok (.ret (.bool false))) { s with toks := s.toks + 1 })
    (fun _ _ _ _ _ hs => isinstance_outer (kstr_nested (looks_typeIn hs.1 hty) (looks_isCls hs.1 hcl) (looks_subIn hs.1 hsub) hs.2) (by intro q; cases q)) ⟨X, h⟩
end isi

section qname
variable {Φ : PV → GS → Prop} {d : Nat} {x y : MStr}
theorem F_isi_str (h : Φ (.bool false) g) : CallR w d (.st (.builtin "isinstance")) [.str y, .st (.ref 136)] [] g Φ := by
  intro fs c loc ts rs s Q E fv vs ks _ _ R hf hl hp hkk hkp q
  have := R.st hf; subst this
  obtain ⟨v, u, rfl⟩ := len2 hl
  obtain ⟨t, rfl⟩ := R.str (hp (v, .str y) (by simp))
  have hu := R.st (hp (u, .st (.ref 136)) (by simp)); subst hu
  obtain ⟨m, i, mu, R'⟩ := _root_.id R
  exact kstr_isi (K := KK w) (c.kin.keeps R'.fr.keep) rfl rfl rfl (q _ _ g _ (R.ticked.prim fun _ => .bool _) h)
theorem RelW.qnAt {ts : List (MVal × PV)} {rs : Led} {s : Shared} {m : MStr → Option MVal} {imm mu : Led} {v : MVal} (R : RelW c loc g ts rs s m imm mu) (h : VRel imm v (.qn x)) :
    ∃ a dx es n t, v = .ref a ∧ InstAt s.heap a (instObj 136 dx) 136 (some (dictOf es n)) ∧ getL (Str.ofString "text") es = some (some (.str x t)) := by
  cases h with
  | @qn a dx es n _ t h1 h2 h3 =>
    exact ⟨a, dx, es, n, t, rfl, InstAt.of_news R.nw (List.mem_append_left _ h1) (List.mem_append_left _ h2), h3⟩
theorem F_isi_qn (h : Φ (.bool true) g) : CallR w d (.st (.builtin "isinstance")) [.qn y, .st (.ref 136)] [] g Φ := by
  intro fs c loc ts rs s Q E fv vs ks _ _ R hf hl hp hkk hkp q
  have := R.st hf; subst this
  obtain ⟨v, u, rfl⟩ := len2 hl
  have hu := R.st (hp (u, .st (.ref 136)) (by simp)); subst hu
  obtain ⟨m, i, mu, R'⟩ := _root_.id R
  obtain ⟨a, dx, es, n, t, rfl, I, hg⟩ := R'.qnAt (R'.temps _ (hp (v, .qn y) (by simp)))
  exact isi_call (K := KK w) (c.kin.keeps R'.fr.keep) (fun M => I.type) rfl (by intro e; cases e) (q _ _ g _ (R.prim fun _ => .bool _) h)
theorem E_text {e : PySem.Expr} {pos : Pos} (h : EvalV c env e loc g fun p g1 => ∃ x, p = .qn x ∧ Φ (.str x) g1)
    (he : eval (.Attribute e "text" pos) env = (do let o ← eval e env; standAt pos.atName; let r ← holding [o] (getAttr o "text" true); letTemporaryGo e o r; pure r) := by with_unfolding_all rfl) : EvalV c env (.Attribute e "text" pos) loc g Φ := by
  intro ts rs s Q E R q
  refine Attribute_any_ (h ts rs s _ E R fun v p g1 s1 R1 f => ?_) he
  obtain ⟨x, rfl, f⟩ := f
  obtain ⟨m, i, mu, R'⟩ := _root_.id R1
  obtain ⟨a, dx, es, n, t, rfl, I, hg⟩ := R'.qnAt (R'.temps _ (.head _))
  refine get_own (K := KK w) R'.fr c.kin I rfl rfl (attr := Option.none) rfl rfl hg rfl ?_
  exact q _ _ g1 _ (R1.ticked.weaken tl1 |>.prim fun _ => .str _ _) f
theorem C_qn (hd : d ≤ 900) {p : PV} (hp : (∃ y, p = .qn y) ∨ (∃ y, p = .str y)) (h : CallR w d (.st (.ref 112)) [.qn x, p] [] g fun r g' => ∃ b, r = .bool b ∧ Φ (.bool b) g') : CmpR w d .Lt (.qn x) p g Φ := by
  intro fs c loc ts rs s Q E va vb h1 h2 R ha hb q
  obtain ⟨m, i, mu, R'⟩ := _root_.id R
  obtain ⟨a, dx, es, n, t, rfl, I, hg⟩ := R'.qnAt (R'.temps _ ha)
  refine cmp_ofLt ?_
  have hcall : wpAny (M0 w) c.A (call (.ref 112) [.ref a, vb]) (W.CmpBack Q) E s := by
    refine h fs c loc ((.ref 112, .st (.ref 112)) :: ts) rs s _ E (.ref 112) [.ref a, vb] [] h1 h2 (R.prim fun _ => .st _) (.head _) rfl (fun p hp => ?_) rfl (fun _ h => (nomatch h)) fun v pv g' s' R2 f => ?_
    · simp at hp
      rcases hp with rfl | rfl
      · exact .tail _ ha
      · exact .tail _ hb
    · obtain ⟨b, rfl, f⟩ := f
      have := R2.bool (.head _); subst this
      exact q _ _ g' s' (R2.weaken dr1) f
  have hu : c.A.units < cLine := by show c.un < cLine; unfold cLine; (first | lia | omega)
  rcases hp with ⟨y, rfl⟩ | ⟨y, rfl⟩
  · obtain ⟨a2, dx2, es2, n2, t2, rfl, I2, hg2⟩ := R'.qnAt (R'.temps _ hb)
    exact cmp_K (K := KK w) (C := 136) hu R'.fr c.kin I I2.type rfl rfl rfl hcall
  · obtain ⟨t2, rfl⟩ := R.str hb
    exact cmp_K (K := KK w) (C := 136) hu R'.fr c.kin I (tb := .type "str") (Looks.of_pure rfl) rfl rfl rfl hcall
end qname
end Mine
set_option maxHeartbeats 4000000
namespace Mine
noncomputable def bsL (t : Nat → Bool) : Nat → Nat → Nat → Nat
  | 0, lo, _ => lo
  | n + 1, lo, hi => if lo < hi then (if t ((lo + hi) / 2) then bsL t n ((lo + hi) / 2 + 1) hi else bsL t n lo ((lo + hi) / 2)) else lo

theorem mid_fdiv (lo hi : Nat) : ((lo : Int) + hi).fdiv 2 = ((lo + hi) / 2 : Nat) := by rw [Int.fdiv_eq_ediv_of_nonneg _ (by decide)]; (first | lia | omega)
theorem mid_lt {lo hi : Nat} (h : lo < hi) : (lo + hi) / 2 < hi := by (first | lia | omega)
theorem mid_ge {lo hi : Nat} (h : lo < hi) : lo ≤ (lo + hi) / 2 := by (first | lia | omega)
theorem mid_r {lo hi n : Nat} (h : hi - lo ≤ n + 1) (h1 : lo < hi) : hi - ((lo + hi) / 2 + 1) ≤ n := by (first | lia | omega)
theorem mid_l {lo hi n : Nat} (h : hi - lo ≤ n + 1) (h1 : lo < hi) : (lo + hi) / 2 - lo ≤ n := by (first | lia | omega)
theorem lt_of_dec {lo hi : Nat} (h : decide ((lo : Int) < hi) = true) : lo < hi := Int.ofNat_lt.mp (of_decide_eq_true h)
theorem nlt_of_dec {lo hi : Nat} (h : decide ((lo : Int) < hi) = false) : ¬ lo < hi := fun e => of_decide_eq_false h (Int.ofNat_lt.mpr e)
theorem succ_of {lo hi n : Nat} (h : hi - lo ≤ n) (h1 : lo < hi) : ∃ k, n = k + 1 := ⟨n - 1, by (first | lia | omega)⟩
theorem spec_bl_plain {w : Wd} {d : Nat} {g : GS} {a : Addr} {sl : List MStr} {x : MStr} {Φ : PV → GS → Prop} (hd : d ≤ 800) (hm : (a, sl.map .str) ∈ g.lists) (hlen : sl.length < 1000)
    (h : Φ (.int (bsL (fun k => decide ((sl.getD k Str.empty).cps.toList < x.cps.toList)) sl.length 0 sl.length : Nat)) g) :
    CallR w d (.st (.ref 41)) [.lst a, .str x] [] g Φ := by
  refine' CallR_fn (loc' := [("a", .lst a), ("x", .str x), ("lo", .int 0), ("hi", .none), ("key", .none)]) ?ho ?hcd (by (first | lia | omega)) ?hb ?hk ?h ?c1 ?c2 ?c3
  case ho => exact rfl
  case hcd => exact rfl
  case hk => exact rfl
  case c1 => exact rfl
  case c2 => exact rfl
  case c3 => decide
  case hb =>
    intro vs ks hv hk
    obtain ⟨v1, v2, rfl⟩ := len2 hv
    obtain rfl := len0 hk
    · refine ⟨[("a", v1), ("x", v2), ("lo", .int 0 216), ("hi", .none), ("key", .none)], fun S => by kernel_rfl, rfl, fun imm h1 h2 => ?_⟩
      have e1 := h1 (v1, .lst a) (by simp)
      have e2 := h1 (v2, .str x) (by simp)
      exact LocOk.of_binds (ns := ["a", "x", "lo", "hi", "key"]) rfl (by decide) ⟨rfl, e1, rfl, e2, rfl, .int _ _, rfl, .none, rfl, .none, trivial⟩
  case h =>
    intro c' hd' hu'
    refine X_cons (S_iff (T_cmp _ hd' hu' (E_local rfl (E_int (C_lt ⟨_, rfl, by decide, X_nil ?_⟩)))))
    refine X_cons (S_ift (T_cmp _ hd' hu' (E_local rfl (E_none (C_is_none (by intro u e; cases e) ⟨_, rfl, rfl, ?_⟩)))))
    refine X_cons (S_assign (E_call_bi hd' hu' (E_builtin rfl rfl (by decide) ⟨rfl, A_cons (E_local rfl (A_nil (F_len_list hm (by rw [List.length_map]; (first | lia | omega)) ?_)))⟩)))
    refine X_nil ?_
    refine X_cons (S_ift (T_cmp _ hd' hu' (E_local rfl (E_none (C_is_none (by intro u e; cases e) ⟨_, rfl, rfl, ?_⟩)))))
    refine X_cons (S_while (fun n loc g' => g' = g ∧ ∃ lo hi : Nat, hi - lo ≤ n ∧ lo ≤ hi ∧ hi ≤ sl.length ∧ Has loc "a" (.lst a) ∧ Has loc "x" (.str x) ∧ Has loc "lo" (.int lo) ∧ Has loc "hi" (.int hi) ∧
      Φ (.int (bsL (fun k => decide ((sl.getD k Str.empty).cps.toList < x.cps.toList)) n lo hi : Nat)) g) ?turn sl.length ?start)
    case start =>
      refine ⟨rfl, 0, sl.length, Nat.sub_le _ _, Nat.zero_le _, Nat.le_refl _, rfl, rfl, rfl, ?_, h⟩
      rw [List.length_map]; rfl
    case turn =>
      rintro n loc _ ⟨rfl, lo, hi, h0, h1, h2, ha, hx, hlo, hhi, hΦ⟩
      refine T_cmp _ hd' hu' (E_local hlo (E_local hhi (C_lt ⟨_, rfl, fun ht => ?_, fun ht => ?_⟩)))
      · have hlt : lo < hi := lt_of_dec ht
        obtain ⟨n, rfl⟩ := succ_of h0 hlt
        refine X_cons (S_assign (E_bin (E_bin (E_local hlo (E_local hhi (B_add (E_int (B_div (by decide) (by decide) ?_))))))))
        have e2 : ((lo : Int) + hi).fdiv 2 = ((lo + hi) / 2 : Nat) := mid_fdiv lo hi
        rw [e2]
        have hlt2 : (lo + hi) / 2 < sl.length := Nat.lt_of_lt_of_le (mid_lt hlt) h2
        refine X_cons (S_if (T_cmp _ hd' hu' (E_sub (E_local ha (E_local rfl (I_list hm (by (first | lia | omega)) (by (first | lia | omega)) (p := .str (sl.getD ((lo + hi) / 2) Str.empty)) ?_ (E_local hx (C_lts ⟨_, rfl, fun hc => ?_, fun hc => ?_⟩))))))))
        · rw [Int.toNat_natCast]; simp [hlt2]
        · refine X_cons (S_assign (E_bin (E_local rfl (E_int (B_add (X_nil (X_nil ⟨n, Nat.lt_succ_self n, rfl, (lo + hi) / 2 + 1, hi, mid_r h0 hlt, mid_lt hlt, h2, ha, hx, rfl, hhi, ?_⟩)))))))
          rw [bsL, if_pos hlt, if_pos hc] at hΦ
          exact hΦ
        · refine X_cons (S_assign (E_local rfl (X_nil (X_nil ⟨n, Nat.lt_succ_self n, rfl, lo, (lo + hi) / 2, mid_l h0 hlt, mid_ge hlt, Nat.le_trans (Nat.le_of_lt (mid_lt hlt)) h2, ha, hx, hlo, rfl, ?_⟩))))
          rw [bsL, if_pos hlt, if_neg (by rw [hc]; decide)] at hΦ
          exact hΦ
      · have hlt : ¬ lo < hi := nlt_of_dec ht
        refine X_nil (X_nil (X_cons (S_ret (E_local hlo ?_))))
        have e : bsL (fun k => decide ((sl.getD k Str.empty).cps.toList < x.cps.toList)) n lo hi = lo := by
          cases n with
          | zero => rfl
          | succ n => rw [bsL, if_neg hlt]
        rw [e] at hΦ
        exact hΦ
end Mine
set_option maxHeartbeats 4000000
namespace Mine
noncomputable def dueP (odd : Int) (x : MStr) : MStr :=
  if x == "&" then "&amp;" else if x == "<" then "&lt;" else if x == "\r" && odd == 1 then "&#xD;" else if x == "\r" then x else (Str.ofString "\\") ++ x

theorem spec_due {w : Wd} {d : Nat} {g : GS} {odd : Int} {x : MStr} {Φ : PV → GS → Prop} (hd : d ≤ 800) (hx : x.length ≤ 100) (h : Φ (.str (dueP odd x)) g) :
    CallR w d (.st (.ref 182)) [.int odd, .str x] [] g Φ := by
  refine' CallR_fn (loc' := [("odd", .int odd), ("sign", .str x)]) ?ho ?hcd (by (first | lia | omega)) ?hb ?hk ?h ?c1 ?c2 ?c3
  case ho => exact rfl
  case hcd => exact rfl
  case hk => exact rfl
  case c1 => exact rfl
  case c2 => exact rfl
  case c3 => decide
  case hb =>
    intro vs ks hv hk
    obtain ⟨v1, v2, rfl⟩ := len2 hv
    obtain rfl := len0 hk
    · refine ⟨[("odd", v1), ("sign", v2)], fun S => by kernel_rfl, rfl, fun imm h1 h2 => ?_⟩
      have e1 := h1 (v1, .int odd) (by simp)
      have e2 := h1 (v2, .str x) (by simp)
      exact LocOk.of_binds (ns := ["odd", "sign"]) rfl (by decide) ⟨rfl, e1, rfl, e2, trivial⟩
  case h =>
    intro c' hd' hu'
    refine X_cons (S_if (T_cmp _ hd' hu' (E_local rfl (E_str (C_eqs ⟨_, rfl, fun t1 => X_cons (S_ret (E_str ?_)), fun t1 => X_nil ?_⟩)))))
    · rw [dueP, if_pos t1] at h; exact h
    rw [dueP, if_neg (by rw [t1]; decide)] at h
    refine X_cons (S_if (T_cmp _ hd' hu' (E_local rfl (E_str (C_eqs ⟨_, rfl, fun t2 => X_cons (S_ret (E_str ?_)), fun t2 => X_nil ?_⟩)))))
    · rw [if_pos t2] at h; exact h
    rw [if_neg (by rw [t2]; decide)] at h
    refine X_cons (S_if (T_and (T_cmp _ hd' hu' (E_local rfl (E_str (C_eqs ⟨_, rfl, fun t3 => no_ rfl (X_nil ?_), fun t3 => T_and (T_cmp _ hd' hu' (E_local rfl (E_int (C_eqi ⟨_, rfl, fun t4 => no_ rfl (X_nil ?_), fun t4 => T_and_nil (yes_ rfl (X_cons (S_ret (E_str ?_))))⟩))))⟩))))))
    · rw [if_neg (by rw [t3]; simp)] at h
      refine X_cons (S_if (T_cmp _ hd' hu' (E_local rfl (E_str (C_eqs ⟨_, rfl, fun t5 => X_cons (S_ret (E_local rfl ?_)), fun t5 => X_nil (X_cons (S_ret (E_bin (E_str (E_local rfl (B_cat ?_ ?_))))))⟩)))))
      · rw [if_pos t5] at h; exact h
      · have : sizeLine = 16777216 := by decide
        have e1 : (Str.ofString "\\").length = 1 := by decide
        (first | lia | omega)
      · rw [if_neg (by rw [t5]; decide)] at h; exact h
    · rw [if_neg (by rw [t3, t4]; decide)] at h
      refine X_cons (S_if (T_cmp _ hd' hu' (E_local rfl (E_str (C_eqs ⟨_, rfl, fun t5 => X_cons (S_ret (E_local rfl ?_)), fun t5 => X_nil (X_cons (S_ret (E_bin (E_str (E_local rfl (B_cat ?_ ?_))))))⟩)))))
      · rw [if_pos t5] at h; exact h
      · have : sizeLine = 16777216 := by decide
        have e1 : (Str.ofString "\\").length = 1 := by decide
        (first | lia | omega)
      · rw [if_neg (by rw [t5]; decide)] at h; exact h
    · rw [if_pos (by rw [t3, t4]; decide)] at h; exact h

noncomputable def escP (y z x : MStr) : MStr := if Txt.contains x y then Txt.replace x y z else x
noncomputable def escA (x : MStr) : MStr := escP ">" "&gt;" (escP "<" "&lt;" (escP "&" "&amp;" x))
noncomputable def escC (x : MStr) : MStr := escP "\r" "&#xD;" (escA x)
theorem esc_step {w : Wd} {fs : FS} {c : Cx w fs} {d : Nat} {loc : Loc} {g : GS} {x y z : MStr} {k0 k1 k2 : Nat} {q0 q1 q2 q3 q4 q5 q6 q7 q8 p1 p2 : Pos} {rest : List Stmt} {Ψ : FV → Loc → GS → Prop} (hd' : c.dp ≤ d) (hu' : c.un ≤ 10 * d) (hx : x.length ≤ 100) (hz : z.length ≤ 100) (hyz : (y == z) = false) (hl : Has loc "text" (.str x))
    (hk : fs.cs.names.lookup (Str.ofString "text") = some NameKind.local) (k : ∀ l, Has l "text" (.str (escP y z x)) → ExecV c rest l g Ψ) {pl : Sem Bool}
    (hc : eval (.Call (.Attribute (.Name "text" q4) "replace" q5) [.Constant (.str y) k1 p1, .Constant (.str z) k2 p2] [] q6) c.env = (do let ov ← eval (.Name "text" q4) c.env; standAt q5.atName; let (f, first) ← holding [ov] (getMethod ov "replace" pl); callWith q6 f first (backTo q6 (starEach [.Constant (.str y) k1 p1, .Constant (.str z) k2 p2] c.env)) []) := by rfl) :
    ExecV c (.If (.Compare (.Constant (.str y) k0 q0) [.In] [.Name "text" q1] q2) [.Assign [.Name "text" q3] (.Call (.Attribute (.Name "text" q4) "replace" q5) [.Constant (.str y) k1 p1, .Constant (.str z) k2 p2] [] q6) q7] [] q8 :: rest) loc g Ψ := by
  have e24 : x.length + (x.length + 1) * z.length ≤ 16777216 := by
    have : (x.length + 1) * z.length ≤ 101 * 100 := Nat.mul_le_mul (by (first | lia | omega)) hz
    (first | lia | omega)
  refine X_join (fun l g' => g' = g ∧ Has l "text" (.str (escP y z x))) (S_if (T_cmp d hd' hu' (E_str (E_local hl (C_in ⟨_, rfl, fun t => ?_, fun t => ?_⟩) hk)))) ?_
  · refine X_cons (S_assign (E_replace hyz (E_local hl ⟨x, rfl, e24, X_nil ⟨rfl, rfl, ?_⟩⟩ hk) (hc := hc)) hk)
    show List.lookup _ _ = _
    rw [escP, if_pos t]
    simp
  · refine X_nil ⟨rfl, rfl, ?_⟩
    rw [escP, if_neg (by rw [t]; decide)]
    exact hl
  · rintro l g' ⟨rfl, h⟩
    exact k l h
theorem spec_escA {w : Wd} {d : Nat} {g : GS} {x : MStr} {Φ : PV → GS → Prop} (hd : d ≤ 800) (h0 : x.length ≤ 100) (h1 : (escP "&" "&amp;" x).length ≤ 100) (h2 : (escP "<" "&lt;" (escP "&" "&amp;" x)).length ≤ 100) (h : Φ (.str (escA x)) g) :
    CallR w d (.st (.ref 154)) [.str x] [] g Φ := by
  refine' CallR_fn (loc' := [("text", .str x)]) ?ho ?hcd (by (first | lia | omega)) ?hb ?hk ?h ?c1 ?c2 ?c3
  case ho => exact rfl
  case hcd => exact rfl
  case hk => exact rfl
  case c1 => exact rfl
  case c2 => exact rfl
  case c3 => decide
  case hb =>
    intro vs ks hv hk
    obtain ⟨v1, rfl⟩ := len1 hv
    obtain rfl := len0 hk
    · refine ⟨[("text", v1)], fun S => by kernel_rfl, rfl, fun imm h1 h2 => ?_⟩
      exact LocOk.of_binds (ns := ["text"]) rfl (by decide) ⟨rfl, h1 (v1, .str x) (by simp), trivial⟩
  case h =>
    intro c' hd' hu'
    refine X_cons (S_try ?_)
    refine esc_step hd' hu' h0 (by decide) (by decide) rfl rfl fun l1 e1 => ?_
    refine esc_step hd' hu' h1 (by decide) (by decide) e1 rfl fun l2 e2 => ?_
    refine esc_step hd' hu' h2 (by decide) (by decide) e2 rfl fun l3 e3 => ?_
    exact X_cons (S_ret (E_local e3 h))
theorem spec_escC {w : Wd} {d : Nat} {g : GS} {x : MStr} {Φ : PV → GS → Prop} (hd : d ≤ 800) (h0 : x.length ≤ 100) (h1 : (escP "&" "&amp;" x).length ≤ 100) (h2 : (escP "<" "&lt;" (escP "&" "&amp;" x)).length ≤ 100) (h3 : (escA x).length ≤ 100) (h : Φ (.str (escC x)) g) :
    CallR w d (.st (.ref 161)) [.str x] [] g Φ := by
  refine' CallR_fn (loc' := [("text", .str x)]) ?ho ?hcd (by (first | lia | omega)) ?hb ?hk ?h ?c1 ?c2 ?c3
  case ho => exact rfl
  case hcd => exact rfl
  case hk => exact rfl
  case c1 => exact rfl
  case c2 => exact rfl
  case c3 => decide
  case hb =>
    intro vs ks hv hk
    obtain ⟨v1, rfl⟩ := len1 hv
    obtain rfl := len0 hk
    · refine ⟨[("text", v1)], fun S => by kernel_rfl, rfl, fun imm h1 h2 => ?_⟩
      exact LocOk.of_binds (ns := ["text"]) rfl (by decide) ⟨rfl, h1 (v1, .str x) (by simp), trivial⟩
  case h =>
    intro c' hd' hu'
    refine X_cons (S_try ?_)
    refine esc_step hd' hu' h0 (by decide) (by decide) rfl rfl fun l1 e1 => ?_
    refine esc_step hd' hu' h1 (by decide) (by decide) e1 rfl fun l2 e2 => ?_
    refine esc_step hd' hu' h2 (by decide) (by decide) e2 rfl fun l3 e3 => ?_
    refine esc_step hd' hu' h3 (by decide) (by decide) e3 rfl fun l4 e4 => ?_
    exact X_cons (S_ret (E_local e4 h))
noncomputable def handP (odd : Int) (x : MStr) : MStr := (if x == "(" || x == ")" then Str.ofString "\\" else Str.ofString "") ++ (if odd == 0 then escA x else escC x)
theorem spec_hand {w : Wd} {d : Nat} {g : GS} {odd : Int} {x : MStr} {Φ : PV → GS → Prop} (hd : d ≤ 700) (h0 : x.length ≤ 100) (h1 : (escP "&" "&amp;" x).length ≤ 100) (h2 : (escP "<" "&lt;" (escP "&" "&amp;" x)).length ≤ 100) (h3 : (escA x).length ≤ 100) (h4 : (escC x).length ≤ 100) (h : Φ (.str (handP odd x)) g) :
    CallR w d (.st (.ref 175)) [.int odd, .str x] [] g Φ := by
  refine' CallR_fn (loc' := [("odd", .int odd), ("sign", .str x)]) ?ho ?hcd (by (first | lia | omega)) ?hb ?hk ?h ?c1 ?c2 ?c3
  case ho => exact rfl
  case hcd => exact rfl
  case hk => exact rfl
  case c1 => exact rfl
  case c2 => exact rfl
  case c3 => decide
  case hb =>
    intro vs ks hv hk
    obtain ⟨v1, v2, rfl⟩ := len2 hv
    obtain rfl := len0 hk
    · refine ⟨[("odd", v1), ("sign", v2)], fun S => by kernel_rfl, rfl, fun imm h1 h2 => ?_⟩
      exact LocOk.of_binds (ns := ["odd", "sign"]) rfl (by decide) ⟨rfl, h1 (v1, .int odd) (by simp), rfl, h1 (v2, .str x) (by simp), trivial⟩
  case h =>
    intro c' hd' hu'
    refine X_cons (S_assign (E_str ?_))
    refine X_join (fun l g' => g' = g ∧ Has l "odd" (.int odd) ∧ Has l "sign" (.str x) ∧ Has l "written" (.str (if x == "(" || x == ")" then Str.ofString "\\" else Str.ofString ""))) (S_if (T_or (T_cmp _ hd' hu' (E_local rfl (E_str (C_eqs ⟨_, rfl, fun t => yes_ rfl ?_, fun t => T_or (T_cmp _ hd' hu' (E_local rfl (E_str (C_eqs ⟨_, rfl, fun t2 => yes_ rfl ?_, fun t2 => T_or_nil (no_ rfl ?_)⟩))))⟩)))))) ?_
    · refine X_cons (S_assign (E_str (X_nil ⟨rfl, rfl, rfl, rfl, ?_⟩)))
      rw [t]; rfl
    · refine X_cons (S_assign (E_str (X_nil ⟨rfl, rfl, rfl, rfl, ?_⟩)))
      rw [t2, Bool.or_true]; rfl
    · refine X_nil ⟨rfl, rfl, rfl, rfl, ?_⟩
      rw [t, t2]; rfl
    · rintro l g' ⟨rfl, ho, hs, hw⟩
      have e24 : sizeLine = 16777216 := by decide
      have ew : (if x == "(" || x == ")" then Str.ofString "\\" else Str.ofString "").length ≤ 1 := by split <;> decide
      refine X_cons (S_if (T_cmp _ hd' hu' (E_local ho (E_int (C_eqi ⟨_, rfl, fun t => ?_, fun t => ?_⟩)))))
      · refine X_cons (S_ret (E_bin (E_local hw (E_call rfl hd' hu' (E_global rfl ⟨rfl, A_cons (E_local hs (A_nil (spec_escA (by (first | lia | omega)) h0 h1 h2 (B_cat (by (first | lia | omega)) ?_))))⟩)))))
        unfold handP at h; rw [t] at h; exact h
      · refine X_nil (X_cons (S_ret (E_bin (E_local hw (E_call rfl hd' hu' (E_global rfl ⟨rfl, A_cons (E_local hs (A_nil (spec_escC (by (first | lia | omega)) h0 h1 h2 h3 (B_cat (by (first | lia | omega)) ?_))))⟩))))))
        unfold handP at h; rw [t] at h; exact h
end Mine
set_option maxHeartbeats 4000000
namespace Mine
variable {w : Wd} {fs : FS} {c : Cx w fs} {env : Env} {loc : Loc} {g : GS}

theorem T_name {x : MStr} {pos : Pos} {Φ : Bool → GS → Prop} (h : EvalV c env (.Name x pos) loc g fun p g' => TruthR w p g' Φ) : TestV c env (.Name x pos) loc g Φ := by
  intro ts rs s Q E R q
  show wpAny (M0 w) c.A (do let v ← eval (.Name x pos) env; standAt pos; holding [v] (truthy v)) Q E s
  refine wpAny_bind (h ts rs s _ E R fun v p g' s' R' f => ?_)
  refine wpAny_bind (wpAny_standAt (wpAny_holding ?_))
  exact f fs c loc _ rs s' Q E v R' (.head _) fun b g'' s'' R'' k => q b g'' s'' (R''.weaken tl1) k
theorem T_eval {e : PySem.Expr} {pos : Pos} {Φ : Bool → GS → Prop} (h : EvalV c env e loc g fun p g' => TruthR w p g' Φ)
    (hi : isTrue e env (eval e env) = (do let v ← eval e env; standAt pos; holding [v] (truthy v)) := by with_unfolding_all rfl) : TestV c env e loc g Φ := by
  intro ts rs s Q E R q
  rw [hi]
  refine wpAny_bind (h ts rs s _ E R fun v p g' s' R' f => ?_)
  refine wpAny_bind (wpAny_standAt (wpAny_holding ?_))
  exact f fs c loc _ rs s' Q E v R' (.head _) fun b g'' s'' R'' k => q b g'' s'' (R''.weaken tl1) k
theorem Tr_none {Φ : Bool → GS → Prop} (h : Φ false g) : TruthR w .none g Φ := by
  intro fs c loc ts rs s Q E va R ha q
  have := R.none ha; subst this
  exact truthy_none (q false g s R h)
theorem Tr_bool {b : Bool} {Φ : Bool → GS → Prop} (h : Φ b g) : TruthR w (.bool b) g Φ := by
  intro fs c loc ts rs s Q E va R ha q
  have := R.bool ha; subst this
  exact wpAny_truthy_bool (q b g s R h)

set_option maxHeartbeats 8000000 in
theorem spec_QName {d : Nat} {y : MStr} {Φ : PV → GS → Prop} (hd : d ≤ 800) (h : Φ (.qn y) g) : CallR w d (.st (.ref 136)) [.str y] [] g Φ := by
  intro fs c loc ts rs s Q E fv vs ks a1 a2 R a4 a5 a6 a7 a8 q
  have := R.st a4; subst this
  obtain ⟨v, rfl⟩ := len1 a5
  obtain ⟨t, rfl⟩ := R.str (a6 (v, .str y) (by simp))
  obtain ⟨m, imm, mu, R⟩ := R
  refine call_cls (K := KK w) (fI := 77) R.fr c.kin R.nw rfl rfl rfl fun x dx h' F' N' l1 l2 => ?_
  have l3 : ∀ p ∈ imm ++ (mu ++ rs), p.1 < x := fun p hp => Nat.lt_trans (l1 p hp) l2
  refine' code_def (K := KK w) (env := c.env) (outer := c.outer) c.below F' c.kin N' c.top rfl rfl c.kind ?ho ?hcd ?hroom ?hbind ?hloc ?hbody ?hco ?hgen ?hk ?hcell
  case ho => exact rfl
  case hcd => exact rfl
  case hroom => show c.dp + 1 < recursionLimit; unfold recursionLimit; (first | lia | omega)
  case hbind => exact kp_binds (binds := [("self", .ref x), ("text_or_uri", .str y t), ("tag", .none)]) (c.kin.keeps F'.keep) (fun S => by kernel_rfl)
  case hloc => exact locs rfl
  case hco => exact rfl
  case hgen => exact rfl
  case hk => exact rfl
  case hcell => decide
  case hbody =>
    intro gh L' h₁ FG F2 N2 B2 X2 T2
    obtain ⟨tl, ht1, ht2⟩ := loc_temps R.loc
    have hks : ks = [] := by cases ks with | nil => rfl | cons => cases a7
    subst hks
    let c' : Cx w ⟨"QName.__init__", { kind := .function, names := [("self", .local), ("text_or_uri", .local), ("tag", .local)], isGenerator := false, isCoroutine := false }, 77, .ref 76, []⟩ := { dp := c.dp + 1 + 1, un := c.un + 1 + 3, gd := c.gd, L := L', outer := c.env :: c.outer, A₀ := _, base := c.base, h₀ := gh, loose := c.loose, mean := c.mean, mg := c.mg, mb := c.mb, dr := c.dr, os := c.os, below := B2, kin := X2, top := T2, hds := c.hds.keeps FG.keep, scr := c.scr.keeps FG.keep, kind := rfl }
    have sub : ∀ p ∈ imm ++ (mu ++ ((x, instObj 136 dx) :: (dx, dictOf [] 0) :: rs)), p ∈ (x, instObj 136 dx) :: (dx, dictOf [] 0) :: (imm ++ (mu ++ rs)) := by
      intro p hp
      rcases List.mem_append.mp hp with hp | hp
      · exact .tail _ (.tail _ (List.mem_append_left _ hp))
      · rcases List.mem_append.mp hp with hp | hp
        · exact .tail _ (.tail _ (List.mem_append_right _ (List.mem_append_left _ hp)))
        · rcases List.mem_cons.mp hp with rfl | hp
          · exact .head _
          · rcases List.mem_cons.mp hp with rfl | hp
            · exact .tail _ (.head _)
            · exact .tail _ (.tail _ (List.mem_append_right _ (List.mem_append_right _ hp)))
    have perm : ∀ (o1 o2 : Addr × Obj) (i1 m1 : Led), List.Perm (i1 ++ (m1 ++ (o1 :: o2 :: rs))) (o1 :: o2 :: (i1 ++ (m1 ++ rs))) := by
      intro o1 o2 i1 m1
      rw [← List.append_assoc, ← List.append_assoc]
      exact List.perm_middle.trans (List.Perm.cons _ List.perm_middle)
    have ndx : (((x, instObj 136 dx) :: (dx, dictOf [] 0) :: (imm ++ (mu ++ rs))).map (·.1)).Nodup := by
      rw [List.map_cons, List.nodup_cons, List.map_cons, List.nodup_cons]
      refine ⟨fun hm => ?_, fun hm => ?_, R.nd⟩
      · rcases List.mem_cons.mp hm with e | hm
        · exact Nat.ne_of_gt l2 e
        · obtain ⟨p, hp, e⟩ := List.mem_map.mp hm
          exact Nat.lt_irrefl _ (e ▸ l3 p hp)
      · obtain ⟨p, hp, e⟩ := List.mem_map.mp hm
        exact Nat.lt_irrefl _ (e ▸ l1 p hp)
    have R1 : RelW c' [("self", .st (.ref x)), ("text_or_uri", .str y), ("tag", .none)] g (ts ++ tl) ((x, instObj 136 dx) :: (dx, dictOf [] 0) :: rs) { s with heap := h₁, toks := s.toks + 3 } _ imm mu :=
      { fr := F2, nw := fun p hp => N2 p (sub p hp), nd := ((perm _ _ _ _).map _).nodup_iff.mpr ndx
        loc := LocOk.of_binds (ns := ["self", "text_or_uri", "tag"]) rfl (by decide) ⟨rfl, .st _, rfl, .str _ _, rfl, .none, trivial⟩
        st := R.st
        temps := fun p hp => (List.mem_append.mp hp).elim (fun h => R.temps p h) fun h => ht2 p h
        tk := Nat.succ_pos _, gens := R.gens, dr := R.dr, os := R.os }
    refine wpAny_execs_cons ?_
    refine (S_iff (Ψ := fun f l g' => f = .next ∧ Has l "self" (.st (.ref x)) ∧ Has l "text_or_uri" (.str y) ∧ g' = g) (T_name (E_local rfl (Tr_none ⟨rfl, X_nil ⟨rfl, rfl, rfl, rfl⟩⟩))) : StmtV c' _ _ g _) (ts ++ tl) _ _ _ _ ⟨_, _, mu, R1⟩ fun f fv us l g' s2 a R2 p => ?_
    obtain ⟨rfl, hl1, hl2, rfl⟩ := p
    cases a
    refine wpAny_execs_cons (plainObj_wpAny_Assign_Attribute ?_)
    refine (E_local hl2 ⟨rfl, rfl⟩ : EvalV c' c'.env _ l g' fun p g2 => p = .str y ∧ g2 = g') _ _ _ _ _ R2 fun v pv g3 s3 R3 p => ?_
    obtain ⟨rfl, rfl⟩ := p
    refine (E_local hl1 ⟨rfl, rfl⟩ : EvalV c' c'.env _ l g3 fun p g2 => p = .st (.ref x) ∧ g2 = g3) _ _ _ _ _ R3 fun v4 pv g4 s4 R4 p => ?_
    obtain ⟨rfl, rfl⟩ := p
    have := R4.st (.head _); subst this
    obtain ⟨t5, rfl⟩ := R4.str (.tail _ (.head _))
    obtain ⟨m4, imm4, mu4, R4⟩ := R4
    have mx : (x, instObj 136 dx) ∈ imm4 ++ (mu4 ++ ((x, instObj 136 dx) :: (dx, dictOf [] 0) :: rs)) := List.mem_append_right _ (List.mem_append_right _ (.head _))
    have md : (dx, dictOf [] 0) ∈ imm4 ++ (mu4 ++ ((x, instObj 136 dx) :: (dx, dictOf [] 0) :: rs)) := List.mem_append_right _ (List.mem_append_right _ (.tail _ (.head _)))
    have I4 : InstAt s4.heap x (instObj 136 dx) 136 (some (dictOf [] 0)) := InstAt.of_news R4.nw mx md
    have ndx4 : (((x, instObj 136 dx) :: (dx, dictOf [] 0) :: (imm4 ++ (mu4 ++ rs))).map (·.1)).Nodup := ((perm _ _ _ _).map _).nodup_iff.mp R4.nd
    have hdd : ∀ (es : List DictEntry) (n : Nat), setL dx (dictOf es n) (imm4 ++ (mu4 ++ ((x, instObj 136 dx) :: (dx, dictOf [] 0) :: rs))) = imm4 ++ (mu4 ++ ((x, instObj 136 dx) :: (dx, dictOf es n) :: rs)) := by
      intro es n
      rw [List.map_cons, List.nodup_cons, List.map_cons, List.nodup_cons] at ndx4
      have off : ∀ p ∈ imm4 ++ (mu4 ++ rs), p.1 ≠ dx := fun p hp e => ndx4.2.1 (List.mem_map.mpr ⟨p, hp, e⟩)
      rw [setL_app, setL_app, setL_off (fun p hp => off p (List.mem_append_left _ hp)), setL_off (fun p hp => off p (List.mem_append_right _ (List.mem_append_left _ hp)))]
      have : setL dx (dictOf es n) ((x, instObj 136 dx) :: (dx, dictOf [] 0) :: rs) = (x, instObj 136 dx) :: (dx, dictOf es n) :: rs := by
        show (if x = dx then (dx, dictOf es n) else (x, instObj 136 dx)) :: (if dx = dx then (dx, dictOf es n) else (dx, dictOf [] 0)) :: setL dx (dictOf es n) rs = _
        rw [if_neg (Nat.ne_of_gt l2), if_pos rfl, setL_off (fun p hp => off p (List.mem_append_right _ (List.mem_append_right _ hp)))]
      rw [this]
    refine set_dict (K := KK w) (es := []) (n := 0) R4.fr c'.kin R4.nw I4 rfl rfl rfl rfl rfl rfl rfl (upd_setL R4.nd md) (Nat.le_of_ble_eq_true rfl) fun h5 F5 N5 => ?_
    refine wpAny_execs_nil ?_
    rw [hdd] at N5
    refine leaveK_ F5 N5 fun F6 N6 => ?_
    refine ⟨rfl, ?_⟩
    have fin : ∀ (es : List DictEntry) (n : Nat), getL (Str.ofString "text") es = some (some (.str y t5)) → News c.h₀ c.L h5 (imm4 ++ (mu4 ++ (x, instObj 136 dx) :: (dx, dictOf es n) :: rs)) → Q (.ref x) { heap := h5, gens := s4.gens, drawn := s4.drawn, toks := s4.toks + 2, os := s4.os } := by
      intro es n hg N7
      have mono : ∀ p ∈ imm4, p ∈ (x, instObj 136 dx) :: (dx, dictOf es n) :: imm4 := fun p hp => .tail _ (.tail _ hp)
      have tmp : ∀ p ∈ ts ++ tl, VRel imm4 p.1 p.2 := fun p hp => R4.temps p (.tail _ (.tail _ hp))
      refine q _ (.qn y) g4 _ ⟨m, (x, instObj 136 dx) :: (dx, dictOf es n) :: imm4, mu4, ?_⟩ h
      have sub6 : ∀ p ∈ ((x, instObj 136 dx) :: (dx, dictOf es n) :: imm4) ++ (mu4 ++ rs), p ∈ imm4 ++ (mu4 ++ (x, instObj 136 dx) :: (dx, dictOf es n) :: rs) := fun p hp => (perm _ _ _ _).mem_iff.mpr hp
      exact { fr := F6, nw := fun p hp => N7 p (sub6 p hp), nd := ndx4
              loc := fun z pv hz => let ⟨v, a, b⟩ := ht1 z pv hz; ⟨v, a, (tmp _ (List.mem_append_right ts b)).mono mono⟩
              st := R4.st.mono mono
              temps := fun p hp => by
                rcases List.mem_cons.mp hp with rfl | hp
                · exact .qn (.head _) (.tail _ (.head _)) (t := t5) hg
                · exact (tmp p (List.mem_append_left _ hp)).mono mono
              tk := Nat.succ_pos _, gens := R4.gens, dr := R4.dr, os := R4.os }
    exact fin _ _ rfl N6
end Mine
set_option maxHeartbeats 4000000
namespace Mine
variable {w : Wd} {fs : FS} {c : Cx w fs} {env : Env} {loc : Loc} {g : GS}

theorem meets_strlt {x : MStr} {t : Tok} {a d : Addr} : Meets (Builtin.«str.__lt__» ⟨[.str x t, .ref a], []⟩) (fun A R s => s.heap.get? a = some (instObj 136 d) ∧ R (.ok (.ret .notImplemented)) s) := by
  intro prog w A R s ⟨h1, h⟩
  have e : Builtin.«str.__lt__» ⟨[.str x t, .ref a], []⟩ = (load a >>= fun o => (match o.data with
    | .prim (.str s _) => pure (some s)
    | _ => pure none) >>= fun (r : Option MStr) => match r with | some o => ret (.bool (x.cps.toList < o.cps.toList)) | none => rule "str.__lt__.not-a-str" >>= fun _ => ret .notImplemented) := rfl
  rw [e]
  refine wpAny_bind (wpAny_load h1 ?_)
  refine wpAny_bind (wpAny_pure ?_)
  exact wpAny_bind (wpAny_rule (wpAny_pure h))

section
variable {prog : Program} {A : Around} {Q E : MVal → Shared → Prop} {s : Shared} {K : Frag} {x f d : Addr} {od : Option Obj} {y : MStr} {t : Tok}
theorem str_qn_K (hu : A.units < cLine) (X : K.In s.heap) (I : InstAt s.heap x (instObj 136 d) 136 od) (hsub : subIn K (.ref 136) (.type "str") = some false)
    (hs : findIn K (.ref 136) (cmpInfo .Lt).2.2 = some (some (.ref f))) (hf : isFn K (.ref f) = true)
    (h : wpAny (model prog w.w) A (call (.ref f) [.ref x, .str y t]) (W.CmpBack Q) E s) : wpAny (model prog w.w) A (richCompare .Lt (.str y t) (.ref x)) Q E s := by
  unfold richCompare
  rw [(typeIs_str s y t).oneThing_none]
  refine wpAny_holding (wpAny_bind (wpAny_cRoomFor hu ?_))
  refine wpAny_bind (wpAny_typeOf (typeIs_str s y t) (wpAny_bind (I.type.here ?_)))
  rw [if_pos (by rfl)]
  refine wpAny_bind ((looks_subIn X hsub).here ?_)
  simp only [Bool.false_eq_true, if_false, Bool.not_false, if_true]
  refine wpAny_bind (m := tryCompare (.str y t) _ (.ref x)) (wpAny_tryCompare_declines (typeIs_str s y t) F.slot_str_lt (call_meets F.slot_str_lt (typeIs_str s y t) F.entry_str_lt (F.args_str_lt_2 _ _) meets_strlt ⟨I.at_, rfl, ?_⟩))
  unfold tryCompare
  refine wpAny_bind (wpAny_bind (ifBound_K X I hs hf (wpAny_mono h (fun v s' hv => ?_) fun _ _ e => e)))
  cases v <;> first | exact hv.elim | exact wpAny_pure (wpAny_pure hv)
end
section
variable {x y : MStr} {Φ : PV → GS → Prop} {d : Nat}
theorem C_gts (h : Φ (.bool (y.cps.toList < x.cps.toList)) g) : CmpR w d .Gt (.str x) (.str y) g Φ := by
  intro fs c loc ts rs s Q E va vb _ _ R ha hb q
  obtain ⟨t, rfl⟩ := R.str ha
  obtain ⟨u, rfl⟩ := R.str hb
  exact P.gt_str (q _ _ g _ (R.prim fun _ => .bool _) h)
theorem C_str_qn0 (hd : d ≤ 900) (h : CallR w d (.st (.ref 126)) [.qn x, .str y] [] g fun r g' => ∃ b, r = .bool b ∧ Φ (.bool b) g') : CmpR w d .Lt (.str y) (.qn x) g Φ := by
  intro fs c loc ts rs s Q E va vb h1 h2 R ha hb q
  obtain ⟨m, i, mu, R'⟩ := _root_.id R
  obtain ⟨a, dx, es, n, t, rfl, I, hg⟩ := R'.qnAt (R'.temps _ hb)
  obtain ⟨t2, rfl⟩ := R.str ha
  refine cmp_ofLt ?_
  have hu : c.A.units < cLine := by show c.un < cLine; unfold cLine; (first | lia | omega)
  have X := c.kin.keeps R'.fr.keep
  refine str_qn_K (K := KK w) hu X I rfl rfl rfl ?_
  refine h fs c loc ((.ref 126, .st (.ref 126)) :: ts) rs s _ E (.ref 126) [.ref a, .str y t2] [] h1 h2 (R.prim fun _ => .st _) (.head _) rfl (fun p hp => ?_) rfl (fun _ h => (nomatch h)) fun v pv g' s' R2 f => ?_
  · simp at hp
    rcases hp with rfl | rfl
    · exact .tail _ hb
    · exact .tail _ ha
  · obtain ⟨b, rfl, f⟩ := f
    have := R2.bool (.head _); subst this
    exact q _ _ g' s' (R2.weaken dr1) f

noncomputable def PV.textOf : PV → Option MStr
  | .qn y => some y
  | .str y => some y
  | _ => Option.none
theorem textOf_cases {p : PV} {y : MStr} (h : p.textOf = some y) : p = .qn y ∨ p = .str y := by
  cases p <;> simp [PV.textOf] at h <;> subst h <;> simp
theorem spec_lt {p : PV} (hd : d ≤ 800) (hp : p.textOf = some y) (h : Φ (.bool (x.cps.toList < y.cps.toList)) g) : CallR w d (.st (.ref 112)) [.qn x, p] [] g Φ := by
  refine' CallR_fn (loc' := [("self", .qn x), ("other", p)]) ?ho ?hcd (by (first | lia | omega)) ?hb ?hk ?h ?c1 ?c2 ?c3
  case ho => exact rfl
  case hcd => exact rfl
  case hk => exact rfl
  case c1 => exact rfl
  case c2 => exact rfl
  case c3 => decide
  case hb =>
    intro vs ks hv hk
    obtain ⟨v1, v2, rfl⟩ := len2 hv
    obtain rfl := len0 hk
    · refine ⟨[("self", v1), ("other", v2)], fun S => by kernel_rfl, rfl, fun imm h1 h2 => ?_⟩
      have e1 := h1 (v1, .qn x) (by simp)
      have e2 := h1 (v2, p) (by simp)
      exact LocOk.of_binds (ns := ["self", "other"]) rfl (by decide) ⟨rfl, e1, rfl, e2, trivial⟩
  case h =>
    intro c' hd' hu'
    rcases textOf_cases hp with rfl | rfl
    · refine X_cons (S_ift (T_eval (E_call_bi hd' hu' (E_builtin rfl rfl (by decide) ⟨rfl, A_cons (E_local rfl (A_cons (E_global rfl (A_nil (F_isi_qn (Tr_bool ⟨rfl, ?_⟩))))))⟩))))
      exact X_cons (S_ret (E_cmp _ hd' hu' (E_text (E_local rfl ⟨_, rfl, E_text (E_local rfl ⟨_, rfl, C_lts h⟩)⟩))))
    · refine X_cons (S_iff (T_eval (E_call_bi hd' hu' (E_builtin rfl rfl (by decide) ⟨rfl, A_cons (E_local rfl (A_cons (E_global rfl (A_nil (F_isi_str (Tr_bool ⟨rfl, X_nil ?_⟩))))))⟩))))
      exact X_cons (S_ret (E_cmp _ hd' hu' (E_text (E_local rfl ⟨_, rfl, E_local rfl (C_lts h)⟩))))
theorem spec_gt {p : PV} (hd : d ≤ 800) (hp : p.textOf = some y) (h : Φ (.bool (y.cps.toList < x.cps.toList)) g) : CallR w d (.st (.ref 126)) [.qn x, p] [] g Φ := by
  refine' CallR_fn (loc' := [("self", .qn x), ("other", p)]) ?ho ?hcd (by (first | lia | omega)) ?hb ?hk ?h ?c1 ?c2 ?c3
  case ho => exact rfl
  case hcd => exact rfl
  case hk => exact rfl
  case c1 => exact rfl
  case c2 => exact rfl
  case c3 => decide
  case hb =>
    intro vs ks hv hk
    obtain ⟨v1, v2, rfl⟩ := len2 hv
    obtain rfl := len0 hk
    · refine ⟨[("self", v1), ("other", v2)], fun S => by kernel_rfl, rfl, fun imm h1 h2 => ?_⟩
      have e1 := h1 (v1, .qn x) (by simp)
      have e2 := h1 (v2, p) (by simp)
      exact LocOk.of_binds (ns := ["self", "other"]) rfl (by decide) ⟨rfl, e1, rfl, e2, trivial⟩
  case h =>
    intro c' hd' hu'
    rcases textOf_cases hp with rfl | rfl
    · refine X_cons (S_ift (T_eval (E_call_bi hd' hu' (E_builtin rfl rfl (by decide) ⟨rfl, A_cons (E_local rfl (A_cons (E_global rfl (A_nil (F_isi_qn (Tr_bool ⟨rfl, ?_⟩))))))⟩))))
      exact X_cons (S_ret (E_cmp _ hd' hu' (E_text (E_local rfl ⟨_, rfl, E_text (E_local rfl ⟨_, rfl, C_gts h⟩)⟩))))
    · refine X_cons (S_iff (T_eval (E_call_bi hd' hu' (E_builtin rfl rfl (by decide) ⟨rfl, A_cons (E_local rfl (A_cons (E_global rfl (A_nil (F_isi_str (Tr_bool ⟨rfl, X_nil ?_⟩))))))⟩))))
      exact X_cons (S_ret (E_cmp _ hd' hu' (E_text (E_local rfl ⟨_, rfl, E_local rfl (C_gts h)⟩))))
theorem C_qn_lt {p : PV} (hd : d ≤ 800) (hp : p.textOf = some y) (h : Φ (.bool (x.cps.toList < y.cps.toList)) g) : CmpR w d .Lt (.qn x) p g Φ :=
  C_qn (Nat.le_trans hd (by decide)) ((textOf_cases hp).elim (fun e => .inl ⟨_, e⟩) fun e => .inr ⟨_, e⟩) (spec_lt hd hp ⟨_, rfl, h⟩)
theorem C_str_qn (hd : d ≤ 800) (h : Φ (.bool (y.cps.toList < x.cps.toList)) g) : CmpR w d .Lt (.str y) (.qn x) g Φ :=
  C_str_qn0 (Nat.le_trans hd (by decide)) (spec_gt hd rfl ⟨_, rfl, h⟩)
end
end Mine
set_option maxHeartbeats 4000000
namespace Mine
variable {w : Wd} {fs : FS} {c : Cx w fs} {env : Env} {loc : Loc} {g : GS}
section
variable {d : Nat} {k : CloS} {e func : PySem.Expr} {es : List PySem.Expr} {pos : Pos} {Φ : PV → GS → Prop}
theorem E_call_clo (hd : c.dp ≤ d) (hu : c.un ≤ 10 * d) (h : EvalV c env func loc g (kF c env pos (e :: es) loc d (.clo k) Φ))
    (hc : eval (.Call func (e :: es) [] pos) env = (do callWith pos (← eval func env) [] (backTo pos (starEach (e :: es) env)) (backToKw pos (keywordEach [] env))) := by rfl)
    (he : starEach (e :: es) env = (false, eval e env) :: starEach es env := by rfl) (hp : (backTo pos (starEach es env)).any (·.1) = false := by rfl) : EvalV c env (.Call func (e :: es) [] pos) loc g Φ := by
  intro ts rs s Q E R q
  refine Call_ (h ts rs s _ E R fun v pv g0 s0 R0 f0 => ?_) hc
  obtain ⟨rfl, f0⟩ := f0
  obtain ⟨m, i, u, R0'⟩ := _root_.id R0
  cases R0'.temps _ (.head _) with
  | clo hm hcd =>
  refine callWith_F (FnAt.of R0'.nw (List.mem_append_left _ hm)) ?_ he hp
  refine f0 _ rs s0 _ E R0 fun vs ps g1 s1 hl R1 f1 => ⟨?_, ?_⟩
  · obtain ⟨m, i, u, R1'⟩ := _root_.id R1
    cases R1'.temps _ (List.mem_append_right _ (.head _)) with
    | clo hm hcd => exact FnAt.of R1'.nw (List.mem_append_left _ hm)
  · exact f1.use hd hu hl R1 q

theorem CallR_clo {ps : List PV} {loc' : Loc} (hd : d ≤ 900)
    (hb : ∀ (pm cdv ctv : MVal) (vs : List MVal), vs.length = ps.length → ∃ binds, bindArgs (kla_fn "<lambda>" k.qual k.params k.body k.scope k.cl pm cdv ctv) ⟨vs, []⟩ = pure binds ∧
      (binds.all fun x => decide (k.scope.names.lookup x.1 = some .local)) = true ∧ ∀ imm, (∀ p ∈ vs.zip ps, VRel imm p.1 p.2) → LocOk imm loc' (fun y => binds.reverse.lookup y))
    (hk : k.scope.kind = .function)
    (h : ∀ (f cc : Addr) (c' : Cx w ⟨k.qual, k.scope, f, .ref cc, k.cl⟩), c'.dp ≤ d + 1 → c'.un ≤ 10 * (d + 1) → EvalV c' c'.env k.body loc' g Φ)
    (hco : k.scope.isCoroutine = false) (hgen : k.scope.isGenerator = false) (hcell0 : (k.scope.names.all fun x => decide (x.2 ≠ .cell)) = true) : CallR w d (.clo k) ps [] g Φ := by
  intro fs c loc ts rs s Q E fv vs ks a1 a2 R a4 a5 a6 a7 a8 q
  have hks : ks = [] := by cases ks with | nil => rfl | cons => cases a7
  subst hks
  have hcell : ∀ x ∈ k.scope.names, x.2 ≠ .cell := fun x hx => of_decide_eq_true (List.all_eq_true.mp hcell0 x hx)
  obtain ⟨m, imm, mu, R⟩ := R
  have hv := R.temps _ a4
  cases hv with
  | @clo f cc pm ctv _ hm hcd =>
  obtain ⟨oc, fvs, t, hm2, hdat, hq⟩ := hcd
  obtain ⟨binds, hb1, hb2, hb3⟩ := hb pm (.ref cc) ctv vs a5
  refine wpAny_call ?_
  refine kla_code (K := KK w) (env := c.env) (outer := c.outer) c.below R.fr c.kin R.nw c.top rfl rfl c.kind (List.mem_append_left _ hm) (codeRec_news R.nw (List.mem_append_left _ hm2) hdat hq) (by show c.dp < recursionLimit; unfold recursionLimit; (first | lia | omega)) hb1 (locs hb2) ?_ hco hgen hk hcell
  intro gh L' h₁ FG F' N' B' X' T'
  obtain ⟨tl, ht1, ht2⟩ := loc_temps R.loc
  let c' : Cx w ⟨k.qual, k.scope, f, .ref cc, k.cl⟩ := { dp := c.dp + 1, un := c.un + 3, gd := c.gd, L := L', outer := c.env :: c.outer, A₀ := c.A, base := c.base, h₀ := gh, loose := c.loose, mean := c.mean, mg := c.mg, mb := c.mb, dr := c.dr, os := c.os, below := B', kin := X', top := T', hds := c.hds.keeps FG.keep, scr := c.scr.keeps FG.keep, kind := hk }
  have R1 : RelW c' loc' g (ts ++ tl) rs { s with heap := h₁, toks := s.toks + binds.length } (fun y => binds.reverse.lookup y) imm mu :=
    { fr := F', nw := N', nd := R.nd, loc := hb3 imm (fun p hp => R.temps p (a6 p hp)), st := R.st,
      temps := fun p hp => (List.mem_append.mp hp).elim (R.temps p) (ht2 p), tk := Nat.lt_of_lt_of_le R.tk (Nat.le_add_right _ _), gens := R.gens, dr := R.dr, os := R.os }
  refine h f cc c' (by show c.dp + 1 ≤ d + 1; (first | lia | omega)) (by show c.un + 3 ≤ 10 * (d + 1); (first | lia | omega)) (ts ++ tl) rs _ _ _ ⟨_, imm, mu, R1⟩ fun v pv g' s' R' p => ?_
  obtain ⟨m', imm', mu', R'⟩ := R'
  refine leaveK_ R'.fr R'.nw fun F N => ?_
  have RB := RelW.back (us := [(v, pv)]) R (c' := c') rfl rfl ht1 R' F N
  exact q _ _ _ _ ⟨m, imm', mu', RB⟩ p
end
end Mine
set_option maxHeartbeats 4000000
namespace Mine
variable {w : Wd} {fs : FS} {c : Cx w fs} {env : Env} {loc : Loc} {g : GS}

section enter
variable {prog : Program} {A A₀ : Around} {R : Result → Shared → Prop} {s : Shared} {L : Addr} {h₀ base : Heap} {m : MStr → Option MVal} {outer : List Env} {news : Led}
theorem enter_cells {f : Addr} {fo : Obj} {args : Args} {name qual : MStr} {params : Arguments} {body : List Stmt} {scope : Scope} {dV kV doc pm cdv ct : MVal} {an : Option Addr} {binds : List (MStr × MVal)} (htk : 1 ≤ s.toks)
    (B : Below A₀ base outer h₀) (F : Fr h₀ L s.heap m) (N : News h₀ L s.heap news) (hlim : h₀.NoLimit) (hA : A.frames = some (env :: outer)) (hf : env.frame = some L) (hke : env.scope.kind = .function)
    (ho : s.heap.get? f = some fo) (hd : fo.data = .func (fnX name qual params body scope [] dV kV doc pm an cdv ct)) (hcd : s.heap.CodeRec cdv qual) (hroom : A.depth < recursionLimit)
    (hbind : BindsTo s (fnX name qual params body scope [] dV kV doc pm an cdv ct) args binds)
    (hkind : (binds.all fun y => scope.names.lookup y.1 == some .local || scope.names.lookup y.1 == some .cell) = true)
    (hnd : ((cellsFrom 0 scope.names []).map (·.1)).Nodup)
    (h : ∀ gh L' h₁ tk cells, 1 ≤ tk → Fr h₀ L gh m → Fr gh L' h₁ (bindL (envOfC qual scope L' f cdv).kindOf binds fun _ => none) → News gh L' h₁ (cells ++ news) →
      CellsAre (bindC (envOfC qual scope L' f cdv).kindOf binds fun _ => none) (cellsFrom (L' + 1) scope.names []) cells → (cellsFrom (L' + 1) scope.names []).Pairwise (fun x y => x.2 ≠ y.2) → (∀ n c, (n, c) ∈ cellsFrom (L' + 1) scope.names [] → L' < c) → Below A base (env :: outer) gh → h₀.StaysIn gh → (∀ p ∈ news, p.1 < L') →
      wpAny (model prog w.w) (A.deeper (envOfC qual scope L' f cdv)) (execs body (envOfC qual scope L' f cdv))
        (fun fl s' => LeaveK h₀ L m gh R (match fl with | .ret v => v | _ => .none) s')
        (fun e s' => wpAny (model prog w.w) (A.deeper (envOfC qual scope L' f cdv)) (leaving (envOfC qual scope L' f cdv) e) (fun _ s'' => R (.error e) s'') (fun e' s'' => R (.error e') s'') s')
        { s with heap := h₁, toks := tk })
    (hco : scope.isCoroutine = false) (hgen : scope.isGenerator = false) (hk : scope.kind = .function) : codeAny (model prog w.w) A (.call (.ref f) args) R s := by
  obtain ⟨FG, BG, st, lv⟩ := groundX (R := R) B F N hA hf hke
  have ns := Nat.le_refl s.heap.objs.size
  refine codeAny_call_function hroom ho hd hco hgen rfl hcd (hbind _ _ _ _ ?_)
  refine wpAny_with_toks (n := 1) htk (wpAny_newFunctionEnv_cells hk (kindsX hkind _) fun env' he s' x (hle : 1 ≤ s'.toks) => ?_)
  subst he
  refine ⟨(hlim.keeps F.keep).keeps x.toInCall.keep, codeAny_func ?_⟩
  obtain ⟨h₁, tk, rfl, hk₁⟩ := x.done
  have look : ∀ n c, (n, c) ∈ cellsFrom (s.heap.objs.size + 1) scope.names [] → (cellsFrom (s.heap.objs.size + 1) scope.names []).lookup n = some c :=
    fun n c hm => lookup_of_mem_nodup (cellsFrom_names scope.names 0 (s.heap.objs.size + 1) [] [] rfl ▸ hnd) hm
  obtain ⟨cells, NC, Y⟩ := Cl.news (h₀ := s.heap) ns fun n c hm => ⟨x.cell n c (look n c hm), x.above n c hm⟩
  have small : ∀ p ∈ news, p.1 < s.heap.objs.size := fun p hp => Heap.lt_size (N p hp).1
  have NN : News (hideAll s.heap (news.map (·.1))) s.heap.objs.size h₁ (cells ++ news) := fun p hp => by
    rcases List.mem_append.mp hp with hp | hp
    · have z := NC p hp
      refine ⟨z.1, z.2.1, ?_⟩
      cases q : (hideAll s.heap (news.map (·.1))).get? p.1 with
      | none => rfl
      | some o =>
        have y := of_hideAll _ q
        rw [z.2.2] at y; cases y
    · exact ⟨hk₁ _ _ (N p hp).1, Nat.ne_of_lt (small p hp), hideAll_none _ (List.mem_map_of_mem hp)⟩
  have FF : Fr (hideAll s.heap (news.map (·.1))) s.heap.objs.size h₁ _ := ⟨x.toInCall.ns, fun b o e => hk₁ b o (of_hideAll _ e), Nat.le_of_eq (hideAll_size _ _)⟩
  exact wpAny_mono (h _ s.heap.objs.size h₁ tk cells hle FG FF NN Y x.apart x.above BG st small) (fun fl s' hl => lv _ _ hl) fun _ _ y => y
end enter

noncomputable def CellsV (imm : Led) (cm : MStr → Option MVal) : List (MStr × Addr) → List (Addr × Option PV) → Prop
  | [], [] => True
  | (n, a) :: r, (b, p) :: r' => b = a ∧ CellV imm p (cm n) ∧ CellsV imm cm r r'
  | _, _ => False
theorem CellsV.store {imm mu : Led} {cm : MStr → Option MVal} : ∀ {cs : List (MStr × Addr)} {ps : List (Addr × Option PV)} {cells : Led}, CellsAre cm cs cells → CellsV imm cm cs ps → (cells.map (·.1) = cs.map (·.2)) ∧ (ps.map (·.1) = cs.map (·.2)) ∧ ∀ a p, (a, p) ∈ ps → CellAt imm (cells ++ mu) a p
  | [], [], _, X, h => by cases X; exact ⟨rfl, rfl, fun _ _ h => (nomatch h)⟩
  | (n, a) :: r, (b, p) :: r', _, X, h => by
    cases X with
    | cons hd X =>
      obtain ⟨rfl, h1, h2⟩ := h
      obtain ⟨e1, e2, e3⟩ := CellsV.store (mu := mu) X h2
      refine ⟨by simp [e1], by simp [e2], fun a' p' hm => ?_⟩
      rcases List.mem_cons.mp hm with e | hm
      · cases e; exact ⟨_, _, .head _, hd, h1⟩
      · obtain ⟨o, ov, q1, q2⟩ := e3 a' p' hm
        exact ⟨o, ov, .tail _ q1, q2⟩
theorem nodup_of_pairwise {cs : List (MStr × Addr)} (h : cs.Pairwise fun x y => x.2 ≠ y.2) : (cs.map (·.2)).Nodup := by
  induction h with
  | nil => exact .nil
  | cons h _ ih =>
    rw [List.map_cons, List.nodup_cons]
    exact ⟨fun hm => let ⟨p, hp, e⟩ := List.mem_map.mp hm; h p hp e.symm, ih⟩

theorem CallR_fnC {d : Nat} {f : Addr} {name qual : MStr} {params : Arguments} {body : List Stmt} {scope : Scope} {dV kV doc pm cdv ct oc : MVal} {an od : Option Addr} {osl : Array (Option MVal)} {pos : List PV} {kw : List (MStr × PV)} {loc' : Loc} {Φ : PV → GS → Prop}
    (cv : Addr → List (Addr × Option PV))
    (ho : (KK w).lookup f = some ⟨oc, od, .func (fnOf name qual params body scope dV kV doc pm an cdv ct), osl⟩) (hcd : codeIn (KK w) cdv qual = true) (hd : d ≤ 900)
    (hb : ∀ vs ks : List MVal, vs.length = pos.length → ks.length = kw.length → ∃ binds, (∀ S, peek (KK w) S (bindArgs (fnOf name qual params body scope dV kV doc pm an cdv ct) ⟨vs, (kw.map (·.1)).zip ks⟩) = some binds) ∧
      (binds.all fun y => scope.names.lookup y.1 == some .local || scope.names.lookup y.1 == some .cell) = true ∧ ∀ imm, (∀ p ∈ vs.zip pos, VRel imm p.1 p.2) → (∀ p ∈ ks.zip (kw.map (·.2)), VRel imm p.1 p.2) →
        LocOk imm loc' (bindL (fun x => scope.names.lookup x) binds fun _ => none) ∧ ∀ L', CellsV imm (bindC (fun x => scope.names.lookup x) binds fun _ => none) (cellsFrom (L' + 1) scope.names []) (cv L'))
    (hk : scope.kind = .function) (hnd : ((cellsFrom 0 scope.names []).map (·.1)).Nodup)
    (h : ∀ (L' : Addr) (c' : Cx w ⟨qual, scope, f, cdv, cellsFrom (L' + 1) scope.names []⟩), c'.dp ≤ d + 1 → c'.un ≤ 10 * (d + 1) → ((cv L').map (·.1)).Nodup → ExecV c' body loc' { g with cells := cv L' ++ g.cells } fun fv _ g' => ∃ g'', GLe g'' g' ∧ Φ (retP fv) g'')
    (hco : scope.isCoroutine = false) (hgen : scope.isGenerator = false) : CallR w d (.st (.ref f)) pos kw g Φ := by
  intro fs c loc ts rs s Q E fv vs ks a1 a2 R a4 a5 a6 a7 a8 q
  obtain ⟨m, imm, mu, R⟩ := R
  have hfv : fv = .ref f := by
    have := R.temps _ a4
    cases this; rfl
  subst hfv
  obtain ⟨binds, hb1, hb2, hb3⟩ := hb vs ks a5 a7
  refine wpAny_call ?_
  have X := c.kin.keeps R.fr.keep
  refine enter_cells (env := c.env) (outer := c.outer) R.tk c.below R.fr R.nw c.top.nolimit rfl rfl c.kind (X _ _ ho) rfl (codeRec_of X hcd) (by show c.dp < recursionLimit; unfold recursionLimit; (first | lia | omega)) (kp_binds X hb1) hb2 hnd ?_ hco hgen hk
  intro gh L' h₁ tk cells htk FG F' N' Y hap hab B' X' lt
  obtain ⟨tl, ht1, ht2⟩ := loc_temps R.loc
  obtain ⟨hl, hcv⟩ := hb3 imm (fun p hp => R.temps p (a6 p hp)) (fun p hp => R.temps p (a8 p hp))
  let c' : Cx w ⟨qual, scope, f, cdv, cellsFrom (L' + 1) scope.names []⟩ := { dp := c.dp + 1, un := c.un + 3, gd := c.gd, L := L', outer := c.env :: c.outer, A₀ := c.A, base := c.base, h₀ := gh, loose := c.loose, mean := c.mean, mg := c.mg, mb := c.mb, dr := c.dr, os := c.os, below := B', kin := c.kin.keeps X', top := c.top.keeps X', hds := c.hds.keeps FG.keep, scr := c.scr.keeps FG.keep, kind := hk }
  obtain ⟨e1, e2, e3⟩ := CellsV.store (mu := mu) Y (hcv L')
  have big : ∀ p ∈ cells, L' < p.1 := fun p hp => by
    have : p.1 ∈ (cellsFrom (L' + 1) scope.names []).map (·.2) := e1 ▸ List.mem_map_of_mem hp
    obtain ⟨q, hq, e⟩ := List.mem_map.mp this
    exact e ▸ hab q.1 q.2 hq
  have big2 : ∀ p ∈ cv L', L' < p.1 := fun p hp => by
    have : p.1 ∈ (cellsFrom (L' + 1) scope.names []).map (·.2) := e2 ▸ List.mem_map_of_mem hp
    obtain ⟨q, hq, e⟩ := List.mem_map.mp this
    exact e ▸ hab q.1 q.2 hq
  have cnd : (cells.map (·.1)).Nodup := e1 ▸ nodup_of_pairwise hap
  have cnd2 : ((cv L').map (·.1)).Nodup := e2 ▸ nodup_of_pairwise hap
  have nsub : ∀ p ∈ imm ++ ((cells ++ mu) ++ rs), p ∈ cells ++ (imm ++ (mu ++ rs)) := fun p hp => by
    simp only [List.mem_append] at hp ⊢
    rcases hp with h | (h | h) | h <;> simp [h]
  have nperm : List.Perm (imm ++ ((cells ++ mu) ++ rs)) (cells ++ (imm ++ (mu ++ rs))) := by
    rw [List.append_assoc]
    exact List.perm_append_comm_assoc imm cells (mu ++ rs)
  have nd : ((imm ++ ((cells ++ mu) ++ rs)).map (·.1)).Nodup := by
    rw [(nperm.map _).nodup_iff, List.map_append, List.nodup_append]
    refine ⟨cnd, R.nd, ?_⟩
    rintro a ha b hb rfl
    obtain ⟨p, hp, rfl⟩ := List.mem_map.mp ha
    obtain ⟨r, hr, e⟩ := List.mem_map.mp hb
    exact Nat.lt_irrefl _ (Nat.lt_trans (big p hp) (e ▸ lt r hr))
  have St : StoreOk imm (cells ++ mu) { g with cells := cv L' ++ g.cells } :=
    have S0 := R.st.more (mu' := cells ++ mu) fun p hp => List.mem_append_right _ hp
    { S0 with
      cells := fun a p hp => (List.mem_append.mp hp).elim (e3 a p) (S0.cells a p)
      cnd := by
        show ((cv L' ++ g.cells).map (·.1)).Nodup
        rw [List.map_append, List.nodup_append]
        refine ⟨cnd2, R.st.cnd, ?_⟩
        rintro a ha b hb rfl
        obtain ⟨p, hp, rfl⟩ := List.mem_map.mp ha
        obtain ⟨r, hr, e⟩ := List.mem_map.mp hb
        obtain ⟨o, _, ho, _⟩ := R.st.cells r.1 r.2 hr
        have := lt _ (List.mem_append_right imm (List.mem_append_left rs ho))
        exact Nat.lt_irrefl _ (Nat.lt_trans (big2 p hp) (e ▸ this)) }
  have R1 : RelW c' loc' { g with cells := cv L' ++ g.cells } (ts ++ tl) rs { s with heap := h₁, toks := tk } _ imm (cells ++ mu) :=
    { fr := F', nw := fun p hp => N' p (nsub p hp), nd := nd, loc := hl, st := St,
      temps := fun p hp => (List.mem_append.mp hp).elim (R.temps p) (ht2 p), tk := htk, gens := R.gens, dr := R.dr, os := R.os }
  refine h L' c' (by show c.dp + 1 ≤ d + 1; (first | lia | omega)) (by show c.un + 3 ≤ 10 * (d + 1); (first | lia | omega)) cnd2 (ts ++ tl) rs _ _ _ ⟨_, imm, cells ++ mu, R1⟩ fun fl fv us loc'' g' s' a R' p => ?_
  obtain ⟨g'', hle, p⟩ := p
  obtain ⟨m', imm', mu', R'⟩ := R'.drop hle
  refine leaveK_ R'.fr R'.nw fun F N => ?_
  have RB := RelW.back R (c' := c') rfl rfl ht1 R' F N
  cases a with
  | next => exact q _ _ _ _ ⟨m, imm', mu', RB.temp .none⟩ p
  | brk => exact q _ _ _ _ ⟨m, imm', mu', RB.temp .none⟩ p
  | cont => exact q _ _ _ _ ⟨m, imm', mu', RB.temp .none⟩ p
  | ret v pv => exact q _ _ _ _ ⟨m, imm', mu', RB⟩ p
end Mine
set_option maxHeartbeats 4000000
namespace Mine
variable {w : Wd} {fs : FS} {c : Cx w fs} {env : Env} {loc : Loc} {g : GS}
theorem updF_setL {D : Addr} {o : Obj} : ∀ {l : Led}, (l.map (·.1)).Nodup → (D, o) ∈ l → UpdF D o l (fun o' => setL D o' l)
  | p :: r, hn, hm => by
    rw [List.map_cons, List.nodup_cons] at hn
    by_cases h : p.1 = D
    · have hoff : ∀ q ∈ r, q.1 ≠ D := fun q hq e => hn.1 (h ▸ e ▸ List.mem_map_of_mem hq)
      have hp : p = (D, o) := by
        rcases List.mem_cons.mp hm with e | e
        · exact e.symm
        · exact absurd rfl (hoff _ e)
      subst hp
      have : (fun o' => setL D o' ((D, o) :: r)) = fun o' => (D, o') :: r := by
        funext o'
        show (if D = D then (D, o') else (D, o)) :: setL D o' r = _
        rw [if_pos rfl, setL_off hoff]
      rw [this]
      exact .head hoff
    · have : (fun o' => setL D o' (p :: r)) = fun o' => p :: setL D o' r := by
        funext o'
        show (if p.1 = D then (D, o') else p) :: setL D o' r = _
        rw [if_neg h]
      rw [this]
      refine .tail h (updF_setL hn.2 ?_)
      rcases List.mem_cons.mp hm with e | e
      · exact absurd (by rw [← e]) h
      · exact e
theorem codeAmong_append {pos : Pos} {a b v : MVal} (l : List MVal) {ln col : Int} (h : TriplesOk l) (e : codeAmong pos (l ++ [rawInt ln, rawInt col, a]) = some v) : codeAmong pos l = some v ∨ v = a := by
  fun_induction TriplesOk l with
  | case1 =>
    simp only [List.nil_append, rawInt, codeAmong] at e
    split at e
    · exact .inr (Option.some.inj e).symm
    · cases e
  | case2 a' t b' u x rest ih =>
    simp only [List.cons_append, codeAmong] at e ⊢
    split at e
    · rename_i hc; rw [if_pos hc]; exact .inl e
    · rename_i hc; rw [if_neg hc]; exact ih h e
  | case3 l h1 h2 => exact h.elim

theorem E_lambda {params : Arguments} {body : PySem.Expr} {scope : Scope} {pos : Pos} {clos : List (MStr × Addr)} {cadr P : Addr} {Φ : PV → GS → Prop} (hccd : fs.ccd = .ref cadr) (hh : ∀ c : Cx w fs, CodeHd c.h₀ cadr P) (hq : (P, (fs.cn ++ ".<locals>.") ++ "<lambda>") ∈ tabList)
    (hdef : defaultsOf params c.env = ([], [])) (hcl : closureFor scope c.env = pure clos) (h : Φ (.clo ⟨(fs.cn ++ ".<locals>.") ++ "<lambda>", params, body, scope, clos⟩) g) : EvalV c c.env (.Lambda params body scope pos) loc g Φ := by
  intro ts rs s Q E R q
  obtain ⟨m, imm, mu, R⟩ := R
  obtain ⟨ps, hP, hT1, hT2⟩ := R.st.tabs P _ hq
  have hmem : (P, tabObj ps) ∈ imm ++ (mu ++ rs) := List.mem_append_right imm (List.mem_append_left rs hP)
  refine kla_eval hdef ?_
  cases hca : codeAmong pos ps.toList with
  | none =>
    refine wpAny_with_toks (n := 1) R.tk (kla_nest R.fr R.nw c.top (hh c) hccd (updF_setL R.nd hmem) hT1 hca hcl fun f c' oc vs t ctv h' tk F N hd hv lt1 lt2 (htk : 1 ≤ tk) => ?_)
    rw [R.all_set hP] at N
    have lt3 : ∀ p ∈ imm ++ (mu ++ rs), p.1 < f := fun p hp => Nat.lt_trans (lt1 p hp) lt2
    generalize hps : ps ++ #[rawInt pos.line, rawInt pos.col, .ref c'] = ps' at N
    have mono : ∀ p ∈ imm, p ∈ (f, kla_obj (Str.ofString "<lambda>") ((fs.cn ++ ".<locals>.") ++ "<lambda>") params body scope clos ((c.mg "__name__").getD .none) c' ctv) :: (c', oc) :: imm := fun p hp => .tail _ (.tail _ hp)
    have hco : CodeAt ((f, kla_obj (Str.ofString "<lambda>") ((fs.cn ++ ".<locals>.") ++ "<lambda>") params body scope clos ((c.mg "__name__").getD .none) c' ctv) :: (c', oc) :: imm) c' ((fs.cn ++ ".<locals>.") ++ "<lambda>") := ⟨oc, vs, t, .tail _ (.head _), hd, hv⟩
    have ho : TabOk ((f, kla_obj (Str.ofString "<lambda>") ((fs.cn ++ ".<locals>.") ++ "<lambda>") params body scope clos ((c.mg "__name__").getD .none) c' ctv) :: (c', oc) :: imm) ((fs.cn ++ ".<locals>.") ++ "<lambda>") ps' := by
      subst hps
      refine ⟨?_, fun pos' v e => ?_⟩
      · rw [Array.toList_append]; exact TriplesOk_snoc _ _ _ _ hT1
      · rw [Array.toList_append] at e
        rcases codeAmong_append (b := .none) _ hT1 e with e | e
        · obtain ⟨a, rfl, k⟩ := hT2 pos' v e; exact ⟨a, rfl, k.mono mono⟩
        · exact ⟨c', e, hco⟩
    refine q _ (.clo ⟨(fs.cn ++ ".<locals>.") ++ "<lambda>", params, body, scope, clos⟩) g _ ⟨m, (f, kla_obj (Str.ofString "<lambda>") ((fs.cn ++ ".<locals>.") ++ "<lambda>") params body scope clos ((c.mg "__name__").getD .none) c' ctv) :: (c', oc) :: imm, setL P (tabObj ps') mu, ?_⟩ h
    have nd0 : ((imm ++ (setL P (tabObj ps') mu ++ rs)).map (·.1)).Nodup := by rw [← R.all_set hP, setL_fst]; exact R.nd
    have ltS : ∀ b, b ∈ (imm ++ (setL P (tabObj ps') mu ++ rs)).map (·.1) → b < c' := fun b hb => by
      rw [← R.all_set hP, setL_fst] at hb
      obtain ⟨p, hp, rfl⟩ := List.mem_map.mp hb
      exact lt1 p hp
    exact { fr := F, nw := N
            nd := by
              show ((f, _) :: (c', oc) :: (imm ++ (setL P (tabObj ps') mu ++ rs)) |>.map (·.1)).Nodup
              rw [List.map_cons, List.nodup_cons, List.map_cons, List.nodup_cons]
              refine ⟨fun hm => ?_, fun hm => Nat.lt_irrefl _ (ltS _ hm), nd0⟩
              rcases List.mem_cons.mp hm with e | hm
              · exact Nat.ne_of_gt lt2 e
              · exact Nat.lt_irrefl _ (Nat.lt_trans lt2 (ltS _ hm))
            loc := R.loc.mono mono
            st := (R.st.mono mono).setTab R.munod hP hq ho
            temps := fun p hp => (List.mem_cons.mp hp).elim (fun e => by rw [e]; exact .clo (.head _) hco) fun hp => (R.temps p hp).mono mono
            tk := htk, gens := R.gens, dr := R.dr, os := R.os }
  | some cv =>
    obtain ⟨c', rfl, hco⟩ := hT2 pos cv hca
    refine wpAny_with_toks (n := 1) R.tk (kla_hit R.fr R.nw c.top (hh c) hccd hmem hT1 hca hcl fun f ctv h' tk F N lt1 (htk : 1 ≤ tk) => ?_)
    have R1 := R.pushI (o := kla_obj (Str.ofString "<lambda>") ((fs.cn ++ ".<locals>.") ++ "<lambda>") params body scope clos ((c.mg "__name__").getD .none) c' ctv) F N lt1 htk
    exact q _ (.clo ⟨(fs.cn ++ ".<locals>.") ++ "<lambda>", params, body, scope, clos⟩) g _ ⟨m, _, mu, R1.temp (.clo (.head _) (hco.mono fun p hp => .tail _ hp))⟩ h

theorem S_assign_cell {x : MStr} {a : Addr} {e : PySem.Expr} {pos pos' : Pos} {Ψ : FV → Loc → GS → Prop} (hc : fs.cl.lookup x = some a)
    (h : EvalV c c.env e loc g fun p g' => ∃ q cs', LUpd a q (some p) g'.cells cs' ∧ Ψ .next loc { g' with cells := cs' }) (hk : fs.cs.names.lookup x = some .cell := by rfl) (hs : swapsWith e (some (.Name x pos')) pos.line c.env = pure false := by rfl) : StmtV c (.Assign [.Name x pos'] e pos) loc g Ψ := by
  intro ts rs s Q E R q
  refine wpAny_Assign_Name (h ts rs s _ E R fun v p g1 s1 R1 f => ?_) hs
  obtain ⟨q0, cs', hU, f⟩ := f
  obtain ⟨m, imm, mu, R1⟩ := R1
  obtain ⟨o, ov, hm, hd, _⟩ := R1.st.cells a _ hU.mem
  have hmem : (a, o) ∈ imm ++ (mu ++ rs) := List.mem_append_right imm (List.mem_append_left rs hm)
  have hv := R1.temps _ (.head _)
  refine storeX_C R1.fr R1.nw hc (updF_setL R1.nd hmem) hd (fun h' o' F N hd' => ?_) c.kind hk
  rw [R1.all_set hm] at N
  have R2 := R1.setM (g' := { g1 with cells := cs' }) hm rfl (R1.st.setCell (ov' := some v) (y := some p) R1.munod hm hd hd' hU ⟨v, rfl, hv⟩) F N R1.tk
  exact q _ _ _ _ _ _ .next (Rel.weaken ⟨m, imm, _, R2⟩ tl1) f
end Mine
set_option maxHeartbeats 4000000
namespace Mine
variable {w : Wd} {fs : FS} {c : Cx w fs} {env : Env} {loc : Loc} {g : GS}
theorem Rel.skim3 {a b1 b2 b3 : MVal × PV} {ts : List (MVal × PV)} {rs : Led} {s : Shared} (R : Rel c loc g (a :: b1 :: b2 :: b3 :: ts) rs s) : Rel c loc g (a :: ts) rs s :=
  R.weaken fun p hp => (List.mem_cons.mp hp).elim (fun e => e ▸ .head _) fun h => .tail _ (.tail _ (.tail _ (.tail _ h)))
theorem Rel.skimz {a : MVal × PV} {zs ts : List (MVal × PV)} {rs : Led} {s : Shared} (R : Rel c loc g (a :: (zs ++ ts)) rs s) : Rel c loc g (a :: ts) rs s :=
  R.weaken fun p hp => (List.mem_cons.mp hp).elim (fun e => e ▸ .head _) fun h => .tail _ (List.mem_append_right _ h)
section slices
variable {value : PySem.Expr} {lo hi : Option PySem.Expr} {pos sp : Pos} {Φ : PV → GS → Prop}
noncomputable def PartV (c : Cx w fs) (env : Env) (e : Option PySem.Expr) (loc : Loc) (g : GS) (Φ : Option Int → GS → Prop) : Prop := match e with
  | .none => Φ .none g
  | some e => EvalV c env e loc g fun p g' => ∃ n, p = .int n ∧ Φ (some n) g'
noncomputable def partOf : Option Int → PV
  | .none => .none
  | some n => .int n
theorem PartV.run {e : Option PySem.Expr} {Ψ : Option Int → GS → Prop} (h : PartV c env e loc g Ψ) (ts : List (MVal × PV)) (rs : Led) : TreeV c (evalPart e env) loc g ts rs fun p g' => ∃ i, p = partOf i ∧ Ψ i g' := by
  cases e with
  | none => exact fun s Q E R q => wpAny_pure (q _ _ g _ (R.prim fun _ => .none) ⟨.none, rfl, h⟩)
  | some e => exact fun s Q E R q => h ts rs s Q E R fun v p g' s' R' ⟨n, e, f⟩ => q v p g' s' R' ⟨some n, e, f⟩
noncomputable abbrev kSs3 (x : MStr) (i : Option Int) (Φ : PV → GS → Prop) : Option Int → GS → Prop := fun j g3 => Φ (.str (Txt.slice x i j)) g3
noncomputable abbrev kSs2 (c : Cx w fs) (env : Env) (hi : Option PySem.Expr) (loc : Loc) (x : MStr) (Φ : PV → GS → Prop) : Option Int → GS → Prop := fun i g2 => PartV c env hi loc g2 (kSs3 x i Φ)
noncomputable abbrev kSs (c : Cx w fs) (env : Env) (lo hi : Option PySem.Expr) (loc : Loc) (Φ : PV → GS → Prop) : PV → GS → Prop := fun o g1 => ∃ x, o = .str x ∧ x.length ≤ sizeLine ∧ PartV c env lo loc g1 (kSs2 c env hi loc x Φ)
theorem E_slice_str (h : EvalV c env value loc g (kSs c env lo hi loc Φ))
    (hs : ∀ a b, subscripted (.Slice lo hi .none sp) false a b = operate [b, a] (getItem a b) := by intro _ _; with_unfolding_all rfl) (ht : ∀ x t r, letTemporaryGo value (.str x t) r = pure () := by intro _ _ _; with_unfolding_all rfl) : EvalV c env (.Subscript value (.Slice lo hi .none sp) pos) loc g Φ := by
  intro ts rs s Q E R q
  refine Subscript_ (h ts rs s _ E R fun o po g1 s1 R1 h1 => ?_)
  obtain ⟨x, rfl, hsz, h1⟩ := h1
  obtain ⟨t, rfl⟩ := R1.str (.head _)
  refine wpAny_Slice (h1.run _ rs s1 _ E R1 fun vi pi g2 s2 R2 h2 => ?_)
  obtain ⟨i, rfl, h2⟩ := h2
  refine h2.run _ rs s2 _ E R2 fun vj pj g3 s3 R3 h3 => ?_
  obtain ⟨j, rfl, h3⟩ := h3
  refine wpAny_pure ?_
  obtain ⟨m, im, mu, R4⟩ := _root_.id R3
  have fin : ∀ (y : MStr) (t' : Tok) (h' : Heap) (k : Nat), Fr c.h₀ c.L h' m → News c.h₀ c.L h' (im ++ (mu ++ rs)) → 1 ≤ k → Φ (.str y) g3 → Q (.str y t') { s3 with heap := h', toks := k } := fun y t' h' k F N hk f =>
    q _ _ g3 _ ((Rel.prim ⟨m, im, mu, R4.moved F N hk⟩ fun _ => .str y t').weaken fun p hp => (List.mem_cons.mp hp).elim (fun e => e ▸ .head _) fun h => .tail _ (.tail _ (.tail _ (.tail _ h)))) f
  cases i with
  | none =>
    have e1 := R3.none (.tail _ (.head _)); subst e1
    cases j with
    | none =>
      have e2 := R3.none (.head _); subst e2
      exact wpAny_with_toks (n := 1) R4.tk (slice_strN_nn R4.fr R4.nw (fun h' t' k F N hk => fin _ t' h' k F N hk h3) (hs _ _) (ht _ _) hsz)
    | some j =>
      obtain ⟨u, rfl⟩ := R3.int (.head _)
      exact wpAny_with_toks (n := 1) R4.tk (slice_strN_ns R4.fr R4.nw (fun h' t' k F N hk => fin _ t' h' k F N hk h3) (hs _ _) (ht _ _) hsz)
  | some i =>
    obtain ⟨ui, rfl⟩ := R3.int (.tail _ (.head _))
    cases j with
    | none =>
      have e2 := R3.none (.head _); subst e2
      exact wpAny_with_toks (n := 1) R4.tk (slice_strN_sn R4.fr R4.nw (fun h' t' k F N hk => fin _ t' h' k F N hk h3) (hs _ _) (ht _ _) hsz)
    | some j =>
      obtain ⟨u, rfl⟩ := R3.int (.head _)
      exact wpAny_with_toks (n := 1) R4.tk (slice_strN_ss R4.fr R4.nw (fun h' t' k F N hk => fin _ t' h' k F N hk h3) (hs _ _) (ht _ _) hsz)

theorem E_slice_list (h : EvalV c env value loc g fun o g1 => ∃ l items, o = .lst l ∧ (l, items) ∈ g1.lists ∧ PartV c env lo loc g1 fun i g2 => PartV c env hi loc g2 fun j g3 => (l, items) ∈ g3.lists ∧ items.length ≤ 1000000 ∧
      ∃ a b : Nat, i = some (a : Int) ∧ a ≤ b ∧ b ≤ items.length ∧ (j = some (b : Int) ∨ (j = .none ∧ b = items.length)) ∧ ∀ x, Φ (.lst x) { g3 with lists := (x, (items.drop a).take (b - a)) :: g3.lists })
    (hs : ∀ a b, subscripted (.Slice lo hi .none sp) false a b = operate [b, a] (getItem a b) := by intro _ _; with_unfolding_all rfl) (ht : ∀ x r, letTemporaryGo value (.ref x) r = pure () := by intro _ _; with_unfolding_all rfl) : EvalV c env (.Subscript value (.Slice lo hi .none sp) pos) loc g Φ := by
  intro ts rs s Q E R q
  refine Subscript_ (h ts rs s _ E R fun o po g1 s1 R1 h1 => ?_)
  obtain ⟨l, items, rfl, hm, h1⟩ := h1
  have e0 := R1.lst (.head _); subst e0
  refine wpAny_Slice (h1.run _ rs s1 _ E R1 fun vi pi g2 s2 R2 h2 => ?_)
  obtain ⟨i, rfl, h2⟩ := h2
  refine h2.run _ rs s2 _ E R2 fun vj pj g3 s3 R3 h3 => ?_
  obtain ⟨j, rfl, hm3, hsz, a, b, rfl, hab, hb, hj, h3⟩ := h3
  refine wpAny_pure ?_
  obtain ⟨m, im, mu, R4⟩ := _root_.id R3
  obtain ⟨ui, rfl⟩ := R3.int (.tail _ (.head _))
  obtain ⟨vs, n, k1, k2, k3, k4⟩ := R4.listAt hm3
  have hlen : vs.length = items.length := k2.length
  have hsz' : vs.toArray.size ≤ sizeLine := by rw [sizeLine_eq]; simp [hlen]; (first | lia | omega)
  have fin : ∀ (us : List MVal), VAll im us ((items.drop a).take (b - a)) → ∀ h', Fr c.h₀ c.L h' m → News c.h₀ c.L h' ((s3.heap.objs.size + 1, listOf us.toArray 0) :: (im ++ (mu ++ rs))) → Q (.ref (s3.heap.objs.size + 1)) { s3 with heap := h' } := fun us hu h' F N => by
    have R5 := R4.pushL hu F N (fun p hp => Nat.lt_succ_of_lt (Heap.lt_size (R4.nw p hp).1)) R4.tk
    exact q _ (.lst _) _ _ (Rel.skim3 ⟨m, im, _, R5.temp (.lst _)⟩) (h3 _)
  have hv : VAll im ((vs.drop a).take (b - a)) ((items.drop a).take (b - a)) := (k2.drop a).take (b - a)
  rcases hj with rfl | ⟨rfl, rfl⟩
  · obtain ⟨u, rfl⟩ := R3.int (.head _)
    refine slice_list R4.fr R4.nw k4 (.int _ _) (.int _ _) (fun h' F N => fin _ hv h' F ?_) (hs _ _) (ht _) hsz'
    rw [slicePick_run vs.toArray a b (by simp [hlen]; (first | lia | omega)) hab] at N
    exact N
  · have e2 := R3.none (.head _); subst e2
    refine slice_list R4.fr R4.nw k4 (.int _ _) .none (fun h' F N => fin _ hv h' F ?_) (hs _ _) (ht _) hsz'
    rw [slicePick_from vs.toArray a (by simp [hlen]; (first | lia | omega))] at N
    have : (vs.drop a).take (items.length - a) = vs.drop a := List.take_of_length_le (by simp [hlen])
    rw [this]
    exact N
end slices

section displays
variable {pos : Pos} {es : List PySem.Expr} {Φ : PV → GS → Prop} {ctx : Nat}
theorem zip_vall {imm : Led} : ∀ {vs : List MVal} {ps : List PV}, vs.length = ps.length → (∀ p ∈ vs.zip ps, VRel imm p.1 p.2) → VAll imm vs ps
  | [], [], _, _ => .nil
  | v :: vs, p :: ps, h, k => .cons (k (v, p) (.head _)) (zip_vall (by simpa using h) fun q hq => k q (.tail _ hq))
  | [], _ :: _, h, _ => nomatch h
  | _ :: _, [], h, _ => nomatch h
noncomputable abbrev kTu (Φ : PV → GS → Prop) : List PV → GS → Prop := fun ps g' => ps.length ≤ 1000000 ∧ Φ (.tup ps) g'
noncomputable abbrev kLi (Φ : PV → GS → Prop) : List PV → GS → Prop := fun ps g' => ps.length ≤ 1000000 ∧ ∀ a, Φ (.lst a) { g' with lists := (a, ps) :: g'.lists }
theorem E_tuple (h : ArgsV c env pos es loc g (kTu Φ)) : EvalV c env (.Tuple es ctx pos) loc g Φ := by
  intro ts rs s Q E R q
  rw [arm_eval_Tuple]
  refine wpAny_bind (wpAny_standAt (wpAny_bind (h ts rs s _ E R fun vs ps g' s' hl R' f => ?_)))
  obtain ⟨m, im, mu, R4⟩ := R'
  refine newTuple_N R4.fr R4.nw (fun h' F N => ?_) (by rw [sizeLine_eq]; (first | lia | omega))
  have R5 := R4.pushI F N (fun p hp => Heap.lt_size (R4.nw p hp).1) R4.tk
  have hv : VAll im vs ps := zip_vall hl fun p hp => R4.temps p (List.mem_append_left _ hp)
  have hv' : VRel ((s'.heap.objs.size, tupO vs 0) :: im) (.ref s'.heap.objs.size) (.tup ps) := .tup (.head _) (hv.mono fun p hp => .tail _ hp)
  exact q _ (.tup ps) _ _ (Rel.skimz ⟨m, _, mu, R5.temp hv'⟩) f.2
theorem E_list (h : ArgsV c env pos es loc g (kLi Φ)) : EvalV c env (.List es pos) loc g Φ := by
  intro ts rs s Q E R q
  rw [arm_eval_List]
  refine wpAny_bind (wpAny_standAt (wpAny_bind (h ts rs s _ E R fun vs ps g' s' hl R' f => ?_)))
  obtain ⟨m, im, mu, R4⟩ := R'
  refine newList_N R4.fr R4.nw (fun h' F N => ?_) (by rw [sizeLine_eq]; (first | lia | omega))
  have hv : VAll im vs ps := zip_vall hl fun p hp => R4.temps p (List.mem_append_left _ hp)
  have R5 := R4.pushL (n := 0) hv F N (fun p hp => Heap.lt_size (R4.nw p hp).1) R4.tk
  exact q _ (.lst _) _ _ (Rel.skimz ⟨m, im, _, R5.temp (.lst _)⟩) (f.2 _)
end displays
theorem F_len_str {x : MStr} {d : Nat} {Φ : PV → GS → Prop} (hfit : (x.length : Int) < 2 ^ 63) (h : Φ (.int x.length) g) : CallR w d (.st (.builtin "len")) [.str x] [] g Φ := by
  intro fs c loc ts rs s Q E fv vs ks _ _ R hf hl hp hk hkp q
  have := R.st hf; subst this
  obtain ⟨v, rfl⟩ := len1 hl
  obtain ⟨t, rfl⟩ := R.str (hp (v, .str x) (by simp))
  have hks : ks = [] := by cases ks with | nil => rfl | cons => cases hk
  subst hks
  exact len_str (by (first | lia | omega)) (q _ _ g _ (R.ticked.prim fun _ => .int _ _) h)
end Mine
set_option maxHeartbeats 4000000
namespace Mine
variable {w : Wd} {fs : FS} {c : Cx w fs} {env : Env} {loc : Loc} {g : GS}

noncomputable def AssignV (c : Cx w fs) (target : PySem.Expr) (p : PV) (loc : Loc) (g : GS) (Φ : Loc → GS → Prop) : Prop :=
  ∀ ts rs s (Q : Unit → Shared → Prop) (E : MVal → Shared → Prop) v, Rel c loc g ts rs s → (v, p) ∈ ts → (∀ loc' g' s', Rel c loc' g' ts rs s' → Φ loc' g' → Q () s') → wpAny (M0 w) c.A (assign target c.env v) Q E s
noncomputable def AssignsV (c : Cx w fs) (elts : List PySem.Expr) (ps : List PV) (loc : Loc) (g : GS) (Φ : Loc → GS → Prop) : Prop :=
  ∀ ts rs s (Q : Unit → Shared → Prop) (E : MVal → Shared → Prop) vs, Rel c loc g ts rs s → vs.length = ps.length → (∀ p ∈ vs.zip ps, p ∈ ts) → (∀ loc' g' s', Rel c loc' g' ts rs s' → Φ loc' g' → Q () s') → wpAny (M0 w) c.A (assignInOrder ((assignEach elts c.env).map (·.2)) vs) Q E s
theorem vall_zip {imm : Led} : ∀ {vs : List MVal} {ds : List PV}, VAll imm vs ds → ∀ p ∈ vs.zip ds, VRel imm p.1 p.2
  | [], _, _, _, h => nomatch h
  | v :: vs, _, .cons h r, p, hp => (List.mem_cons.mp hp).elim (fun e => by subst e; exact h) (vall_zip r p)
section targets
variable {x : MStr} {pos : Pos} {p : PV} {ps : List PV} {Φ : Loc → GS → Prop} {t : PySem.Expr} {elts : List PySem.Expr}
theorem AV_local (h : Φ ((x, p) :: loc) g) (hk : fs.cs.names.lookup x = some .local := by rfl) : AssignV c (.Name x pos) p loc g Φ := by
  intro ts rs s Q E v R hv q
  refine wpAny_assign_Name ?_
  obtain ⟨m, i, u, R'⟩ := R
  refine storeX_L R'.fr R'.nw (fun h' F' N' => ?_) c.kind hk
  exact q _ _ _ ⟨_, i, u, R'.setLocal (R'.temps _ hv) F' N' (Nat.succ_pos _)⟩ h
theorem AV_cell {a : Addr} {q0 : Option PV} {cs' : List (Addr × Option PV)} (hc : fs.cl.lookup x = some a) (hU : LUpd a q0 (some p) g.cells cs') (h : Φ loc { g with cells := cs' }) (hk : fs.cs.names.lookup x = some .cell := by rfl) : AssignV c (.Name x pos) p loc g Φ := by
  intro ts rs s Q E v R hv q
  refine wpAny_assign_Name ?_
  obtain ⟨m, imm, mu, R1⟩ := R
  obtain ⟨o, ov, hm, hd, _⟩ := R1.st.cells a _ hU.mem
  have hmem : (a, o) ∈ imm ++ (mu ++ rs) := List.mem_append_right imm (List.mem_append_left rs hm)
  refine storeX_C R1.fr R1.nw hc (updF_setL R1.nd hmem) hd (fun h' o' F N hd' => ?_) c.kind hk
  rw [R1.all_set hm] at N
  have R2 := R1.setM (g' := { g with cells := cs' }) hm rfl (R1.st.setCell (ov' := some v) (y := some p) R1.munod hm hd hd' hU ⟨v, rfl, R1.temps _ hv⟩) F N R1.tk
  exact q _ _ _ ⟨m, imm, _, R2⟩ h
theorem AS_nil (h : Φ loc g) : AssignsV c [] [] loc g Φ := by
  intro ts rs s Q E vs R hl hv q
  have : vs = [] := by cases vs with | nil => rfl | cons => cases hl
  subst this
  exact wpAny_pure (q _ _ _ R h)
theorem AS_cons (h : AssignV c t p loc g fun loc' g' => AssignsV c elts ps loc' g' Φ) (he : assignEach (t :: elts) c.env = (false, assign t c.env) :: assignEach elts c.env := by rfl) : AssignsV c (t :: elts) (p :: ps) loc g Φ := by
  intro ts rs s Q E vs R hl hv q
  match vs, hl with
  | v :: vs, hl =>
    rw [he]
    show wpAny _ _ (do holding vs (assign t c.env v); assignInOrder ((assignEach elts c.env).map (·.2)) vs) Q E s
    refine wpAny_bind (wpAny_holding (h ts rs s _ E v R (hv _ (.head _)) fun loc' g' s' R' k => ?_))
    exact k ts rs s' Q E vs R' (by simpa using hl) (fun p hp => hv p (.tail _ hp)) q
theorem AV_tuple {k : Nat} (h : AssignsV c elts ps loc g Φ) (hn : (assignEach elts c.env).length = ps.length) (hstar : (assignEach elts c.env).findIdx? (·.1) = none := by rfl) : AssignV c (.Tuple elts k pos) (.tup ps) loc g Φ := by
  intro ts rs s Q E v R hv q
  obtain ⟨m, imm, mu, R'⟩ := R
  cases R'.temps _ hv with
  | @tup a vs n _ h1 h2 =>
    have hget := R'.nw.get (List.mem_append_left (mu ++ rs) h1)
    have hT : IsTup s.heap a vs.toArray := ⟨_, hget, rfl, n, rfl⟩
    refine assign_Tuple_tuple rfl hT (by rw [hn, List.size_toArray, h2.length]) hstar fun h' hx => ?_
    have up : ∀ b o, s.heap.get? b = some o → h'.get? b = some o := fun b o e => hx b o (Nat.ne_of_lt (Heap.lt_size e)) e
    have R2 : RelW c loc g ts rs { s with heap := h' } m imm mu := R'.moved (R'.fr.keeps up) (R'.nw.grown up) R'.tk
    have tl := vall_zip h2
    have R3 : RelW c loc g (vs.zip ps ++ ts) rs { s with heap := h' } m imm mu := { R2 with temps := fun p hp => (List.mem_append.mp hp).elim (tl p) (R2.temps p) }
    exact h _ rs _ Q E vs.toArray.toList ⟨m, imm, mu, R3⟩ h2.length (fun p hp => List.mem_append_left _ hp) fun loc' g' s' R4 k => q loc' g' s' (R4.weaken fun p hp => List.mem_append_right _ hp) k
end targets

section loops
variable {target iter : PySem.Expr} {body orelse : List Stmt} {pos : Pos} {Ψ : FV → Loc → GS → Prop}
noncomputable def turnF (P : Loc → GS → Prop) (Ψ : FV → Loc → GS → Prop) : FV → Loc → GS → Prop
  | .next, l, g => P l g
  | .cont, l, g => P l g
  | .brk, l, g => Ψ .next l g
  | .ret p, l, g => Ψ (.ret p) l g
theorem S_for (I : MVal → Nat → Loc → GS → Prop)
    (h : EvalV c c.env iter loc g fun p g1 => ∀ ts rs s (Q : MVal → Shared → Prop) (E : MVal → Shared → Prop) v, Rel c loc g1 ((v, p) :: ts) rs s → (∀ it n g2 s2, Rel c loc g2 ts rs s2 → I it n loc g2 → Q it s2) → wpAny (M0 w) c.A (pyIter v) Q E s)
    (turn : ∀ it n loc g, I it n loc g → ∀ ts rs s (Q : Option MVal → Shared → Prop) (E : MVal → Shared → Prop), Rel c loc g ts rs s →
      (∀ v p g' s', Rel c loc g' ((v, p) :: ts) rs s' → (∀ (Q' : Unit → Shared → Prop) (E' : MVal → Shared → Prop), Q' () s' → wpAny (M0 w) c.A (letOwnedTupleGo target it v) Q' E' s') →
        AssignV c target p loc g' (fun loc2 g2 => ExecV c body loc2 g2 (turnF (fun l3 g3 => ∃ m, m < n ∧ I it m l3 g3) Ψ)) → Q (some v) s') →
      (∀ g' s', Rel c loc g' ts rs s' → ExecV c orelse loc g' Ψ → Q none s') → wpAny (M0 w) c.A (pyNext it) Q E s)
    (hs : ∀ x, foldedSetIterable iter c.env x = pure x := by intro _; rfl) : StmtV c (.For target iter body orelse pos) loc g Ψ := by
  intro ts rs s Q E R q
  refine wpAny_For (h ts rs s _ E R fun v p g1 s1 R1 h1 => ?_) hs
  refine h1 ts rs s1 _ E v R1 fun it n g2 s2 R2 hI => ?_
  refine codeAny_forLoop_any (fun n s => ∃ loc g, Rel c loc g ts rs s ∧ I it n loc g) ?_ n ⟨loc, g2, R2, hI⟩
  rintro n s ⟨loc, g, R, hI⟩
  refine turn it n loc g hI ts rs s _ _ R (fun v p g' s' R' own k => ?_) fun g' s' R' k => ?_
  · refine own _ _ ?_
    refine k _ rs s' _ _ v R' (.head _) fun loc2 g2 s2 R2 k => ?_
    refine k ts rs s2 _ _ (R2.weaken tl1) fun f fv us loc' g'' s'' a R'' p => ?_
    cases a with
    | next => obtain ⟨m, hm, p⟩ := p; exact ⟨m, hm, loc', g'', R'', p⟩
    | cont => obtain ⟨m, hm, p⟩ := p; exact ⟨m, hm, loc', g'', R'', p⟩
    | brk => exact q _ _ _ _ _ _ .next R'' p
    | ret v pv => exact q _ _ _ _ _ _ (.ret v pv) R'' p
  · exact k ts rs s' _ _ R' q
end loops

section raws
variable {ts : List (MVal × PV)} {rs : Led} {s : Shared} {m : MStr → Option MVal} {imm mu : Led} {h' : Heap} {tk : Nat}
theorem RelW.rawAt (R : RelW c loc g ts rs s m imm mu) {D : Addr} {o : Obj} (h : (D, o) ∈ g.raws) : s.heap.get? D = some o ∧ D ≠ c.L ∧ c.h₀.get? D = none ∧ (D, o) ∈ mu :=
  have z := R.nw _ (List.mem_append_right imm (List.mem_append_left rs (R.st.raws D o h).1))
  ⟨z.1, z.2.1, z.2.2, (R.st.raws D o h).1⟩
theorem RelW.stepRaw (R : RelW c loc g ts rs s m imm mu) {D : Addr} {o o' : Obj} {rw' : List (Addr × Obj)} (hU : LUpd D o o' g.raws rw') (ho : rawOk D o' = true) (hs : Heap.SameBut D s.heap h') (hg : h'.get? D = some o') (htk : 0 < tk) :
    RelW c loc { g with raws := rw' } ts rs { s with heap := h', toks := tk } m imm (setL D o' mu) := by
  obtain ⟨z1, z2, z3, hm⟩ := R.rawAt hU.mem
  refine R.setM (g' := { g with raws := rw' }) hm rfl (R.st.setRaw R.munod ho hU) (R.fr.change hs z2 z3) ?_ htk
  rw [← R.all_set hm]
  intro p hp
  obtain ⟨q, hq, rfl⟩ := List.mem_map.mp hp
  by_cases h : q.1 = D
  · rw [if_pos h]; exact ⟨hg, z2, z3⟩
  · rw [if_neg h]
    have y := R.nw q hq
    exact ⟨(hs.2 q.1 h).trans y.1, y.2.1, y.2.2⟩
theorem mem_off {D : Addr} {p : Addr × Obj} {l : Led} (h : p ∈ l) (hn : p.1 ≠ D) : p ∈ l.filter (fun q => decide (q.1 ≠ D)) := List.mem_filter.mpr ⟨h, decide_eq_true hn⟩
theorem RelW.dropRaw (R : RelW c loc g ts rs s m imm mu) {D : Addr} {o : Obj} {rw' : List (Addr × Obj)} (hr : g.raws = (D, o) :: rw') (hx : Heap.ExtBut D s.heap h') (htk : 0 < tk) :
    ∃ mu', RelW c loc { g with raws := rw' } ts rs { s with heap := h', toks := tk } m imm mu' := by
  have hh : (D, o) ∈ g.raws := by rw [hr]; exact .head _
  obtain ⟨z1, z2, z3, hm⟩ := R.rawAt hh
  obtain ⟨k1, k2, k3, k4⟩ := rawOk_kind (R.st.raws D o hh).2
  have nd := R.munod
  have off : ∀ p ∈ imm ++ (mu.filter (fun q => decide (q.1 ≠ D)) ++ rs), p.1 ≠ D := fun p hp => by
    rcases List.mem_append.mp hp with hp | hp
    · exact R.off_imm hm p hp
    · rcases List.mem_append.mp hp with hp | hp
      · exact of_decide_eq_true (List.mem_filter.mp hp).2
      · exact R.off_rs hm p hp
  have sub : List.Sublist (imm ++ (mu.filter (fun q => decide (q.1 ≠ D)) ++ rs)) (imm ++ (mu ++ rs)) := (List.Sublist.refl _).append (List.filter_sublist.append (.refl _))
  refine ⟨mu.filter (fun q => decide (q.1 ≠ D)), { R with
    fr := LCg.fr_but R.fr (fun b o hb e => hx b o (by simpa using hb) e) (Ne.symm z2) z3
    nw := fun p hp => have y := R.nw p (sub.subset hp); ⟨hx _ _ (off p hp) y.1, y.2⟩
    nd := R.nd.sublist (sub.map _)
    st := ?_, tk := htk, gens := R.gens, dr := R.dr, os := R.os }⟩
  have rnd := R.st.rnd
  rw [hr, List.map_cons, List.nodup_cons] at rnd
  exact { R.st with
    lists := fun b q hb => by
      obtain ⟨vs, n, h1, h2⟩ := R.st.lists b q hb
      exact ⟨vs, n, mem_off h1 (fun e => by have e : b = D := e; subst e; exact k1 _ _ (by rw [nodup_mem_eq nd hm h1])), h2⟩
    cells := fun b q hb => by
      obtain ⟨ob, ov, h1, h2, h3⟩ := R.st.cells b q hb
      exact ⟨ob, ov, mem_off h1 (fun e => by have e : b = D := e; subst e; exact k2 _ (by rw [nodup_mem_eq nd hm h1]; exact h2)), h2, h3⟩
    nss := fun b q hb => by
      obtain ⟨ob, m', h1, h2, h3⟩ := R.st.nss b q hb
      exact ⟨ob, m', mem_off h1 (fun e => by have e : b = D := e; subst e; obtain ⟨es, ep, e2, _⟩ := h2; exact k3 _ _ (by rw [nodup_mem_eq nd hm h1]; exact e2)), h2, h3⟩
    raws := fun b q hb => by
      have hb' : (b, q) ∈ g.raws := by rw [hr]; exact .tail _ hb
      exact ⟨mem_off (R.st.raws b q hb').1 (fun e => rnd.1 (List.mem_map.mpr ⟨(b, q), hb, e⟩)), (R.st.raws b q hb').2⟩
    rnd := rnd.2
    tabs := fun b q hb => by
      obtain ⟨ps, h1, h2⟩ := R.st.tabs b q hb
      exact ⟨ps, mem_off h1 (k4 _ hb), h2⟩ }
end raws
end Mine
set_option maxHeartbeats 4000000
namespace Mine
variable {w : Wd} {fs : FS} {c : Cx w fs} {env : Env} {loc : Loc} {g : GS}
noncomputable abbrev fieldsO (cls : String) (vs : Array MVal) : Obj := { cls := .type cls, dict := none, data := .fields vs, slots := #[] }
section raws
variable {ts : List (MVal × PV)} {rs : Led} {s : Shared} {m : MStr → Option MVal} {imm mu : Led} {h' : Heap} {tk : Nat}
theorem RelW.lt_size (R : RelW c loc g ts rs s m imm mu) : ∀ p ∈ imm ++ (mu ++ rs), p.1 < s.heap.objs.size := fun p hp => Heap.lt_size (R.nw p hp).1
theorem RelW.rawNew (R : RelW c loc g ts rs s m imm mu) {o : Obj} {cls : MVal} {vs : Array MVal} (hd : o.data = .fields vs) : rawOk s.heap.objs.size o = true := by
  rw [rawOk, hd, Bool.and_eq_true]
  refine ⟨List.all_eq_true.mpr fun p hp => ?_, rfl⟩
  obtain ⟨ps, h1, _⟩ := R.st.tabs p.1 p.2 hp
  have := R.lt_size _ (List.mem_append_right imm (List.mem_append_left rs h1))
  exact bne_iff_ne.mpr (Nat.ne_of_lt this)
theorem RelW.newRaw (R : RelW c loc g ts rs s m imm mu) (cls : String) (vs : Array MVal) (htk : 0 < tk) :
    RelW c loc { g with raws := (s.heap.objs.size, fieldsO cls vs) :: g.raws } ts rs { s with heap := s.heap.push (fieldsO cls vs), toks := tk } m imm ((s.heap.objs.size, fieldsO cls vs) :: mu) :=
  R.pushR (R.rawNew (cls := .none) rfl) (R.fr.push _) (R.nw.push R.fr _) R.lt_size htk
end raws

noncomputable def IsRangeO (o : Obj) (a b : Int) : Prop := ∃ t u v, o = fieldsO "range" #[.int a t, .int b u, .int 1 v]
section rng
variable {d : Nat} {Φ : PV → GS → Prop} {a b n : Int}
theorem F_range1 (h : ∀ r o, IsRangeO o 0 n → Φ (.st (.ref r)) { g with raws := (r, o) :: g.raws }) : CallR w d (.st (.type "range")) [.int n] [] g Φ := by
  intro fs c loc ts rs s Q E fv vs ks _ _ R hf hl hp hk hkp q
  have := R.st hf; subst this
  obtain ⟨v, rfl⟩ := len1 hl
  obtain ⟨t, rfl⟩ := R.int (hp (v, .int n) (by simp))
  have hks : ks = [] := by cases ks with | nil => rfl | cons => cases hk
  subst hks
  obtain ⟨m, i, u, R'⟩ := R
  refine call_range_1 ?_
  exact q _ (.st _) _ _ ⟨m, i, _, (R'.newRaw _ _ (Nat.succ_pos _)).temp (.st _)⟩ (h _ _ ⟨_, _, _, rfl⟩)
theorem F_range2 (h : ∀ r o, IsRangeO o a b → Φ (.st (.ref r)) { g with raws := (r, o) :: g.raws }) : CallR w d (.st (.type "range")) [.int a, .int b] [] g Φ := by
  intro fs c loc ts rs s Q E fv vs ks _ _ R hf hl hp hk hkp q
  have := R.st hf; subst this
  obtain ⟨v, v2, rfl⟩ := len2 hl
  obtain ⟨t, rfl⟩ := R.int (hp (v, .int a) (by simp))
  obtain ⟨t2, rfl⟩ := R.int (hp (v2, .int b) (by simp))
  have hks : ks = [] := by cases ks with | nil => rfl | cons => cases hk
  subst hks
  obtain ⟨m, i, u, R'⟩ := R
  refine call_range_2 ?_
  exact q _ (.st _) _ _ ⟨m, i, _, (R'.newRaw _ _ (Nat.succ_pos _)).temp (.st _)⟩ (h _ _ ⟨_, _, _, rfl⟩)
end rng

noncomputable abbrev VisP := Nat → Loc → List (Addr × List PV) → List (Addr × Option PV) → Array GenState → Prop
noncomputable abbrev mkG (ls : List (Addr × List PV)) (cs : List (Addr × Option PV)) (gn : Array GenState) (nss : List (Addr × Loc)) (raws : List (Addr × Obj)) : GS := ⟨ls, cs, nss, raws, gn⟩
noncomputable def Back (P : List (Addr × List PV) → List (Addr × Option PV) → Array GenState → Prop) (nss : List (Addr × Loc)) (raws : List (Addr × Obj)) (g : GS) : Prop :=
  ∃ g4, GLe g4 g ∧ g4.raws = raws ∧ g4.nss = nss ∧ P g4.lists g4.cells g4.gens
noncomputable def onlyNext (P : Loc → GS → Prop) : FV → Loc → GS → Prop
  | .next, l, g => P l g
  | .cont, l, g => P l g
  | _, _, _ => False
theorem ExecV.pre_drop {b : List Stmt} {g' : GS} {Ψ : FV → Loc → GS → Prop} (h : ExecV c b loc g' Ψ) (k : GLe g' g) : ExecV c b loc g Ψ := fun ts rs s Q E R q => h ts rs s Q E (R.drop k) q

section loops
variable {x : MStr} {px pos : Pos} {iter : PySem.Expr} {body orelse : List Stmt} {Ψ : FV → Loc → GS → Prop}
inductive RangeI (a : Int) (n : Nat) (P : VisP) (g : GS) (it : MVal) (n' : Nat) (loc : Loc) (g' : GS) : Prop
  | mk (I : Addr) (i : Nat) (r : Addr) (o : Obj) (ls : List (Addr × List PV)) (cs : List (Addr × Option PV)) (gn : Array GenState) (e1 : it = .ref I) (hi : i ≤ n) (e2 : n' = n - i)
    (e3 : g' = mkG ls cs gn g.nss ((I, fieldsO "range_iterator" #[rawInt (a + (i : Int)), rawInt ((n : Int) - (i : Int)), rawInt 1]) :: (r, o) :: g.raws)) (hP : P i loc ls cs gn)
theorem S_for_range (P : VisP) {a : Int} {n : Nat} (hs : Builtin.Range.small a (a + n) 1 = true)
    (h : EvalV c c.env iter loc g fun p g1 => ∃ r o, p = .st (.ref r) ∧ IsRangeO o a (a + n) ∧ g1.raws = (r, o) :: g.raws ∧ g1.nss = g.nss ∧ P 0 loc g1.lists g1.cells g1.gens)
    (turn : ∀ i loc ls cs gn, i < n → P i loc ls cs gn → ∀ nss raws, ExecV c body ((x, .int (a + (i : Int))) :: loc) (mkG ls cs gn nss raws) (onlyNext fun l3 g3 => Back (P (i + 1) l3) nss raws g3))
    (done : ∀ loc ls cs gn, P n loc ls cs gn → ExecV c orelse loc (mkG ls cs gn g.nss g.raws) Ψ)
    (hk : fs.cs.names.lookup x = some .local := by rfl) (hf : ∀ x, foldedSetIterable iter c.env x = pure x := by intro _; rfl) : StmtV c (.For (.Name x px) iter body orelse pos) loc g Ψ := by
  refine S_for (RangeI a n P g) (h.mono fun p g1 hp => ?_) ?_ hf
  · obtain ⟨r, o, rfl, ⟨t, u, v, rfl⟩, hr, hn, hP⟩ := hp
    intro ts rs s Q E v0 R q
    have := R.st (.head _); subst this
    obtain ⟨m, im, mu, R'⟩ := R.weaken tl1
    obtain ⟨z1, _⟩ := R'.rawAt (by rw [hr]; exact .head _)
    refine wpAny_pyIter_range z1 hs ?_
    have e : Builtin.Range.rangeSize a (a + n) 1 = (n : Int) := by rw [rangeSize_one]; split <;> (first | lia | omega)
    rw [e]
    have R2 := R'.newRaw "range_iterator" #[rawInt a, rawInt (n : Int), rawInt 1] R'.tk
    refine q _ n _ _ ⟨m, im, _, R2⟩ ⟨_, 0, r, fieldsO "range" #[.int a t, .int (a + n) u, .int 1 v], g1.lists, g1.cells, g1.gens, rfl, Nat.zero_le _, by (first | lia | omega), ?_, hP⟩
    rw [hr, hn]
    simp
  · rintro it n' loc g' ⟨I, i, r, o, ls, cs, gn, rfl, hi, rfl, rfl, hP⟩ ts rs s Q E R q1 q2
    obtain ⟨m, im, mu, R'⟩ := R
    obtain ⟨z1, _⟩ := R'.rawAt (.head _)
    by_cases hlt : i < n
    · refine wpAny_pyNext_range_item z1 (by (first | lia | omega)) fun h' hit hsb => ?_
      have e1 : a + (i : Int) + 1 = a + ((i + 1 : Nat) : Int) := by (first | lia | omega)
      have e2 : (n : Int) - (i : Int) - 1 = (n : Int) - ((i + 1 : Nat) : Int) := by (first | lia | omega)
      rw [e1, e2] at hit
      have R2 := R'.stepRaw (o' := fieldsO "range_iterator" #[rawInt (a + ((i + 1 : Nat) : Int)), rawInt ((n : Int) - ((i + 1 : Nat) : Int)), rawInt 1]) .head (by
        have := (R'.st.raws I _ (.head _)).2
        rw [rawOk, Bool.and_eq_true] at this ⊢
        exact ⟨this.1, rfl⟩) hsb hit (Nat.succ_pos s.toks)
      refine q1 _ (.int (a + (i : Int))) _ _ ⟨m, im, _, R2.temp (.int _ _)⟩ (fun Q' E' h => wpAny_pure h) (AV_local ?_ hk)
      intro ts rs s Q E R q
      refine turn i loc ls cs gn hlt hP g.nss _ ts rs s Q E R fun f fv us loc' g3 s3 a3 R3 p => ?_
      have fin : ∀ l3, Rel c l3 g3 (us ++ ts) rs s3 → Back (P (i + 1) l3) g.nss ((I, fieldsO "range_iterator" #[rawInt (a + ((i + 1 : Nat) : Int)), rawInt ((n : Int) - ((i + 1 : Nat) : Int)), rawInt 1]) :: (r, o) :: g.raws) g3 → ∃ g4, Rel c l3 g4 (us ++ ts) rs s3 ∧ ∃ m, m < n - i ∧ RangeI a n P g (.ref I) m l3 g4 := by
        rintro l3 R3 ⟨g4, hle, e1, e2, hP4⟩
        refine ⟨g4, R3.drop hle, n - (i + 1), by (first | lia | omega), I, i + 1, r, o, g4.lists, g4.cells, g4.gens, rfl, hlt, rfl, ?_, hP4⟩
        rw [← e1, ← e2]
      cases a3 with
      | next => obtain ⟨g4, R4, k⟩ := fin _ R3 p; exact q _ _ _ _ _ _ .next R4 k
      | cont => obtain ⟨g4, R4, k⟩ := fin _ R3 p; exact q _ _ _ _ _ _ .cont R4 k
      | brk => exact p.elim
      | ret v pv => exact p.elim
    · obtain rfl : i = n := Nat.le_antisymm hi (Nat.not_lt.mp hlt)
      refine wpAny_pyNext_range_end rfl z1 (by (first | lia | omega)) fun h' hx => ?_
      obtain ⟨mu', R2⟩ := R'.dropRaw rfl hx R'.tk
      exact q2 (mkG ls cs gn g.nss g.raws) _ (Rel.drop ⟨m, im, mu', R2⟩ ⟨.refl _, .refl _, .refl _, List.sublist_cons_self _ _, rfl⟩) (done loc ls cs gn hP)

theorem own_skip {prog : Program} {A : Around} {s : Shared} {target : PySem.Expr} {I : Addr} {v : MVal} {o : Obj} {T : String} {Q : Unit → Shared → Prop} {E : MVal → Shared → Prop} (h : s.heap.get? I = some o) (hc : o.cls = .type T)
    (hT : ["enumerate", "zip", "dict_itemiterator", "dict_reverseitemiterator", "odict_iterator", "itertools.zip_longest", "itertools.pairwise"].contains T = false) (q : Q () s) : wpAny (model prog w.w) A (letOwnedTupleGo target (.ref I) v) Q E s := by
  have key : ∀ a : Addr, wpAny (model prog w.w) A (do
      let o ← load I
      match o.cls, o.data with
      | .type n, .fields vs =>
        if ["enumerate", "zip", "dict_itemiterator", "dict_reverseitemiterator", "odict_iterator", "itertools.zip_longest", "itertools.pairwise"].contains n && vs[0]? == some (rawInt a) then
          rule "for.unpacks-the-owned-tuple"
          updateField I 0 .none
      | _, _ => pure ()) Q E s := fun a => by
    refine wpAny_bind (wpAny_load h ?_)
    rw [hc]
    cases o.data with
    | fields vs =>
      show wpAny _ _ (if (_ && _) = true then _ else _) Q E s
      rw [hT, Bool.false_and, if_neg Bool.false_ne_true]
      exact wpAny_pure q
    | _ => exact wpAny_pure q
  unfold letOwnedTupleGo
  split
  · cases v with
    | ref a => exact key a
    | _ => exact wpAny_pure q
  · cases v with
    | ref a => exact key a
    | _ => exact wpAny_pure q
  · exact wpAny_pure q

structure OverList (c : Cx w fs) (target : PySem.Expr) (body orelse : List Stmt) (Ψ : FV → Loc → GS → Prop) (nss : List (Addr × Loc)) (raws : List (Addr × Obj)) (l : Addr) (items : List PV) (P : VisP) : Prop where
  mem : ∀ i loc ls cs gn, P i loc ls cs gn → (l, items) ∈ ls
  turn : ∀ i loc ls cs gn p, items[i]? = some p → P i loc ls cs gn → ∀ nss raws, AssignV c target p loc (mkG ls cs gn nss raws) fun l2 g2 => ExecV c body l2 g2 (onlyNext fun l3 g3 => Back (P (i + 1) l3) nss raws g3)
  done : ∀ loc ls cs gn, P items.length loc ls cs gn → ExecV c orelse loc (mkG ls cs gn nss raws) Ψ
inductive ListI (c : Cx w fs) (target : PySem.Expr) (body orelse : List Stmt) (Ψ : FV → Loc → GS → Prop) (g : GS) (it : MVal) (n' : Nat) (loc : Loc) (g' : GS) : Prop
  | mk (l : Addr) (items : List PV) (P : VisP) (I : Addr) (io : Obj) (i : Nat) (ls : List (Addr × List PV)) (cs : List (Addr × Option PV)) (gn : Array GenState) (O : OverList c target body orelse Ψ g.nss g.raws l items P) (e1 : it = .ref I)
    (hc : io.cls = .type "list_iterator") (hd : io.data = .fields #[.ref l, .int (i : Nat) 0]) (hi : i ≤ items.length) (e2 : n' = items.length - i) (e3 : g' = mkG ls cs gn g.nss ((I, io) :: g.raws)) (hP : P i loc ls cs gn)
noncomputable abbrev kFl (c : Cx w fs) (target : PySem.Expr) (body orelse : List Stmt) (Ψ : FV → Loc → GS → Prop) (loc : Loc) (g : GS) : PV → GS → Prop := fun p g1 => ∃ l items P, p = .lst l ∧ g1.raws = g.raws ∧ g1.nss = g.nss ∧ P 0 loc g1.lists g1.cells g1.gens ∧ OverList c target body orelse Ψ g.nss g.raws l items P
theorem S_for_list {target : PySem.Expr}
    (h : EvalV c c.env iter loc g (kFl c target body orelse Ψ loc g))
    (hf : ∀ x, foldedSetIterable iter c.env x = pure x := by intro _; rfl) : StmtV c (.For target iter body orelse pos) loc g Ψ := by
  refine S_for (ListI c target body orelse Ψ g) (h.mono fun p g1 hp => ?_) ?_ hf
  · obtain ⟨l, items, P, rfl, hr, hn, hP, O⟩ := hp
    intro ts rs s Q E v0 R q
    have := R.lst (.head _); subst this
    obtain ⟨m, im, mu, R'⟩ := R.weaken tl1
    obtain ⟨vs, n, k1, k2, k3, k4⟩ := R'.listAt (O.mem _ _ _ _ _ hP)
    refine wpAny_pyIter_list k4 ?_
    have R2 := R'.newRaw "list_iterator" #[.ref l, .int 0 0] R'.tk
    refine q _ items.length _ _ ⟨m, im, _, R2⟩ ⟨l, items, P, _, fieldsO "list_iterator" #[.ref l, .int 0 0], 0, g1.lists, g1.cells, g1.gens, O, rfl, rfl, rfl, Nat.zero_le _, by (first | lia | omega), ?_, hP⟩
    rw [hr, hn]
  · rintro it n' loc g' ⟨l, items, P, I, io, i, ls, cs, gn, O, rfl, hc, hd, hi, rfl, rfl, hP⟩ ts rs s Q E R q1 q2
    obtain ⟨m, im, mu, R'⟩ := R
    obtain ⟨z1, z2, z3, z4⟩ := R'.rawAt (.head _)
    obtain ⟨vs, n, k1, k2, k3, k4⟩ := R'.listAt (O.mem _ _ _ _ _ hP)
    have hlen : vs.length = items.length := k2.length
    have hit : s.heap.IsListIter I l i := ⟨io, z1, hc, hd⟩
    by_cases hlt : i < items.length
    · obtain ⟨v, hv, hr⟩ := k2.get (List.getElem?_eq_getElem hlt)
      refine wpAny_pyNext_list_item hit k4 (x := v) (by simpa using hv) fun h' hit' hsb => ?_
      obtain ⟨io', y1, y2, y3⟩ := hit'
      have R2 := R'.stepRaw (o' := io') .head (by
        have := (R'.st.raws I _ (.head _)).2
        rw [rawOk, Bool.and_eq_true] at this ⊢
        refine ⟨this.1, ?_⟩
        rw [y3]) hsb y1 R'.tk
      refine q1 v items[i] _ _ ⟨m, im, _, R2.temp hr⟩ (fun Q' E' h => own_skip y1 y2 (by decide) h) ?_
      intro ts rs s Q E v R hv q
      refine O.turn i loc ls cs gn _ (List.getElem?_eq_getElem hlt) hP g.nss _ ts rs s Q E v R hv fun l2 g2 s2 R2 k => q l2 g2 s2 R2 ?_
      intro ts rs s Q E R q
      refine k ts rs s Q E R fun f fv us loc' g3 s3 a3 R3 p => ?_
      have fin : ∀ l3, Rel c l3 g3 (us ++ ts) rs s3 → Back (P (i + 1) l3) g.nss ((I, io') :: g.raws) g3 → ∃ g4, Rel c l3 g4 (us ++ ts) rs s3 ∧ ∃ m, m < items.length - i ∧ ListI c target body orelse Ψ g (.ref I) m l3 g4 := by
        rintro l3 R3 ⟨g4, hle, e1, e2, hP4⟩
        refine ⟨g4, R3.drop hle, items.length - (i + 1), by (first | lia | omega), l, items, P, I, io', i + 1, g4.lists, g4.cells, g4.gens, O, rfl, y2, y3, hlt, rfl, ?_, hP4⟩
        rw [← e1, ← e2]
      cases a3 with
      | next => obtain ⟨g4, R4, k⟩ := fin _ R3 p; exact q _ _ _ _ _ _ .next R4 k
      | cont => obtain ⟨g4, R4, k⟩ := fin _ R3 p; exact q _ _ _ _ _ _ .cont R4 k
      | brk => exact p.elim
      | ret v pv => exact p.elim
    · obtain rfl : i = items.length := Nat.le_antisymm hi (Nat.not_lt.mp hlt)
      refine wpAny_pyNext_list_end rfl hit k4 (by simp [hlen]) fun h' hx => ?_
      obtain ⟨mu', R2⟩ := R'.dropRaw rfl hx R'.tk
      exact q2 (mkG ls cs gn g.nss g.raws) _ ⟨m, im, mu', R2⟩ (O.done loc ls cs gn hP)
end loops
end Mine
set_option maxHeartbeats 4000000
namespace Mine
variable {w : Wd} {fs : FS} {c : Cx w fs} {env : Env} {loc : Loc} {g : GS}
theorem ExecV.post_drop {b : List Stmt} {Ψ : FV → Loc → GS → Prop} (h : ExecV c b loc g fun f l g' => ∃ g'', GLe g'' g' ∧ Ψ f l g'') : ExecV c b loc g Ψ :=
  fun ts rs s Q E R q => h ts rs s Q E R fun f fv us loc' g' s' a R' ⟨g'', hle, p⟩ => q f fv us loc' g'' s' a (R'.drop hle) p
theorem GLe.ofLists {ls ls' : List (Addr × List PV)} {cs : List (Addr × Option PV)} {gn : Array GenState} {nss : List (Addr × Loc)} {raws : List (Addr × Obj)} (h : ls'.Sublist ls) : GLe (mkG ls' cs gn nss raws) (mkG ls cs gn nss raws) := ⟨h, .refl _, .refl _, .refl _, Eq.refl _⟩
theorem intsAre_get {vs : List MVal} {ns : List Int} (h : IntsAre vs ns) {k : Nat} {n : Int} (hk : ns[k]? = some n) : ∃ t, vs[k]? = some (.int n t) := by
  induction h generalizing k with
  | nil => cases hk
  | cons _ _ _ ih =>
    cases k with
    | zero => cases hk; exact ⟨_, rfl⟩
    | succ k => exact ih hk
theorem intsAre_len {vs : List MVal} {ns : List Int} (h : IntsAre vs ns) : vs.length = ns.length := by
  induction h with
  | nil => rfl
  | cons _ _ _ ih => rw [List.length_cons, List.length_cons, ih]
theorem F_len_scr {d : Nat} {Φ : PV → GS → Prop} (hfit : (w.ns.length : Int) < 2 ^ 63) (h : Φ (.int w.ns.length) g) : CallR w d (.st (.builtin "len")) [.st (.ref w.sc)] [] g Φ := by
  intro fs c loc ts rs s Q E fv vs ks _ _ R hf hl hp hk hkp q
  have := R.st hf; subst this
  obtain ⟨v, rfl⟩ := len1 hl
  have hv := R.st (hp (v, .st (.ref w.sc)) (by simp)); subst hv
  have hks : ks = [] := by cases ks with | nil => rfl | cons => cases hk
  subst hks
  obtain ⟨m, i, u, R'⟩ := R
  obtain ⟨ws, hL, hI⟩ := c.scr.keeps R'.fr.keep
  have e : ws.toArray.size = w.ns.length := by simp [intsAre_len hI]
  refine call_len_list hL (by rw [e]; exact hfit) ?_
  rw [e]
  exact q _ _ g _ (Rel.prim (Rel.ticked ⟨m, i, u, R'⟩) fun _ => .int _ _) h
theorem I_scr {k : Int} {n : Int} {Φ : PV → GS → Prop} (h0 : 0 ≤ k) (hf : k < 2 ^ 63) (hx : w.ns[k.toNat]? = some n) (h : Φ (.int n) g) : SubR w (.st (.ref w.sc)) (.int k) g Φ := by
  intro fs c loc ts rs s Q E value slice vo vi hs R ho hi q
  have := R.st ho; subst this
  obtain ⟨t, rfl⟩ := R.int hi
  obtain ⟨m, i, u, R'⟩ := R
  obtain ⟨ws, hL, hI⟩ := c.scr.keeps R'.fr.keep
  obtain ⟨t2, hv⟩ := intsAre_get hI hx
  exact tail_any hL.typeIs list_getitem_lookup (wpAny_getItem_list hL h0 hf (by simpa using hv) (q _ _ g _ ⟨m, i, u, R'.temp (.int _ _)⟩ h)) (hs _ _)
end Mine
set_option maxHeartbeats 4000000
namespace Mine
noncomputable def addedP (i : Nat) : Int := [0, 2, 0, 1, 0, 2].getD i 0
noncomputable def cellP (ns : List Int) (i : Nat) : Int := if i < ns.length then addedP i + ns.getD i 0 else addedP i
noncomputable def signP (ns : List Int) (i : Nat) : MStr := Txt.item (Str.ofString "&<()\r") ((cellP ns i).fmod 5)
noncomputable def signsP (ns : List Int) (k : Nat) : List MStr := (List.range k).map (signP ns)
theorem signsP_succ (ns : List Int) (k : Nat) : (signsP ns (k + 1)).map PV.str = (signsP ns k).map PV.str ++ [.str (signP ns k)] := by
  rw [signsP, signsP, List.range_succ]; simp
theorem fmod5 (a : Int) : a.fmod 5 = 0 ∨ a.fmod 5 = 1 ∨ a.fmod 5 = 2 ∨ a.fmod 5 = 3 ∨ a.fmod 5 = 4 := by
  have h1 := Int.fmod_nonneg_of_pos a (b := 5) (by decide)
  have h2 := Int.fmod_lt_of_pos a (b := 5) (by decide)
  (first | lia | omega)
theorem sign_at (a : Int) : fitsSsize (a.fmod 5) = true ∧ (Txt.charAt (Str.ofString "&<()\r") (a.fmod 5)).isSome = true := by
  rcases fmod5 a with h | h | h | h | h <;> rw [h] <;> exact ⟨rfl, rfl⟩

theorem spec_signs {w : Wd} {d : Nat} {g : GS} {Φ : PV → GS → Prop} (hd : d ≤ 800) (hlen : w.ns.length < 1000) (h : ∀ a, Φ (.lst a) { g with lists := (a, (signsP w.ns 6).map .str) :: g.lists }) : CallR w d (.st (.ref 168)) [.st (.ref w.sc)] [] g Φ := by
  refine' CallR_fn (loc' := [("script", .st (.ref w.sc))]) ?ho ?hcd (by (first | lia | omega)) ?hb ?hk ?h ?c1 ?c2 ?c3
  case ho => exact rfl
  case hcd => exact rfl
  case hk => exact rfl
  case c1 => exact rfl
  case c2 => exact rfl
  case c3 => decide
  case hb =>
    intro vs ks hv hk
    obtain ⟨v1, rfl⟩ := len1 hv
    obtain rfl := len0 hk
    · refine ⟨[("script", v1)], fun S => by kernel_rfl, rfl, fun imm h1 h2 => ?_⟩
      exact LocOk.of_binds (ns := ["script"]) rfl (by decide) ⟨rfl, h1 (v1, .st (.ref w.sc)) (by simp), trivial⟩
  case h =>
    intro c' hd' hu'
    refine ExecV.post_drop ?_
    refine X_cons (S_assign (E_list (A_cons (E_int (A_cons (E_int (A_cons (E_int (A_cons (E_int (A_cons (E_int (A_cons (E_int (A_nil ⟨Nat.le_of_ble_eq_true rfl, fun a => ?_⟩)))))))))))))))
    refine X_cons (S_assign (E_list (A_nil ⟨Nat.le_of_ble_eq_true rfl, fun b => ?_⟩)))
    refine X_cons (S_for_range (a := 0) (n := 6) (fun i loc ls cs gn => Has loc "script" (.st (.ref w.sc)) ∧ Has loc "added" (.lst a) ∧ Has loc "signs" (.lst b) ∧ ls = (b, (signsP w.ns i).map .str) :: (a, [.int 0, .int 2, .int 0, .int 1, .int 0, .int 2]) :: g.lists ∧ cs = g.cells ∧ gn = g.gens) (by decide)
      (E_call_ty hd' hu' (E_builtin rfl rfl (by decide) ⟨rfl, A_cons (E_int (A_nil (F_range1 fun r o hr => ⟨r, o, rfl, hr, rfl, rfl, rfl, rfl, rfl, rfl, rfl, rfl⟩)))⟩)) ?turn ?done)
    case turn =>
      rintro i loc ls cs gn hi ⟨h1, h2, h3, rfl, rfl, rfl⟩ nss raws
      have hk : ([.int 0, .int 2, .int 0, .int 1, .int 0, .int 2] : List PV)[(0 + (i : Int)).toNat]? = some (.int (addedP i)) := by
        have : i = 0 ∨ i = 1 ∨ i = 2 ∨ i = 3 ∨ i = 4 ∨ i = 5 := by (first | lia | omega)
        rcases this with rfl | rfl | rfl | rfl | rfl | rfl <;> rfl
      refine X_cons (S_assign (E_sub (E_local h2 (E_local rfl (I_list (.tail _ (.head _)) (by (first | lia | omega)) (by (first | lia | omega)) hk ?_)))))
      refine X_join (fun l g' => Has l "cell" (.int (cellP w.ns i)) ∧ Has l "script" (.st (.ref w.sc)) ∧ Has l "added" (.lst a) ∧ Has l "signs" (.lst b) ∧ g' = mkG ((b, (signsP w.ns i).map .str) :: (a, [.int 0, .int 2, .int 0, .int 1, .int 0, .int 2]) :: g.lists) g.cells g.gens nss raws) ?_ ?_
      · refine S_if (T_cmp _ hd' hu' (E_local rfl (E_call_bi hd' hu' (E_builtin rfl rfl (by decide) ⟨rfl, A_cons (E_local h1 (A_nil (F_len_scr (by (first | lia | omega)) (C_lt ⟨_, rfl, fun ht => ?_, fun ht => ?_⟩))))⟩))))
        · have hlt : i < w.ns.length := by have := of_decide_eq_true ht; (first | lia | omega)
          refine X_cons (S_assign (E_bin (E_local rfl (E_sub (E_local h1 (E_local rfl (I_scr (n := w.ns.getD i 0) (by (first | lia | omega)) (by (first | lia | omega)) ?_ (B_add (X_nil ⟨rfl, ?_, h1, h2, h3, rfl⟩)))))))))
          · rw [show (0 + (i : Int)).toNat = i by (first | lia | omega), List.getElem?_eq_getElem hlt, List.getD_eq_getElem?_getD, List.getElem?_eq_getElem hlt]; rfl
          · rw [cellP, if_pos hlt]; rfl
        · have hlt : ¬ i < w.ns.length := by have := of_decide_eq_false ht; (first | lia | omega)
          refine X_nil ⟨rfl, ?_, h1, h2, h3, rfl⟩
          rw [cellP, if_neg hlt]; rfl
      · rintro l g' ⟨k1, k2, k3, k4, rfl⟩
        refine X_cons (S_expr (E_meth_list F.slot_list_append (by kernel_rfl) hd' hu' (E_local k4 ⟨_, _, rfl, .head _, A_cons (E_sub (E_str (E_bin (E_local k1 (E_int (B_mod (by decide) (I_str (sign_at _).1 (sign_at _).2 (A_nil (F_append .head (by simp [signsP]; (first | lia | omega)) (X_nil ⟨_, GLe.rfl, rfl, rfl, k2, k3, k4, ?_, rfl, rfl⟩)))))))))) (by with_unfolding_all rfl)⟩)))
        rw [signsP_succ]; rfl
    case done =>
      rintro loc ls cs gn ⟨h1, h2, h3, rfl, rfl, rfl⟩
      exact X_nil (X_cons (S_ret (E_local h3 ⟨_, GLe.ofLists (List.Sublist.cons_cons _ (List.sublist_cons_self _ _)), h b⟩)))
end Mine
set_option maxHeartbeats 4000000
namespace Mine
variable {w : Wd} {fs : FS} {c : Cx w fs} {env : Env} {loc : Loc} {g : GS}
structure Steps (w : Wd) (it : MVal) (St : Nat → List (Addr × Obj) → Prop) (items : List PV) (rest : List (Addr × Obj)) (ok : List (Addr × List PV) → Prop) : Prop where
  next : ∀ (i : Nat) (p : PV), items[i]? = some p → ∀ (fs : FS) (c : Cx w fs) (loc : Loc) (g : GS) (ts : List (MVal × PV)) (rs : Led) (s : Shared) (Q : Option MVal → Shared → Prop) (E : MVal → Shared → Prop), St i g.raws → ok g.lists → Rel c loc g ts rs s →
    (∀ v raws' s', St (i + 1) raws' → Rel c loc { g with raws := raws' } ((v, p) :: ts) rs s' → (∀ (target : PySem.Expr) (Q' : Unit → Shared → Prop) (E' : MVal → Shared → Prop), Q' () s' → wpAny (M0 w) c.A (letOwnedTupleGo target it v) Q' E' s') → Q (some v) s') → wpAny (M0 w) c.A (pyNext it) Q E s
  done : ∀ (fs : FS) (c : Cx w fs) (loc : Loc) (g : GS) (ts : List (MVal × PV)) (rs : Led) (s : Shared) (Q : Option MVal → Shared → Prop) (E : MVal → Shared → Prop), St items.length g.raws → ok g.lists → Rel c loc g ts rs s → (∀ s', Rel c loc { g with raws := rest } ts rs s' → Q none s') → wpAny (M0 w) c.A (pyNext it) Q E s
  self : ∀ (fs : FS) (c : Cx w fs) (loc : Loc) (g : GS) (ts : List (MVal × PV)) (rs : Led) (s : Shared) (Q : MVal → Shared → Prop) (E : MVal → Shared → Prop), St 0 g.raws → Rel c loc g ts rs s → Q it s → wpAny (M0 w) c.A (pyIter it) Q E s
noncomputable def SrcV (w : Wd) (p : PV) (items : List PV) (raws0 rest : List (Addr × Obj)) (ok : List (Addr × List PV) → Prop) : Prop :=
  ∀ (fs : FS) (c : Cx w fs) (loc : Loc) (g : GS) (ts : List (MVal × PV)) (rs : Led) (s : Shared) (Q : MVal → Shared → Prop) (E : MVal → Shared → Prop) (v : MVal), g.raws = raws0 → ok g.lists → Rel c loc g ((v, p) :: ts) rs s →
    (∀ it St raws1 s', Steps w it St items rest ok → St 0 raws1 → Rel c loc { g with raws := raws1 } ts rs s' → Q it s') → wpAny (M0 w) c.A (pyIter v) Q E s

theorem raw_again {imm mu : Led} {I : Addr} {o o' : Obj} {ts : List (MVal × PV)} {rs : Led} {s : Shared} {m : MStr → Option MVal} {vs : Array MVal} (R : RelW c loc g ts rs s m imm mu) (h : (I, o) ∈ g.raws) (hd : o'.data = .fields vs) : rawOk I o' = true := by
  have := (R.st.raws I _ h).2
  rw [rawOk, Bool.and_eq_true] at this ⊢
  exact ⟨this.1, by rw [hd]⟩
theorem src_range {a : Int} {n : Nat} {r : Addr} {o : Obj} {rest : List (Addr × Obj)} (hs : Builtin.Range.small a (a + n) 1 = true) (ho : IsRangeO o a (a + n)) : SrcV w (.st (.ref r)) ((List.range n).map fun (i : Nat) => PV.int (a + (i : Int))) ((r, o) :: rest) rest (fun _ => True) := by
  intro fs c loc g ts rs s Q E v hr _ R q
  have := R.st (.head _); subst this
  obtain ⟨m, im, mu, R'⟩ := R.weaken tl1
  obtain ⟨t, u, v, rfl⟩ := ho
  obtain ⟨z1, _⟩ := R'.rawAt (by rw [hr]; exact .head _)
  refine wpAny_pyIter_range z1 hs ?_
  have e : Builtin.Range.rangeSize a (a + n) 1 = (n : Int) := by rw [rangeSize_one]; split <;> (first | lia | omega)
  rw [e]
  have R2 := R'.newRaw "range_iterator" #[rawInt a, rawInt (n : Int), rawInt 1] R'.tk
  refine q (.ref s.heap.objs.size) (fun i raws => i ≤ n ∧ raws = (s.heap.objs.size, fieldsO "range_iterator" #[rawInt (a + (i : Int)), rawInt ((n : Int) - (i : Int)), rawInt 1]) :: (r, fieldsO "range" #[.int a t, .int (a + n) u, .int 1 v]) :: rest) _ _ ?_ ⟨Nat.zero_le _, ?_⟩ ⟨m, im, _, R2⟩
  · generalize s.heap.objs.size = I
    refine ⟨fun i p hp => ?_, ?_, ?_⟩
    · intro fs c loc g ts rs s Q E ⟨hi, hr⟩ _ R q
      have hlt : i < n := by
        have := (List.getElem?_eq_some_iff.mp hp).1
        simpa using this
      have hp' : p = .int (a + (i : Int)) := by
        rw [List.getElem?_map, List.getElem?_range hlt] at hp
        exact (Option.some.inj hp).symm
      subst hp'
      obtain ⟨m, im, mu, R'⟩ := R
      obtain ⟨z1, _⟩ := R'.rawAt (by rw [hr]; exact .head _)
      refine wpAny_pyNext_range_item z1 (by (first | lia | omega)) fun h' hit hsb => ?_
      have e1 : a + (i : Int) + 1 = a + ((i + 1 : Nat) : Int) := by (first | lia | omega)
      have e2 : (n : Int) - (i : Int) - 1 = (n : Int) - ((i + 1 : Nat) : Int) := by (first | lia | omega)
      rw [e1, e2] at hit
      have R2 := R'.stepRaw (o' := fieldsO "range_iterator" #[rawInt (a + ((i + 1 : Nat) : Int)), rawInt ((n : Int) - ((i + 1 : Nat) : Int)), rawInt 1]) (rw' := (I, fieldsO "range_iterator" #[rawInt (a + ((i + 1 : Nat) : Int)), rawInt ((n : Int) - ((i + 1 : Nat) : Int)), rawInt 1]) :: (r, fieldsO "range" #[.int a t, .int (a + n) u, .int 1 v]) :: rest) (by rw [hr]; exact .head) (raw_again R' (by rw [hr]; exact .head _) rfl) hsb hit (Nat.succ_pos s.toks)
      exact q _ _ _ ⟨hlt, rfl⟩ ⟨m, im, _, R2.temp (.int _ _)⟩ fun target Q' E' h => own_skip hit rfl (by decide) h
    · intro fs c loc g ts rs s Q E ⟨hi, hr⟩ _ R q
      simp only [List.length_map, List.length_range] at hr
      obtain ⟨m, im, mu, R'⟩ := R
      obtain ⟨z1, _⟩ := R'.rawAt (by rw [hr]; exact .head _)
      refine wpAny_pyNext_range_end rfl z1 (by (first | lia | omega)) fun h' hx => ?_
      obtain ⟨mu', R2⟩ := R'.dropRaw hr hx R'.tk
      exact q _ (Rel.drop ⟨m, im, mu', R2⟩ ⟨.refl _, .refl _, .refl _, List.sublist_cons_self _ _, rfl⟩)
    · intro fs c loc g ts rs s Q E ⟨hi, hr⟩ R q
      obtain ⟨m, im, mu, R'⟩ := R
      obtain ⟨z1, _⟩ := R'.rawAt (by rw [hr]; exact .head _)
      exact wpAny_pyIter_rangeiter z1 q
  · rw [hr]; simp
theorem src_list {l : Addr} {items : List PV} {rest : List (Addr × Obj)} : SrcV w (.lst l) items rest rest (fun ls => (l, items) ∈ ls) := by
  intro fs c loc g ts rs s Q E v hr hm R q
  have := R.lst (.head _); subst this
  obtain ⟨m, im, mu, R'⟩ := R.weaken tl1
  obtain ⟨vs, n, k1, k2, k3, k4⟩ := R'.listAt hm
  refine wpAny_pyIter_list k4 ?_
  have R2 := R'.newRaw "list_iterator" #[.ref l, .int 0 0] R'.tk
  refine q (.ref s.heap.objs.size) (fun i raws => ∃ io, i ≤ items.length ∧ io.cls = .type "list_iterator" ∧ io.data = .fields #[.ref l, .int (i : Nat) 0] ∧ raws = (s.heap.objs.size, io) :: rest) _ _ ?_ ⟨_, Nat.zero_le _, rfl, rfl, by rw [hr]⟩ ⟨m, im, _, R2⟩
  generalize s.heap.objs.size = I
  refine ⟨fun i p hp => ?_, ?_, ?_⟩
  · intro fs c loc g ts rs s Q E ⟨io, hi, hc, hd, hr⟩ hm R q
    have hlt : i < items.length := (List.getElem?_eq_some_iff.mp hp).1
    obtain ⟨m, im, mu, R'⟩ := R
    obtain ⟨z1, z2, z3, z4⟩ := R'.rawAt (by rw [hr]; exact .head _)
    obtain ⟨vs, n, k1, k2, k3, k4⟩ := R'.listAt hm
    obtain ⟨v, hv, hrl⟩ := k2.get hp
    refine wpAny_pyNext_list_item ⟨io, z1, hc, hd⟩ k4 (x := v) (by simpa using hv) fun h' hit' hsb => ?_
    obtain ⟨io', y1, y2, y3⟩ := hit'
    have R2 := R'.stepRaw (o' := io') (rw' := (I, io') :: rest) (by rw [hr]; exact .head) (raw_again R' (by rw [hr]; exact .head _) y3) hsb y1 R'.tk
    exact q _ _ _ ⟨io', hlt, y2, y3, rfl⟩ ⟨m, im, _, R2.temp hrl⟩ fun target Q' E' h => own_skip y1 y2 (by decide) h
  · intro fs c loc g ts rs s Q E ⟨io, hi, hc, hd, hr⟩ hm R q
    obtain ⟨m, im, mu, R'⟩ := R
    obtain ⟨z1, z2, z3, z4⟩ := R'.rawAt (by rw [hr]; exact .head _)
    obtain ⟨vs, n, k1, k2, k3, k4⟩ := R'.listAt hm
    refine wpAny_pyNext_list_end rfl ⟨io, z1, hc, hd⟩ k4 (by simp [k2.length]) fun h' hx => ?_
    obtain ⟨mu', R2⟩ := R'.dropRaw hr hx R'.tk
    exact q _ ⟨m, im, mu', R2⟩
  · intro fs c loc g ts rs s Q E ⟨io, hi, hc, hd, hr⟩ R q
    obtain ⟨m, im, mu, R'⟩ := R
    obtain ⟨z1, z2, z3, z4⟩ := R'.rawAt (by rw [hr]; exact .head _)
    exact wpAny_pyIter_listiter ⟨io, z1, hc, hd⟩ q
end Mine
set_option maxHeartbeats 4000000
namespace Mine
variable {w : Wd} {fs : FS} {c : Cx w fs} {env : Env} {loc : Loc} {g : GS}

section turnE
variable {prog : Program} {w' : World} {A : Around} {E : MVal → Shared → Prop} {R : Result → Shared → Prop} {s : Shared}
theorem comp_loop {elt target iter : PySem.Expr} {ifs : List PySem.Expr} {scope : Scope} {pos : Pos} {it acc : MVal} {env : Env} (I : Nat → Shared → Prop)
    (turn : ∀ n s, I n s → wpAny (model prog w') A (pyNext it) (fun r s₁ => match r with
      | none => R (.ok .next) s₁
      | some v => ∀ E1, wpAny (model prog w') A (letOwnedTupleGo target it v) (fun _ s₁' => ∀ E2, wpAny (model prog w') A (assign target env v) (fun _ s₂ =>
          ∀ E3, wpAny (model prog w') A (forIn ifs true fun c r => if r = true then do let ok ← isTrue c env (eval c env); pure (ForInStep.yield ok) else pure (ForInStep.yield r)) (fun ok s₃ =>
            if ok = true then ∀ E4, wpAny (model prog w') A (eval elt env) (fun x s₄ =>
              ∀ E5, wpAny (model prog w') A (call (.builtin "list.append") [acc, x]) (fun _ s₅ => ∃ m, m < n ∧ I m s₅) E5 s₄) E4 s₃
            else ∃ m, m < n ∧ I m s₃) E3 s₂) E2 s₁') E1 s₁) (notedBy (model prog w') A env fun e s' => R (.error e) s') s)
    (n : Nat) (h : I n s) : codeAny (model prog w') A (.compLoop (.ListComp elt [⟨target, iter, ifs, 0⟩] scope pos) 0 it acc env) R s := by
  refine codeAny_loop rfl I (fun n s hI => ?_) n h
  show wpAny _ A ((compTurn (.ListComp elt [⟨target, iter, ifs, 0⟩] scope pos) 0 it acc env).onRaise (fun x => do noteFrame x env; theTreesLotGoes x)) _ _ s
  refine wpAny_noted ?_
  rw [compTurn_list]
  refine wpAny_bind (wpAny_standAt (wpAny_bind (wpAny_mono (turn n s hI) (fun r s₁ h₁ => ?_) fun _ _ h' => h')))
  cases r with
  | none => exact wpAny_pure h₁
  | some v =>
    refine wpAny_bind (wpAny_mono (h₁ _) (fun _ s₁' h1 => wpAny_bind (wpAny_mono (h1 _) (fun _ s₂ h₂ => wpAny_bind (wpAny_mono (h₂ _) (fun ok s₃ h₃ => ?_) fun _ _ h' => h')) fun _ _ h' => h')) fun _ _ h' => h')
    cases ok with
    | false => exact wpAny_pure ⟨rfl, h₃⟩
    | true =>
      exact wpAny_bind (wpAny_bind (wpAny_mono (h₃ _) (fun x s₄ h₄ => wpAny_bind (wpAny_mono (h₄ _) (fun _ s₅ h₅ => wpAny_pure (wpAny_pure ⟨rfl, h₅⟩)) fun _ _ h' => h')) fun _ _ h' => h'))
end turnE

noncomputable def AssignC (c : Cx w fs) (env' : Env) (C : Addr) (target : PySem.Expr) (p : PV) (l l' : Loc) : Prop :=
  ∀ (loc : Loc) (g : GS) (nss : List (Addr × Loc)) ts rs s (Q : Unit → Shared → Prop) (E : MVal → Shared → Prop) v, g.nss = (C, l) :: nss → Rel c loc g ts rs s → (v, p) ∈ ts → (∀ s', Rel c loc { g with nss := (C, l') :: nss } ts rs s' → Q () s') → wpAny (M0 w) c.A (assign target env' v) Q E s
theorem store_ns {scope : Scope} {cl : List (MStr × Addr)} {C : Addr} {x : MStr} {p : PV} {l : Loc} {nss : List (Addr × Loc)} {ts : List (MVal × PV)} {rs : Led} {s : Shared} {Q : Unit → Shared → Prop} {E : MVal → Shared → Prop} {v : MVal} (hx : scope.names.lookup x = some .local) (hk : scope.kind = .function)
    (hn : g.nss = (C, l) :: nss) (R : Rel c loc g ts rs s) (hv : (v, p) ∈ ts) (q : ∀ s', Rel c loc { g with nss := (C, (x, p) :: l) :: nss } ts rs s' → Q () s') : wpAny (M0 w) c.A (storeName (compEnvC scope cl C c.env) x v) Q E s := by
  obtain ⟨m, imm, mu, R1⟩ := R
  obtain ⟨o, m2, hm, hN, hl⟩ := R1.st.nss C l (by rw [hn]; exact .head _)
  have z := R1.nw _ (List.mem_append_right imm (List.mem_append_left rs hm))
  refine wpAny_storeName_local (lookup_relabel_local hx) (hN.ns z.1) (fun h' hn' hs => ?_) (by simp [compEnvC, relabel, hk])
  obtain ⟨o', e', hN'⟩ := LCg.ns_obj hn'
  have N' : News c.h₀ c.L h' (imm ++ (setL C o' mu ++ rs)) := by
    rw [← R1.all_set hm]
    intro p hp
    obtain ⟨q, hq, rfl⟩ := List.mem_map.mp hp
    by_cases h : q.1 = C
    · rw [if_pos h]; exact ⟨e', z.2.1, z.2.2⟩
    · rw [if_neg h]
      have y := R1.nw q hq
      exact ⟨(hs.2 q.1 h).trans y.1, y.2.1, y.2.2⟩
  have hU : LUpd C l ((x, p) :: l) g.nss ((C, (x, p) :: l) :: nss) := by rw [hn]; exact .head
  exact q _ ⟨m, imm, _, R1.setM (g' := { g with nss := (C, (x, p) :: l) :: nss }) hm rfl (R1.st.setNs R1.munod hm hN hN' hU (hl.set (R1.temps _ hv))) (R1.fr.change hs z.2.1 z.2.2) N' (Nat.succ_pos _)⟩
theorem AC_name {scope : Scope} {cl : List (MStr × Addr)} {C : Addr} {x : MStr} {px : Pos} {p : PV} {l : Loc} (hx : scope.names.lookup x = some .local) (hk : scope.kind = .function) : AssignC c (compEnvC scope cl C c.env) C (.Name x px) p l ((x, p) :: l) := by
  intro loc g nss ts rs s Q E v hn R hv q
  exact wpAny_assign_Name (store_ns hx hk hn R hv q)
theorem AC_tup2 {scope : Scope} {cl : List (MStr × Addr)} {C : Addr} {x y : MStr} {px py pt : Pos} {k : Nat} {p1 p2 : PV} {l : Loc} (hx : scope.names.lookup x = some .local) (hy : scope.names.lookup y = some .local) (hk : scope.kind = .function) :
    AssignC c (compEnvC scope cl C c.env) C (.Tuple [.Name x px, .Name y py] k pt) (.tup [p1, p2]) l ((y, p2) :: (x, p1) :: l) := by
  intro loc g nss ts rs s Q E v hn R hv q
  obtain ⟨m, imm, mu, R'⟩ := R
  cases R'.temps _ hv with
  | @tup a vs n _ h1 h2 =>
    have hget := R'.nw.get (List.mem_append_left (mu ++ rs) h1)
    have hT : IsTup s.heap a vs.toArray := ⟨_, hget, rfl, n, rfl⟩
    obtain ⟨v1, v2, rfl⟩ := len2 (h2.length : vs.length = 2)
    refine assign_Tuple_tuple rfl hT (by with_unfolding_all rfl) (by with_unfolding_all rfl) fun h' hx' => ?_
    have up : ∀ b o, s.heap.get? b = some o → h'.get? b = some o := fun b o e => hx' b o (Nat.ne_of_lt (Heap.lt_size e)) e
    have R2 : RelW c loc g ts rs { s with heap := h' } m imm mu := R'.moved (R'.fr.keeps up) (R'.nw.grown up) R'.tk
    have tl := vall_zip h2
    have R3 : Rel c loc g ((v1, p1) :: (v2, p2) :: ts) rs { s with heap := h' } := ⟨m, imm, mu, { R2 with temps := List.forall_mem_cons.mpr ⟨tl (v1, p1) (.head _), List.forall_mem_cons.mpr ⟨tl (v2, p2) (.tail _ (.head _)), R2.temps⟩⟩ }⟩
    show wpAny _ _ (do holding [v2] (assign (.Name x px) (compEnvC scope cl C c.env) v1); assignInOrder [assign (.Name y py) (compEnvC scope cl C c.env)] [v2]) Q E _
    refine wpAny_bind (wpAny_holding (wpAny_assign_Name (store_ns hx hk hn R3 (.head _) fun s2 R4 => ?_)))
    show wpAny _ _ (do holding [] (assign (.Name y py) (compEnvC scope cl C c.env) v2); assignInOrder [] []) Q E _
    refine wpAny_bind (wpAny_holding (wpAny_assign_Name (store_ns (nss := nss) hy hk rfl R4 (.tail _ (.head _)) fun s3 R5 => ?_)))
    exact wpAny_pure (q s3 (R5.weaken fun p hp => .tail _ (.tail _ hp)))

noncomputable def TestsV (c : Cx w fs) (env : Env) (ifs : List PySem.Expr) (loc : Loc) (g : GS) (Φ : Bool → GS → Prop) : Prop := match ifs with
  | [] => Φ true g
  | [t] => TestV c env t loc g Φ
  | _ => False
noncomputable abbrev VisC := Nat → List PV → List (Addr × List PV) → List (Addr × Option PV) → Array GenState → Prop
noncomputable def BackC (P : List (Addr × List PV) → List (Addr × Option PV) → Array GenState → Prop) (D : Addr) (ys : List PV) (C : Addr) (nss : List (Addr × Loc)) (raws : List (Addr × Obj)) (g : GS) : Prop :=
  ∃ g4 l ls, GLe g4 g ∧ g4.lists = (D, ys) :: ls ∧ g4.nss = (C, l) :: nss ∧ g4.raws = raws ∧ P ls g4.cells g4.gens
inductive CompI (c : Cx w fs) (loc : Loc) (g : GS) (items : List PV) (D C : Addr) (St : Nat → List (Addr × Obj) → Prop) (P : VisC) (ts : List (MVal × PV)) (rs : Led) (k : Nat) (s' : Shared) : Prop
  | mk (i : Nat) (ys : List PV) (l : Loc) (ls : List (Addr × List PV)) (cs : List (Addr × Option PV)) (gn : Array GenState) (raws : List (Addr × Obj)) (e1 : k = items.length - i) (hi : i ≤ items.length) (hSt : St i raws) (hP : P i ys ls cs gn) (R' : Rel c loc (mkG ((D, ys) :: ls) cs gn ((C, l) :: g.nss) raws) ts rs s')
theorem comp_core {elt iter target : PySem.Expr} {ifs : List PySem.Expr} {scope : Scope} {cl : List (MStr × Addr)} {pos : Pos} {p : PV} {v : MVal} {items : List PV} {rest : List (Addr × Obj)} {ok : List (Addr × List PV) → Prop} {P : VisC}
    {RR : MVal → Addr → Result → Shared → Prop} {ts : List (MVal × PV)} {rs : Led} {s : Shared} {E : MVal → Shared → Prop}
    (src : SrcV w p items g.raws rest ok) (hokm : ∀ a ls, ok ls → ok (a :: ls)) (hcell : ∀ y ∈ scope.names, y.2 ≠ .cell) (hkind : scope.kind = .function) (hok : ∀ i ys ls cs gn, P i ys ls cs gn → ok ls) (hP : P 0 [] g.lists g.cells g.gens) (hsz : items.length ≤ 1000000) (hys : ∀ i ys ls cs gn, P i ys ls cs gn → ys.length ≤ i)
    (turn : ∀ i p ys ls cs gn, items[i]? = some p → P i ys ls cs gn → ∀ D C l nss raws, ∃ l', AssignC c (compEnvC scope cl C c.env) C target p l l' ∧
      TestsV c (compEnvC scope cl C c.env) ifs loc (mkG ((D, ys) :: ls) cs gn ((C, l') :: nss) raws) fun b g2 => (b = true → EvalV c (compEnvC scope cl C c.env) elt loc g2 fun r g3 => BackC (P (i + 1) (ys ++ [r])) D ys C nss raws g3) ∧ (b = false → BackC (P (i + 1) ys) D ys C nss raws g2))
    (fin : ∀ D C l ys ls cs gn s', P items.length ys ls cs gn → Rel c loc (mkG ((D, ys) :: ls) cs gn ((C, l) :: g.nss) rest) ts rs s' → RR (.ref D) C (.ok .next) s')
    (R : Rel c loc g ((v, p) :: ts) rs s) :
    wpAny (M0 w) c.A (pyIter v) (fun it s₂ => wpAny (M0 w) c.A (newList []) (fun acc s₃ => wpAny (M0 w) c.A (newFunctionEnv scope c.env.globals cl [] c.env.qual none .none (some c.env)) (fun cenv s₄ =>
      codeAny (M0 w) c.A (.compStart (.ListComp elt [⟨target, iter, ifs, 0⟩] scope pos) 0 it acc { cenv with scope := relabel scope c.env }) (RR acc cenv.locals) s₄) E s₃) E s₂) E s := by
  refine src fs c loc g ts rs s _ E v rfl (hok _ _ _ _ _ hP) R fun it St raws1 s2 T hSt R2 => ?_
  obtain ⟨m, imm, mu, R2⟩ := R2
  refine newList_N R2.fr R2.nw (fun h3 F3 N3 => ?_) (by rw [sizeLine_eq]; decide)
  have R3 := R2.pushL (n := 0) (ds := []) .nil F3 N3 R2.lt_size R2.tk
  generalize s2.heap.objs.size = D at R3 ⊢
  refine wpAny_newFunctionEnv hcell (by intro y hy; simp at hy) (fun h4 hns hsb => ?_) hkind
  dsimp only at hns hsb ⊢
  have up : ∀ b o, h3.get? b = some o → h4.get? b = some o := fun b o e => hsb.extBut b o (Nat.ne_of_lt (Heap.lt_size e)) (Heap.get?_push_of_some _ e)
  obtain ⟨oC, heC, hoC⟩ := LCg.ns_obj hns
  have N4 : News c.h₀ c.L h4 ((h3.objs.size, oC) :: (imm ++ ((D, listOf ([] : List MVal).toArray 0) :: mu ++ rs))) := fun p hp => by
    rcases List.mem_cons.mp hp with rfl | hp
    · exact ⟨heC, Nat.ne_of_gt R3.fr.ns.lt, Heap.get?_none_of_le (Nat.le_trans R3.fr.above (Nat.le_of_lt R3.fr.ns.lt))⟩
    · exact (R3.nw.grown up) p hp
  have R4 := R3.pushN (tk := s2.toks) hoC (l := []) LocOk.nil (R3.fr.keeps up) N4 R3.lt_size R3.tk
  generalize hCC : h3.objs.size = C at R4 ⊢
  have loop : ∀ s', Rel c loc (mkG ((D, []) :: g.lists) g.cells g.gens ((C, []) :: g.nss) raws1) ts rs s' → codeAny (M0 w) c.A (.compLoop (.ListComp elt [⟨target, iter, ifs, 0⟩] scope pos) 0 it (.ref D) (compEnvC scope cl C c.env)) (RR (.ref D) C) s' := by
    intro s' R'
    refine comp_loop (CompI c loc g items D C St P ts rs) ?_ items.length ⟨0, [], [], g.lists, g.cells, g.gens, raws1, by (first | lia | omega), Nat.zero_le _, hSt, hP, R'⟩
    rintro k s' ⟨i, ys, l, ls, cs, gn, raws, rfl, hi, hSt, hP, R'⟩
    by_cases hlt : i < items.length
    · have hp := List.getElem?_eq_getElem hlt
      refine T.next i _ hp fs c loc _ ts rs s' _ _ hSt (hokm _ _ (hok _ _ _ _ _ hP)) R' fun v raws' s1 hSt1 R1 own => ?_
      refine fun E1 => own _ _ _ fun E2 => ?_
      obtain ⟨l', hA, hT⟩ := turn i _ ys ls cs gn hp hP D C l g.nss raws'
      refine hA loc _ g.nss _ rs s1 _ _ v rfl R1 (.head _) fun s2 R2 => fun E3 => ?_
      have body : ∀ (ok : Bool) g2 s3, Rel c loc g2 ((v, items[i]) :: ts) rs s3 → ((ok = true → EvalV c (compEnvC scope cl C c.env) elt loc g2 fun r g3 => BackC (P (i + 1) (ys ++ [r])) D ys C g.nss raws' g3) ∧ (ok = false → BackC (P (i + 1) ys) D ys C g.nss raws' g2)) →
          (if ok = true then ∀ E4, wpAny (M0 w) c.A (eval elt (compEnvC scope cl C c.env)) (fun x s₄ =>
              ∀ E5, wpAny (M0 w) c.A (call (.builtin "list.append") [.ref D, x]) (fun _ s₅ => ∃ m, m < items.length - i ∧ CompI c loc g items D C St P ts rs m s₅) E5 s₄) E4 s3
            else ∃ m, m < items.length - i ∧ CompI c loc g items D C St P ts rs m s3) := by
        intro ok g2 s3 R3 k
        cases ok with
        | false =>
          rw [if_neg Bool.false_ne_true]
          obtain ⟨g4, l4, ls4, hle, e1, e2, e3, hP4⟩ := k.2 rfl
          refine ⟨items.length - (i + 1), by (first | lia | omega), i + 1, ys, l4, ls4, g4.cells, g4.gens, raws', rfl, hlt, hSt1, hP4, ?_⟩
          have := (R3.drop hle).weaken tl1
          rw [← e1, ← e2, ← e3]
          exact this
        | true =>
          rw [if_pos rfl]
          intro E4
          refine k.1 rfl _ rs s3 _ _ R3 fun x r g3 s4 R4 ⟨g4, l4, ls4, hle, e1, e2, e3, hP4⟩ => fun E5 => ?_
          have R5 := R4.drop hle
          refine F_append (d := c.dp + c.un) (a := D) (items := ys) (p := r) (g := g4) (ls' := (D, ys ++ [r]) :: ls4) (Φ := fun _ g' => g' = { g4 with lists := (D, ys ++ [r]) :: ls4 }) (by rw [e1]; exact .head) (Nat.le_trans (hys _ _ _ _ _ hP) (by (first | lia | omega))) rfl fs c loc ((.builtin "list.append", .st (.builtin "list.append")) :: (.ref D, .lst D) :: (x, r) :: (v, items[i]) :: ts) rs s4 _ _ (.builtin "list.append") [.ref D, x] [] (by (first | lia | omega)) (by (first | lia | omega)) ?_ (.head _) rfl (fun p hp => ?_) rfl (fun _ h => (nomatch h)) fun v2 pv g' s' R' hg => ?_
          · exact Rel.prim (Rel.prim R5 fun _ => .lst D) fun _ => .st _
          · simp at hp
            rcases hp with rfl | rfl
            · exact .tail _ (.head _)
            · exact .tail _ (.tail _ (.head _))
          · subst hg
            refine ⟨items.length - (i + 1), by (first | lia | omega), i + 1, ys ++ [r], l4, ls4, g4.cells, g4.gens, raws', rfl, hlt, hSt1, hP4, ?_⟩
            have := R'.weaken (ts' := ts) fun p hp => .tail _ (.tail _ (.tail _ (.tail _ (.tail _ hp))))
            rw [← e2, ← e3]
            exact this
      match ifs, hT with
      | [], hT => exact wpAny_tests_nil (body true _ _ R2 hT)
      | [t], hT => exact wpAny_tests_one (hT _ rs s2 _ _ R2 fun b g2 s3 R3 k => body b g2 s3 R3 k)
    · obtain rfl : i = items.length := Nat.le_antisymm hi (Nat.not_lt.mp hlt)
      refine T.done fs c loc _ ts rs s' _ _ hSt (hokm _ _ (hok _ _ _ _ _ hP)) R' fun s1 R1 => fin D C l ys ls cs gn s1 hP R1
  have RL : Rel c loc (mkG ((D, []) :: g.lists) g.cells g.gens ((C, []) :: g.nss) raws1) ts rs { s2 with heap := h4, toks := s2.toks } := ⟨m, imm, _, R4⟩
  refine codeAny_compStart_list ?_ ?_
  · exact loop _ RL
  · exact T.self fs c loc _ ts rs _ _ _ hSt RL (loop _ RL)
end Mine
set_option maxHeartbeats 4000000
namespace Mine
variable {w : Wd} {fs : FS} {c : Cx w fs} {env : Env} {loc : Loc} {g : GS}
theorem RelW.dropNs {ts : List (MVal × PV)} {rs : Led} {s : Shared} {m : MStr → Option MVal} {imm mu : Led} {h' : Heap} (R : RelW c loc g ts rs s m imm mu) {D : Addr} {l : Loc} {nss : List (Addr × Loc)} (hr : g.nss = (D, l) :: nss) (hs : Heap.SameBut D s.heap h') :
    ∃ mu', RelW c loc { g with nss := nss } ts rs { s with heap := h' } m imm mu' := by
  obtain ⟨o, m0, hm, hN, _⟩ := R.st.nss D l (by rw [hr]; exact .head _)
  obtain ⟨es, ep, hd, _⟩ := hN
  have z := R.nw _ (List.mem_append_right imm (List.mem_append_left rs hm))
  have nd := R.munod
  have hx := hs.extBut
  have off : ∀ p ∈ imm ++ (mu.filter (fun q => decide (q.1 ≠ D)) ++ rs), p.1 ≠ D := fun p hp => by
    rcases List.mem_append.mp hp with hp | hp
    · exact R.off_imm hm p hp
    · rcases List.mem_append.mp hp with hp | hp
      · exact of_decide_eq_true (List.mem_filter.mp hp).2
      · exact R.off_rs hm p hp
  have sub : List.Sublist (imm ++ (mu.filter (fun q => decide (q.1 ≠ D)) ++ rs)) (imm ++ (mu ++ rs)) := (List.Sublist.refl _).append (List.filter_sublist.append (.refl _))
  refine ⟨mu.filter (fun q => decide (q.1 ≠ D)), { R with
    fr := LCg.fr_but R.fr (fun b o hb e => hx b o (by simpa using hb) e) (Ne.symm z.2.1) z.2.2
    nw := fun p hp => have y := R.nw p (sub.subset hp); ⟨hx _ _ (off p hp) y.1, y.2⟩
    nd := R.nd.sublist (sub.map _)
    st := ?_, tk := R.tk, gens := R.gens, dr := R.dr, os := R.os }⟩
  have nnd := R.st.nnd
  rw [hr, List.map_cons, List.nodup_cons] at nnd
  exact { R.st with
    lists := fun b q hb => by
      obtain ⟨vs, n, h1, h2⟩ := R.st.lists b q hb
      refine ⟨vs, n, mem_off h1 (fun e => ?_), h2⟩
      have e : b = D := e
      subst e
      have := nodup_mem_eq nd hm h1
      rw [this] at hd; cases hd
    cells := fun b q hb => by
      obtain ⟨ob, ov, h1, h2, h3⟩ := R.st.cells b q hb
      refine ⟨ob, ov, mem_off h1 (fun e => ?_), h2, h3⟩
      have e : b = D := e
      subst e
      have := nodup_mem_eq nd hm h1
      rw [this, h2] at hd; cases hd
    nss := fun b q hb => by
      have hb' : (b, q) ∈ g.nss := by rw [hr]; exact .tail _ hb
      obtain ⟨ob, m', h1, h2, h3⟩ := R.st.nss b q hb'
      exact ⟨ob, m', mem_off h1 (fun e => nnd.1 (List.mem_map.mpr ⟨(b, q), hb, e⟩)), h2, h3⟩
    nnd := nnd.2
    raws := fun b q hb => by
      refine ⟨mem_off (R.st.raws b q hb).1 (fun e => ?_), (R.st.raws b q hb).2⟩
      have e : b = D := e
      subst e
      have := nodup_mem_eq nd hm (R.st.raws b q hb).1
      subst this
      exact (rawOk_kind (R.st.raws b _ hb).2).2.2.1 _ _ hd
    tabs := fun b q hb => by
      obtain ⟨ps, h1, h2⟩ := R.st.tabs b q hb
      refine ⟨ps, mem_off h1 (fun e => ?_), h2⟩
      have e : b = D := e
      subst e
      have := nodup_mem_eq nd hm h1
      rw [this] at hd; cases hd }

noncomputable def CompOK (c : Cx w fs) (elt target : PySem.Expr) (ifs : List PySem.Expr) (scope : Scope) (cl : List (MStr × Addr)) (loc : Loc) (rest : List (Addr × Obj)) (p : PV) (g1 : GS) (Fin : List PV → List (Addr × List PV) → List (Addr × Option PV) → Array GenState → Prop) : Prop :=
  ∃ (items : List PV) (ok : List (Addr × List PV) → Prop) (P : VisC), SrcV w p items g1.raws rest ok ∧ (∀ a ls, ok ls → ok (a :: ls)) ∧ (∀ i ys ls cs gn, P i ys ls cs gn → ok ls) ∧ P 0 [] g1.lists g1.cells g1.gens ∧ items.length ≤ 1000000 ∧ (∀ i ys ls cs gn, P i ys ls cs gn → ys.length ≤ i) ∧
    (∀ i p ys ls cs gn, items[i]? = some p → P i ys ls cs gn → ∀ D C l nss raws, ∃ l', AssignC c (compEnvC scope cl C c.env) C target p l l' ∧
      TestsV c (compEnvC scope cl C c.env) ifs loc (mkG ((D, ys) :: ls) cs gn ((C, l') :: nss) raws) fun b g2 => (b = true → EvalV c (compEnvC scope cl C c.env) elt loc g2 fun r g3 => BackC (P (i + 1) (ys ++ [r])) D ys C nss raws g3) ∧ (b = false → BackC (P (i + 1) ys) D ys C nss raws g2)) ∧
    (∀ ys ls cs gn, P items.length ys ls cs gn → Fin ys ls cs gn)
section rules
variable {elt iter target : PySem.Expr} {ifs : List PySem.Expr} {scope : Scope} {cl : List (MStr × Addr)} {pos : Pos}
noncomputable abbrev kCf (g : GS) (Φ : PV → GS → Prop) : List PV → List (Addr × List PV) → List (Addr × Option PV) → Array GenState → Prop := fun ys ls cs gn => ∀ D, Φ (.lst D) (mkG ((D, ys) :: ls) cs gn g.nss g.raws)
noncomputable abbrev kCo (c : Cx w fs) (elt target : PySem.Expr) (ifs : List PySem.Expr) (scope : Scope) (cl : List (MStr × Addr)) (loc : Loc) (g : GS) (Φ : PV → GS → Prop) : PV → GS → Prop := fun p g1 => g1.nss = g.nss ∧ CompOK c elt target ifs scope cl loc g.raws p g1 (kCf g Φ)
theorem E_comp {Φ : PV → GS → Prop} (hclos : closureFor scope c.env = pure cl) (h : EvalV c c.env iter loc g (kCo c elt target ifs scope cl loc g Φ))
    (hcell : (scope.names.all fun y => decide (y.2 ≠ .cell)) = true := by rfl) (hkind : scope.kind = .function := by rfl) (hnames : (scope.names.all fun y => decide (y.2 ≠ .local) || decide (scope.names.lookup y.1 = some .local)) = true := by rfl)
    (hs : ∀ x, foldedSetIterable iter c.env x = pure x := by intro _; rfl) : EvalV c c.env (.ListComp elt [⟨target, iter, ifs, 0⟩] scope pos) loc g Φ := by
  intro ts rs s Q E R q
  rw [eval_ListComp]
  refine wpAny_comprehension_free (use := none) rfl hs hclos hkind (fun y hy e => ?_) (h ts rs s _ E R fun v p g1 s1 R1 k => ?_)
  · have := List.all_eq_true.mp hnames y hy
    rw [Bool.or_eq_true] at this
    exact this.elim (fun a => absurd e (of_decide_eq_true a)) of_decide_eq_true
  obtain ⟨hn, items, ok, P, src, k1, k2, k3, k4, k5, k6, k7⟩ := k
  refine comp_core (RR := fun acc C r s' => compPost (M0 w) c.A E .none Q acc C r s') src k1 (fun y hy => of_decide_eq_true (List.all_eq_true.mp hcell y hy)) hkind k2 k3 k4 k5 k6 (fun D C l ys ls cs gn s' hP R' => ?_) R1
  obtain ⟨m, imm, mu, R2⟩ := R'
  obtain ⟨o, m0, hm, hN, _⟩ := R2.st.nss C l (.head _)
  have z := R2.nw _ (List.mem_append_right imm (List.mem_append_left rs hm))
  refine ⟨m0, hN.ns z.1, fun h' hs' => ?_⟩
  obtain ⟨mu', R3⟩ := R2.dropNs rfl hs'
  rw [hn] at R3
  exact q _ (.lst D) (mkG ((D, ys) :: ls) cs gn g.nss g.raws) _ ⟨m, imm, mu', R3.temp (.lst D)⟩ (k7 ys ls cs gn hP D)
theorem S_assign_comp {x : MStr} {px spos : Pos} {Ψ : FV → Loc → GS → Prop} (hclos : closureFor scope c.env = pure cl) (h : EvalV c c.env iter loc g (kCo c elt target ifs scope cl loc g (kAs Ψ x loc)))
    (hk : fs.cs.names.lookup x = some .local := by rfl) (hsw : swapsWith (.ListComp elt [⟨target, iter, ifs, 0⟩] scope pos) (some (.Name x px)) spos.line c.env = pure true := by rfl)
    (hcell : (scope.names.all fun y => decide (y.2 ≠ .cell)) = true := by rfl) (hkind : scope.kind = .function := by rfl) (hnames : (scope.names.all fun y => decide (y.2 ≠ .local) || decide (scope.names.lookup y.1 = some .local)) = true := by rfl)
    (hs : ∀ x, foldedSetIterable iter c.env x = pure x := by intro _; rfl) : StmtV c (.Assign [.Name x px] (.ListComp elt [⟨target, iter, ifs, 0⟩] scope pos) spos) loc g Ψ := by
  intro ts rs s Q E R q
  rw [exec_Assign_Name_used _ _ _ _ hsw]
  refine wpAny_bind (wpAny_standAt (wpAny_bind ?_))
  show wpAny _ _ (do let _ ← comprehension (.ListComp elt [⟨target, iter, ifs, 0⟩] scope pos) scope c.env _ (newList []) false (eval iter c.env) (some (assign (.Name x px) c.env))) _ _ s
  refine wpAny_bind (wpAny_mono (wpAny_comprehension_free (use := some (assign (.Name x px) c.env)) (Q := fun _ s' => Q .next s') rfl hs hclos hkind (fun y hy e => ?_) (h ts rs s _ E R fun v p g1 s1 R1 k => ?_)) (fun _ s' hq => wpAny_pure (wpAny_pure hq)) fun _ _ e => e)
  · have := List.all_eq_true.mp hnames y hy
    rw [Bool.or_eq_true] at this
    exact this.elim (fun a => absurd e (of_decide_eq_true a)) of_decide_eq_true
  obtain ⟨hn, items, ok, P, src, k1, k2, k3, k4, k5, k6, k7⟩ := k
  refine comp_core (RR := fun acc C r s' => compPost (M0 w) c.A E (some (assign (.Name x px) c.env)) (fun _ s' => Q .next s') acc C r s') src k1 (fun y hy => of_decide_eq_true (List.all_eq_true.mp hcell y hy)) hkind k2 k3 k4 k5 k6 (fun D C l ys ls cs gn s' hP R' => ?_) R1
  show wpAny (M0 w) c.A (assign (.Name x px) c.env (.ref D)) _ E s'
  refine AV_local (p := .lst D) (Φ := fun l3 g3 => l3 = (x, .lst D) :: loc ∧ g3 = mkG ((D, ys) :: ls) cs gn ((C, l) :: g1.nss) g.raws) ⟨rfl, rfl⟩ hk _ rs s' _ E (.ref D) (R'.prim fun _ => .lst D) (.head _) fun loc' g' s2 R2 e => ?_
  obtain ⟨rfl, rfl⟩ := e
  obtain ⟨m, imm, mu, R2⟩ := R2
  obtain ⟨o, m0, hm, hN, _⟩ := R2.st.nss C l (.head _)
  have z := R2.nw _ (List.mem_append_right imm (List.mem_append_left rs hm))
  refine ⟨m0, hN.ns z.1, fun h' hs' => ?_⟩
  obtain ⟨mu', R3⟩ := R2.dropNs rfl hs'
  rw [hn] at R3
  exact q _ _ [] _ (mkG ((D, ys) :: ls) cs gn g.nss g.raws) _ .next (Rel.weaken ⟨m, imm, mu', R3⟩ tl1) (k7 ys ls cs gn hP D)
end rules

section names
variable {scope : Scope} {cl : List (MStr × Addr)} {C : Addr} {x : MStr} {pos : Pos} {pv : PV} {Φ : PV → GS → Prop} {l : Loc}
theorem E_cvar (hn : (C, l) ∈ g.nss) (hl : l.lookup x = some pv) (h : Φ pv g) (hk : (compEnvC scope cl C c.env).scope.kind = .function := by rfl) (hx : (compEnvC scope cl C c.env).kindOf x = some .local := by rfl) (hd : (x == ("__debug__" : MStr)) = false := by decide) : EvalV c (compEnvC scope cl C c.env) (.Name x pos) loc g Φ := by
  intro ts rs s Q E R q
  obtain ⟨m, i, u, R⟩ := R
  obtain ⟨o, m2, hm, hN, hL⟩ := R.st.nss C l hn
  obtain ⟨v, hv, hr⟩ := hL x pv hl
  exact LCgL.ld_own R.nw (List.mem_append_right i (List.mem_append_left rs hm)) hN hv (q v pv g s ⟨m, i, u, R.temp hr⟩ h) hk hx hd
theorem E_cglobal {v : MVal} (e : nsIn (KK w) mainGlobals x = some (some v)) (h : Φ (.st v) g) (hk : (compEnvC scope cl C c.env).scope.kind = .function := by rfl) (hx : (compEnvC scope cl C c.env).kindOf x = some .globalImplicit := by rfl) (hd : (x == ("__debug__" : MStr)) = false := by decide) : EvalV c (compEnvC scope cl C c.env) (.Name x pos) loc g Φ := by
  intro ts rs s Q E R q
  obtain ⟨m, i, u, R⟩ := R
  exact LCgL.ld_global R.fr c.kin c.top e (q v (.st v) g s ⟨m, i, u, R.temp (.st v)⟩ h) rfl hk hx hd
theorem E_ccell {a : Addr} (hc : cl.lookup x = some a) (hm : (a, some pv) ∈ g.cells) (h : Φ pv g) (hk : (compEnvC scope cl C c.env).scope.kind = .function := by rfl) (hx : (compEnvC scope cl C c.env).kindOf x = some .cell := by rfl) (hd : (x == ("__debug__" : MStr)) = false := by decide) : EvalV c (compEnvC scope cl C c.env) (.Name x pos) loc g Φ := by
  intro ts rs s Q E R q
  obtain ⟨m, i, u, R⟩ := R
  obtain ⟨o, ov, h1, h2, v, rfl, h3⟩ := R.st.cells a _ hm
  exact wpAny_Name (wpAny_loadName_cell hk hx hc ⟨o, R.nw.get (List.mem_append_right i (List.mem_append_left rs h1)), h2⟩ (q v pv g s ⟨m, i, u, R.temp h3⟩ h)) hd
end names
end Mine
set_option maxHeartbeats 4000000
namespace Mine
variable {w : Wd} {fs : FS} {c : Cx w fs} {env : Env} {loc : Loc} {g : GS}
theorem CompOK.ofMap {elt target : PySem.Expr} {ifs : List PySem.Expr} {scope : Scope} {cl : List (MStr × Addr)} {rest : List (Addr × Obj)} {p : PV} {g1 : GS} {Fin : List PV → List (Addr × List PV) → List (Addr × Option PV) → Array GenState → Prop}
    (items : List PV) (ok : List (Addr × List PV) → Prop) (f : PV → PV) (keep : PV → Bool) (src : SrcV w p items g1.raws rest ok) (hokm : ∀ a ls, ok ls → ok (a :: ls)) (hok : ok g1.lists) (hlen : items.length ≤ 1000000)
    (turn : ∀ (i : Nat) (p : PV), items[i]? = some p → ∀ D C ys l nss raws, ∃ l', AssignC c (compEnvC scope cl C c.env) C target p l l' ∧
      TestsV c (compEnvC scope cl C c.env) ifs loc (mkG ((D, ys) :: g1.lists) g1.cells g1.gens ((C, l') :: nss) raws) fun b g2 => b = keep p ∧ GLe (mkG ((D, ys) :: g1.lists) g1.cells g1.gens ((C, l') :: nss) raws) g2 ∧
        (b = true → EvalV c (compEnvC scope cl C c.env) elt loc g2 fun r g3 => r = f p ∧ GLe (mkG ((D, ys) :: g1.lists) g1.cells g1.gens ((C, l') :: nss) raws) g3))
    (fin : Fin ((items.filter keep).map f) g1.lists g1.cells g1.gens) : CompOK c elt target ifs scope cl loc rest p g1 Fin := by
  refine ⟨items, ok, fun i ys ls cs gn => ls = g1.lists ∧ cs = g1.cells ∧ gn = g1.gens ∧ ys = ((items.take i).filter keep).map f, src, hokm, ?_, ?_, hlen, ?_, ?_, ?_⟩
  · rintro i ys ls cs gn ⟨rfl, rfl, rfl, rfl⟩; exact hok
  · exact ⟨rfl, rfl, rfl, rfl⟩
  · rintro i ys ls cs gn ⟨rfl, rfl, rfl, rfl⟩
    rw [List.length_map]
    exact Nat.le_trans (List.length_filter_le _ _) (by rw [List.length_take]; exact Nat.min_le_left _ _)
  · rintro i p ys ls cs gn hp ⟨rfl, rfl, rfl, rfl⟩ D C l nss raws
    obtain ⟨l', hA, hT⟩ := turn i p hp D C (((items.take i).filter keep).map f) l nss raws
    refine ⟨l', hA, ?_⟩
    have take := take_succ_filter keep items i p hp
    have conv : ∀ b g2, (b = keep p ∧ GLe (mkG ((D, ((items.take i).filter keep).map f) :: g1.lists) g1.cells g1.gens ((C, l') :: nss) raws) g2 ∧
        (b = true → EvalV c (compEnvC scope cl C c.env) elt loc g2 fun r g3 => r = f p ∧ GLe (mkG ((D, ((items.take i).filter keep).map f) :: g1.lists) g1.cells g1.gens ((C, l') :: nss) raws) g3)) →
        ((b = true → EvalV c (compEnvC scope cl C c.env) elt loc g2 fun r g3 => BackC (fun ls cs gn => ls = g1.lists ∧ cs = g1.cells ∧ gn = g1.gens ∧ ((items.take i).filter keep).map f ++ [r] = ((items.take (i + 1)).filter keep).map f) D (((items.take i).filter keep).map f) C nss raws g3) ∧
         (b = false → BackC (fun ls cs gn => ls = g1.lists ∧ cs = g1.cells ∧ gn = g1.gens ∧ ((items.take i).filter keep).map f = ((items.take (i + 1)).filter keep).map f) D (((items.take i).filter keep).map f) C nss raws g2)) := by
      rintro b g2 ⟨hb, hle, hE⟩
      refine ⟨fun e => (hE e).mono fun r g3 ⟨hr, hle3⟩ => ⟨_, l', g1.lists, hle3, rfl, rfl, rfl, rfl, rfl, rfl, ?_⟩, fun e => ⟨_, l', g1.lists, hle, rfl, rfl, rfl, rfl, rfl, rfl, ?_⟩⟩
      · rw [take, ← hb, e, hr]; simp
      · rw [take, ← hb, e]; simp
    match ifs, hT with
    | [], hT => exact conv _ _ hT
    | [t], hT => exact fun ts rs s Q E R q => hT ts rs s Q E R fun b g' s' R' k => q b g' s' R' (conv _ _ k)
  · rintro ys ls cs gn ⟨rfl, rfl, rfl, rfl⟩
    rw [List.take_length]
    exact fin
end Mine
set_option maxHeartbeats 4000000
namespace Mine
theorem C_any_lt {w : Wd} {g : GS} {x y : MStr} {Φ : PV → GS → Prop} {d : Nat} {p : PV} (hd : d ≤ 800) (hp : p.textOf = some y) (h : Φ (.bool (y.cps.toList < x.cps.toList)) g) : CmpR w d .Lt p (.qn x) g Φ := by
  rcases textOf_cases hp with rfl | rfl
  · exact C_qn_lt hd rfl h
  · exact C_str_qn hd h
noncomputable def KeyOK (w : Wd) (d : Nat) (k : CloS) (items : List PV) (kf : PV → MStr) (g : GS) : Prop := ∀ p ∈ items, ∀ Φ : PV → GS → Prop, Φ (.qn (kf p)) g → CallR w d (.clo k) [p] [] g Φ

theorem getD_mem {items : List PV} {j : Nat} (h : j < items.length) : items.getD j .none ∈ items := by
  rw [List.getD_eq_getElem?_getD, List.getElem?_eq_getElem h]; exact List.getElem_mem h
theorem get_getD {items : List PV} {j : Nat} (h : j < items.length) : items[j]? = some (items.getD j .none) := by
  rw [List.getD_eq_getElem?_getD, List.getElem?_eq_getElem h]; rfl

theorem spec_bl_key {w : Wd} {d : Nat} {g : GS} {a : Addr} {items : List PV} {x : MStr} {k : CloS} {kf : PV → MStr} {Φ : PV → GS → Prop} (hd : d ≤ 700) (hm : (a, items) ∈ g.lists) (hlen : items.length < 1000) (hk : KeyOK w (d + 1) k items kf g)
    (h : Φ (.int (bsL (fun j => decide ((kf (items.getD j .none)).cps.toList < x.cps.toList)) items.length 0 items.length : Nat)) g) :
    CallR w d (.st (.ref 41)) [.lst a, .str x] [("key", .clo k)] g Φ := by
  refine' CallR_fn (loc' := [("a", .lst a), ("x", .str x), ("lo", .int 0), ("hi", .none), ("key", .clo k)]) ?ho ?hcd (by (first | lia | omega)) ?hb ?hk ?h ?c1 ?c2 ?c3
  case ho => exact rfl
  case hcd => exact rfl
  case hk => exact rfl
  case c1 => exact rfl
  case c2 => exact rfl
  case c3 => decide
  case hb =>
    intro vs ks hv hk
    obtain ⟨v1, v2, rfl⟩ := len2 hv
    obtain ⟨k1, rfl⟩ := len1 hk
    · refine ⟨[("a", v1), ("x", v2), ("lo", .int 0 216), ("hi", .none), ("key", k1)], fun S => by kernel_rfl, rfl, fun imm h1 h2 => ?_⟩
      have e1 := h1 (v1, .lst a) (by simp)
      have e2 := h1 (v2, .str x) (by simp)
      have e3 := h2 (k1, .clo k) (by simp)
      exact LocOk.of_binds (ns := ["a", "x", "lo", "hi", "key"]) rfl (by decide) ⟨rfl, e1, rfl, e2, rfl, .int _ _, rfl, .none, rfl, e3, trivial⟩
  case h =>
    intro c' hd' hu'
    refine X_cons (S_iff (T_cmp _ hd' hu' (E_local rfl (E_int (C_lt ⟨_, rfl, by decide, X_nil ?_⟩)))))
    refine X_cons (S_ift (T_cmp _ hd' hu' (E_local rfl (E_none (C_is_none (by intro u e; cases e) ⟨_, rfl, rfl, ?_⟩)))))
    refine X_cons (S_assign (E_call_bi hd' hu' (E_builtin rfl rfl (by decide) ⟨rfl, A_cons (E_local rfl (A_nil (F_len_list hm (by (first | lia | omega)) ?_)))⟩)))
    refine X_nil ?_
    refine X_cons (S_iff (T_cmp _ hd' hu' (E_local rfl (E_none (C_is_none (by intro u e; cases e) ⟨_, rfl, rfl, ?_⟩)))))
    refine X_cons (S_while (fun n loc g' => g' = g ∧ ∃ lo hi : Nat, hi - lo ≤ n ∧ lo ≤ hi ∧ hi ≤ items.length ∧ Has loc "a" (.lst a) ∧ Has loc "x" (.str x) ∧ Has loc "key" (.clo k) ∧ Has loc "lo" (.int lo) ∧ Has loc "hi" (.int hi) ∧
      Φ (.int (bsL (fun j => decide ((kf (items.getD j .none)).cps.toList < x.cps.toList)) n lo hi : Nat)) g) ?turn items.length ?start)
    case start => exact ⟨rfl, 0, items.length, Nat.sub_le _ _, Nat.zero_le _, Nat.le_refl _, rfl, rfl, rfl, rfl, rfl, h⟩
    case turn =>
      rintro n loc _ ⟨rfl, lo, hi, h0, h1, h2, ha, hx, hky, hlo, hhi, hΦ⟩
      refine T_cmp _ hd' hu' (E_local hlo (E_local hhi (C_lt ⟨_, rfl, fun ht => ?_, fun ht => ?_⟩)))
      · have hlt : lo < hi := lt_of_dec ht
        obtain ⟨n, rfl⟩ := succ_of h0 hlt
        refine X_cons (S_assign (E_bin (E_bin (E_local hlo (E_local hhi (B_add (E_int (B_div (by decide) (by decide) ?_))))))))
        have e2 : ((lo : Int) + hi).fdiv 2 = ((lo + hi) / 2 : Nat) := mid_fdiv lo hi
        rw [e2]
        have hlt2 : (lo + hi) / 2 < items.length := Nat.lt_of_lt_of_le (mid_lt hlt) h2
        refine X_cons (S_if (T_cmp _ hd' hu' (E_call_clo hd' hu' (E_local hky ⟨rfl, A_cons (E_sub (E_local ha (E_local rfl (I_list hm (by (first | lia | omega)) (by (first | lia | omega)) (p := items.getD ((lo + hi) / 2) .none) ?_ (A_nil ?_)))))⟩))))
        · rw [Int.toNat_natCast]; exact get_getD hlt2
        · refine hk _ (getD_mem hlt2) _ (E_local hx (C_qn_lt (by (first | lia | omega)) rfl ⟨_, rfl, fun hc => ?_, fun hc => ?_⟩))
          · refine X_cons (S_assign (E_bin (E_local rfl (E_int (B_add (X_nil (X_nil ⟨n, Nat.lt_succ_self n, rfl, (lo + hi) / 2 + 1, hi, mid_r h0 hlt, mid_lt hlt, h2, ha, hx, hky, rfl, hhi, ?_⟩)))))))
            rw [bsL, if_pos hlt, if_pos hc] at hΦ
            exact hΦ
          · refine X_cons (S_assign (E_local rfl (X_nil (X_nil ⟨n, Nat.lt_succ_self n, rfl, lo, (lo + hi) / 2, mid_l h0 hlt, mid_ge hlt, Nat.le_trans (Nat.le_of_lt (mid_lt hlt)) h2, ha, hx, hky, hlo, rfl, ?_⟩))))
            rw [bsL, if_pos hlt, if_neg (by rw [hc]; decide)] at hΦ
            exact hΦ
      · have hlt : ¬ lo < hi := nlt_of_dec ht
        refine X_nil (X_nil (X_cons (S_ret (E_local hlo ?_))))
        have : bsL (fun j => decide ((kf (items.getD j .none)).cps.toList < x.cps.toList)) n lo hi = lo := by
          cases n with
          | zero => rfl
          | succ n => rw [bsL, if_neg hlt]
        rw [this] at hΦ
        exact hΦ
theorem spec_br_key {w : Wd} {d : Nat} {g : GS} {a : Addr} {items : List PV} {x : MStr} {px : PV} {ps : List PV} {k : CloS} {kf : PV → MStr} {Φ : PV → GS → Prop} (hd : d ≤ 700) (hps : ps = [.lst a, px] ∨ ps = [.lst a, px, .int 0, .none]) (hpx : px.textOf = some x) (hm : (a, items) ∈ g.lists) (hlen : items.length < 1000) (hk : KeyOK w (d + 1) k items kf g)
    (h : Φ (.int (bsL (fun j => decide (¬ (x.cps.toList < (kf (items.getD j .none)).cps.toList))) items.length 0 items.length : Nat)) g) :
    CallR w d (.st (.ref 32)) ps [("key", .clo k)] g Φ := by
  refine' CallR_fn (loc' := [("a", .lst a), ("x", px), ("lo", .int 0), ("hi", .none), ("key", .clo k)]) ?ho ?hcd (by (first | lia | omega)) ?hb ?hk ?h ?c1 ?c2 ?c3
  case ho => exact rfl
  case hcd => exact rfl
  case hk => exact rfl
  case c1 => exact rfl
  case c2 => exact rfl
  case c3 => decide
  case hb =>
    rcases hps with rfl | rfl
    · intro vs ks hv hk
      obtain ⟨v1, v2, rfl⟩ := len2 hv
      obtain ⟨k1, rfl⟩ := len1 hk
      · refine ⟨[("a", v1), ("x", v2), ("lo", .int 0 202), ("hi", .none), ("key", k1)], fun S => by kernel_rfl, rfl, fun imm h1 h2 => ?_⟩
        have e1 := h1 (v1, .lst a) (by simp)
        have e2 := h1 (v2, px) (by simp)
        have e3 := h2 (k1, .clo k) (by simp)
        exact LocOk.of_binds (ns := ["a", "x", "lo", "hi", "key"]) rfl (by decide) ⟨rfl, e1, rfl, e2, rfl, .int _ _, rfl, .none, rfl, e3, trivial⟩
    · intro vs ks hv hk
      obtain ⟨v1, v2, v3, v4, rfl⟩ := len4 hv
      obtain ⟨k1, rfl⟩ := len1 hk
      · refine ⟨[("a", v1), ("x", v2), ("lo", v3), ("hi", v4), ("key", k1)], fun S => by kernel_rfl, rfl, fun imm h1 h2 => ?_⟩
        have e1 := h1 (v1, .lst a) (by simp)
        have e2 := h1 (v2, px) (by simp)
        have e4 := h1 (v3, .int 0) (by simp)
        have e5 := h1 (v4, .none) (by simp)
        have e3 := h2 (k1, .clo k) (by simp)
        exact LocOk.of_binds (ns := ["a", "x", "lo", "hi", "key"]) rfl (by decide) ⟨rfl, e1, rfl, e2, rfl, e4, rfl, e5, rfl, e3, trivial⟩
  case h =>
    intro c' hd' hu'
    refine X_cons (S_iff (T_cmp _ hd' hu' (E_local rfl (E_int (C_lt ⟨_, rfl, by decide, X_nil ?_⟩)))))
    refine X_cons (S_ift (T_cmp _ hd' hu' (E_local rfl (E_none (C_is_none (by intro u e; cases e) ⟨_, rfl, rfl, ?_⟩)))))
    refine X_cons (S_assign (E_call_bi hd' hu' (E_builtin rfl rfl (by decide) ⟨rfl, A_cons (E_local rfl (A_nil (F_len_list hm (by (first | lia | omega)) ?_)))⟩)))
    refine X_nil ?_
    refine X_cons (S_iff (T_cmp _ hd' hu' (E_local rfl (E_none (C_is_none (by intro u e; cases e) ⟨_, rfl, rfl, ?_⟩)))))
    refine X_cons (S_while (fun n loc g' => g' = g ∧ ∃ lo hi : Nat, hi - lo ≤ n ∧ lo ≤ hi ∧ hi ≤ items.length ∧ Has loc "a" (.lst a) ∧ Has loc "x" px ∧ Has loc "key" (.clo k) ∧ Has loc "lo" (.int lo) ∧ Has loc "hi" (.int hi) ∧
      Φ (.int (bsL (fun j => decide (¬ (x.cps.toList < (kf (items.getD j .none)).cps.toList))) n lo hi : Nat)) g) ?turn items.length ?start)
    case start => exact ⟨rfl, 0, items.length, Nat.sub_le _ _, Nat.zero_le _, Nat.le_refl _, rfl, rfl, rfl, rfl, rfl, h⟩
    case turn =>
      rintro n loc _ ⟨rfl, lo, hi, h0, h1, h2, ha, hx, hky, hlo, hhi, hΦ⟩
      refine T_cmp _ hd' hu' (E_local hlo (E_local hhi (C_lt ⟨_, rfl, fun ht => ?_, fun ht => ?_⟩)))
      · have hlt : lo < hi := lt_of_dec ht
        obtain ⟨n, rfl⟩ := succ_of h0 hlt
        refine X_cons (S_assign (E_bin (E_bin (E_local hlo (E_local hhi (B_add (E_int (B_div (by decide) (by decide) ?_))))))))
        have e2 : ((lo : Int) + hi).fdiv 2 = ((lo + hi) / 2 : Nat) := mid_fdiv lo hi
        rw [e2]
        have hlt2 : (lo + hi) / 2 < items.length := Nat.lt_of_lt_of_le (mid_lt hlt) h2
        refine X_cons (S_if (T_cmp _ hd' hu' (E_local hx (E_call_clo hd' hu' (E_local hky ⟨rfl, A_cons (E_sub (E_local ha (E_local rfl (I_list hm (by (first | lia | omega)) (by (first | lia | omega)) (p := items.getD ((lo + hi) / 2) .none) ?_ (A_nil ?_)))))⟩)))))
        · rw [Int.toNat_natCast]; exact get_getD hlt2
        · refine hk _ (getD_mem hlt2) _ (C_any_lt (by (first | lia | omega)) hpx ⟨_, rfl, fun hc => ?_, fun hc => ?_⟩)
          · refine X_cons (S_assign (E_local rfl (X_nil (X_nil ⟨n, Nat.lt_succ_self n, rfl, lo, (lo + hi) / 2, mid_l h0 hlt, mid_ge hlt, Nat.le_trans (Nat.le_of_lt (mid_lt hlt)) h2, ha, hx, hky, hlo, rfl, ?_⟩))))
            rw [bsL, if_pos hlt, if_neg (by rw [decide_not, hc]; decide)] at hΦ
            exact hΦ
          · refine X_cons (S_assign (E_bin (E_local rfl (E_int (B_add (X_nil (X_nil ⟨n, Nat.lt_succ_self n, rfl, (lo + hi) / 2 + 1, hi, mid_r h0 hlt, mid_lt hlt, h2, ha, hx, hky, rfl, hhi, ?_⟩)))))))
            rw [bsL, if_pos hlt, if_pos (by rw [decide_not, hc]; decide)] at hΦ
            exact hΦ
      · have hlt : ¬ lo < hi := nlt_of_dec ht
        refine X_nil (X_nil (X_cons (S_ret (E_local hlo ?_))))
        have : bsL (fun j => decide (¬ (x.cps.toList < (kf (items.getD j .none)).cps.toList))) n lo hi = lo := by
          cases n with
          | zero => rfl
          | succ n => rw [bsL, if_neg hlt]
        rw [this] at hΦ
        exact hΦ

theorem spec_insort {w : Wd} {d : Nat} {g : GS} {a : Addr} {items : List PV} {px : PV} {k : CloS} {kf : PV → MStr} {ls' : List (Addr × List PV)} {n : Nat} {Φ : PV → GS → Prop} (hd : d ≤ 600) (hm : (a, items) ∈ g.lists) (hlen : items.length < 1000) (hst : ∀ u, px ≠ .st u)
    (hk : KeyOK w (d + 1) k (px :: items) kf g) (hk2 : KeyOK w (d + 1 + 1) k items kf g)
    (hn : bsL (fun j => decide (¬ (kf px).cps.toList < (kf (items.getD j .none)).cps.toList)) items.length 0 items.length = n)
    (hU : LUpd a items (items.take n ++ px :: items.drop n) g.lists ls') (hnl : n ≤ items.length) (h : Φ .none { g with lists := ls' }) :
    CallR w d (.st (.ref 23)) [.lst a, px] [("key", .clo k)] g Φ := by
  refine' CallR_fn (loc' := [("a", .lst a), ("x", px), ("lo", .int 0), ("hi", .none), ("key", .clo k)]) ?ho ?hcd (by (first | lia | omega)) ?hb ?hk ?h ?c1 ?c2 ?c3
  case ho => exact rfl
  case hcd => exact rfl
  case hk => exact rfl
  case c1 => exact rfl
  case c2 => exact rfl
  case c3 => decide
  case hb =>
    intro vs ks hv hk
    obtain ⟨v1, v2, rfl⟩ := len2 hv
    obtain ⟨k1, rfl⟩ := len1 hk
    · refine ⟨[("a", v1), ("x", v2), ("lo", .int 0 189), ("hi", .none), ("key", k1)], fun S => by kernel_rfl, rfl, fun imm h1 h2 => ?_⟩
      have e1 := h1 (v1, .lst a) (by simp)
      have e2 := h1 (v2, px) (by simp)
      have e3 := h2 (k1, .clo k) (by simp)
      exact LocOk.of_binds (ns := ["a", "x", "lo", "hi", "key"]) rfl (by decide) ⟨rfl, e1, rfl, e2, rfl, .int _ _, rfl, .none, rfl, e3, trivial⟩
  case h =>
    intro c' hd' hu'
    refine X_cons (S_iff (T_cmp _ hd' hu' (E_local rfl (E_none (C_is_none (by intro u e; cases e) ⟨_, rfl, rfl, ?_⟩)))))
    refine X_cons (S_assign (E_call_kw1 rfl hd' hu' (E_global rfl ⟨rfl, A_cons (E_local rfl (A_cons (E_call_clo hd' hu' (E_local rfl ⟨rfl, A_cons (E_local rfl (A_nil (hk _ (.head _) _ ?_)))⟩)) (by with_unfolding_all rfl)))⟩) (by with_unfolding_all rfl) (by with_unfolding_all rfl) (by with_unfolding_all rfl)))
    refine A_cons (E_local rfl (A_cons (E_local rfl (A_nil (E_local rfl ?_)))))
    refine spec_br_key (x := kf px) (by (first | lia | omega)) (.inr rfl) rfl hm hlen hk2 ?_
    rw [hn]
    refine X_nil (X_cons (S_expr (E_meth_list F.slot_list_insert (by kernel_rfl) hd' hu' (E_local rfl ⟨_, _, rfl, hm, A_cons (E_local rfl (A_cons (E_local rfl (A_nil (F_insert hU (by (first | lia | omega)) hnl (X_nil h))))))⟩))))
end Mine
set_option maxHeartbeats 4000000
namespace Mine
noncomputable def keyCut (tails : List MStr) (n : Nat) : PV → MStr
  | .int k => Txt.slice (tails.getD k.toNat Str.empty) .none (some (n : Int))
  | _ => Str.empty
noncomputable abbrev nats (row : List Nat) : List PV := row.map fun (k : Nat) => PV.int (k : Int)
noncomputable def rngP (tails : List MStr) (row : List Nat) (part : MStr) : Nat × Nat :=
  (bsL (fun j => decide ((keyCut tails part.length ((nats row).getD j .none)).cps.toList < part.cps.toList)) (nats row).length 0 (nats row).length,
   bsL (fun j => decide (¬ part.cps.toList < (keyCut tails part.length ((nats row).getD j .none)).cps.toList)) (nats row).length 0 (nats row).length)

theorem spec_range {w : Wd} {d : Nat} {g : GS} {aT aR : Addr} {tails : List MStr} {row : List Nat} {part : MStr} {Φ : PV → GS → Prop} (hd : d ≤ 500) (hT : (aT, tails.map .str) ∈ g.lists) (hR : (aR, nats row) ∈ g.lists)
    (hrow : ∀ k ∈ row, k < tails.length) (hlen : row.length < 1000) (hlen2 : tails.length < 1000) (hsz : ∀ x ∈ tails, x.length ≤ 1000000) (hpl : part.length ≤ 1000000)
    (h : Φ (.tup [.int (rngP tails row part).1, .int (rngP tails row part).2]) g) : CallR w d (.st (.ref 194)) [.lst aT, .lst aR, .str part] [] g Φ := by
  refine' CallR_fnC (loc' := [("row", .lst aR)]) (fun L' => [(L' + 2, some (.str part)), (L' + 1, some (.lst aT))]) ?ho ?hcd (by (first | lia | omega)) ?hb ?hk ?hnd ?h ?c1 ?c2
  case ho => exact rfl
  case hcd => exact rfl
  case hk => exact rfl
  case c1 => exact rfl
  case c2 => exact rfl
  case hnd => decide
  case hb =>
    intro vs ks hv hk
    obtain ⟨v1, v2, v3, rfl⟩ := len3 hv
    obtain rfl := len0 hk
    · refine ⟨[("tails", v1), ("row", v2), ("part", v3)], fun S => by kernel_rfl, rfl, fun imm h1 h2 => ⟨?_, fun L' => ?_⟩⟩
      · have e2 := h1 (v2, .lst aR) (by simp)
        intro x pv hx
        rw [List.lookup_cons] at hx
        split at hx
        · rename_i e
          have := eq_of_beq e; subst this
          cases hx
          exact ⟨v2, rfl, e2⟩
        · cases hx
      · have e1 := h1 (v1, .lst aT) (by simp)
        have e3 := h1 (v3, .str part) (by simp)
        exact ⟨rfl, ⟨v3, rfl, e3⟩, rfl, ⟨v1, rfl, e1⟩, trivial⟩
  case h =>
    intro L' c' hd' hu' hnd
    have mP : (L' + 2, some (PV.str part)) ∈ ([(L' + 2, some (.str part)), (L' + 1, some (.lst aT))] ++ g.cells : List (Addr × Option PV)) := .head _
    have mT : (L' + 1, some (PV.lst aT)) ∈ ([(L' + 2, some (.str part)), (L' + 1, some (.lst aT))] ++ g.cells : List (Addr × Option PV)) := .tail _ (.head _)
    refine X_cons (S_assign (E_call_kw1 rfl hd' hu' (E_global rfl ⟨rfl, A_cons (E_local rfl (A_cons (E_cell rfl mP (A_nil ?_)))) ⟩) (by with_unfolding_all rfl) (by with_unfolding_all rfl) (by with_unfolding_all rfl)))
    refine E_lambda (cadr := 193) (P := 189) rfl (fun c => c.hds.1) (.head _) rfl rfl ?_
    refine spec_bl_key (kf := keyCut tails part.length) (by (first | lia | omega)) hR (by simp; (first | lia | omega)) ?key1 ?_
    case key1 =>
      intro p hp Ψ hΨ
      obtain ⟨k, hk, rfl⟩ := List.mem_map.mp hp
      refine CallR_clo (loc' := [("one", .int k)]) (by (first | lia | omega)) ?_ rfl ?_ rfl rfl rfl
      · intro pm cdv ctv vs hv
        obtain ⟨v, rfl⟩ := len1 hv
        exact ⟨[("one", v)], by kernel_rfl, rfl, fun imm h1 => LocOk.of_binds (ns := ["one"]) rfl (by decide) ⟨rfl, h1 (v, .int k) (by simp), trivial⟩⟩
      · intro f cc c2 hd2 hu2
        have hk2 := hrow k hk
        refine E_call rfl hd2 hu2 (E_global rfl ⟨rfl, A_cons (E_slice_str (E_sub (E_free rfl mT (E_local rfl (I_list hT (by (first | lia | omega)) (by (first | lia | omega)) (p := .str (tails.getD k Str.empty)) ?_ ⟨_, rfl, ?_, ?_⟩))))) (by with_unfolding_all rfl)⟩)
        · rw [Int.toNat_natCast]; simp [hk2]
        · have := hsz (tails.getD k Str.empty) (by rw [List.getD_eq_getElem?_getD, List.getElem?_eq_getElem hk2]; exact List.getElem_mem hk2)
          rw [sizeLine_eq]; (first | lia | omega)
        · exact E_call_bi hd2 hu2 (E_builtin rfl rfl (by decide) ⟨rfl, A_cons (E_free rfl mP (A_nil (F_len_str (by (first | lia | omega)) ⟨_, rfl, A_nil (spec_QName (by (first | lia | omega)) hΨ)⟩)))⟩)
    refine X_cons (S_assign (E_call_kw1 rfl hd' hu' (E_global rfl ⟨rfl, A_cons (E_local rfl (A_cons (E_cell rfl mP (A_nil ?_)))) ⟩) (by with_unfolding_all rfl) (by with_unfolding_all rfl) (by with_unfolding_all rfl)))
    refine E_lambda (cadr := 193) (P := 189) rfl (fun c => c.hds.1) (.head _) rfl rfl ?_
    refine spec_br_key (x := part) (kf := keyCut tails part.length) (by (first | lia | omega)) (.inl rfl) rfl hR (by simp; (first | lia | omega)) ?key2 ?_
    case key2 =>
      intro p hp Ψ hΨ
      obtain ⟨k, hk, rfl⟩ := List.mem_map.mp hp
      refine CallR_clo (loc' := [("one", .int k)]) (by (first | lia | omega)) ?_ rfl ?_ rfl rfl rfl
      · intro pm cdv ctv vs hv
        obtain ⟨v, rfl⟩ := len1 hv
        exact ⟨[("one", v)], by kernel_rfl, rfl, fun imm h1 => LocOk.of_binds (ns := ["one"]) rfl (by decide) ⟨rfl, h1 (v, .int k) (by simp), trivial⟩⟩
      · intro f cc c2 hd2 hu2
        have hk2 := hrow k hk
        refine E_call rfl hd2 hu2 (E_global rfl ⟨rfl, A_cons (E_slice_str (E_sub (E_free rfl mT (E_local rfl (I_list hT (by (first | lia | omega)) (by (first | lia | omega)) (p := .str (tails.getD k Str.empty)) ?_ ⟨_, rfl, ?_, ?_⟩))))) (by with_unfolding_all rfl)⟩)
        · rw [Int.toNat_natCast]; simp [hk2]
        · have := hsz (tails.getD k Str.empty) (by rw [List.getD_eq_getElem?_getD, List.getElem?_eq_getElem hk2]; exact List.getElem_mem hk2)
          rw [sizeLine_eq]; (first | lia | omega)
        · exact E_call_bi hd2 hu2 (E_builtin rfl rfl (by decide) ⟨rfl, A_cons (E_free rfl mP (A_nil (F_len_str (by (first | lia | omega)) ⟨_, rfl, A_nil (spec_QName (by (first | lia | omega)) hΨ)⟩)))⟩)
    refine X_cons (S_ret (E_tuple (A_cons (E_local rfl (A_cons (E_local rfl (A_nil ⟨Nat.le_of_ble_eq_true rfl, g, ⟨.refl _, ?_, .refl _, .refl _, rfl⟩, h⟩)))))))
    exact List.sublist_append_right _ _
end Mine
set_option maxHeartbeats 4000000
namespace Mine
theorem bsL_congr {t t' : Nat → Bool} : ∀ {n lo hi : Nat}, (∀ j, lo ≤ j → j < hi → t j = t' j) → bsL t n lo hi = bsL t' n lo hi
  | 0, _, _, _ => rfl
  | n + 1, lo, hi, h => by
    rw [bsL, bsL]
    split
    · rename_i hlt
      rw [h ((lo + hi) / 2) (by (first | lia | omega)) (by (first | lia | omega))]
      split
      · exact bsL_congr fun j a b => h j (by (first | lia | omega)) b
      · exact bsL_congr fun j a b => h j a (by (first | lia | omega))
    · rfl
theorem bsL_le {t : Nat → Bool} : ∀ {n lo hi : Nat}, lo ≤ hi → bsL t n lo hi ≤ hi
  | 0, _, _, h => h
  | n + 1, lo, hi, h => by
    rw [bsL]
    split
    · split
      · exact bsL_le (by (first | lia | omega))
      · exact Nat.le_trans (bsL_le (by (first | lia | omega))) (by (first | lia | omega))
    · exact h
noncomputable def posN (key : Nat → MStr) (l : List Nat) (x : Nat) : Nat := bsL (fun j => decide (¬ (key x).cps.toList < (key (l.getD j 0)).cps.toList)) l.length 0 l.length
noncomputable def insN (key : Nat → MStr) (l : List Nat) (x : Nat) : List Nat := l.take (posN key l x) ++ x :: l.drop (posN key l x)
noncomputable def keyN (key : Nat → MStr) : PV → MStr
  | .int k => key k.toNat
  | _ => Str.empty
theorem nats_getD {l : List Nat} {j : Nat} (h : j < l.length) : (nats l).getD j .none = .int (l.getD j 0) := by
  simp [h]
theorem posN_eq {key : Nat → MStr} {l : List Nat} {x : Nat} : bsL (fun j => decide (¬ (keyN key (.int (x : Int))).cps.toList < (keyN key ((nats l).getD j .none)).cps.toList)) (nats l).length 0 (nats l).length = posN key l x := by
  rw [List.length_map, posN]
  refine bsL_congr fun j _ h => ?_
  rw [nats_getD h]
  simp [keyN]
theorem nats_ins {key : Nat → MStr} {l : List Nat} {x : Nat} : (nats l).take (posN key l x) ++ PV.int (x : Int) :: (nats l).drop (posN key l x) = nats (insN key l x) := by
  simp [insN]
theorem mem_insN {key : Nat → MStr} {l : List Nat} {x y : Nat} : y ∈ insN key l x ↔ y = x ∨ y ∈ l := by
  rw [insN, List.mem_append, List.mem_cons]
  have : y ∈ l ↔ y ∈ l.take (posN key l x) ∨ y ∈ l.drop (posN key l x) := by rw [← List.mem_append, List.take_append_drop]
  rw [this]
  constructor
  · rintro (h | rfl | h) <;> simp [*]
  · rintro (rfl | h | h) <;> simp [*]
theorem insN_perm {key : Nat → MStr} {l : List Nat} {x : Nat} : (insN key l x).Perm (x :: l) := by
  rw [insN]
  exact List.perm_middle.trans (by rw [List.take_append_drop])
theorem spec_insort2 {w : Wd} {d : Nat} {g : GS} {a : Addr} {key : Nat → MStr} {l : List Nat} {x : Nat} {k : CloS} {ls' : List (Addr × List PV)} {Φ : PV → GS → Prop} (hd : d ≤ 600) (hU : LUpd a (nats l) (nats (insN key l x)) g.lists ls') (hlen : l.length < 1000) (hb : x < 6) (hl : ∀ y ∈ l, y < 6)
    (hk : ∀ d2 n, d2 ≤ d + 2 → n < 6 → ∀ Φ : PV → GS → Prop, Φ (.qn (key n)) g → CallR w d2 (.clo k) [.int (n : Int)] [] g Φ) (h : Φ .none { g with lists := ls' }) : CallR w d (.st (.ref 23)) [.lst a, .int (x : Int)] [("key", .clo k)] g Φ := by
  have kk : ∀ d2, d2 ≤ d + 2 → ∀ l : List Nat, (∀ y ∈ l, y < 6) → KeyOK w d2 k (nats l) (keyN key) g := fun d2 h2 l hl p hp Ψ hΨ => by
    obtain ⟨n, hn, rfl⟩ := List.mem_map.mp hp
    exact hk d2 n h2 (hl n hn) Ψ hΨ
  refine spec_insort (kf := keyN key) (n := posN key l x) hd hU.mem (by simpa using hlen) nofun ?_ (kk _ (Nat.le_refl _) l hl) posN_eq ?_ ?_ h
  · exact kk _ (by (first | lia | omega)) (x :: l) fun y hy => (List.mem_cons.mp hy).elim (fun e => e ▸ hb) (hl y)
  · rw [nats_ins]; exact hU
  · rw [List.length_map]; exact bsL_le (Nat.zero_le _)
noncomputable def rowN (key : Nat → MStr) (l : List Nat) : List Nat := l.foldl (insN key) []

theorem B_catl {w : Wd} {g : GS} {a b : Addr} {x y : List PV} {Φ : PV → GS → Prop} (ha : (a, x) ∈ g.lists) (hb : (b, y) ∈ g.lists) (hsz : x.length + y.length ≤ 1000000) (h : ∀ l, Φ (.lst l) { g with lists := (l, x ++ y) :: g.lists }) : BinR w .Add (.lst a) (.lst b) g Φ := by
  intro fs c loc ts rs s Q E va vb R h1 h2 q
  have := R.lst h1; subst this
  have := R.lst h2; subst this
  obtain ⟨m, imm, mu, R'⟩ := R
  obtain ⟨vs, n, k1, k2, k3, k4⟩ := R'.listAt ha
  obtain ⟨us, n2, l1, l2, l3, l4⟩ := R'.listAt hb
  refine add_lists R'.fr R'.nw k4 l4 (fun h' F N => ?_) (by rw [k2.length, l2.length, sizeLine_eq]; (first | lia | omega))
  exact q _ (.lst _) _ _ ⟨m, imm, _, (R'.pushL (n := 0) (k2.append l2) F N R'.lt_size R'.tk).temp (.lst _)⟩ (h _)

theorem rowN_succ {key : Nat → MStr} {l : List Nat} {x : Nat} : rowN key (l ++ [x]) = insN key (rowN key l) x := by simp [rowN]
theorem rowN_perm {key : Nat → MStr} (l : List Nat) : (rowN key l).Perm l := by
  suffices h : ∀ (l acc : List Nat), (l.foldl (insN key) acc).Perm (acc ++ l) from h l []
  intro l
  induction l with
  | nil => intro acc; simp
  | cons x l ih =>
    intro acc
    refine (ih _).trans ?_
    refine (insN_perm.append_right l).trans ?_
    exact (List.perm_middle (a := x) (l₁ := acc) (l₂ := l)).symm
noncomputable def tailsP (ws : List MStr) (n : Nat) : List MStr := (List.range n).map fun k => Txt.join (Str.ofString "") (ws.drop k)
theorem sum_len {k : Nat} : ∀ {l : List MStr}, (∀ x ∈ l, x.length ≤ k) → (l.map (·.length)).sum ≤ l.length * k
  | [], _ => by simp
  | x :: l, h => by
    have := sum_len (k := k) (l := l) fun y hy => h y (.tail _ hy)
    have := h x (.head _)
    simp only [List.map_cons, List.sum_cons, List.length_cons, Nat.add_mul]
    (first | lia | omega)
noncomputable def behindP (l : List Nat) : List Nat := ((6 :: l).filter fun b => decide (0 < b)).map fun b => b - 1
noncomputable def qP (row : List Nat) (i : Nat) : List Nat := (((6 :: row).take i).filter fun b => decide (0 < b)).map fun b => b - 1
noncomputable def rowLs (aT aR aA aG l l6 : Addr) (row : List Nat) (key2 : Nat → MStr) (tl : List PV) (ls0 : List (Addr × List PV)) (i : Nat) : List (Addr × List PV) :=
  (l, nats (6 :: row)) :: (l6, [PV.int 6]) :: (aG, List.replicate (6 + (qP row i).length) PV.none) :: (aA, nats (rowN key2 (qP row i))) :: (aR, nats row) :: (aT, tl) :: ls0
noncomputable def rowCs (L aT aW : Addr) (cs0 : List (Addr × Option PV)) : List (Addr × Option PV) := (L + 2, some (.lst aT)) :: (L + 1, some (.lst aW)) :: cs0
theorem spec_row {w : Wd} {d : Nat} {g : GS} {aW : Addr} {ws : List MStr} {Φ : PV → GS → Prop} (hd : d ≤ 400) (hW : (aW, ws.map .str) ∈ g.lists) (h6 : ws.length = 6) (hsz : ∀ x ∈ ws, x.length ≤ 100)
    (h : ∀ aT aR aA aG, Φ (.tup [.lst aT, .lst aR, .lst aA, .lst aG]) { g with lists := (aG, List.replicate 12 .none) :: (aA, nats (rowN (fun k => ws.getD k Str.empty) (behindP (rowN (fun k => (tailsP ws 6).getD k Str.empty) (List.range 6))))) :: (aR, nats (rowN (fun k => (tailsP ws 6).getD k Str.empty) (List.range 6))) :: (aT, (tailsP ws 6).map .str) :: g.lists }) :
    CallR w d (.st (.ref 187)) [.lst aW] [] g Φ := by
  refine' CallR_fnC (loc' := []) (fun L' => [(L' + 2, .none), (L' + 1, some (.lst aW))]) ?ho ?hcd (by (first | lia | omega)) ?hb ?hk ?hnd ?h ?c1 ?c2
  case ho => exact rfl
  case hcd => exact rfl
  case hk => exact rfl
  case c1 => exact rfl
  case c2 => exact rfl
  case hnd => decide
  case hb =>
    intro vs ks hv hk
    obtain ⟨v1, rfl⟩ := len1 hv
    obtain rfl := len0 hk
    · refine ⟨[("written", v1)], fun S => by kernel_rfl, rfl, fun imm h1 h2 => ⟨LocOk.nil, fun L' => ?_⟩⟩
      exact ⟨rfl, rfl, rfl, ⟨v1, rfl, h1 (v1, .lst aW) (by simp)⟩, trivial⟩
  case h =>
    intro L' c' hd' hu' hnd
    refine X_cons (S_assign_cell rfl (E_comp rfl (E_call_ty hd' hu' (E_builtin rfl rfl (by decide) ⟨rfl, A_cons (E_int (A_nil (F_range1 fun r o hr => ⟨rfl, ?_⟩)))⟩))))
    refine CompOK.ofMap ((List.range 6).map fun (i : Nat) => PV.int (0 + (i : Int))) (fun _ => True) (fun p => .str (Txt.join (Str.ofString "") (ws.drop (match p with | .int k => k.toNat | _ => 0)))) (fun _ => true) (src_range (by decide) hr) (fun _ _ _ => trivial) trivial (by decide) ?_ ?_
    · intro i p hp D C ys l nss raws
      have hi : i < 6 := by have := (List.getElem?_eq_some_iff.mp hp).1; simpa using this
      have hp' : p = .int (i : Int) := by
        rw [List.getElem?_map, List.getElem?_range hi] at hp
        have := (Option.some.inj hp).symm
        simpa using this
      subst hp'
      refine ⟨_, AC_name rfl rfl, rfl, GLe.rfl, fun _ => ?_⟩
      have e : ((ws.map PV.str).drop i).take (6 - i) = (ws.drop i).map PV.str := by
        rw [← List.map_drop]; exact List.take_of_length_le (by simp; (first | lia | omega))
      refine E_meth_str F.slot_str_join (by kernel_rfl) hd' hu' (E_str ⟨_, rfl, A_cons (E_slice_list (E_ccell rfl (.tail _ (.head _)) ⟨aW, ws.map .str, rfl, .tail _ hW, E_cvar (.head _) rfl ⟨_, rfl, .tail _ hW, by simp; (first | lia | omega), i, 6, rfl, by (first | lia | omega), by simp; (first | lia | omega), .inr ⟨rfl, by simp; (first | lia | omega)⟩, fun x => ?_⟩⟩)) (by with_unfolding_all rfl)⟩)
      rw [e]
      refine A_nil (F_join (.head _) ?_ ⟨rfl, GLe.ofLists (List.sublist_cons_self _ _)⟩)
      have := sum_len (k := 100) (l := ws.drop i) fun x hx => hsz x (List.mem_of_mem_drop hx)
      have h1 : (ws.drop i).length ≤ 6 := by simp; (first | lia | omega)
      have h2 : (Str.ofString "").length = 0 := rfl
      have h3 : (ws.drop i).length * 100 ≤ 6 * 100 := Nat.mul_le_mul_right _ h1
      rw [h2, Nat.mul_zero]
      (first | lia | omega)
    · intro aT
      refine ⟨_, _, .head, ?_⟩
      have eT : (((List.range 6).map fun (i : Nat) => PV.int (0 + (i : Int))).filter (fun _ => true)).map (fun p => PV.str (Txt.join (Str.ofString "") (ws.drop (match p with | .int k => k.toNat | _ => 0)))) = (tailsP ws 6).map .str := by
        rw [List.filter_eq_self.mpr (fun _ _ => rfl), tailsP, List.map_map, List.map_map]
        refine List.map_congr_left fun k _ => ?_
        show PV.str (Txt.join (Str.ofString "") (ws.drop (0 + (k : Int)).toNat)) = _
        rw [Int.zero_add, Int.toNat_natCast]; rfl
      rw [eT]
      have hT6 : (tailsP ws 6).length = 6 := by simp [tailsP]
      generalize hkey1 : (fun k => (tailsP ws 6).getD k Str.empty) = key1 at h
      generalize hkey2 : (fun k => ws.getD k Str.empty) = key2 at h
      refine X_cons (S_assign (E_list (A_nil ⟨Nat.zero_le _, fun aR => ?_⟩)))
      refine X_cons (S_assign (E_list (A_nil ⟨Nat.zero_le _, fun aA => ?_⟩)))
      refine X_cons (S_assign (E_list (A_nil ⟨Nat.zero_le _, fun aG => ?_⟩)))
      refine X_cons (S_for_range (a := 0) (n := 6) (fun i loc ls cs gn => Has loc "row" (.lst aR) ∧ Has loc "again" (.lst aA) ∧ Has loc "given" (.lst aG) ∧
          ls = (aG, List.replicate i .none) :: (aA, []) :: (aR, nats (rowN key1 (List.range i))) :: (aT, (tailsP ws 6).map .str) :: g.lists ∧ cs = rowCs L' aT aW g.cells ∧ gn = g.gens) (by decide)
        (E_call_ty hd' hu' (E_builtin rfl rfl (by decide) ⟨rfl, A_cons (E_int (A_nil (F_range1 fun r o hr => ⟨r, o, rfl, hr, rfl, rfl, rfl, rfl, rfl, rfl, rfl, rfl⟩)))⟩)) ?turn ?done)
      case turn =>
        rintro i loc ls cs gn hi ⟨h1, h2, h3, rfl, rfl, rfl⟩ nss raws
        rw [Int.zero_add]
        refine X_cons (S_expr (E_meth_list F.slot_list_append (by kernel_rfl) hd' hu' (E_local h3 ⟨_, _, rfl, .head _, A_cons (E_call_kw1 rfl hd' hu' (E_global rfl ⟨rfl, A_cons (E_local h1 (A_cons (E_local rfl (A_nil ?_))))⟩) (by with_unfolding_all rfl) (by with_unfolding_all rfl) (by with_unfolding_all rfl)) (by with_unfolding_all rfl)⟩)))
        refine E_lambda (cadr := 186) (P := 184) rfl (fun c => c.hds.2) (.tail _ (.head _)) rfl rfl ?_
        refine spec_insort2 (key := key1) (by (first | lia | omega)) (.tail (.tail .head)) (by rw [(rowN_perm _).length_eq]; simp; (first | lia | omega)) (hi) (fun y hy => by have := (rowN_perm _).mem_iff.mp hy; simp at this; (first | lia | omega)) ?_ ?_
        · intro d2 n hd2 hn Ψ hΨ
          refine CallR_clo (loc' := [("one", .int n)]) (by (first | lia | omega)) ?_ rfl ?_ rfl rfl rfl
          · intro pm cdv ctv vs hv
            obtain ⟨v, rfl⟩ := len1 hv
            exact ⟨[("one", v)], by kernel_rfl, rfl, fun imm h1 => LocOk.of_binds (ns := ["one"]) rfl (by decide) ⟨rfl, h1 (v, .int n) (by simp), trivial⟩⟩
          · intro f cc c2 hd3 hu3
            refine E_call rfl hd3 hu3 (E_global rfl ⟨rfl, A_cons (E_sub (E_free rfl (.head _) (E_local rfl (I_list (.tail _ (.tail _ (.tail _ (.head _)))) (by (first | lia | omega)) (by (first | lia | omega)) (p := .str (key1 n)) ?_ (A_nil (spec_QName (by (first | lia | omega)) hΨ)))))) (by with_unfolding_all rfl)⟩)
            rw [Int.toNat_natCast, ← hkey1]; simp [hT6, hn]
        · refine A_nil (F_append .head (by simp; (first | lia | omega)) (X_nil ⟨_, GLe.rfl, rfl, rfl, h1, h2, h3, ?_, rfl, rfl⟩))
          rw [List.range_succ, rowN_succ, List.replicate_succ']
      case done =>
        rintro loc ls cs gn ⟨h1, h2, h3, rfl, rfl, rfl⟩
        have hrl : (rowN key1 (List.range 6)).length = 6 := by rw [(rowN_perm _).length_eq]; rfl
        have hrb : ∀ y ∈ rowN key1 (List.range 6), y < 6 := fun y hy => by have := (rowN_perm _).mem_iff.mp hy; simpa using this
        have hrc : ((6 :: rowN key1 (List.range 6)).filter fun b => decide (0 < b)).length = 6 := by
          have := ((rowN_perm (key := key1) (List.range 6)).cons 6).filter (fun b => decide (0 < b))
          rw [this.length_eq]; rfl
        generalize rowN key1 (List.range 6) = row at h hrl hrb hrc ⊢
        have hqb : ∀ i, ∀ y ∈ qP row i, y < 6 := fun i y hy => by
          obtain ⟨b, hb, rfl⟩ := List.mem_map.mp hy
          have h2 := List.mem_of_mem_take (List.mem_filter.mp hb).1
          rcases List.mem_cons.mp h2 with rfl | h2
          · decide
          · have := hrb b h2; (first | lia | omega)
        have hql : ∀ i, (qP row i).length < 1000 := fun i => by
          rw [qP, List.length_map]
          have h1 := List.length_filter_le (fun b => decide (0 < b)) ((6 :: row).take i)
          have h2 : ((6 :: row).take i).length ≤ 7 := by rw [List.length_take, List.length_cons, hrl]; exact Nat.min_le_right _ _
          (first | lia | omega)
        have hR : (aR, nats row) ∈ ((aG, List.replicate 6 PV.none) :: (aA, []) :: (aR, nats row) :: (aT, List.map PV.str (tailsP ws 6)) :: g.lists) := .tail _ (.tail _ (.head _))
        refine X_nil ?_
        refine X_cons (S_for_list ?_)
        refine E_bin (E_list (A_cons (E_int (A_nil ⟨Nat.le_of_ble_eq_true rfl, fun l6 => ?_⟩))))
        refine E_local h1 (B_catl (.head _) (.tail _ hR) (by simp [hrl]) fun l => ⟨l, nats (6 :: row), fun i loc ls cs gn => Has loc "row" (.lst aR) ∧ Has loc "again" (.lst aA) ∧ Has loc "given" (.lst aG) ∧
          ls = rowLs aT aR aA aG l l6 row key2 ((tailsP ws 6).map .str) g.lists i ∧ cs = rowCs L' aT aW g.cells ∧ gn = g.gens, rfl, rfl, rfl, ⟨h1, h2, h3, rfl, rfl, rfl⟩, ⟨?mem, ?turn2, ?done2⟩⟩)
        case mem =>
          rintro i loc ls cs gn ⟨_, _, _, rfl, _, _⟩
          exact .head _
        case turn2 =>
          rintro i loc ls cs gn p hp ⟨h1, h2, h3, rfl, rfl, rfl⟩ nss raws
          have hi : i < (6 :: row).length := by have := (List.getElem?_eq_some_iff.mp hp).1; simpa using this
          obtain ⟨b, hb⟩ : ∃ b, (6 :: row)[i]? = some b := ⟨_, List.getElem?_eq_getElem hi⟩
          have hp' : p = .int (b : Int) := by
            rw [List.getElem?_map, hb] at hp
            exact (Option.some.inj hp).symm
          subst hp'
          have hb6 : b ≤ 6 := by
            rcases List.mem_cons.mp (List.mem_of_getElem? hb) with rfl | h
            · exact Nat.le_refl _
            · have := hrb b h; (first | lia | omega)
          have hts := take_succ_filter (fun b => decide (0 < b)) (6 :: row) i b hb
          refine AV_local ?_
          refine X_cons (S_if (T_cmp _ hd' hu' (E_local rfl (E_int (C_gt ⟨_, rfl, fun ht => ?_, fun ht => ?_⟩)))))
          · have hb0 : 0 < b := by have := of_decide_eq_true ht; (first | lia | omega)
            refine X_cons (S_expr (E_meth_list F.slot_list_append (by kernel_rfl) hd' hu' (E_local h3 ⟨_, _, rfl, .tail _ (.tail _ (.head _)), A_cons (E_call_kw1 rfl hd' hu' (E_global rfl ⟨rfl, A_cons (E_local h2 (A_cons (E_bin (E_local rfl (E_int (B_sub (A_nil ?_))))) (by with_unfolding_all rfl)))⟩) (by with_unfolding_all rfl) (by with_unfolding_all rfl) (by with_unfolding_all rfl)) (by with_unfolding_all rfl)⟩)))
            refine E_lambda (cadr := 186) (P := 184) rfl (fun c => c.hds.2) (.tail _ (.head _)) rfl rfl ?_
            rw [show ((b : Int) - 1) = ((b - 1 : Nat) : Int) by (first | lia | omega)]
            refine spec_insort2 (key := key2) (by (first | lia | omega)) (.tail (.tail (.tail .head))) (by rw [(rowN_perm _).length_eq]; exact hql i) (by (first | lia | omega)) (fun y hy => hqb i y ((rowN_perm _).mem_iff.mp hy)) ?_ ?_
            · intro d2 n hd2 hn Ψ hΨ
              refine CallR_clo (loc' := [("one", .int n)]) (by (first | lia | omega)) ?_ rfl ?_ rfl rfl rfl
              · intro pm cdv ctv vs hv
                obtain ⟨v, rfl⟩ := len1 hv
                exact ⟨[("one", v)], by kernel_rfl, rfl, fun imm h1 => LocOk.of_binds (ns := ["one"]) rfl (by decide) ⟨rfl, h1 (v, .int n) (by simp), trivial⟩⟩
              · intro f cc c2 hd3 hu3
                refine E_call rfl hd3 hu3 (E_global rfl ⟨rfl, A_cons (E_sub (E_free rfl (.tail _ (.head _)) (E_local rfl (I_list (.tail _ (.tail _ (.tail _ (.tail _ (.tail _ (.tail _ hW)))))) (by (first | lia | omega)) (by (first | lia | omega)) (p := .str (key2 n)) ?_ (A_nil (spec_QName (by (first | lia | omega)) hΨ)))))) (by with_unfolding_all rfl)⟩)
                rw [Int.toNat_natCast, ← hkey2]; simp [h6, hn]
            · refine A_nil (F_append (.tail (.tail .head)) (by have := hql i; simp; (first | lia | omega)) (X_nil (X_nil ⟨_, GLe.rfl, rfl, rfl, h1, h2, h3, ?_, rfl, rfl⟩)))
              have e2 : qP row (i + 1) = qP row i ++ [b - 1] := by
                unfold qP
                rw [hts, List.map_append, if_pos (decide_eq_true hb0)]
                rfl
              show _ :: _ :: _ :: _ :: _ = _ :: _ :: _ :: _ :: _
              rw [e2, rowN_succ, List.length_append, List.length_singleton, ← Nat.add_assoc, List.replicate_succ']
          · have hb0 : ¬ 0 < b := by have := of_decide_eq_false ht; (first | lia | omega)
            refine X_nil (X_nil ⟨_, GLe.rfl, rfl, rfl, h1, h2, h3, ?_, rfl, rfl⟩)
            have e2 : qP row (i + 1) = qP row i := by
              rw [qP, qP, hts, if_neg (by simpa using hb0), List.append_nil]
            rw [rowLs, rowLs, e2]
        case done2 =>
          rintro loc ls cs gn ⟨h1, h2, h3, rfl, rfl, rfl⟩
          have e1 : (nats (6 :: row)).length = (6 :: row).length := by simp
          have e2 : qP row (6 :: row).length = behindP row := by rw [qP, List.take_length]; rfl
          rw [e1, rowLs, e2]
          refine X_nil (X_cons (S_ret (E_tuple (A_cons (E_cell rfl (.head _) (A_cons (E_local h1 (A_cons (E_local h2 (A_cons (E_local h3 (A_nil ⟨Nat.le_of_ble_eq_true rfl, { g with lists := (aG, List.replicate 12 PV.none) :: (aA, nats (rowN key2 (behindP row))) :: (aR, nats row) :: (aT, List.map PV.str (tailsP ws 6)) :: g.lists }, ⟨?_, ?_, .refl _, .refl _, rfl⟩, h aT aR aA aG⟩))))))))))))
          · show List.Sublist _ _
            rw [behindP, List.length_map, hrc]
            exact List.Sublist.trans (List.sublist_cons_self _ _) (List.sublist_cons_self _ _)
          · exact List.Sublist.trans (List.sublist_cons_self _ _) (List.sublist_cons_self _ _)
end Mine
set_option maxHeartbeats 4000000
namespace Mine
variable {w : Wd} {fs : FS} {c : Cx w fs} {env : Env} {loc : Loc} {g : GS}
noncomputable def PV.flat : PV → Bool
  | .none => true
  | .int _ => true
  | .str _ => true
  | _ => false
noncomputable def PV.eqf : PV → PV → Bool
  | .none, .none => true
  | .int a, .int b => a == b
  | .str a, .str b => a == b
  | _, _ => false
noncomputable def PV.eqable : PV → Bool
  | .tup ds => ds.all PV.flat
  | p => p.flat
noncomputable def PV.isTup : PV → Bool
  | .tup _ => true
  | _ => false
noncomputable def eqs : List PV → List PV → Bool
  | [], [] => true
  | a :: l, b :: k => a.eqf b && eqs l k
  | _, _ => false
noncomputable def PV.eqb : PV → PV → Bool
  | .tup a, .tup b => eqs a b
  | a, b => a.eqf b
theorem flat_cases {a : PV} (h : a.flat = true) : a = .none ∨ (∃ i, a = .int i) ∨ ∃ x, a = .str x := by
  cases a with
  | none => exact .inl rfl
  | int i => exact .inr (.inl ⟨i, rfl⟩)
  | str x => exact .inr (.inr ⟨x, rfl⟩)
  | _ => exact Bool.noConfusion h
theorem eqf_iff {a b : PV} (ha : a.flat = true) : a.eqf b = true ↔ a = b := by
  rcases flat_cases ha with rfl | ⟨i, rfl⟩ | ⟨x, rfl⟩
  · cases b with
    | none => exact ⟨fun _ => rfl, fun _ => rfl⟩
    | _ => exact ⟨fun h => Bool.noConfusion h, fun h => by cases h⟩
  · cases b with
    | int j => exact ⟨fun h => congrArg PV.int (eq_of_beq h), fun h => by cases h; exact beq_self_eq_true i⟩
    | _ => exact ⟨fun h => Bool.noConfusion h, fun h => by cases h⟩
  · cases b with
    | str y => exact ⟨fun h => congrArg PV.str (eq_of_beq h), fun h => by cases h; exact beq_self_eq_true x⟩
    | _ => exact ⟨fun h => Bool.noConfusion h, fun h => by cases h⟩
theorem eqs_iff : ∀ {a b : List PV}, a.all PV.flat = true → (eqs a b = true ↔ a = b)
  | [], [], _ => by simp [eqs]
  | [], _ :: _, _ => by simp [eqs]
  | _ :: _, [], _ => by simp [eqs]
  | x :: a, y :: b, h => by
    rw [List.all_cons, Bool.and_eq_true] at h
    rw [eqs, Bool.and_eq_true, eqf_iff h.1, eqs_iff h.2]
    simp
theorem tup_of {a : PV} (h : a.isTup = true) : ∃ x, a = .tup x := by
  cases a with
  | tup x => exact ⟨x, rfl⟩
  | _ => exact Bool.noConfusion h
theorem eqb_flat {a b : PV} (h : a.isTup = false) : a.eqb b = a.eqf b := by
  cases a with
  | tup x => exact Bool.noConfusion h
  | _ => rfl
theorem eqable_flat {a : PV} (h : a.isTup = false) : a.eqable = a.flat := by
  cases a with
  | tup x => exact Bool.noConfusion h
  | _ => rfl
theorem tups_or {a b : PV} (hab : a.isTup = b.isTup) : (∃ x y, a = .tup x ∧ b = .tup y) ∨ (a.isTup = false ∧ b.isTup = false) := by
  cases h : a.isTup with
  | true => obtain ⟨x, hx⟩ := tup_of h; obtain ⟨y, hy⟩ := tup_of (hab.symm.trans h); exact .inl ⟨x, y, hx, hy⟩
  | false => exact .inr ⟨rfl, hab.symm.trans h⟩
theorem eqb_iff {a b : PV} (ha : a.eqable = true) (hab : a.isTup = b.isTup) : a.eqb b = true ↔ a = b := by
  rcases tups_or hab with ⟨x, y, rfl, rfl⟩ | ⟨h1, h2⟩
  · show eqs x y = true ↔ _
    rw [eqs_iff ha, PV.tup.injEq]
  · rw [eqb_flat h1]
    exact eqf_iff ((eqable_flat h1).symm.trans ha)
noncomputable def flatOf : MVal → PV
  | .int i _ => .int i
  | .str x _ => .str x
  | _ => .none
theorem VRel.noneE {imm : Led} {v : MVal} (h : VRel imm v .none) : v = .none := by cases h; rfl
theorem VRel.intE {imm : Led} {v : MVal} {i : Int} (h : VRel imm v (.int i)) : ∃ t, v = .int i t := by cases h; exact ⟨_, rfl⟩
theorem VRel.strE {imm : Led} {v : MVal} {x : MStr} (h : VRel imm v (.str x)) : ∃ t, v = .str x t := by cases h; exact ⟨_, rfl⟩
theorem flatOf_eq {imm : Led} {v : MVal} {a : PV} (h : VRel imm v a) (ha : a.flat = true) : flatOf v = a := by
  rcases flat_cases ha with rfl | ⟨i, rfl⟩ | ⟨x, rfl⟩
  · rw [h.noneE]; rfl
  · obtain ⟨t, rfl⟩ := h.intE; rfl
  · obtain ⟨t, rfl⟩ := h.strE; rfl
theorem vrel_flat {imm : Led} {v : MVal} {a b : PV} (h : VRel imm v a) (k : VRel imm v b) (ha : a.flat = true) (hb : b.flat = true) : a = b :=
  (flatOf_eq h ha).symm.trans (flatOf_eq k hb)
theorem vall_flat {imm : Led} : ∀ {vs : List MVal} {a b : List PV}, VAll imm vs a → VAll imm vs b → a.all PV.flat = true → b.all PV.flat = true → a = b
  | [], _, _, h, k, _, _ => by cases h; cases k; rfl
  | v :: vs, _, _, .cons h r, .cons k q, ha, hb => by
    rw [List.all_cons, Bool.and_eq_true] at ha hb
    rw [vrel_flat h k ha.1 hb.1, vall_flat r q ha.2 hb.2]
theorem tupO_inj {vs us : List MVal} {n m : Nat} (e : tupO vs n = tupO us m) : vs = us := by
  have e1 := congrArg Obj.data e
  injection e1 with e2 _
  simpa using congrArg Array.toList e2
theorem VRel.tupE {imm : Led} {v : MVal} {x : List PV} (h : VRel imm v (.tup x)) : ∃ l vs n, v = .ref l ∧ (l, tupO vs n) ∈ imm ∧ VAll imm vs x := by cases h with | tup h1 h2 => exact ⟨_, _, _, rfl, h1, h2⟩
theorem vrel_eqable {imm : Led} (hn : (imm.map (·.1)).Nodup) {v : MVal} {a b : PV} (h : VRel imm v a) (k : VRel imm v b) (ha : a.eqable = true) (hb : b.eqable = true) (hab : a.isTup = b.isTup) : a = b := by
  rcases tups_or hab with ⟨x, y, rfl, rfl⟩ | ⟨g1, g2⟩
  · obtain ⟨l, vs, n, rfl, h1, h2⟩ := h.tupE
    obtain ⟨l2, us, m, e, k1, k2⟩ := k.tupE
    cases e
    have := tupO_inj (nodup_mem_eq hn h1 k1)
    subst this
    rw [vall_flat h2 k2 ha hb]
  · exact vrel_flat h k ((eqable_flat g1).symm.trans ha) ((eqable_flat g2).symm.trans hb)

theorem eqAt_flat {A : Around} {s : Shared} {imm : Led} {v u : MVal} {a b : PV} (h : VRel imm v a) (k : VRel imm u b) (ha : a.flat = true) (hb : b.flat = true) : PySem.SeqAt.EqAt A s v u (a.eqf b) := by
  rcases flat_cases ha with rfl | ⟨i, rfl⟩ | ⟨x, rfl⟩
  · cases h.noneE
    rcases flat_cases hb with rfl | ⟨j, rfl⟩ | ⟨y, rfl⟩
    · cases k.noneE; exact PySem.SeqAt.EqAt.same _
    · obtain ⟨t, rfl⟩ := k.intE; exact PySem.SeqAt.EqAt.none_int _ _
    · obtain ⟨t, rfl⟩ := k.strE; exact PySem.SeqAt.EqAt.none_str _ _
  · obtain ⟨t1, rfl⟩ := h.intE
    rcases flat_cases hb with rfl | ⟨j, rfl⟩ | ⟨y, rfl⟩
    · cases k.noneE; exact PySem.SeqAt.EqAt.int_none _ _
    · obtain ⟨t, rfl⟩ := k.intE; exact PySem.SeqAt.EqAt.int_int _ _ _ _
    · obtain ⟨t, rfl⟩ := k.strE; exact PySem.SeqAt.EqAt.int_str _ _ _ _
  · obtain ⟨t1, rfl⟩ := h.strE
    rcases flat_cases hb with rfl | ⟨j, rfl⟩ | ⟨y, rfl⟩
    · cases k.noneE; exact PySem.SeqAt.EqAt.str_none _ _
    · obtain ⟨t, rfl⟩ := k.intE; exact PySem.SeqAt.EqAt.str_int _ _ _ _
    · obtain ⟨t, rfl⟩ := k.strE; exact PySem.SeqAt.EqAt.str_str _ _ _ _
theorem eqs_all : ∀ {a b : List PV}, ((List.range (min a.length b.length)).all (fun j => (a.getD j .none).eqf (b.getD j .none)) && a.length == b.length) = eqs a b
  | [], [] => rfl
  | [], _ :: _ => by simp [eqs]
  | _ :: _, [] => by simp [eqs]
  | x :: a, y :: b => by
    rw [eqs, ← eqs_all (a := a) (b := b)]
    rw [List.length_cons, List.length_cons, Nat.succ_min_succ, List.range_succ_eq_map, List.all_cons, List.all_map]
    simp [Function.comp_def, Bool.and_assoc]
theorem eqAt {A : Around} {s : Shared} {m : MStr → Option MVal} {imm mu rs : Led} {ts : List (MVal × PV)} {v u : MVal} {a b : PV} (R : RelW c loc g ts rs s m imm mu) (hu : A.units + 2 < cLine) (h : VRel imm v a) (k : VRel imm u b) (ha : a.eqable = true) (hb : b.eqable = true) (hab : a.isTup = b.isTup) : PySem.SeqAt.EqAt A s v u (a.eqb b) := by
  have hn : (imm.map (·.1)).Nodup := by
    have := R.nd
    rw [List.map_append, List.nodup_append] at this
    exact this.1
  rcases tups_or hab with ⟨x, y, rfl, rfl⟩ | ⟨g1, g2⟩
  · by_cases e : v = u
    · subst e
      have := vrel_eqable hn h k ha hb hab
      cases this
      have : (PV.tup x).eqb (.tup x) = true := (eqb_iff ha rfl).mpr rfl
      rw [this]
      exact PySem.SeqAt.EqAt.same _
    · obtain ⟨l, vs, n, rfl, h1, h2⟩ := h.tupE
      obtain ⟨l2, us, n2, rfl, k1, k2⟩ := k.tupE
      have t1 : s.heap.IsTuple l vs.toArray := ⟨_, R.nw.get (List.mem_append_left (mu ++ rs) h1), rfl, n, rfl⟩
      have t2 : s.heap.IsTuple l2 us.toArray := ⟨_, R.nw.get (List.mem_append_left (mu ++ rs) k1), rfl, n2, rfl⟩
      refine PySem.SeqAt.EqAt.of_refs (fun q => e (by rw [q])) ?_
      have := PySem.SeqAt.RcAt.tuples (A := A) (e := fun j => (x.getD j .none).eqf (y.getD j .none)) t1 t2 (by (first | lia | omega)) fun j j1 j2 => ?_
      · rw [List.size_toArray, List.size_toArray, h2.length, k2.length, eqs_all] at this
        exact this
      · have e1 : vs[j]? = some (vs.toArray[j]) := by simp
        have e2 : us[j]? = some (us.toArray[j]) := by simp
        obtain ⟨d1, f1, r1⟩ := h2.get' e1
        obtain ⟨d2, f2, r2⟩ := k2.get' e2
        have g1 : x.getD j .none = d1 := by rw [List.getD_eq_getElem?_getD, f1]; rfl
        have g2 : y.getD j .none = d2 := by rw [List.getD_eq_getElem?_getD, f2]; rfl
        rw [g1, g2]
        exact eqAt_flat r1 r2 (List.all_eq_true.mp ha _ (List.mem_of_getElem? f1)) (List.all_eq_true.mp hb _ (List.mem_of_getElem? f2))
  · rw [eqb_flat g1]
    exact eqAt_flat h k ((eqable_flat g1).symm.trans ha) ((eqable_flat g2).symm.trans hb)

section ops
variable {a : Addr} {items items2 : List PV} {p : PV} {Φ : PV → GS → Prop} {d : Nat}
noncomputable def okFor (p : PV) (items : List PV) : Prop := p.eqable = true ∧ ∀ y ∈ items, y.eqable = true ∧ y.isTup = p.isTup
open Classical in
theorem eq_fun {imm : Led} (hn : (imm.map (·.1)).Nodup) {vs : List MVal} (h2 : VAll imm vs items) (hp : okFor p items) :
    ∃ e : MVal → Bool, (∀ v d, VRel imm v d → d ∈ items → e v = d.eqb p) := by
  refine ⟨fun v => if h : ∃ d, VRel imm v d ∧ d ∈ items then (Classical.choose h).eqb p else false, fun v d hr hm => ?_⟩
  have h : ∃ d, VRel imm v d ∧ d ∈ items := ⟨d, hr, hm⟩
  show (if h : ∃ d, VRel imm v d ∧ d ∈ items then (Classical.choose h).eqb p else false) = _
  rw [dif_pos h]
  have k := Classical.choose_spec h
  have q1 := hp.2 _ k.2
  have q2 := hp.2 _ hm
  rw [vrel_eqable hn k.1 hr q1.1 q2.1 (q1.2.trans q2.2.symm)]
theorem RelW.immnod {ts : List (MVal × PV)} {rs : Led} {s : Shared} {m : MStr → Option MVal} {imm mu : Led} (R : RelW c loc g ts rs s m imm mu) : (imm.map (·.1)).Nodup := by
  have := R.nd
  rw [List.map_append, List.nodup_append] at this
  exact this.1
theorem vall_any {imm : Led} {e : MVal → Bool} {f : PV → Bool} : ∀ {vs : List MVal} {items : List PV}, VAll imm vs items → (∀ v d, VRel imm v d → d ∈ items → e v = f d) → vs.any e = items.any f
  | [], _, h, _ => by cases h; rfl
  | v :: vs, _, .cons h r, k => by
    rw [List.any_cons, List.any_cons, k v _ h (.head _), vall_any r fun v d a b => k v d a (.tail _ b)]
theorem C_in_list (hd : d ≤ 900) (hm : (a, items) ∈ g.lists) (hp : okFor p items) (h : Φ (.bool (items.any fun y => y.eqb p)) g) : CmpR w d .In p (.lst a) g Φ := by
  intro fs c loc ts rs s Q E va vb h1 h2 R ha hb q
  have := R.lst hb; subst this
  obtain ⟨m, imm, mu, R'⟩ := _root_.id R
  obtain ⟨vs, n, k1, k2, k3, k4⟩ := R'.listAt hm
  obtain ⟨e, he⟩ := eq_fun R'.immnod k2 hp
  refine PySem.SeqAt.in_listAt e k4 (fun y hy => ?_) ?_
  · obtain ⟨j, hj⟩ := List.mem_iff_getElem?.mp (by simpa using hy)
    obtain ⟨dd, f, r⟩ := k2.get' hj
    have hmem := List.mem_of_getElem? f
    rw [he y dd r hmem]
    exact eqAt R' (by rw [Around.in1_units]; show c.un + 1 + 2 < cLine; unfold cLine; (first | lia | omega)) r (R'.temps _ ha) (hp.2 _ hmem).1 hp.1 (hp.2 _ hmem).2
  · rw [List.any_toArray, vall_any k2 he]
    exact q _ _ g _ (R.prim fun _ => .bool _) h
theorem C_notin_list (hd : d ≤ 900) (hm : (a, items) ∈ g.lists) (hp : okFor p items) (h : Φ (.bool (!items.any fun y => y.eqb p)) g) : CmpR w d .NotIn p (.lst a) g Φ := by
  intro fs c loc ts rs s Q E va vb h1 h2 R ha hb q
  have := R.lst hb; subst this
  obtain ⟨m, imm, mu, R'⟩ := _root_.id R
  obtain ⟨vs, n, k1, k2, k3, k4⟩ := R'.listAt hm
  obtain ⟨e, he⟩ := eq_fun R'.immnod k2 hp
  refine PySem.SeqAt.notIn_listAt e k4 (fun y hy => ?_) ?_
  · obtain ⟨j, hj⟩ := List.mem_iff_getElem?.mp (by simpa using hy)
    obtain ⟨dd, f, r⟩ := k2.get' hj
    have hmem := List.mem_of_getElem? f
    rw [he y dd r hmem]
    exact eqAt R' (by rw [Around.in1_units]; show c.un + 1 + 2 < cLine; unfold cLine; (first | lia | omega)) r (R'.temps _ ha) (hp.2 _ hmem).1 hp.1 (hp.2 _ hmem).2
  · rw [List.any_toArray, vall_any k2 he]
    exact q _ _ g _ (R.prim fun _ => .bool _) h
end ops
end Mine
set_option maxHeartbeats 4000000
namespace Mine
variable {w : Wd} {fs : FS} {c : Cx w fs} {env : Env} {loc : Loc} {g : GS}
section ops
variable {a b : Addr} {items items2 : List PV} {p : PV} {Φ : PV → GS → Prop} {d : Nat}
theorem F_index {j : Nat} (hd : d ≤ 900) (hm : (a, items) ∈ g.lists) (hp : okFor p items) (hlen : items.length < 1000000) (hj : ∃ y, items[j]? = some y ∧ y.eqb p = true) (hno : ∀ m y, m < j → items[m]? = some y → y.eqb p = false) (h : Φ (.int (j : Int)) g) : CallR w d (.st (.builtin "list.index")) [.lst a, p] [] g Φ := by
  intro fs c loc ts rs s Q E fv vs ks hdp hun R hf hl hpp hk hkp q
  have := R.st hf; subst this
  obtain ⟨v1, v2, rfl⟩ := len2 hl
  have := R.lst (hpp (v1, .lst a) (by simp)); subst this
  have hx := hpp (v2, p) (by simp)
  have hks : ks = [] := by cases ks with | nil => rfl | cons => cases hk
  subst hks
  obtain ⟨m, imm, mu, R'⟩ := _root_.id R
  obtain ⟨vs, n, k1, k2, k3, k4⟩ := R'.listAt hm
  obtain ⟨e, he⟩ := eq_fun R'.immnod k2 hp
  obtain ⟨y, hy, hyp⟩ := hj
  have hjl : j < items.length := (List.getElem?_eq_some_iff.mp hy).1
  have hvl : vs.length = items.length := k2.length
  have val : ∀ m (hm : m < vs.toArray.size), ∃ y, items[m]? = some y ∧ e vs.toArray[m] = y.eqb p := fun m hm => by
    have e1 : vs[m]? = some (vs.toArray[m]) := by simp
    obtain ⟨dd, f, r⟩ := k2.get' e1
    exact ⟨dd, f, he _ dd r (List.mem_of_getElem? f)⟩
  have hjs : j < vs.toArray.size := by simp [hvl, hjl]
  refine call_meets F.slot_list_index k4.typeIs F.entry_list_index (F.args_list_index_2 _ _) (PySem.SeqAt.list_indexAt a vs.toArray n _ _ v2 e j hjs (by (first | lia | omega)) ?_ fun m hm hmj => ?_) ⟨k3, fun y hy => ?_, ?_⟩
  · obtain ⟨y', h1, h2⟩ := val j hjs
    rw [hy] at h1; cases h1
    rw [h2, hyp]
  · obtain ⟨y', h1, h2⟩ := val m hm
    rw [h2, hno m y' hmj h1]
  · obtain ⟨j, hj⟩ := List.mem_iff_getElem?.mp (by simpa using hy)
    obtain ⟨dd, f, r⟩ := k2.get' hj
    have hmem := List.mem_of_getElem? f
    rw [he y dd r hmem]
    exact eqAt R' (by rw [Around.in1_units]; show c.un + 1 + 2 < cLine; unfold cLine; (first | lia | omega)) r (R'.temps _ hx) (hp.2 _ hmem).1 hp.1 (hp.2 _ hmem).2
  · exact q _ _ g _ (R.ticked.prim fun _ => .int _ _) h

noncomputable def eqbs : List PV → List PV → Bool
  | [], [] => true
  | a :: l, b :: k => a.eqb b && eqbs l k
  | _, _ => false
noncomputable def kindAll (k : Bool) (l : List PV) : Prop := ∀ y ∈ l, y.eqable = true ∧ y.isTup = k
theorem eqbs_iff {k : Bool} : ∀ {a b : List PV}, kindAll k a → kindAll k b → (eqbs a b = true ↔ a = b)
  | [], [], _, _ => by simp [eqbs]
  | [], _ :: _, _, _ => by simp [eqbs]
  | _ :: _, [], _, _ => by simp [eqbs]
  | x :: a, y :: b, h, h' => by
    rw [eqbs, Bool.and_eq_true, eqb_iff (h x (.head _)).1 ((h x (.head _)).2.trans (h' y (.head _)).2.symm), eqbs_iff (fun z hz => h z (.tail _ hz)) (fun z hz => h' z (.tail _ hz))]
    simp
theorem eqbs_all : ∀ {a b : List PV}, a.length = b.length → (List.range a.length).all (fun j => (a.getD j .none).eqb (b.getD j .none)) = eqbs a b
  | [], [], _ => rfl
  | x :: a, y :: b, h => by
    have h : a.length = b.length := by simpa using h
    rw [eqbs, ← eqbs_all h, List.length_cons, List.range_succ_eq_map, List.all_cons, List.all_map]
    simp [Function.comp_def]
theorem eqbs_len : ∀ {a b : List PV}, a.length ≠ b.length → eqbs a b = false
  | [], [], h => absurd rfl h
  | [], _ :: _, _ => rfl
  | _ :: _, [], _ => rfl
  | x :: a, y :: b, h => by
    rw [eqbs, eqbs_len (fun e => h (by simp [e])), Bool.and_false]
theorem elems_eq {A : Around} {ts : List (MVal × PV)} {rs : Led} {s : Shared} {m : MStr → Option MVal} {imm mu : Led} {vs us : List MVal} {k : Bool} (R : RelW c loc g ts rs s m imm mu) (hu : A.units + 3 < cLine) (h2 : VAll imm vs items) (k2 : VAll imm us items2) (ha : kindAll k items) (hb : kindAll k items2) :
    ∀ j (h1 : j < vs.toArray.size) (h2 : j < us.toArray.size), PySem.SeqAt.EqAt A.in1 s vs.toArray[j] us.toArray[j] ((items.getD j .none).eqb (items2.getD j .none)) := fun j j1 j2 => by
  have e1 : vs[j]? = some (vs.toArray[j]) := by simp
  have e2 : us[j]? = some (us.toArray[j]) := by simp
  obtain ⟨d1, f1, r1⟩ := h2.get' e1
  obtain ⟨d2, f2, r2⟩ := k2.get' e2
  have g1 : items.getD j .none = d1 := by rw [List.getD_eq_getElem?_getD, f1]; rfl
  have g2 : items2.getD j .none = d2 := by rw [List.getD_eq_getElem?_getD, f2]; rfl
  rw [g1, g2]
  have q1 := ha _ (List.mem_of_getElem? f1)
  have q2 := hb _ (List.mem_of_getElem? f2)
  exact eqAt R (by rw [Around.in1_units]; (first | lia | omega)) r1 r2 q1.1 q2.1 (q1.2.trans q2.2.symm)
theorem C_eq_list {k : Bool} (hd : d ≤ 900) (hm : (a, items) ∈ g.lists) (hm2 : (b, items2) ∈ g.lists) (hk : kindAll k items) (hk2 : kindAll k items2) (h : Φ (.bool (eqbs items items2)) g) : CmpR w d .Eq (.lst a) (.lst b) g Φ := by
  intro fs c loc ts rs s Q E va vb h1 h2 R ha hb q
  have := R.lst ha; subst this
  have := R.lst hb; subst this
  obtain ⟨m, imm, mu, R'⟩ := _root_.id R
  obtain ⟨vs, n, x1, x2, x3, x4⟩ := R'.listAt hm
  obtain ⟨us, n2, y1, y2, y3, y4⟩ := R'.listAt hm2
  have hu : c.A.units + 3 < cLine := by show c.un + 3 < cLine; unfold cLine; (first | lia | omega)
  by_cases e : items.length = items2.length
  · refine PySem.SeqAt.eq_listAt x4 y4 (by simp [x2.length, y2.length, e]) (by (first | lia | omega)) (elems_eq R' hu x2 y2 hk hk2) ?_
    rw [List.size_toArray, x2.length, eqbs_all e]
    exact q _ _ g _ (R.prim fun _ => .bool _) h
  · refine PySem.SeqAt.eq_list_lengthsAt x4 y4 (by simpa [x2.length, y2.length] using e) (by (first | lia | omega)) ?_
    rw [eqbs_len e] at h
    exact q _ _ g _ (R.prim fun _ => .bool _) h
theorem C_ne_list {k : Bool} (hd : d ≤ 900) (hm : (a, items) ∈ g.lists) (hm2 : (b, items2) ∈ g.lists) (hk : kindAll k items) (hk2 : kindAll k items2) (h : Φ (.bool (!eqbs items items2)) g) : CmpR w d .NotEq (.lst a) (.lst b) g Φ := by
  intro fs c loc ts rs s Q E va vb h1 h2 R ha hb q
  have := R.lst ha; subst this
  have := R.lst hb; subst this
  obtain ⟨m, imm, mu, R'⟩ := _root_.id R
  obtain ⟨vs, n, x1, x2, x3, x4⟩ := R'.listAt hm
  obtain ⟨us, n2, y1, y2, y3, y4⟩ := R'.listAt hm2
  have hu : c.A.units + 3 < cLine := by show c.un + 3 < cLine; unfold cLine; (first | lia | omega)
  show wpAny _ _ (richCompare .NotEq (.ref a) (.ref b)) Q E s
  by_cases e : items.length = items2.length
  · refine PySem.SeqAt.RcNeAt.lists x4 y4 (by simp [x2.length, y2.length, e]) (by (first | lia | omega)) (elems_eq R' hu x2 y2 hk hk2) _ _ E Q ?_
    rw [List.size_toArray, x2.length, eqbs_all e]
    exact q _ _ g _ (R.prim fun _ => .bool _) h
  · refine PySem.SeqAt.RcNeAt.lists_lengths x4 y4 (by simpa [x2.length, y2.length] using e) (by (first | lia | omega)) _ _ E Q ?_
    rw [eqbs_len e] at h
    exact q _ _ g _ (R.prim fun _ => .bool _) h
theorem C_ne_tup (hd : d ≤ 900) (hk : items.all PV.flat = true) (hk2 : items2.all PV.flat = true) (h : Φ (.bool (!eqs items items2)) g) : CmpR w d .NotEq (.tup items) (.tup items2) g Φ := by
  intro fs c loc ts rs s Q E va vb h1 h2 R ha hb q
  obtain ⟨m, imm, mu, R'⟩ := _root_.id R
  have hu : c.A.units + 3 < cLine := by show c.un + 3 < cLine; unfold cLine; (first | lia | omega)
  cases R'.temps _ ha with
  | @tup l vs n _ p1 p2 =>
    cases R'.temps _ hb with
    | @tup l2 us n2 _ q1 q2 =>
      have t1 : s.heap.IsTuple l vs.toArray := ⟨_, R'.nw.get (List.mem_append_left (mu ++ rs) p1), rfl, n, rfl⟩
      have t2 : s.heap.IsTuple l2 us.toArray := ⟨_, R'.nw.get (List.mem_append_left (mu ++ rs) q1), rfl, n2, rfl⟩
      show wpAny _ _ (richCompare .NotEq (.ref l) (.ref l2)) Q E s
      have kf : ∀ {l : List PV}, l.all PV.flat = true → kindAll false l := fun h y hy => by
        have := List.all_eq_true.mp h y hy
        cases y <;> simp_all [PV.flat, PV.eqable, PV.isTup]
      refine PySem.SeqAt.RcNeAt.tuples (e := fun j => (items.getD j .none).eqf (items2.getD j .none)) t1 t2 (by (first | lia | omega)) (fun j j1 j2 => ?_) _ _ E Q ?_
      · have e1 : vs[j]? = some (vs.toArray[j]) := by simp
        have e2 : us[j]? = some (us.toArray[j]) := by simp
        obtain ⟨d1, f1, r1⟩ := p2.get' e1
        obtain ⟨d2, f2, r2⟩ := q2.get' e2
        have g1 : items.getD j .none = d1 := by rw [List.getD_eq_getElem?_getD, f1]; rfl
        have g2 : items2.getD j .none = d2 := by rw [List.getD_eq_getElem?_getD, f2]; rfl
        rw [g1, g2]
        exact eqAt_flat r1 r2 (List.all_eq_true.mp hk _ (List.mem_of_getElem? f1)) (List.all_eq_true.mp hk2 _ (List.mem_of_getElem? f2))
      · rw [List.size_toArray, List.size_toArray, p2.length, q2.length, eqs_all]
        exact q _ _ g _ (R.prim fun _ => .bool _) h
end ops
end Mine
set_option maxHeartbeats 4000000
namespace Mine
variable {w : Wd} {fs : FS} {c : Cx w fs} {env : Env} {loc : Loc} {g : GS}
theorem S_setitem {o i value : PySem.Expr} {pos pos' : Pos} {Ψ : FV → Loc → GS → Prop}
    (h : EvalV c c.env value loc g fun p g1 => EvalV c c.env o loc g1 fun po g2 => EvalV c c.env i loc g2 fun pi g3 => ∃ (a : Addr) (items : List PV) (k : Nat) (ls' : List (Addr × List PV)), po = .lst a ∧ pi = .int (k : Int) ∧ k < items.length ∧ items.length ≤ 1000000 ∧ LUpd a items (items.set k p) g3.lists ls' ∧ Ψ .next loc { g3 with lists := ls' })
    (hs : swapsWith value (some (.Subscript o i pos')) pos.line c.env = pure false := by rfl) : StmtV c (.Assign [.Subscript o i pos'] value pos) loc g Ψ := by
  intro ts rs s Q E R q
  refine wpAny_Assign_Subscript (h ts rs s _ E R fun v p g1 s1 R1 h1 => ?_) hs
  refine h1 _ rs s1 _ E R1 fun ov po g2 s2 R2 h2 => ?_
  refine h2 _ rs s2 _ E R2 fun iv pi g3 s3 R3 h3 => ?_
  obtain ⟨a, items, k, ls', rfl, rfl, hk, hsz, hU, h3⟩ := h3
  have := R3.lst (.tail _ (.head _)); subst this
  obtain ⟨t, rfl⟩ := R3.int (.head _)
  obtain ⟨m, imm, mu, R4⟩ := R3
  obtain ⟨vs, n, k1, k2, k3, k4⟩ := R4.listAt hU.mem
  have hv := R4.temps _ (.tail _ (.tail _ (.head _)))
  have hl : vs.length = items.length := k2.length
  refine ki_setAt k3 (by (first | lia | omega)) (by (first | lia | omega)) (by simp [hl]; (first | lia | omega)) ?_
  have e2 : (vs.set k v).toArray = vs.toArray.setIfInBounds k v := by apply Array.toList_inj.mp; simp
  have hset : ∀ {vs : List MVal} {ds : List PV} {k : Nat}, VAll imm vs ds → VAll imm (vs.set k v) (ds.set k p) := by
    intro vs
    induction vs with
    | nil => intro ds k h; cases h; exact .nil
    | cons x vs ih =>
      intro ds k h
      cases h with
      | cons h r =>
        cases k with
        | zero => exact .cons hv r
        | succ k => exact .cons h (ih r)
  obtain ⟨kk, ek⟩ := mapSeq_listOf (n := n) (fun xs => xs.setIfInBounds k v) e2.symm
  have R5 := R4.listSet k1 ek hU (hset k2) R4.tk
  exact q .next .next [] _ _ _ .next (Rel.weaken ⟨m, imm, _, R5⟩ fun p hp => .tail _ (.tail _ (.tail _ hp))) h3
theorem F_str {d : Nat} {a : Int} {Φ : PV → GS → Prop} (ha : a.natAbs.log2 < 1920) (h : Φ (.str (Str.ofString (toString a))) g) : CallR w d (.st (.type "str")) [.int a] [] g Φ := by
  intro fs c loc ts rs s Q E fv vs ks _ _ R hf hl hp hk hkp q
  have := R.st hf; subst this
  obtain ⟨v, rfl⟩ := len1 hl
  obtain ⟨t, rfl⟩ := R.int (hp (v, .int a) (by simp))
  have hks : ks = [] := by cases ks with | nil => rfl | cons => cases hk
  subst hks
  exact P.str_of_int ha (q _ _ g _ (R.ticked.prim fun _ => .str _ _) h)
end Mine
set_option maxHeartbeats 4000000
namespace Mine
structure RSt where
  parts : List MStr
  due : List (MStr × MStr)
  told : List (Nat × Nat)
  ranges : List (Nat × Nat)
  longest : List MStr
noncomputable def cntP (wh : List MStr) (p : MStr) : Nat := (wh.filter fun t => Txt.startswith t p).length
noncomputable def numS (n : Nat) : MStr := Str.ofString (toString (n : Int))
noncomputable def stepR (wh tl : List MStr) (row : List Nat) (st : RSt) (part : MStr) : RSt :=
  if part ∈ st.parts then st else
  { parts := st.parts ++ [part], due := st.due ++ [(part, numS (cntP wh part))], told := st.told ++ [rngP tl row part],
    ranges := if rngP tl row part ∈ st.ranges then st.ranges else st.ranges ++ [rngP tl row part],
    longest := if rngP tl row part ∈ st.ranges then st.longest.set (st.ranges.idxOf (rngP tl row part)) part else st.longest ++ [part] }
noncomputable def partP (ws : List MStr) (size first : Nat) : MStr := Txt.join (Str.ofString "") ((ws.drop first).take size)
noncomputable def uptoP (ws : List MStr) (i : Nat) : List MStr := (List.range i).flatMap fun s => (List.range (6 - s)).map fun f => partP ws (s + 1) f
noncomputable def runR (wh tl : List MStr) (row : List Nat) (l : List MStr) : RSt := l.foldl (stepR wh tl row) ⟨[], [], [], [], []⟩
noncomputable def pairV (p : Nat × Nat) : PV := .tup [.int p.1, .int p.2]
noncomputable def dueV (p : MStr × MStr) : PV := .tup [.str p.1, .str p.2]
theorem runR_snoc {wh tl : List MStr} {row : List Nat} {l : List MStr} {x : MStr} : runR wh tl row (l ++ [x]) = stepR wh tl row (runR wh tl row l) x := by simp [runR]
structure RLe (n : Nat) (st : RSt) : Prop where
  parts : st.parts.length ≤ n
  due : st.due.length ≤ n
  told : st.told.length ≤ n
  ranges : st.ranges.length ≤ n
  longest : st.longest.length = st.ranges.length
theorem RLe.step {n : Nat} {st : RSt} (h : RLe n st) (wh tl : List MStr) (row : List Nat) (x : MStr) : RLe (n + 1) (stepR wh tl row st x) := by
  have h1 := h.parts
  have h2 := h.due
  have h3 := h.told
  have h4 := h.ranges
  have h5 := h.longest
  unfold stepR
  split
  · exact ⟨by (first | lia | omega), by (first | lia | omega), by (first | lia | omega), by (first | lia | omega), h5⟩
  · refine ⟨by simp; (first | lia | omega), by simp; (first | lia | omega), by simp; (first | lia | omega), ?_, ?_⟩
    · dsimp only
      split
      · (first | lia | omega)
      · rw [List.length_append, List.length_singleton]; (first | lia | omega)
    · dsimp only
      split
      · rw [List.length_set]; exact h5
      · rw [List.length_append, List.length_append, List.length_singleton, List.length_singleton, h5]
theorem runR_le (wh tl : List MStr) (row : List Nat) (l : List MStr) : RLe l.length (runR wh tl row l) := by
  suffices h : ∀ (l : List MStr) (st : RSt) (n : Nat), RLe n st → RLe (n + l.length) (l.foldl (stepR wh tl row) st) by
    have := h l ⟨[], [], [], [], []⟩ 0 ⟨by simp, by simp, by simp, by simp, rfl⟩
    simpa [runR] using this
  intro l
  induction l with
  | nil => intro st n h; exact h
  | cons x l ih =>
    intro st n h
    have := ih _ _ (h.step wh tl row x)
    rw [List.length_cons, ← Nat.add_assoc, Nat.add_right_comm]
    exact this
theorem pairV_inj {p q : Nat × Nat} : pairV p = pairV q ↔ p = q := by
  cases p; cases q
  simp only [pairV, PV.tup.injEq, List.cons.injEq, PV.int.injEq, Prod.mk.injEq, and_true]
  (first | lia | omega)
theorem pair_okFor (p : Nat × Nat) (l : List (Nat × Nat)) : okFor (pairV p) (l.map pairV) := by
  refine ⟨rfl, fun y hy => ?_⟩
  obtain ⟨q, _, rfl⟩ := List.mem_map.mp hy
  exact ⟨rfl, rfl⟩
theorem pair_eqb (p q : Nat × Nat) : (pairV p).eqb (pairV q) = decide (p = q) := by
  have := eqb_iff (a := pairV p) (b := pairV q) rfl rfl
  rw [pairV_inj] at this
  by_cases h : p = q
  · rw [decide_eq_true h, this.mpr h]
  · rw [decide_eq_false h]
    cases e : (pairV p).eqb (pairV q) with
    | false => rfl
    | true => exact absurd (this.mp e) h
theorem pair_any (p : Nat × Nat) (l : List (Nat × Nat)) : ((l.map pairV).any fun y => y.eqb (pairV p)) = decide (p ∈ l) := by
  rw [List.any_map]
  induction l with
  | nil => simp
  | cons q l ih =>
    rw [List.any_cons, ih]
    simp only [Function.comp, pair_eqb, List.mem_cons, eq_comm (a := q)]
    rw [Bool.decide_or]
theorem str_okFor (p : MStr) (l : List MStr) : okFor (.str p) (l.map .str) := by
  refine ⟨rfl, fun y hy => ?_⟩
  obtain ⟨q, _, rfl⟩ := List.mem_map.mp hy
  exact ⟨rfl, rfl⟩
theorem str_any (p : MStr) (l : List MStr) : ((l.map PV.str).any fun y => y.eqb (.str p)) = decide (p ∈ l) := by
  rw [List.any_map]
  induction l with
  | nil => simp
  | cons q l ih =>
    rw [List.any_cons, ih]
    have : (PV.str q).eqb (.str p) = decide (p = q) := by
      show (q == p) = _
      by_cases h : p = q
      · subst h; simp
      · rw [decide_eq_false h]; exact beq_false_of_ne (Ne.symm h)
    simp only [Function.comp, this, List.mem_cons]
    rw [Bool.decide_or]
end Mine
set_option maxHeartbeats 8000000
namespace Mine
noncomputable def rgLs (aL aRg aTo aDu aPa aWh : Addr) (st : RSt) (wh : List MStr) (ls0 : List (Addr × List PV)) : List (Addr × List PV) :=
  (aL, st.longest.map .str) :: (aRg, st.ranges.map pairV) :: (aTo, st.told.map pairV) :: (aDu, st.due.map dueV) :: (aPa, st.parts.map .str) :: (aWh, wh.map .str) :: ls0
noncomputable def rgCs (L aW : Addr) (q : Option PV) (cs0 : List (Addr × Option PV)) : List (Addr × Option PV) := (L + 2, q) :: (L + 1, some (.lst aW)) :: cs0
theorem wh_map (ws : List MStr) : (((List.range 6).map fun (i : Nat) => PV.int (0 + (i : Int))).filter (fun _ => true)).map (fun p => PV.str (Txt.join (Str.ofString "") (ws.drop (match p with | .int k => k.toNat | _ => 0)))) = (tailsP ws 6).map .str := by
  rw [List.filter_eq_self.mpr (fun _ _ => rfl), tailsP, List.map_map, List.map_map]
  refine List.map_congr_left fun k _ => ?_
  show PV.str (Txt.join (Str.ofString "") (ws.drop (0 + (k : Int)).toNat)) = _
  rw [Int.zero_add, Int.toNat_natCast]; rfl
theorem spec_ranges {w : Wd} {d : Nat} {g : GS} {aW aT aR : Addr} {ws tl : List MStr} {row : List Nat} {Φ : PV → GS → Prop} (hd : d ≤ 400) (hW : (aW, ws.map .str) ∈ g.lists) (hT : (aT, tl.map .str) ∈ g.lists) (hR : (aR, nats row) ∈ g.lists) (h6 : ws.length = 6) (hsz : ∀ x ∈ ws, x.length ≤ 100)
    (hrow : ∀ k ∈ row, k < tl.length) (hrl : row.length < 1000) (htl : tl.length < 1000) (htsz : ∀ x ∈ tl, x.length ≤ 1000000) (hpl : ∀ s f, (partP ws s f).length ≤ 1000000)
    (h : ∀ aL aRg aTo aDu, Φ (.tup [.lst aDu, .lst aTo, .lst aRg, .lst aL]) { g with lists := (aL, (runR (tailsP ws 6) tl row (uptoP ws 6)).longest.map .str) :: (aRg, (runR (tailsP ws 6) tl row (uptoP ws 6)).ranges.map pairV) :: (aTo, (runR (tailsP ws 6) tl row (uptoP ws 6)).told.map pairV) :: (aDu, (runR (tailsP ws 6) tl row (uptoP ws 6)).due.map dueV) :: g.lists }) :
    CallR w d (.st (.ref 199)) [.lst aW, .lst aT, .lst aR] [] g Φ := by
  refine' CallR_fnC (loc' := [("tails", .lst aT), ("row", .lst aR)]) (fun L' => rgCs L' aW .none []) ?ho ?hcd (by (first | lia | omega)) ?hb ?hk ?hnd ?h ?c1 ?c2
  case ho => exact rfl
  case hcd => exact rfl
  case hk => exact rfl
  case c1 => exact rfl
  case c2 => exact rfl
  case hnd => decide
  case hb =>
    intro vs ks hv hk
    obtain ⟨v1, v2, v3, rfl⟩ := len3 hv
    obtain rfl := len0 hk
    · refine ⟨[("written", v1), ("tails", v2), ("row", v3)], fun S => by kernel_rfl, rfl, fun imm h1 h2 => ⟨?_, fun L' => ?_⟩⟩
      · have e2 := h1 (v2, .lst aT) (by simp)
        have e3 := h1 (v3, .lst aR) (by simp)
        intro x pv hx
        rw [List.lookup_cons] at hx
        split at hx
        · rename_i e
          have := eq_of_beq e; subst this
          cases hx
          exact ⟨v2, rfl, e2⟩
        · rw [List.lookup_cons] at hx
          split at hx
          · rename_i e
            have := eq_of_beq e; subst this
            cases hx
            exact ⟨v3, rfl, e3⟩
          · cases hx
      · exact ⟨rfl, rfl, rfl, ⟨v1, rfl, h1 (v1, .lst aW) (by simp)⟩, trivial⟩
  case h =>
    intro L' c' hd' hu' hnd
    refine X_cons (S_assign_comp rfl (E_call_ty hd' hu' (E_builtin rfl rfl (by decide) ⟨rfl, A_cons (E_int (A_nil (F_range1 fun r o hr => ⟨rfl, ?_⟩)))⟩)))
    refine CompOK.ofMap ((List.range 6).map fun (i : Nat) => PV.int (0 + (i : Int))) (fun _ => True) (fun p => .str (Txt.join (Str.ofString "") (ws.drop (match p with | .int k => k.toNat | _ => 0)))) (fun _ => true) (src_range (by decide) hr) (fun _ _ _ => trivial) trivial (by decide) ?_ ?_
    · intro i p hp D C ys l nss raws
      have hi : i < 6 := by have := (List.getElem?_eq_some_iff.mp hp).1; simpa using this
      have hp' : p = .int (i : Int) := by
        rw [List.getElem?_map, List.getElem?_range hi] at hp
        have := (Option.some.inj hp).symm
        simpa using this
      subst hp'
      refine ⟨_, AC_name rfl rfl, rfl, GLe.rfl, fun _ => ?_⟩
      have e : ((ws.map PV.str).drop i).take (6 - i) = (ws.drop i).map PV.str := by
        rw [← List.map_drop]; exact List.take_of_length_le (by simp; (first | lia | omega))
      refine E_meth_str F.slot_str_join (by kernel_rfl) hd' hu' (E_str ⟨_, rfl, A_cons (E_slice_list (E_ccell rfl (.tail _ (.head _)) ⟨aW, ws.map .str, rfl, .tail _ hW, E_cvar (.head _) rfl ⟨_, rfl, .tail _ hW, by simp; (first | lia | omega), i, 6, rfl, by (first | lia | omega), by simp; (first | lia | omega), .inr ⟨rfl, by simp; (first | lia | omega)⟩, fun x => ?_⟩⟩)) (by with_unfolding_all rfl)⟩)
      rw [e]
      refine A_nil (F_join (.head _) ?_ ⟨rfl, GLe.ofLists (List.sublist_cons_self _ _)⟩)
      have := sum_len (k := 100) (l := ws.drop i) fun x hx => hsz x (List.mem_of_mem_drop hx)
      have h1 : (ws.drop i).length ≤ 6 := by simp; (first | lia | omega)
      have h2 : (Str.ofString "").length = 0 := rfl
      have h3 : (ws.drop i).length * 100 ≤ 6 * 100 := Nat.mul_le_mul_right _ h1
      rw [h2, Nat.mul_zero]
      (first | lia | omega)
    · intro aWh
      rw [wh_map]
      generalize hwh : tailsP ws 6 = wh at h ⊢
      have whl : wh.length = 6 := by rw [← hwh]; simp [tailsP]
      refine X_cons (S_assign (E_list (A_nil ⟨Nat.zero_le _, fun aPa => ?_⟩)))
      refine X_cons (S_assign (E_list (A_nil ⟨Nat.zero_le _, fun aDu => ?_⟩)))
      refine X_cons (S_assign (E_list (A_nil ⟨Nat.zero_le _, fun aTo => ?_⟩)))
      refine X_cons (S_assign (E_list (A_nil ⟨Nat.zero_le _, fun aRg => ?_⟩)))
      refine X_cons (S_assign (E_list (A_nil ⟨Nat.zero_le _, fun aL => ?_⟩)))
      let Lo : Loc → Prop := fun loc => Has loc "tails" (.lst aT) ∧ Has loc "row" (.lst aR) ∧ Has loc "whole" (.lst aWh) ∧ Has loc "parts" (.lst aPa) ∧ Has loc "due" (.lst aDu) ∧ Has loc "told" (.lst aTo) ∧ Has loc "ranges" (.lst aRg) ∧ Has loc "longest" (.lst aL)
      refine X_cons (S_for_range (a := 1) (n := 6) (fun i loc ls cs gn => Lo loc ∧ ls = rgLs aL aRg aTo aDu aPa aWh (runR wh tl row (uptoP ws i)) wh g.lists ∧ (∃ q, cs = rgCs L' aW q g.cells) ∧ gn = g.gens) (by decide)
        (E_call_ty hd' hu' (E_builtin rfl rfl (by decide) ⟨rfl, A_cons (E_int (A_cons (E_int (A_nil (F_range2 fun r o hr => ⟨r, o, rfl, hr, rfl, rfl, ⟨rfl, rfl, rfl, rfl, rfl, rfl, rfl, rfl⟩, rfl, ⟨_, rfl⟩, rfl⟩)))))⟩)) ?turn ?done)
      case turn =>
        rintro i loc ls cs gn hi ⟨hLo, rfl, ⟨q, rfl⟩, rfl⟩ nss raws
        refine X_cons (S_for_range (a := 0) (n := 6 - i) (fun j loc ls cs gn => Lo loc ∧ Has loc "size" (.int (1 + (i : Int))) ∧ ls = rgLs aL aRg aTo aDu aPa aWh (runR wh tl row (uptoP ws i ++ (List.range j).map fun f => partP ws (i + 1) f)) wh g.lists ∧ (∃ q, cs = rgCs L' aW q g.cells) ∧ gn = g.gens) ?sm
          (E_call_ty hd' hu' (E_builtin rfl rfl (by decide) ⟨rfl, A_cons (E_bin (E_int (E_local rfl (B_sub (A_nil ?first))))) (by with_unfolding_all rfl)⟩)) ?turn2 ?done2)
        case sm => exact small_one (by (first | lia | omega)) (by (first | lia | omega)) (by (first | lia | omega)) (by (first | lia | omega))
        case first =>
          rw [show (7 - (1 + (i : Int))) = 0 + ((6 - i : Nat) : Int) by (first | lia | omega), Int.zero_add]
          refine F_range1 fun r o hr => ⟨r, o, rfl, hr, rfl, rfl, hLo, rfl, ?_, ⟨q, rfl⟩, rfl⟩
          rw [List.range_zero, List.map_nil, List.append_nil]
        case turn2 =>
          rintro j loc ls cs gn hj ⟨⟨h1, h2, h3, h4, h5, h6', h7, h8⟩, hsize, rfl, ⟨q, rfl⟩, rfl⟩ nss raws
          generalize hst : runR wh tl row (uptoP ws i ++ (List.range j).map fun f => partP ws (i + 1) f) = st
          have hle : RLe 1000 st := by
            have := runR_le wh tl row (uptoP ws i ++ (List.range j).map fun f => partP ws (i + 1) f)
            rw [hst] at this
            have hl : (uptoP ws i ++ (List.range j).map fun f => partP ws (i + 1) f).length ≤ 1000 := by
              rw [List.length_append, List.length_map, List.length_range, uptoP, List.length_flatMap]
              have : ((List.range i).map fun s => ((List.range (6 - s)).map fun f => partP ws (s + 1) f).length).sum ≤ 100 := by
                simp only [List.length_map, List.length_range]
                have h7 : i = 0 ∨ i = 1 ∨ i = 2 ∨ i = 3 ∨ i = 4 ∨ i = 5 := by (first | lia | omega)
                rcases h7 with rfl | rfl | rfl | rfl | rfl | rfl <;> decide
              (first | lia | omega)
            exact ⟨Nat.le_trans this.parts hl, Nat.le_trans this.due hl, Nat.le_trans this.told hl, Nat.le_trans this.ranges hl, this.longest⟩
          have hnext : runR wh tl row (uptoP ws i ++ (List.range (j + 1)).map fun f => partP ws (i + 1) f) = stepR wh tl row st (partP ws (i + 1) j) := by
            rw [List.range_succ, List.map_append, ← List.append_assoc, ← hst]; exact runR_snoc
          have e : ((ws.map PV.str).drop j).take (j + (i + 1) - j) = ((ws.drop j).take (i + 1)).map PV.str := by
            rw [← List.map_drop, ← List.map_take, Nat.add_sub_cancel_left]
          rw [Int.zero_add]
          refine X_cons (S_assign_cell rfl (E_meth_str F.slot_str_join (by kernel_rfl) hd' hu' (E_str ⟨_, rfl, A_cons (E_slice_list (E_cell rfl (.tail _ (.head _)) ⟨aW, ws.map .str, rfl, ?w1, E_local rfl ⟨_, rfl, E_bin (E_local rfl (E_local hsize (B_add ⟨_, rfl, ?w2, by simp; (first | lia | omega), j, j + (i + 1), rfl, by (first | lia | omega), by simp; (first | lia | omega), .inl ?w3, fun x => ?_⟩)))⟩⟩)) (by with_unfolding_all rfl)⟩)))
          case w1 => exact .tail _ (.tail _ (.tail _ (.tail _ (.tail _ (.tail _ hW)))))
          case w2 => exact .tail _ (.tail _ (.tail _ (.tail _ (.tail _ (.tail _ hW)))))
          case w3 => congr 1; (first | lia | omega)
          rw [e]
          refine A_nil (F_join (.head _) ?_ ⟨_, _, .head, ?_⟩)
          · have := sum_len (k := 100) (l := (ws.drop j).take (i + 1)) fun x hx => hsz x (List.mem_of_mem_drop (List.mem_of_mem_take hx))
            have h1 : ((ws.drop j).take (i + 1)).length ≤ 6 := by simp; (first | lia | omega)
            have h2 : (Str.ofString "").length = 0 := rfl
            have h3 : ((ws.drop j).take (i + 1)).length * 100 ≤ 6 * 100 := Nat.mul_le_mul_right _ h1
            rw [h2, Nat.mul_zero]
            (first | lia | omega)
          refine ExecV.pre_drop (g' := mkG (rgLs aL aRg aTo aDu aPa aWh st wh g.lists) (rgCs L' aW (some (.str (partP ws (i + 1) j))) g.cells) g.gens nss raws) ?_ (GLe.ofLists (List.sublist_cons_self _ _))
          rw [hnext]
          have hp := hpl (i + 1) j
          generalize partP ws (i + 1) j = part at hp ⊢
          have mPa : (aPa, st.parts.map PV.str) ∈ rgLs aL aRg aTo aDu aPa aWh st wh g.lists := .tail _ (.tail _ (.tail _ (.tail _ (.head _))))
          have mRg : (aRg, st.ranges.map pairV) ∈ rgLs aL aRg aTo aDu aPa aWh st wh g.lists := .tail _ (.head _)
          refine X_cons (S_if (T_cmp _ hd' hu' (E_cell rfl (.head _) (E_local h4 (C_notin_list (by (first | lia | omega)) mPa (str_okFor _ _) ⟨_, rfl, fun ht => ?_, fun ht => ?_⟩)))))
          · rw [str_any] at ht
            have hnp : part ∉ st.parts := by simpa using ht
            have e1 := hle.parts
            have e2 := hle.due
            have e3 := hle.told
            have e4 := hle.ranges
            have e5 := hle.longest
            refine X_cons (S_expr (E_meth_list F.slot_list_append (by kernel_rfl) hd' hu' (E_local h4 ⟨_, _, rfl, mPa, A_cons (E_cell rfl (.head _) (A_nil (F_append (.tail (.tail (.tail (.tail .head)))) (by rw [List.length_map]; (first | lia | omega)) ?_)))⟩)))
            refine X_cons (S_expr (E_meth_list F.slot_list_append (by kernel_rfl) hd' hu' (E_local h5 ⟨_, _, rfl, .tail _ (.tail _ (.tail _ (.head _))), A_cons (E_tuple (A_cons (E_cell rfl (.head _) (A_cons (E_call_ty hd' hu' (E_builtin rfl rfl (by decide) ⟨rfl, A_cons (E_call_bi hd' hu' (E_builtin rfl rfl (by decide) ⟨rfl, A_cons (E_comp rfl (E_local h3 ⟨rfl, ?comp⟩)) (by with_unfolding_all rfl)⟩)) (by with_unfolding_all rfl)⟩)) (by with_unfolding_all rfl))))) (by with_unfolding_all rfl)⟩)))
            case comp =>
              refine CompOK.ofMap (wh.map PV.str) (fun ls => (aWh, wh.map PV.str) ∈ ls) (fun p => p) (fun p => match p with | .str t => Txt.startswith t part | _ => false) src_list (fun _ _ h => .tail _ h) (.tail _ (.tail _ (.tail _ (.tail _ (.tail _ (.head _)))))) (by simp [whl]) ?_ ?_
              · intro k p hp D C ys l nss raws
                obtain ⟨t, ht, rfl⟩ := List.mem_map.mp (List.mem_of_getElem? hp)
                refine ⟨_, AC_name rfl rfl, ?_⟩
                refine T_eval (E_meth_str F.slot_str_startswith (by kernel_rfl) hd' hu' (E_cvar (.head _) rfl ⟨_, rfl, A_cons (E_ccell rfl (.head _) (A_nil (F_startswith (Tr_bool ⟨rfl, GLe.rfl, fun _ => E_cvar (.head _) rfl ⟨rfl, GLe.rfl⟩⟩))))⟩))
              · intro D
                have hcnt : (((wh.map PV.str).filter fun p => match p with | .str t => Txt.startswith t part | _ => false).map fun p => p).length = cntP wh part := by
                  rw [List.length_map, List.filter_map, List.length_map]; rfl
                refine A_nil (F_len_list (.head _) ?_ ?_)
                · rw [hcnt]; have := List.length_filter_le (fun t => Txt.startswith t part) wh; unfold cntP; (first | lia | omega)
                · rw [hcnt]
                  refine A_nil (F_str ?_ ?_)
                  · have h1 := List.length_filter_le (fun t => Txt.startswith t part) wh
                    have h2 : cntP wh part ≤ 6 := by unfold cntP; (first | lia | omega)
                    rw [Int.natAbs_natCast]
                    exact Nat.lt_of_le_of_lt (Nat.log2_le_self _) (by (first | lia | omega))
                  · refine A_nil ⟨Nat.le_of_ble_eq_true rfl, A_nil (F_append (.tail (.tail (.tail (.tail .head)))) (by rw [List.length_map]; (first | lia | omega)) ?_)⟩
                    refine ExecV.pre_drop (g' := mkG ((aL, st.longest.map .str) :: (aRg, st.ranges.map pairV) :: (aTo, st.told.map pairV) :: (aDu, st.due.map dueV ++ [.tup [.str part, .str (numS (cntP wh part))]]) :: (aPa, st.parts.map .str ++ [.str part]) :: (aWh, wh.map .str) :: g.lists) (rgCs L' aW (some (.str part)) g.cells) g.gens nss raws) ?_ (GLe.ofLists (List.sublist_cons_self _ _))
                    refine X_cons (S_assign (E_call rfl hd' hu' (E_global rfl ⟨rfl, A_cons (E_local h1 (A_cons (E_local h2 (A_cons (E_cell rfl (.head _) (A_nil (spec_range (tails := tl) (row := row) (by (first | lia | omega)) ?m1 ?m2 hrow hrl htl htsz hp ?_)))))))⟩)))
                    case m1 => exact .tail _ (.tail _ (.tail _ (.tail _ (.tail _ (.tail _ hT)))))
                    case m2 => exact .tail _ (.tail _ (.tail _ (.tail _ (.tail _ (.tail _ hR)))))
                    change ExecV c' _ (("found", pairV (rngP tl row part)) :: _) _ _
                    refine X_cons (S_expr (E_meth_list F.slot_list_append (by kernel_rfl) hd' hu' (E_local h6' ⟨_, _, rfl, .tail _ (.tail _ (.head _)), A_cons (E_local rfl (A_nil (F_append (.tail (.tail .head)) (by rw [List.length_map]; (first | lia | omega)) ?_)))⟩)))
                    refine X_cons (S_if (T_cmp _ hd' hu' (E_local rfl (E_local h7 (C_in_list (by (first | lia | omega)) (.tail _ (.head _)) (pair_okFor _ _) ⟨_, rfl, fun ht => ?_, fun ht => ?_⟩)))))
                    · rw [pair_any] at ht
                      have hin : rngP tl row part ∈ st.ranges := by simpa using ht
                      have hix : st.ranges.idxOf (rngP tl row part) < st.ranges.length := List.idxOf_lt_length_iff.mpr hin
                      refine X_cons (S_setitem (E_cell rfl (.head _) (E_local h8 (E_meth_list F.slot_list_index (by kernel_rfl) hd' hu' (E_local h7 ⟨_, _, rfl, .tail _ (.head _), A_cons (E_local rfl (A_nil (F_index (j := st.ranges.idxOf (rngP tl row part)) (by (first | lia | omega)) (.tail _ (.head _)) (pair_okFor _ _) (by rw [List.length_map]; (first | lia | omega)) ?i1 ?i2 ⟨aL, st.longest.map .str, st.ranges.idxOf (rngP tl row part), _, rfl, rfl, by rw [List.length_map]; (first | lia | omega), by rw [List.length_map]; (first | lia | omega), .head, ?i3⟩)))⟩)))))
                      case i1 =>
                        refine ⟨pairV (rngP tl row part), ?_, ?_⟩
                        · have := List.findIdx_getElem (p := (· == rngP tl row part)) (xs := st.ranges) (w := hix)
                          have e : st.ranges[st.ranges.idxOf (rngP tl row part)]? = some (rngP tl row part) := by
                            rw [List.getElem?_eq_getElem hix]
                            exact congrArg some (eq_of_beq this)
                          rw [List.getElem?_map, e]; rfl
                        · rw [pair_eqb]; simp
                      case i2 =>
                        intro m y hm hy
                        obtain ⟨p, hp1, rfl⟩ : ∃ p, st.ranges[m]? = some p ∧ pairV p = y := by
                          rw [List.getElem?_map] at hy
                          exact Option.map_eq_some_iff.mp hy
                        rw [pair_eqb]
                        refine decide_eq_false fun e => ?_
                        subst e
                        have hml : m < st.ranges.length := by (first | lia | omega)
                        have := List.not_of_lt_findIdx (p := (· == rngP tl row part)) (xs := st.ranges) (i := m) hm
                        rw [List.getElem?_eq_getElem hml] at hp1
                        simp [Option.some.inj hp1] at this
                      case i3 =>
                        refine X_nil (X_nil (X_nil ⟨_, GLe.rfl, rfl, rfl, ⟨h1, h2, h3, h4, h5, h6', h7, h8⟩, hsize, ?_, ⟨_, rfl⟩, rfl⟩))
                        rw [rgLs, stepR, if_neg hnp]
                        simp only [if_pos hin, List.map_append, List.map_cons, List.map_nil, List.map_set]
                        rfl
                    · rw [pair_any] at ht
                      have hin : rngP tl row part ∉ st.ranges := by simpa using ht
                      refine X_cons (S_expr (E_meth_list F.slot_list_append (by kernel_rfl) hd' hu' (E_local h7 ⟨_, _, rfl, .tail _ (.head _), A_cons (E_local rfl (A_nil (F_append (.tail .head) (by rw [List.length_map]; (first | lia | omega)) ?_)))⟩)))
                      refine X_cons (S_expr (E_meth_list F.slot_list_append (by kernel_rfl) hd' hu' (E_local h8 ⟨_, _, rfl, .head _, A_cons (E_cell rfl (.head _) (A_nil (F_append .head (by rw [List.length_map]; (first | lia | omega)) ?_)))⟩)))
                      refine X_nil (X_nil (X_nil ⟨_, GLe.rfl, rfl, rfl, ⟨h1, h2, h3, h4, h5, h6', h7, h8⟩, hsize, ?_, ⟨_, rfl⟩, rfl⟩))
                      rw [rgLs, stepR, if_neg hnp]
                      simp only [if_neg hin, List.map_append, List.map_cons, List.map_nil]
                      rfl
          · rw [str_any] at ht
            have hnp : part ∈ st.parts := by simpa using ht
            refine X_nil (X_nil ⟨_, GLe.rfl, rfl, rfl, ⟨h1, h2, h3, h4, h5, h6', h7, h8⟩, hsize, ?_, ⟨_, rfl⟩, rfl⟩)
            rw [stepR, if_pos hnp]
        case done2 =>
          rintro loc ls cs gn ⟨hLo, _, rfl, ⟨q, rfl⟩, rfl⟩
          refine X_nil (X_nil ⟨_, GLe.rfl, rfl, rfl, hLo, ?_, ⟨_, rfl⟩, rfl⟩)
          rw [uptoP, uptoP, List.range_succ, List.flatMap_append, List.flatMap_singleton]
      case done =>
        rintro loc ls cs gn ⟨⟨h1, h2, h3, h4, h5, h6', h7, h8⟩, rfl, ⟨q, rfl⟩, rfl⟩
        refine X_nil (X_cons (S_ret (E_tuple (A_cons (E_local h5 (A_cons (E_local h6' (A_cons (E_local h7 (A_cons (E_local h8 (A_nil ⟨Nat.le_of_ble_eq_true rfl, { g with lists := (aL, (runR wh tl row (uptoP ws 6)).longest.map .str) :: (aRg, (runR wh tl row (uptoP ws 6)).ranges.map pairV) :: (aTo, (runR wh tl row (uptoP ws 6)).told.map pairV) :: (aDu, (runR wh tl row (uptoP ws 6)).due.map dueV) :: g.lists }, ⟨?_, ?_, .refl _, .refl _, rfl⟩, h aL aRg aTo aDu⟩))))))))))))
        · exact List.Sublist.cons_cons _ (List.Sublist.cons_cons _ (List.Sublist.cons_cons _ (List.Sublist.cons_cons _ ((List.sublist_cons_self _ _).trans (List.sublist_cons_self _ _)))))
        · exact (List.sublist_cons_self _ _).trans (List.sublist_cons_self _ _)
end Mine
set_option maxHeartbeats 4000000
namespace Mine
variable {w : Wd} {fs : FS} {c : Cx w fs} {env : Env} {loc : Loc} {g : GS}
section misc
variable {e : PySem.Expr} {pos : Pos} {Φ : PV → GS → Prop} {d : Nat}
noncomputable abbrev kNeg (Φ : PV → GS → Prop) : PV → GS → Prop := fun p g' => ∃ a, p = .int a ∧ Φ (.int (-a)) g'
theorem E_neg (h : EvalV c env e loc g (kNeg Φ)) : EvalV c env (.UnaryOp .USub e pos) loc g Φ := by
  intro ts rs s Q E R q
  refine PyProof.Rows.UnaryOp_ (h ts rs s _ E R fun v p g1 s1 R1 f => ?_)
  obtain ⟨a, rfl, f⟩ := f
  obtain ⟨t, rfl⟩ := R1.int (.head _)
  exact PyProof.Rows.neg_int (q _ _ g1 _ ((R1.ticked.prim fun _ => .int _ _).weaken dr1) f)
noncomputable abbrev kN (Ψ : FV → Loc → GS → Prop) : Loc → GS → Prop := fun l2 g2 => Ψ .next l2 g2
noncomputable abbrev kTp (c : Cx w fs) (t : PySem.Expr) (loc : Loc) (Ψ : FV → Loc → GS → Prop) : PV → GS → Prop := fun p g' => AssignV c t p loc g' (kN Ψ)
theorem S_assign_tup {elts : List PySem.Expr} {k : Nat} {tpos : Pos} {value : PySem.Expr} {Ψ : FV → Loc → GS → Prop} (h : EvalV c c.env value loc g (kTp c (.Tuple elts k tpos) loc Ψ))
    (hs : swapsWithSole [.Tuple elts k tpos] value pos.line c.env = pure false := by rfl) (hw : swappedStores [.Tuple elts k tpos] value c.env = pure none := by rfl) : StmtV c (.Assign [.Tuple elts k tpos] value pos) loc g Ψ := by
  intro ts rs s Q E R q
  refine Assign_Tuple (h ts rs s _ E R fun v p g1 s1 R1 f => ?_) hs hw
  exact f _ rs s1 _ E v R1 (.head _) fun l2 g2 s2 R2 k => q .next .next [] l2 g2 s2 .next (R2.weaken tl1) k
theorem C_isnot_bool {a b : Bool} (h : Φ (.bool (a != b)) g) : CmpR w d .IsNot (.bool a) (.bool b) g Φ := by
  intro fs c loc ts rs s Q E va vb _ _ R ha hb q
  have := R.bool ha; subst this
  have := R.bool hb; subst this
  refine wpAny_isNot_plain (by cases a <;> cases b <;> rfl) ?_
  have : (!(Value.bool a == Value.bool b)) = (a != b) := by cases a <;> cases b <;> rfl
  rw [this]
  exact q _ _ g _ (R.prim fun _ => .bool _) h
theorem I_listn {a : Addr} {items : List PV} {p : PV} (hm : (a, items ++ [p]) ∈ g.lists) (hlen : items.length ≤ 1000000) (h : Φ p g) : SubR w (.lst a) (.int (-1)) g Φ := by
  intro fs c loc ts rs s Q E value slice vo vi hs R ho hi q
  have := R.lst ho; subst this
  obtain ⟨t, rfl⟩ := R.int hi
  obtain ⟨m, i, u, R'⟩ := R
  obtain ⟨vs, n, k1, k2, k3, k4⟩ := R'.listAt hm
  have hl : vs.length = items.length + 1 := by simpa using k2.length
  obtain ⟨v, hv, hr⟩ := k2.get (k := items.length) (d := p) (by simp)
  refine tail_any k4.typeIs list_getitem_lookup (wpAny_getItem_list_neg k4 (x := v) (by decide) (by simp [hl]; (first | lia | omega)) (by decide) ?_ (q _ p g _ ⟨m, i, u, R'.temp hr⟩ h)) (hs _ _)
  rw [List.size_toArray, hl]
  have : (-1 + ((items.length + 1 : Nat) : Int)).toNat = items.length := by (first | lia | omega)
  rw [this]
  simpa using hv
theorem F_sum_scr (h : Φ (.int w.ns.sum) g) : CallR w d (.st (.builtin "sum")) [.st (.ref w.sc)] [] g Φ := by
  intro fs c loc ts rs s Q E fv vs ks _ _ R hf hl hp hk hkp q
  have := R.st hf; subst this
  obtain ⟨v, rfl⟩ := len1 hl
  have hv := R.st (hp (v, .st (.ref w.sc)) (by simp)); subst hv
  have hks : ks = [] := by cases ks with | nil => rfl | cons => cases hk
  subst hks
  obtain ⟨m, i, u, R'⟩ := R
  obtain ⟨ws, hL, hI⟩ := c.scr.keeps R'.fr.keep
  refine wpAny_with_toks (n := 1) R'.tk (PyProof.Rows.LSm.sum_ints R'.fr R'.nw rfl hL hI fun h' tk t' F N (htk : 1 ≤ tk) => ?_)
  exact q _ _ g _ ⟨m, i, u, (R'.moved F N htk).temp (.int _ _)⟩ h
theorem fold_rep (ch : Nat) : ∀ (n : Nat) (acc : Array Nat), (List.replicate n #[ch]).foldl (· ++ ·) acc = acc ++ (List.replicate n ch).toArray
  | 0, acc => by simp
  | n + 1, acc => by
    rw [List.replicate_succ, List.foldl_cons, fold_rep ch n]
    apply Array.toList_inj.mp
    simp [List.replicate_succ]
theorem B_mulstr {ch n : Nat} (hn : n < 1000000) (h : Φ (.str ⟨(List.replicate n ch).toArray⟩) g) : BinR w .Mult (.str ⟨#[ch]⟩) (.int (n : Int)) g Φ := by
  intro fs c loc ts rs s Q E va vb R h1 h2 q
  obtain ⟨t, rfl⟩ := R.str h1
  obtain ⟨u, rfl⟩ := R.int h2
  have hx : Str.length ⟨#[ch]⟩ = 1 := rfl
  have hq : ∀ (y : MStr) (t' : Tok) (k : Nat), 1 ≤ k → y = ⟨(List.replicate n ch).toArray⟩ → Q (.str y t') { s with toks := k } := fun y t' k hk e => by
    subst e; exact q _ _ g _ ((R.ticked hk).prim fun _ => .str _ _) h
  have hn2 : (1 : Int) ≤ (2 ^ 63 - 1) / (n : Int) ∨ n = 0 := by
    by_cases h0 : n = 0
    · exact .inr h0
    · refine .inl (Int.le_ediv_of_mul_le (by (first | lia | omega)) (by (first | lia | omega)))
  have hlen : ∀ m, m = n → Str.length ⟨(List.replicate m ch).toArray⟩ ≤ sizeLine := fun m e => by
    have : Str.length ⟨(List.replicate m ch).toArray⟩ = m := by show Array.size _ = m; simp
    rw [this, sizeLine_eq]; (first | lia | omega)
  refine P.mul_str (by simp; (first | lia | omega)) ?_ ?_ ?_
  · intro a b
    rw [hx]
    rcases hn2 with h | h <;> (first | lia | omega)
  · intro a b
    rw [hx, Builtin.Str.tooLong, sizeLine_eq]
    simp
    (first | lia | omega)
  · split
    · have : n = 0 := by (first | lia | omega)
      subst this
      exact ⟨by rw [sizeLine_eq]; exact Nat.zero_le _, hq _ _ _ (Nat.succ_pos _) rfl⟩
    · split
      · rename_i h1 h2
        have h3 : n = 1 := by
          rw [hx] at h2
          simp at h2
          (first | lia | omega)
        subst h3
        exact hq _ _ _ R.tkp rfl
      · rw [Int.toNat_natCast]
        show Str.length _ ≤ sizeLine ∧ _
        rw [fold_rep, Array.empty_append]
        exact ⟨hlen n rfl, hq _ _ _ (Nat.succ_pos _) rfl⟩
theorem fold_repl {α : Type} (x : α) : ∀ (n : Nat) (acc : Array α), (List.replicate n #[x]).foldl (· ++ ·) acc = acc ++ (List.replicate n x).toArray
  | 0, acc => by simp
  | n + 1, acc => by
    rw [List.replicate_succ, List.foldl_cons, fold_repl x n]
    apply Array.toList_inj.mp
    simp [List.replicate_succ]
theorem B_mullist {a : Addr} {p : PV} {n : Nat} (hm : (a, [p]) ∈ g.lists) (hn : n < 1000000) (h : ∀ l, Φ (.lst l) { g with lists := (l, List.replicate n p) :: g.lists }) : BinR w .Mult (.lst a) (.int (n : Int)) g Φ := by
  intro fs c loc ts rs s Q E va vb R h1 h2 q
  have := R.lst h1; subst this
  obtain ⟨u, rfl⟩ := R.int h2
  obtain ⟨m, imm, mu, R'⟩ := R
  obtain ⟨vs, k, k1, k2, k3, k4⟩ := R'.listAt hm
  obtain ⟨v, rfl⟩ := len1 (k2.length : vs.length = 1)
  have hr : VRel imm v p := by cases k2 with | cons h _ => exact h
  have hrep : ∀ n, VAll imm (List.replicate n v) (List.replicate n p) := fun n => by
    induction n with
    | zero => exact .nil
    | succ n ih => exact .cons hr ih
  refine mul_list R'.fr R'.nw k3 (by (first | lia | omega)) (by (first | lia | omega)) (by simp; (first | lia | omega)) fun h' F N => ?_
  have e : (if [v].toArray.isEmpty = true then 0 else (n : Int).toNat) = n := by simp
  rw [e, show [v].toArray = #[v] from rfl, fold_repl, Array.empty_append] at N
  exact q _ (.lst _) _ _ ⟨m, imm, _, (R'.pushL (n := 0) (hrep n) F N R'.lt_size R'.tk).temp (.lst _)⟩ (h _)
end misc
end Mine
set_option maxHeartbeats 4000000
namespace Mine
noncomputable def spec {α : Type} (lt : Nat → Nat → Bool) (n : Nat) (Q : α → Prop) : KasT α → Prop
  | .ret a => Q a
  | .ask i j k => i < n ∧ j < n ∧ spec lt n Q (k (lt i j))
theorem spec_bind {α β : Type} {lt : Nat → Nat → Bool} {n : Nat} {Q : β → Prop} {f : α → KasT β} : ∀ {t : KasT α}, spec lt n (fun a => spec lt n Q (f a)) t → spec lt n Q (t.bind f)
  | .ret a, h => h
  | .ask i j k, h => ⟨h.1, h.2.1, spec_bind h.2.2⟩
theorem spec_mono {α : Type} {lt : Nat → Nat → Bool} {n : Nat} {Q Q' : α → Prop} (hq : ∀ a, Q a → Q' a) : ∀ {t : KasT α}, spec lt n Q t → spec lt n Q' t
  | .ret a, h => hq a h
  | .ask i j k, h => ⟨h.1, h.2.1, spec_mono hq h.2.2⟩
theorem spec_wp {α : Type} {lt : Nat → Nat → Bool} {n : Nat} {P : α → Prop} {Q : α → Shared → Prop} {OK : Shared → Prop} {cmp : Nat → Nat → (Bool → Shared → Prop) → Shared → Prop}
    (hc : ∀ i j C s, i < n → j < n → OK s → (∀ s', OK s' → C (lt i j) s') → cmp i j C s) (hq : ∀ a s, P a → OK s → Q a s) : ∀ {t : KasT α} {s : Shared}, spec lt n P t → OK s → t.kasWp cmp Q s
  | .ret a, s, h, o => hq a s h o
  | .ask i j k, s, h, o => hc i j _ s h.1 h.2.1 o fun s' o' => spec_wp hc hq h.2.2 o'

structure SWO (lt : Nat → Nat → Bool) : Prop where
  irr : ∀ a, lt a a = false
  tr : ∀ a b c, lt b a = false → lt c b = false → lt c a = false
  asym : ∀ a b, lt a b = true → lt b a = false
section sort
variable {lt : Nat → Nat → Bool} {n : Nat}
noncomputable def PermN (n : Nat) (p : Array Nat) : Prop := p.toList.Perm (List.range n)
theorem PermN.size {p : Array Nat} (h : PermN n p) : p.size = n := by
  have := h.length_eq
  simpa using this
theorem PermN.below {p : Array Nat} (h : PermN n p) {k : Nat} (hk : k < n) : p.getD k 0 < n := by
  have hs : k < p.size := by rw [h.size]; exact hk
  have : p.getD k 0 ∈ p.toList := by
    rw [Array.getD_eq_getD_getElem?, Array.getElem?_eq_getElem hs]
    exact Array.getElem_mem_toList hs
  have := h.mem_iff.mp this
  simpa using this
theorem PermN.of_perm {p q : Array Nat} (h : PermN n p) (k : q.Perm p) : PermN n q := (Array.perm_iff_toList_perm.mp k).trans h
noncomputable def UpTo (lt : Nat → Nat → Bool) (p : Array Nat) (k : Nat) : Prop := ∀ i j, i ≤ j → j < k → lt (p.getD j 0) (p.getD i 0) = false
theorem getD_congr {p q : Array Nat} {i j : Nat} (h : p[i]? = q[j]?) : p.getD i 0 = q.getD j 0 := by
  rw [Array.getD_eq_getD_getElem?, Array.getD_eq_getD_getElem?, h]
theorem UpTo.snoc {p : Array Nat} {k : Nat} (O : SWO lt) (h : UpTo lt p k) (h1 : 1 ≤ k) (hs : lt (p.getD k 0) (p.getD (k - 1) 0) = false) : UpTo lt p (k + 1) := by
  intro i j hij hj
  by_cases e : j < k
  · exact h i j hij e
  · have : j = k := by (first | lia | omega)
    subst this
    by_cases e2 : i = j
    · subst e2; exact O.irr _
    · exact O.tr _ _ _ (h i (j - 1) (by (first | lia | omega)) (by (first | lia | omega))) hs

theorem spec_asc (O : SWO lt) {p : Array Nat} (hp : PermN n p) : ∀ (f k : Nat), 1 ≤ k → k + f ≤ n → UpTo lt p k → spec lt n (fun m => k ≤ m ∧ m ≤ k + f ∧ UpTo lt p m ∧ (m = k + f ∨ lt (p.getD m 0) (p.getD (m - 1) 0) = true)) (kas_asc p f k)
  | 0, k, h1, hk, h => ⟨Nat.le_refl _, Nat.le_refl _, h, .inl rfl⟩
  | f + 1, k, h1, hk, h => by
    refine ⟨hp.below (by (first | lia | omega)), hp.below (by (first | lia | omega)), ?_⟩
    cases e : lt (p.getD k 0) (p.getD (k - 1) 0) with
    | true =>
      dsimp only
      rw [if_pos rfl]
      exact ⟨Nat.le_refl _, by (first | lia | omega), h, .inr e⟩
    | false =>
      dsimp only
      rw [if_neg (by decide)]
      exact spec_mono (fun m hm => ⟨by (first | lia | omega), by (first | lia | omega), hm.2.2.1, hm.2.2.2.imp (fun e => by (first | lia | omega)) id⟩) (spec_asc O hp f (k + 1) (by (first | lia | omega)) (by (first | lia | omega)) (h.snoc O h1 e))

theorem spec_place (O : SWO lt) {p : Array Nat} (hp : PermN n p) {k : Nat} (hk : k < n) (hu : UpTo lt p k) : ∀ (f l r : Nat), l ≤ r → r ≤ k → r - l ≤ f →
    (∀ i, i < l → lt (p.getD k 0) (p.getD i 0) = false) → (∀ i, r ≤ i → i < k → lt (p.getD k 0) (p.getD i 0) = true) →
    spec lt n (fun m => m ≤ k ∧ (∀ i, i < m → lt (p.getD k 0) (p.getD i 0) = false) ∧ (∀ i, m ≤ i → i < k → lt (p.getD k 0) (p.getD i 0) = true)) (kas_place p k f l r)
  | 0, l, r, h1, h2, h3, h4, h5 => ⟨by (first | lia | omega), h4, fun i a b => h5 i (by (first | lia | omega)) b⟩
  | f + 1, l, r, h1, h2, h3, h4, h5 => by
    unfold kas_place
    split
    · exact ⟨by (first | lia | omega), h4, fun i a b => h5 i (by (first | lia | omega)) b⟩
    · refine ⟨hp.below hk, hp.below (by (first | lia | omega)), ?_⟩
      cases e : lt (p.getD k 0) (p.getD ((l + r) / 2) 0) with
      | true =>
        dsimp only
        rw [if_pos rfl]
        refine spec_place O hp hk hu f l ((l + r) / 2) (by (first | lia | omega)) (by (first | lia | omega)) (by (first | lia | omega)) h4 fun i a b => ?_
        cases e2 : lt (p.getD k 0) (p.getD i 0) with
        | true => rfl
        | false =>
          have := O.tr _ _ _ (hu ((l + r) / 2) i a b) e2
          rw [e] at this; cases this
      | false =>
        dsimp only
        rw [if_neg (by decide)]
        refine spec_place O hp hk hu f ((l + r) / 2 + 1) r (by (first | lia | omega)) h2 (by (first | lia | omega)) (fun i a => ?_) h5
        exact O.tr _ _ _ (hu i ((l + r) / 2) (by (first | lia | omega)) (by (first | lia | omega))) e

theorem spec_bin (O : SWO lt) : ∀ (f : Nat) (p : Array Nat) (k : Nat), PermN n p → k + f = n → UpTo lt p k → spec lt n (fun q => PermN n q ∧ UpTo lt q n) (kas_bin f p k)
  | 0, p, k, hp, hk, hu => ⟨hp, by have : k = n := by (first | lia | omega)
                                   subst this; exact hu⟩
  | f + 1, p, k, hp, hk, hu => by
    refine spec_bind (spec_mono (fun l hl => ?_) (spec_place O hp (by (first | lia | omega)) hu k 0 k (Nat.zero_le _) (Nat.le_refl _) (by (first | lia | omega)) (fun i h => absurd h (Nat.not_lt_zero _)) fun i a b => by (first | lia | omega)))
    obtain ⟨h1, h2, h3⟩ := hl
    refine spec_bin O f _ (k + 1) (hp.of_perm (bubble_perm _ _ _)) (by (first | lia | omega)) ?_
    have hks : k < p.size := by rw [hp.size]; (first | lia | omega)
    have val : ∀ i, (bubble p k (k - l)).getD i 0 = if i = l then p.getD k 0 else if l < i ∧ i ≤ k then p.getD (i - 1) 0 else p.getD i 0 := fun i => by
      have e := getElem?_bubble hks (k - l) (by (first | lia | omega)) i
      rw [show k - (k - l) = l by (first | lia | omega)] at e
      by_cases a : i = l
      · rw [if_pos a] at e ⊢; exact getD_congr e
      · rw [if_neg a] at e ⊢
        by_cases b : l < i ∧ i ≤ k
        · rw [if_pos b] at e ⊢; exact getD_congr e
        · rw [if_neg b] at e ⊢; exact getD_congr e
    intro i j hij hj
    rw [val, val]
    by_cases a : j = l
    · rw [if_pos a]
      by_cases b : i = l
      · rw [if_pos b]; exact O.irr _
      · rw [if_neg b, if_neg (by (first | lia | omega))]
        exact h2 i (by (first | lia | omega))
    · rw [if_neg a]
      by_cases b : l < j ∧ j ≤ k
      · rw [if_pos b]
        by_cases c : i = l
        · rw [if_pos c]
          exact O.asym _ _ (h3 (j - 1) (by (first | lia | omega)) (by (first | lia | omega)))
        · rw [if_neg c]
          by_cases d : l < i ∧ i ≤ k
          · rw [if_pos d]; exact hu _ _ (by (first | lia | omega)) (by (first | lia | omega))
          · rw [if_neg d]; exact hu _ _ (by (first | lia | omega)) (by (first | lia | omega))
      · rw [if_neg b, if_neg (by (first | lia | omega)), if_neg (by (first | lia | omega))]
        exact hu i j hij (by (first | lia | omega))

noncomputable def Eqv (lt : Nat → Nat → Bool) (a b : Nat) : Prop := lt a b = false ∧ lt b a = false
theorem SWO.congr (O : SWO lt) {a b a' b' : Nat} (ha : Eqv lt a a') (hb : Eqv lt b b') (h : lt a b = false) : lt a' b' = false :=
  O.tr b' b a' hb.1 (O.tr b a a' h ha.2)
theorem SWO.eqv_refl (O : SWO lt) (a : Nat) : Eqv lt a a := ⟨O.irr a, O.irr a⟩
theorem SWO.eqv_trans (O : SWO lt) {a b c : Nat} (h : Eqv lt a b) (k : Eqv lt b c) : Eqv lt a c := ⟨O.tr c b a k.1 h.1, O.tr a b c h.2 k.2⟩
noncomputable def DownTo (lt : Nat → Nat → Bool) (p : Array Nat) (k : Nat) : Prop := ∀ i j, i ≤ j → j < k → lt (p.getD i 0) (p.getD j 0) = false
theorem rev_val {p : Array Nat} {i j : Nat} (hj : j ≤ p.size) (k : Nat) : (kas_rev p i j).getD k 0 = if i ≤ k ∧ k < j then p.getD (i + j - 1 - k) 0 else p.getD k 0 := by
  have e := getElem?_mirror_all (i := i) hj k
  by_cases h1 : i ≤ k ∧ k < j
  · rw [if_pos h1] at e ⊢; exact getD_congr e
  · rw [if_neg h1] at e ⊢; exact getD_congr e
theorem rev_perm {p : Array Nat} (hp : PermN n p) (i j : Nat) : PermN n (kas_rev p i j) := hp.of_perm (mirror_perm _ _ _ _)
theorem rev_eqv (O : SWO lt) {p : Array Nat} {i j : Nat} (hj : j ≤ p.size) (h : ∀ k, i ≤ k → k < j → Eqv lt (p.getD k 0) (p.getD (j - 1) 0)) (k : Nat) : Eqv lt (p.getD k 0) ((kas_rev p i j).getD k 0) := by
  rw [rev_val hj]
  split
  · rename_i hk
    have a := h k hk.1 hk.2
    have b := h (i + j - 1 - k) (by (first | lia | omega)) (by (first | lia | omega))
    exact O.eqv_trans a ⟨b.2, b.1⟩
  · exact O.eqv_refl _
theorem DownTo.snoc {p : Array Nat} {k : Nat} (O : SWO lt) (h : DownTo lt p k) (h1 : 1 ≤ k) (hs : lt (p.getD (k - 1) 0) (p.getD k 0) = false) : DownTo lt p (k + 1) := by
  intro i j hij hj
  by_cases e : j < k
  · exact h i j hij e
  · have : j = k := by (first | lia | omega)
    subst this
    by_cases e2 : i = j
    · subst e2; exact O.irr _
    · exact O.tr _ _ _ hs (h i (j - 1) (by (first | lia | omega)) (by (first | lia | omega)))
theorem DownTo.eqv {p p' : Array Nat} {k : Nat} (O : SWO lt) (h : DownTo lt p k) (he : ∀ i, Eqv lt (p.getD i 0) (p'.getD i 0)) : DownTo lt p' k := fun i j a b => O.congr (he i) (he j) (h i j a b)

theorem spec_desc (O : SWO lt) : ∀ (f : Nat) (p : Array Nat) (k q : Nat), PermN n p → 1 ≤ k → k + f ≤ n → q < k → DownTo lt p k → (∀ i, k - (q + 1) ≤ i → i < k → Eqv lt (p.getD i 0) (p.getD (k - 1) 0)) →
    spec lt n (fun r => PermN n r.1 ∧ k ≤ r.2.1 ∧ r.2.1 ≤ k + f ∧ r.2.2 < r.2.1 ∧ DownTo lt r.1 r.2.1 ∧ (∀ i, r.2.1 - (r.2.2 + 1) ≤ i → i < r.2.1 → Eqv lt (r.1.getD i 0) (r.1.getD (r.2.1 - 1) 0))) (kas_desc f p k q)
  | 0, p, k, q, hp, h1, hk, hq, hd, he => ⟨hp, Nat.le_refl _, Nat.le_refl _, hq, hd, he⟩
  | f + 1, p, k, q, hp, h1, hk, hq, hd, he => by
    have hs : k ≤ p.size := by rw [hp.size]; (first | lia | omega)
    have one : ∀ (p : Array Nat) i, k + 1 - (0 + 1) ≤ i → i < k + 1 → Eqv lt (p.getD i 0) (p.getD (k + 1 - 1) 0) := fun p i a b => by
      have : i = k + 1 - 1 := by (first | lia | omega)
      rw [this]; exact O.eqv_refl _
    refine ⟨hp.below (by (first | lia | omega)), hp.below (by (first | lia | omega)), ?_⟩
    cases e : lt (p.getD k 0) (p.getD (k - 1) 0) with
    | true =>
      dsimp only
      rw [if_pos rfl]
      split
      · have hev := rev_eqv O (i := k - (q + 1)) hs he
        refine spec_mono (fun r hr => ⟨hr.1, by (first | lia | omega), by (first | lia | omega), hr.2.2.2⟩) (spec_desc O f _ (k + 1) 0 (rev_perm hp _ _) (by (first | lia | omega)) (by (first | lia | omega)) (by (first | lia | omega)) ?_ (one _))
        exact (hd.snoc O h1 (O.asym _ _ e)).eqv O hev
      · exact spec_mono (fun r hr => ⟨hr.1, by (first | lia | omega), by (first | lia | omega), hr.2.2.2⟩) (spec_desc O f p (k + 1) 0 hp (by (first | lia | omega)) (by (first | lia | omega)) (by (first | lia | omega)) (hd.snoc O h1 (O.asym _ _ e)) (one _))
    | false =>
      dsimp only
      rw [if_neg (by decide)]
      refine ⟨hp.below (by (first | lia | omega)), hp.below (by (first | lia | omega)), ?_⟩
      cases e2 : lt (p.getD (k - 1) 0) (p.getD k 0) with
      | true =>
        dsimp only
        rw [if_pos rfl]
        exact ⟨hp, Nat.le_refl _, Nat.le_add_right _ _, hq, hd, he⟩
      | false =>
        dsimp only
        rw [if_neg (by decide)]
        refine spec_mono (fun r hr => ⟨hr.1, by (first | lia | omega), by (first | lia | omega), hr.2.2.2⟩) (spec_desc O f p (k + 1) (q + 1) hp (by (first | lia | omega)) (by (first | lia | omega)) (by (first | lia | omega)) (hd.snoc O h1 e2) fun i a b => ?_)
        rw [Nat.add_sub_cancel]
        by_cases h : i = k
        · rw [h]; exact O.eqv_refl _
        · exact O.eqv_trans (he i (by (first | lia | omega)) (by (first | lia | omega))) ⟨e2, e⟩

noncomputable def RunP (lt : Nat → Nat → Bool) (n nrem : Nat) (r : Nat × Array Nat) : Prop := PermN n r.2 ∧ 1 ≤ r.1 ∧ r.1 ≤ nrem ∧ UpTo lt r.2 r.1
theorem spec_tail3 (O : SWO lt) {k : Nat} {p : Array Nat} (hp : PermN n p) (h1 : 1 ≤ k) (hk : k ≤ n) (hd : DownTo lt p k) : spec lt n (RunP lt n n) (kas_tail3 k n p) := by
  have hs : k ≤ p.size := by rw [hp.size]; exact hk
  refine spec_bind (spec_mono (fun m hm => ⟨rev_perm hp _ _, Nat.le_trans h1 hm.1, by (first | lia | omega), hm.2.2.1⟩) (spec_asc O (rev_perm hp 0 k) (n - k) k h1 (by (first | lia | omega)) ?_))
  intro i j hij hj
  rw [rev_val hs, rev_val hs, if_pos ⟨Nat.zero_le _, by (first | lia | omega)⟩, if_pos ⟨Nat.zero_le _, by (first | lia | omega)⟩]
  exact hd _ _ (by (first | lia | omega)) (by (first | lia | omega))
theorem spec_descPart (O : SWO lt) {k : Nat} {p : Array Nat} (hp : PermN n p) (h1 : 1 ≤ k) (hk : k < n) (hd : DownTo lt p (k + 1)) : spec lt n (RunP lt n n) (kas_descPart k n p) := by
  refine spec_bind (spec_mono (fun r hr => ?_) (spec_desc O (n - (k + 1)) p (k + 1) 0 hp (by (first | lia | omega)) (by (first | lia | omega)) (by (first | lia | omega)) hd fun i a b => ?_))
  · obtain ⟨a, b, c, d, e, f⟩ := hr
    have hs : r.2.1 ≤ r.1.size := by rw [a.size]; (first | lia | omega)
    split
    · exact spec_tail3 O (rev_perm a _ _) (by (first | lia | omega)) (by (first | lia | omega)) (e.eqv O (rev_eqv O hs f))
    · exact spec_tail3 O a (by (first | lia | omega)) (by (first | lia | omega)) e
  · have : i = k + 1 - 1 := by (first | lia | omega)
    rw [this]; exact O.eqv_refl _
theorem spec_count (O : SWO lt) {p : Array Nat} (hp : PermN n p) (h1 : 1 ≤ n) : spec lt n (RunP lt n n) (kas_count n p) := by
  have u1 : UpTo lt p 1 := fun i j a b => by
    have : i = j := by (first | lia | omega)
    rw [this]; exact O.irr _
  refine spec_bind (spec_mono (fun m hm => ?_) (spec_asc O hp (n - 1) 1 (Nat.le_refl _) (by (first | lia | omega)) u1))
  obtain ⟨a, b, u, st⟩ := hm
  split
  · exact ⟨hp, a, by (first | lia | omega), u⟩
  · rename_i hne
    have hlt : m < n := by
      have : m ≠ n := fun e => hne (by rw [e]; simp)
      (first | lia | omega)
    have hst : lt (p.getD m 0) (p.getD (m - 1) 0) = true := st.resolve_left (by (first | lia | omega))
    have hs : m ≤ p.size := by rw [hp.size]; (first | lia | omega)
    split
    · refine ⟨hp.below (by (first | lia | omega)), hp.below (by (first | lia | omega)), ?_⟩
      cases e : lt (p.getD 0 0) (p.getD (m - 1) 0) with
      | true =>
        dsimp only
        rw [if_pos rfl]
        exact ⟨hp, a, by (first | lia | omega), u⟩
      | false =>
        dsimp only
        rw [if_neg (by decide)]
        have all : ∀ k, 0 ≤ k → k < m → Eqv lt (p.getD k 0) (p.getD (m - 1) 0) := fun k _ hk =>
          ⟨O.tr _ _ _ e (u 0 k (Nat.zero_le _) hk), u k (m - 1) (by (first | lia | omega)) (by (first | lia | omega))⟩
        have dn : DownTo lt p m := fun i j hij hj => (O.eqv_trans (all i (Nat.zero_le _) (by (first | lia | omega))) ⟨(all j (Nat.zero_le _) hj).2, (all j (Nat.zero_le _) hj).1⟩).1
        exact spec_descPart O (rev_perm hp _ _) a hlt ((dn.snoc O a (O.asym _ _ hst)).eqv O (rev_eqv O hs all))
    · have : m = 1 := by (first | lia | omega)
      subst this
      refine spec_descPart O hp (Nat.le_refl _) hlt ?_
      have dn : DownTo lt p 1 := fun i j a b => by
        have : i = j := by (first | lia | omega)
        rw [this]; exact O.irr _
      exact dn.snoc O (Nat.le_refl _) (O.asym _ _ hst)
theorem spec_sort (O : SWO lt) (h1 : 1 ≤ n) : spec lt n (fun q => PermN n q ∧ UpTo lt q n) (kas_sort n) := by
  have hp : PermN n (List.toArray (List.range n)) := .refl _
  refine spec_bind (spec_mono (fun r hr => ?_) (spec_count O hp h1))
  obtain ⟨a, b, c, u⟩ := hr
  split
  · rw [Nat.max_eq_left b]
    exact spec_bin O _ _ _ a (by (first | lia | omega)) u
  · have : r.1 = n := by (first | lia | omega)
    rw [this] at u
    exact ⟨a, u⟩
end sort
end Mine
set_option maxHeartbeats 4000000
namespace Mine
variable {w : Wd} {fs : FS} {c : Cx w fs} {env : Env} {loc : Loc} {g : GS}
noncomputable def PV.like : PV → PV → Bool
  | .int _, .int _ => true
  | .str _, .str _ => true
  | _, _ => false
noncomputable def PV.ltf : PV → PV → Bool
  | .int a, .int b => decide (a < b)
  | .str a, .str b => decide (a.cps.toList < b.cps.toList)
  | _, _ => false
noncomputable def likes : List PV → List PV → Bool
  | [], [] => true
  | a :: l, b :: k => a.like b && likes l k
  | _, _ => false
noncomputable def tupLt : List PV → List PV → Bool
  | a :: l, b :: k => if a.eqf b then tupLt l k else a.ltf b
  | _, _ => false
section lex
variable {A : Around} {s : Shared} {imm : Led} {Q : Bool → Shared → Prop}
theorem like_cases {a b : PV} (h : a.like b = true) : (∃ i j, a = .int i ∧ b = .int j) ∨ ∃ x y, a = .str x ∧ b = .str y := by
  cases a with
  | int i => cases b with
    | int j => exact .inl ⟨i, j, rfl, rfl⟩
    | _ => exact Bool.noConfusion h
  | str x => cases b with
    | str y => exact .inr ⟨x, y, rfl, rfl⟩
    | _ => exact Bool.noConfusion h
  | _ => exact Bool.noConfusion h
theorem ltf_like {a b : PV} (h : a.ltf b = true) : a.like b = true := by
  cases a with
  | int i => cases b with
    | int j => rfl
    | _ => exact Bool.noConfusion h
  | str x => cases b with
    | str y => rfl
    | _ => exact Bool.noConfusion h
  | _ => exact Bool.noConfusion h
theorem like_flat {a b : PV} (h : a.like b = true) : a.flat = true ∧ b.flat = true := by
  rcases like_cases h with ⟨i, j, rfl, rfl⟩ | ⟨x, y, rfl, rfl⟩ <;> exact ⟨rfl, rfl⟩
theorem lex_ok : ∀ {xs ys : List MVal} {tx ty : List PV} (i : Nat), VAll imm xs tx → VAll imm ys ty → likes tx ty = true → Q (tupLt tx ty) s → KatLex PG w.w A true false Q (xs.zip ys) i s
  | [], [], _, _, i, hx, hy, hl, hq => by cases hx; cases hy; exact hq
  | [], _ :: _, _, _, i, hx, hy, hl, hq => by cases hx; cases hy; cases hl
  | _ :: _, [], _, _, i, hx, hy, hl, hq => by cases hx; cases hy; cases hl
  | x :: xs, y :: ys, _, _, i, .cons (d := a) (ds := l) h1 r1, .cons (d := b) (ds := k) h2 r2, hl, hq => by
    rw [likes, Bool.and_eq_true] at hl
    have hf := like_flat hl.1
    refine kat_cons (eqAt_flat h1 h2 hf.1 hf.2 _ _ _ _ ?_)
    rw [tupLt] at hq
    cases e : a.eqf b with
    | true =>
      rw [e, if_pos rfl] at hq
      exact kat_yes (lex_ok (i + 1) r1 r2 hl.2 hq)
    | false =>
      rw [e, if_neg Bool.false_ne_true] at hq
      refine kat_no ?_
      rcases like_cases hl.1 with ⟨i', j', rfl, rfl⟩ | ⟨x', y', rfl, rfl⟩
      · obtain ⟨t1, rfl⟩ := h1.intE
        obtain ⟨t2, rfl⟩ := h2.intE
        cases hb : (true && i == 0) with
        | true => exact oneLt_int hq
        | false => exact kat_one _ _ (PyProof.Rows.lt_int hq)
      · obtain ⟨t1, rfl⟩ := h1.strE
        obtain ⟨t2, rfl⟩ := h2.strE
        cases hb : (true && i == 0) with
        | true => exact oneLt_str hq
        | false => exact kat_one _ _ (PyProof.Rows.lt_str hq)
end lex

theorem ltf_irr {a : PV} : a.ltf a = false := by
  cases a <;> simp [PV.ltf, List.lt_irrefl]
theorem ltf_trans {a b c : PV} (h : a.ltf b = true) (k : b.ltf c = true) : a.ltf c = true := by
  rcases like_cases (ltf_like h) with ⟨i, j, rfl, rfl⟩ | ⟨x, y, rfl, rfl⟩ <;> rcases like_cases (ltf_like k) with ⟨i', j', e1, rfl⟩ | ⟨x', y', e1, rfl⟩ <;> cases e1
  · simp only [PV.ltf, decide_eq_true_eq] at *; (first | lia | omega)
  · simp only [PV.ltf, decide_eq_true_eq] at *; exact List.lt_trans h k
theorem ltf_total {a b : PV} (h : a.like b = true) (e : a ≠ b) (k : a.ltf b = false) : b.ltf a = true := by
  rcases like_cases h with ⟨x, y, rfl, rfl⟩ | ⟨x, y, rfl, rfl⟩
  · simp only [PV.ltf, decide_eq_true_eq, decide_eq_false_iff_not] at *
    have : x ≠ y := fun q => e (by rw [q])
    (first | lia | omega)
  · simp only [PV.ltf, decide_eq_true_eq, decide_eq_false_iff_not] at *
    rcases List.le_iff_lt_or_eq.mp (List.not_lt.mp k) with q | q
    · exact q
    · refine absurd ?_ e
      have : x.cps = y.cps := Array.toList_inj.mp q.symm
      cases x; cases y
      exact congrArg PV.str (congrArg Str.mk this)
theorem tup_head {a b : PV} {l k : List PV} (h : a.like b = true) : tupLt (a :: l) (b :: k) = false ↔ (a = b ∧ tupLt l k = false) ∨ b.ltf a = true := by
  have hf := like_flat h
  rw [tupLt]
  by_cases e : a = b
  · rw [if_pos ((eqf_iff hf.1).mpr e)]
    constructor
    · exact fun q => .inl ⟨e, q⟩
    · rintro (q | q)
      · exact q.2
      · rw [e, ltf_irr] at q; cases q
  · rw [if_neg (fun q => e ((eqf_iff hf.1).mp q))]
    constructor
    · exact fun q => .inr (ltf_total h e q)
    · rintro (q | q)
      · exact absurd q.1 e
      · cases k2 : a.ltf b with
        | false => rfl
        | true => have := ltf_trans q k2; rw [ltf_irr] at this; cases this
theorem tup_irr : ∀ {a : List PV}, likes a a = true → tupLt a a = false
  | [], _ => rfl
  | x :: a, h => by
    rw [likes, Bool.and_eq_true] at h
    exact (tup_head h.1).mpr (.inl ⟨rfl, tup_irr h.2⟩)
theorem like_symm {a b : PV} (h : a.like b = true) : b.like a = true := by
  rcases like_cases h with ⟨i, j, rfl, rfl⟩ | ⟨x, y, rfl, rfl⟩ <;> rfl
theorem tup_tr : ∀ {a b c : List PV}, likes a b = true → likes b c = true → likes a c = true → tupLt b a = false → tupLt c b = false → tupLt c a = false
  | [], _, [], _, _, _, _, _ => rfl
  | [], _, _ :: _, _, _, h, _, _ => by cases h
  | _ :: _, _, [], _, _, h, _, _ => by cases h
  | x :: a, [], z :: c, h, _, _, _, _ => by cases h
  | x :: a, y :: b, z :: c, h1, h2, h3, k1, k2 => by
    rw [likes, Bool.and_eq_true] at h1 h2 h3
    rw [tup_head (like_symm h1.1)] at k1
    rw [tup_head (like_symm h2.1)] at k2
    rw [tup_head (like_symm h3.1)]
    rcases k1 with ⟨rfl, k1⟩ | k1
    · rcases k2 with ⟨rfl, k2⟩ | k2
      · exact .inl ⟨rfl, tup_tr h1.2 h2.2 h3.2 k1 k2⟩
      · exact .inr k2
    · rcases k2 with ⟨rfl, k2⟩ | k2
      · exact .inr k1
      · exact .inr (ltf_trans k1 k2)
theorem tup_asym : ∀ {a b : List PV}, likes a b = true → tupLt a b = true → tupLt b a = false
  | [], [], _, h => by cases h
  | [], _ :: _, h, _ => by cases h
  | _ :: _, [], h, _ => by cases h
  | x :: a, y :: b, h, k => by
    rw [likes, Bool.and_eq_true] at h
    rw [tup_head (like_symm h.1)]
    have hf := like_flat h.1
    rw [tupLt] at k
    by_cases e : x = y
    · rw [if_pos ((eqf_iff hf.1).mpr e)] at k
      exact .inl ⟨e.symm, tup_asym h.2 k⟩
    · rw [if_neg (fun q => e ((eqf_iff hf.1).mp q))] at k
      exact .inr k
theorem tup_swo (f : Nat → List PV) (h : ∀ i j, likes (f i) (f j) = true) : SWO fun i j => tupLt (f i) (f j) :=
  ⟨fun a => tup_irr (h a a), fun a b c k1 k2 => tup_tr (h a b) (h b c) (h a c) k1 k2, fun a b k => tup_asym (h a b) k⟩
end Mine
set_option maxHeartbeats 4000000
namespace Mine
variable {w : Wd} {fs : FS} {c : Cx w fs} {env : Env} {loc : Loc} {g : GS}
noncomputable def PV.tyN : PV → String
  | .int _ => "int"
  | _ => "str"
theorem katTups {T : String} {imm : Led} {h : Heap} (hg : ∀ p ∈ imm, h.get? p.1 = some p.2) : ∀ {vs : List MVal} {us : List (List PV)} , VAll imm vs (us.map .tup) → (∀ t ∈ us, ∃ x l, t = x :: l ∧ x.like x = true ∧ x.tyN = T) → ∃ fs, KatTups h vs fs ∧ fs.length = vs.length ∧ ∀ v ∈ fs, ∃ x, VRel imm v x ∧ x.like x = true ∧ x.tyN = T
  | [], [], _, _ => ⟨[], trivial, rfl, fun _ h => (nomatch h)⟩
  | v :: vs, t :: us, .cons hvt r, k => by
    cases hvt with
    | @tup a0 xs n0 _ h1 h2 =>
      obtain ⟨fs, a, b, d⟩ := katTups hg r fun t ht => k t (.tail _ ht)
      obtain ⟨x, l, rfl, hx⟩ := k t (.head _)
      cases h2 with
      | @cons v0 vs0 _ _ hv hr =>
        exact ⟨v0 :: fs, ⟨⟨_, _, _, _, rfl, hg _ h1, rfl, rfl, rfl⟩, a⟩, by simp [b], fun v hv' => (List.mem_cons.mp hv').elim (fun e => ⟨x, e ▸ hv, hx⟩) (d v)⟩
theorem F_sorted {a : Addr} {us : List (List PV)} {T : String} {d : Nat} {Φ : PV → GS → Prop} (hm : (a, us.map PV.tup) ∈ g.lists) (h2 : 2 ≤ us.length) (h64 : us.length < 64) (hlike : ∀ t ∈ us, ∀ t' ∈ us, likes t t' = true)
    (hT : ∀ t ∈ us, ∃ x l, t = x :: l ∧ x.like x = true ∧ x.tyN = T) (h : ∀ (l : Addr) (us' : List (List PV)), us'.Perm us → us'.Pairwise (fun x y => tupLt y x = false) → Φ (.lst l) { g with lists := (l, us'.map PV.tup) :: g.lists }) : CallR w d (.st (.builtin "sorted")) [.lst a] [] g Φ := by
  intro fs c loc ts rs s Q E fv vs0 ks _ _ R hf hl hp hk hkp q
  have := R.st hf; subst this
  obtain ⟨v, rfl⟩ := len1 hl
  have := R.lst (hp (v, .lst a) (by simp)); subst this
  have hks : ks = [] := by cases ks with | nil => rfl | cons => cases hk
  subst hks
  obtain ⟨m, imm, mu, R'⟩ := R
  obtain ⟨vs, n, k1, k2, k3, k4⟩ := R'.listAt hm
  have hvl : vs.length = us.length := by simpa using k2.length
  refine kat_sorted R'.fr R'.nw k4 (by (first | lia | omega)) (by (first | lia | omega)) fun D e1 h' F N lt => ?_
  have R1 : RelW c loc { g with lists := (D, []) :: g.lists } ts rs { s with heap := h' } m imm ((D, listOf ([] : List MVal).toArray e1) :: mu) := R'.pushL (vs := []) (n := e1) .nil F N lt R'.tk
  have hg : ∀ p ∈ imm, h'.get? p.1 = some p.2 := fun p hp => (R1.nw p (List.mem_append_left _ hp)).1
  obtain ⟨fs', t1, t2, t3⟩ := katTups hg k2 hT
  have hT0 : T = "int" ∨ T = "str" := by
    obtain ⟨t, ht⟩ : ∃ t, t ∈ us := ⟨us[0]'(by (first | lia | omega)), List.getElem_mem _⟩
    obtain ⟨x, l, _, hx, hy⟩ := hT t ht
    cases x <;> first | (simp [PV.like] at hx; done) | (simp [PV.tyN] at hy; simp [← hy])
  have hb : (Value.type T != Value.type "tuple") = true := by rcases hT0 with rfl | rfl <;> decide
  refine kat_kind (T := .type T) t1 (by (first | lia | omega)) (fun v hv => ?_) (by simp) ?_
  · obtain ⟨x, hr, hx, hy⟩ := t3 v hv
    cases hr <;> first | (simp [PV.like] at hx; done) | skip
    · simp [PV.tyN] at hy; subst hy; exact Looks.of_pure rfl
    · simp [PV.tyN] at hy; subst hy; exact Looks.of_pure rfl
  rw [hb]
  have h0 : 0 < us.length := by (first | lia | omega)
  let f : Nat → List PV := fun i => us.getD i us[0]
  have fin : ∀ i, f i ∈ us := fun i => by
    show us.getD i us[0] ∈ us
    rw [List.getD_eq_getElem?_getD]
    by_cases h : i < us.length
    · rw [List.getElem?_eq_getElem h]; exact List.getElem_mem h
    · rw [List.getElem?_eq_none (by (first | lia | omega))]; exact List.getElem_mem h0
  have O : SWO fun i j => tupLt (f i) (f j) := tup_swo f fun i j => hlike _ (fin i) _ (fin j)
  have at_ : ∀ i, i < us.length → ∃ x xs k, vs.getD i .none = .ref x ∧ (x, tupO xs k) ∈ imm ∧ VAll imm xs (f i) := fun i hi => by
    have e : (us.map PV.tup)[i]? = some (.tup (f i)) := by
      rw [List.getElem?_map, List.getElem?_eq_getElem hi]
      show _ = some (PV.tup (us.getD i us[0]))
      rw [List.getD_eq_getElem?_getD, List.getElem?_eq_getElem hi]; rfl
    obtain ⟨v, hv, hr⟩ := k2.get e
    cases hr with
    | @tup x xs k _ h1 h2 => exact ⟨x, xs, k, by rw [List.getD_eq_getElem?_getD, hv]; rfl, h1, h2⟩
  rw [hvl]
  refine spec_wp (OK := fun s' => s' = { s with heap := h' }) (P := fun p => PermN us.length p ∧ UpTo (fun i j => tupLt (f i) (f j)) p us.length) (fun i j C s' hi hj e k => ?_) (fun p s' hp e => ?_) (spec_sort O (by (first | lia | omega))) rfl
  · subst e
    obtain ⟨x, xs, kx, ex, mx, vx⟩ := at_ i hi
    obtain ⟨y, ys, ky, ey, my, vy⟩ := at_ j hj
    unfold kas_ask
    rw [ex, ey]
    have hsz : decide (xs.toArray.size < ys.toArray.size) = false := by
      have hlen : ∀ {a b : List PV}, likes a b = true → a.length = b.length := by
        intro a
        induction a with
        | nil => intro b h; cases b with | nil => rfl | cons => cases h
        | cons x a ih => intro b h; cases b with
          | nil => cases h
          | cons y b => rw [likes, Bool.and_eq_true] at h; rw [List.length_cons, List.length_cons, ih h.2]
      have := hlen (hlike _ (fin i) _ (fin j))
      refine decide_eq_false ?_
      rw [List.size_toArray, List.size_toArray, vx.length, vy.length]; (first | lia | omega)
    refine kat_lt (hg _ mx) rfl (hg _ my) rfl ?_
    rw [hsz]
    exact lex_ok 0 vx vy (hlike _ (fin i) _ (fin j)) (k _ rfl)
  · subst e
    have hmem : (D, listOf ([] : List MVal).toArray e1) ∈ imm ++ ((D, listOf ([] : List MVal).toArray e1) :: mu ++ rs) := List.mem_append_right _ (.head _)
    refine KasFin.intro R1.fr R1.nw (updF_setL R1.nd hmem) fun h2 cc F2 N2 => ?_
    have hv : VAll imm (p.toList.map fun i => vs.getD i .none) ((p.toList.map f).map PV.tup) := by
      have : ∀ l : List Nat, (∀ i ∈ l, i < us.length) → VAll imm (l.map fun i => vs.getD i .none) ((l.map f).map PV.tup) := by
        intro l
        induction l with
        | nil => intro _; exact .nil
        | cons i l ih =>
          intro hl
          obtain ⟨x, xs, kx, ex, mx, vx⟩ := at_ i (hl i (.head _))
          refine .cons ?_ (ih fun j hj => hl j (.tail _ hj))
          show VRel imm (vs.getD i .none) (.tup (f i))
          rw [ex]; exact .tup mx vx
      exact this _ fun i hi => by have := hp.1.mem_iff.mp hi; simpa using this
    rw [R1.all_set (.head _)] at N2
    have R2 := R1.setList (n := cc) (.head _) ⟨_, _, rfl⟩ .head hv F2 N2 R1.tk
    refine q _ (.lst D) _ _ ⟨m, imm, _, R2.temp (.lst D)⟩ (h D (p.toList.map f) ?_ ?_)
    · have e : (List.range us.length).map f = us := by
        apply List.ext_getElem?
        intro i
        by_cases hi : i < us.length
        · rw [List.getElem?_map, List.getElem?_range hi, List.getElem?_eq_getElem hi]
          show some (us.getD i us[0]) = _
          rw [List.getD_eq_getElem?_getD, List.getElem?_eq_getElem hi]; rfl
        · rw [List.getElem?_eq_none (by simpa using Nat.le_of_not_lt hi), List.getElem?_eq_none (by (first | lia | omega))]
      have := hp.1.map f
      rw [e] at this
      exact this
    · rw [List.pairwise_iff_getElem]
      intro i j hi hj hij
      simp only [List.length_map, Array.length_toList] at hi hj
      have hs : p.size = us.length := hp.1.size
      have := hp.2 i j (by (first | lia | omega)) (by (first | lia | omega))
      simpa [Array.getD_eq_getD_getElem?, hi, hj] using this
end Mine
set_option maxHeartbeats 8000000
namespace Mine
noncomputable def t3 (x : Nat × Nat × MStr) : List PV := [.int x.1, .int (-(x.2.1 : Int)), .str x.2.2]
noncomputable def un3 : List PV → Nat × Nat × MStr
  | [.int a, .int b, .str p] => (a.toNat, (-b).toNat, p)
  | _ => (0, 0, Str.empty)
theorem un3_t3 (x : Nat × Nat × MStr) : un3 (t3 x) = x := by
  obtain ⟨a, b, p⟩ := x
  simp [un3, t3]
noncomputable def popN (low : Nat) : List (Nat × MStr) → List (Nat × MStr) × Nat
  | [] => ([], 0)
  | (h, p) :: r => if h ≤ low then ((popN low r).1, (popN low r).2 + 1) else ((h, p) :: r, 0)
noncomputable def closeP (n : Nat) : MStr := ⟨(List.replicate n 41).toArray⟩
noncomputable def numZ (a : Int) : MStr := Str.ofString (toString a)
noncomputable def knownP : List (Nat × MStr) → Nat
  | [] => 0
  | (_, p) :: _ => p.length
noncomputable def nestStep (st : MStr × List (Nat × MStr)) (x : Nat × Nat × MStr) : MStr × List (Nat × MStr) :=
  ((((st.1 ++ closeP (popN x.1 st.2).2) ++ Str.ofString "(") ++ numZ ((x.2.1 : Int) - x.1)) ++ Txt.slice x.2.2 (some (knownP (popN x.1 st.2).1 : Int)) .none, (x.2.1, x.2.2) :: (popN x.1 st.2).1)
noncomputable def nestSt (xs : List (Nat × Nat × MStr)) : MStr × List (Nat × MStr) := xs.foldl nestStep (Str.ofString "", [])
noncomputable def nestP (xs : List (Nat × Nat × MStr)) : MStr := (nestSt xs).1 ++ closeP (nestSt xs).2.length
noncomputable def itemsN (rs : List (Nat × Nat)) (ls : List MStr) : List (Nat × Nat × MStr) := (List.range rs.length).map fun k => ((rs.getD k (0, 0)).1, (rs.getD k (0, 0)).2, ls.getD k Str.empty)
noncomputable def aroundV (l : List (Nat × MStr)) : List PV := l.reverse.map fun x => PV.tup [.int x.1, .str x.2]
noncomputable def t3Sorted (xs : List (Nat × Nat × MStr)) : Prop := (xs.map t3).Pairwise fun x y => tupLt y x = false
theorem perm_t3 {us : List (List PV)} {ys : List (Nat × Nat × MStr)} (h : us.Perm (ys.map t3)) : ∃ xs : List (Nat × Nat × MStr), us = xs.map t3 ∧ xs.Perm ys := by
  refine ⟨us.map un3, ?_, ?_⟩
  · rw [List.map_map]
    conv => lhs; rw [← List.map_id us]
    refine List.map_congr_left fun t ht => ?_
    obtain ⟨x, _, rfl⟩ := List.mem_map.mp (h.mem_iff.mp ht)
    show t3 x = t3 (un3 (t3 x))
    rw [un3_t3]
  · have := h.map un3
    rw [List.map_map] at this
    refine this.trans (List.Perm.of_eq ?_)
    conv => rhs; rw [← List.map_id ys]
    exact List.map_congr_left fun x _ => un3_t3 x
noncomputable def nsCs (L aL aR : Addr) (cs0 : List (Addr × Option PV)) : List (Addr × Option PV) := (L + 2, some (.lst aL)) :: (L + 1, some (.lst aR)) :: cs0
noncomputable def nsLs (l aD aA : Addr) (a b : List PV) (st : List (Nat × MStr)) (ls0 : List (Addr × List PV)) : List (Addr × List PV) := (l, a) :: (aD, b) :: (aA, aroundV st) :: ls0
theorem aroundV_cons (x : Nat × MStr) (r : List (Nat × MStr)) : aroundV (x :: r) = aroundV r ++ [PV.tup [.int x.1, .str x.2]] := by simp [aroundV]
theorem around_kind (l : List (Nat × MStr)) : kindAll true (aroundV l) := fun y hy => by
  obtain ⟨x, _, rfl⟩ := List.mem_map.mp hy
  exact ⟨rfl, rfl⟩
theorem popN_len (low : Nat) : ∀ l : List (Nat × MStr), (popN low l).1.length + (popN low l).2 = l.length
  | [] => rfl
  | (h, p) :: r => by
    rw [popN]
    split
    · have := popN_len low r
      simp only [List.length_cons]; (first | lia | omega)
    · simp
theorem popN_sub (low : Nat) : ∀ (l : List (Nat × MStr)), ∀ y ∈ (popN low l).1, y ∈ l
  | [], y, h => h
  | (a, p) :: r, y, h => by
    rw [popN] at h
    split at h
    · exact .tail _ (popN_sub low r y h)
    · exact h
theorem close_len (n : Nat) : (closeP n).length = n := by show (List.replicate n 41).toArray.size = n; rw [List.size_toArray, List.length_replicate]
theorem close_succ (x : MStr) (n : Nat) : (x ++ closeP n) ++ Str.ofString ")" = x ++ closeP (n + 1) := by
  have e1 : ∀ a b : MStr, a ++ b = ⟨a.cps ++ b.cps⟩ := fun _ _ => rfl
  simp only [e1, Str.mk.injEq]
  have e2 : (Str.ofString ")").cps = #[41] := rfl
  rw [e2]
  apply Array.toList_inj.mp
  simp [closeP, List.replicate_succ']
theorem spec_nest {w : Wd} {d : Nat} {g : GS} {aR aL : Addr} {rs : List (Nat × Nat)} {ls : List MStr} {Φ : PV → GS → Prop} (hd : d ≤ 400) (hR : (aR, rs.map pairV) ∈ g.lists) (hL : (aL, ls.map .str) ∈ g.lists) (hlen : ls.length = rs.length) (h2 : 2 ≤ rs.length) (h64 : rs.length < 64)
    (hb : ∀ p ∈ rs, p.1 ≤ 1000 ∧ p.2 ≤ 1000) (hs : ∀ x ∈ ls, x.length ≤ 10000) (h : ∀ xs, xs.Perm (itemsN rs ls) → t3Sorted xs → Φ (.str (nestP xs)) g) : CallR w d (.st (.ref 204)) [.lst aR, .lst aL] [] g Φ := by
  refine' CallR_fnC (loc' := []) (fun L' => [(L' + 2, some (.lst aL)), (L' + 1, some (.lst aR))]) ?ho ?hcd (by (first | lia | omega)) ?hb ?hk ?hnd ?h ?c1 ?c2
  case ho => exact rfl
  case hcd => exact rfl
  case hk => exact rfl
  case c1 => exact rfl
  case c2 => exact rfl
  case hnd => decide
  case hb =>
    intro vs ks hv hk
    obtain ⟨v1, v2, rfl⟩ := len2 hv
    obtain rfl := len0 hk
    · refine ⟨[("ranges", v1), ("longest", v2)], fun S => by kernel_rfl, rfl, fun imm h1 h2 => ⟨LocOk.nil, fun L' => ?_⟩⟩
      exact ⟨rfl, ⟨v2, rfl, h1 (v2, .lst aL) (by simp)⟩, rfl, ⟨v1, rfl, h1 (v1, .lst aR) (by simp)⟩, trivial⟩
  case h =>
    intro L' c' hd' hu' hnd
    refine X_cons (S_assign (E_str ?_))
    refine X_cons (S_assign (E_list (A_nil ⟨Nat.zero_le _, fun aA => ?_⟩)))
    refine X_cons (S_for_list ?_)
    refine E_call_bi hd' hu' (E_builtin rfl rfl (by decide) ⟨rfl, A_cons (E_comp rfl (E_call_ty hd' hu' (E_builtin rfl rfl (by decide) ⟨rfl, A_cons (E_call_bi hd' hu' (E_builtin rfl rfl (by decide) ⟨rfl, A_cons (E_cell rfl (.tail _ (.head _)) (A_nil (F_len_list (.tail _ hR) ?l1 (A_nil (F_range1 fun r o hr => ⟨rfl, ?_⟩)))))⟩)) (by with_unfolding_all rfl)⟩))) (by with_unfolding_all rfl)⟩)
    case l1 => rw [List.length_map]; (first | lia | omega)
    rw [List.length_map] at hr
    refine CompOK.ofMap ((List.range rs.length).map fun (i : Nat) => PV.int (0 + (i : Int))) (fun _ => True) (fun p => match p with | .int k => .tup (t3 ((rs.getD k.toNat (0, 0)).1, (rs.getD k.toNat (0, 0)).2, ls.getD k.toNat Str.empty)) | p => p) (fun _ => true) (src_range (small_one (by (first | lia | omega)) (by (first | lia | omega)) (by (first | lia | omega)) (by (first | lia | omega))) (by rw [Int.zero_add]; exact hr)) (fun _ _ _ => trivial) trivial (by simp; (first | lia | omega)) ?_ ?_
    · intro i p hp D C ys l nss raws
      have hi : i < rs.length := by have := (List.getElem?_eq_some_iff.mp hp).1; simpa using this
      have hp' : p = .int (i : Int) := by
        rw [List.getElem?_map, List.getElem?_range hi] at hp
        have := (Option.some.inj hp).symm
        simpa using this
      subst hp'
      have e1 : (rs.map pairV)[(i : Int).toNat]? = some (pairV (rs.getD i (0, 0))) := by
        rw [Int.toNat_natCast, List.getElem?_map, List.getElem?_eq_getElem hi, List.getD_eq_getElem?_getD, List.getElem?_eq_getElem hi]; rfl
      have e2 : (ls.map PV.str)[(i : Int).toNat]? = some (.str (ls.getD i Str.empty)) := by
        have hi2 : i < ls.length := by (first | lia | omega)
        rw [Int.toNat_natCast, List.getElem?_map, List.getElem?_eq_getElem hi2, List.getD_eq_getElem?_getD, List.getElem?_eq_getElem hi2]; rfl
      refine ⟨_, AC_name rfl rfl, rfl, GLe.rfl, fun _ => ?_⟩
      refine E_tuple (A_cons (E_sub (E_sub (E_ccell rfl (.tail _ (.head _)) (E_cvar (.head _) rfl (I_list (.tail _ (.tail _ hR)) (by (first | lia | omega)) (by (first | lia | omega)) e1 (E_int (I_tup (j := 0) (by decide) (by decide) rfl rfl ?_))))))) (by with_unfolding_all rfl))
      refine A_cons (E_neg (E_sub (E_sub (E_ccell rfl (.tail _ (.head _)) (E_cvar (.head _) rfl (I_list (.tail _ (.tail _ hR)) (by (first | lia | omega)) (by (first | lia | omega)) e1 (E_int (I_tup (j := 1) (by decide) (by decide) rfl rfl ⟨_, rfl, ?_⟩)))))))) (by with_unfolding_all rfl)
      refine A_cons (E_sub (E_ccell rfl (.head _) (E_cvar (.head _) rfl (I_list (.tail _ (.tail _ hL)) (by (first | lia | omega)) (by (first | lia | omega)) e2 (A_nil ⟨Nat.le_of_ble_eq_true rfl, ?_, GLe.rfl⟩))))) (by with_unfolding_all rfl)
      rfl
    · intro D
      have eC : (((List.range rs.length).map fun (i : Nat) => PV.int (0 + (i : Int))).filter (fun _ => true)).map (fun p => match p with | .int k => PV.tup (t3 ((rs.getD k.toNat (0, 0)).1, (rs.getD k.toNat (0, 0)).2, ls.getD k.toNat Str.empty)) | p => p) = ((itemsN rs ls).map t3).map PV.tup := by
        rw [List.filter_eq_self.mpr (fun _ _ => rfl), itemsN, List.map_map, List.map_map, List.map_map]
        refine List.map_congr_left fun k _ => ?_
        show PV.tup (t3 ((rs.getD (0 + (k : Int)).toNat (0, 0)).1, (rs.getD (0 + (k : Int)).toNat (0, 0)).2, ls.getD (0 + (k : Int)).toNat Str.empty)) = _
        rw [Int.zero_add, Int.toNat_natCast]; rfl
      rw [eC]
      have hil : ((itemsN rs ls).map t3).length = rs.length := by simp [itemsN]
      refine A_nil (F_sorted (us := (itemsN rs ls).map t3) (T := "int") (.head _) (by (first | lia | omega)) (by (first | lia | omega)) ?_ ?_ fun l us hp hw => ?_)
      · intro t ht t' ht'
        obtain ⟨x, _, rfl⟩ := List.mem_map.mp ht
        obtain ⟨y, _, rfl⟩ := List.mem_map.mp ht'
        rfl
      · intro t ht
        obtain ⟨x, _, rfl⟩ := List.mem_map.mp ht
        exact ⟨_, _, rfl, rfl, rfl⟩
      obtain ⟨xs, rfl, hpx⟩ := perm_t3 hp
      have hfin := h xs hpx hw
      have hxl : xs.length = rs.length := by rw [hpx.length_eq]; simpa using hil
      have hmem : ∀ x ∈ xs, x.1 ≤ 1000 ∧ x.2.1 ≤ 1000 ∧ x.2.2.length ≤ 10000 := fun x hx => by
        obtain ⟨k, hk, rfl⟩ := List.mem_map.mp (hpx.mem_iff.mp hx)
        have hk : k < rs.length := by simpa using hk
        have hk2 : k < ls.length := by (first | lia | omega)
        rw [List.getD_eq_getElem?_getD, List.getElem?_eq_getElem hk, List.getD_eq_getElem?_getD, List.getElem?_eq_getElem hk2]
        have a := hb _ (List.getElem_mem hk)
        exact ⟨a.1, a.2, hs _ (List.getElem_mem hk2)⟩
      refine ⟨l, (xs.map t3).map PV.tup, fun i loc ls' cs gn => Has loc "line" (.str (nestSt (xs.take i)).1) ∧ Has loc "around" (.lst aA) ∧ ls' = nsLs l D aA ((xs.map t3).map PV.tup) (((itemsN rs ls).map t3).map PV.tup) (nestSt (xs.take i)).2 g.lists ∧ cs = nsCs L' aL aR g.cells ∧ gn = g.gens ∧ (nestSt (xs.take i)).1.length ≤ i * 12000 ∧ (nestSt (xs.take i)).2.length ≤ i ∧ (∀ y ∈ (nestSt (xs.take i)).2, y.2.length ≤ 10000), rfl, rfl, rfl, ⟨rfl, rfl, rfl, rfl, rfl, Nat.zero_le _, Nat.le_refl _, fun _ h => (nomatch h)⟩, ⟨?mem, ?turn, ?done⟩⟩
      case mem =>
        rintro i loc ls cs gn ⟨_, _, rfl, _⟩
        exact .head _
      case turn =>
        rintro i loc ls' cs gn p hp ⟨h1, h2', rfl, rfl, rfl, h6, h7, h8⟩ nss raws
        have hi : i < xs.length := by have := (List.getElem?_eq_some_iff.mp hp).1; simpa using this
        obtain ⟨x, hx⟩ : ∃ x, xs[i]? = some x := ⟨_, List.getElem?_eq_getElem hi⟩
        have hp' : p = .tup (t3 x) := by
          rw [List.getElem?_map, List.getElem?_map, hx] at hp
          exact (Option.some.inj hp).symm
        subst hp'
        obtain ⟨b1, b2, b3⟩ := hmem x (List.mem_of_getElem? hx)
        have hnext : nestSt (xs.take (i + 1)) = nestStep (nestSt (xs.take i)) x := by
          rw [List.take_add_one, hx, nestSt, List.foldl_append]; rfl
        generalize hst : nestSt (xs.take i) = st at h1 h6 h7 h8 hnext ⊢
        refine AV_tuple (AS_cons (AV_local (AS_cons (AV_local (AS_cons (AV_local (AS_nil ?_))))))) rfl
        have slen : ∀ a b : MStr, (a ++ b).length = a.length + b.length := fun a b => by show (a.cps ++ b.cps).size = _; rw [Array.size_append]; rfl
        have hnl : nestSt (xs.take i) = st := hst
        refine X_join (fun l2 g2 => Has l2 "line" (.str (st.1 ++ closeP (popN x.1 st.2).2)) ∧ Has l2 "around" (.lst aA) ∧ Has l2 "low" (.int x.1) ∧ Has l2 "less" (.int (-(x.2.1 : Int))) ∧ Has l2 "part" (.str x.2.2) ∧ g2 = mkG (nsLs l D aA ((xs.map t3).map PV.tup) (((itemsN rs ls).map t3).map PV.tup) (popN x.1 st.2).1 g.lists) (nsCs L' aL aR g.cells) g.gens nss raws) (S_while (fun m l2 g2 => ∃ rem cnt, m = rem.length ∧ rem.length + cnt = st.2.length ∧ popN x.1 st.2 = ((popN x.1 rem).1, (popN x.1 rem).2 + cnt) ∧ Has l2 "line" (.str (st.1 ++ closeP cnt)) ∧ Has l2 "around" (.lst aA) ∧ Has l2 "low" (.int x.1) ∧ Has l2 "less" (.int (-(x.2.1 : Int))) ∧ Has l2 "part" (.str x.2.2) ∧
          g2 = mkG (nsLs l D aA ((xs.map t3).map PV.tup) (((itemsN rs ls).map t3).map PV.tup) rem g.lists) (nsCs L' aL aR g.cells) g.gens nss raws) ?wturn st.2.length ?wstart) ?after
        case wstart =>
          refine ⟨st.2, 0, rfl, rfl, rfl, ?_, h2', rfl, rfl, rfl, rfl⟩
          have : st.1 ++ closeP 0 = st.1 := by
            have e1 : ∀ a b : MStr, a ++ b = ⟨a.cps ++ b.cps⟩ := fun _ _ => rfl
            rw [e1]; simp [closeP]
          rw [this]
          exact h1
        case wturn =>
          rintro m l2 _ ⟨rem, cnt, rfl, hrc, hpop, k1, k2, k3, k4, k5, rfl⟩
          refine T_and (T_cmp _ hd' hu' (E_local k2 (E_list (A_nil ⟨Nat.zero_le _, fun e => C_ne_list (k := true) (items := aroundV rem) (items2 := []) (by (first | lia | omega)) (.tail _ (.tail _ (.tail _ (.head _)))) (.head _) (around_kind _) (fun _ h => (nomatch h)) ⟨_, rfl, fun hb => ?_, fun hb => ?_⟩⟩))))
          · have he : rem = [] := by
              cases rem with
              | nil => rfl
              | cons y r => rw [aroundV_cons] at hb; cases hq : aroundV r <;> rw [hq] at hb <;> simp [eqbs] at hb
            subst he
            refine ⟨fun h => (nomatch h), fun _ => ?_⟩
            refine ExecV.pre_drop (g' := mkG (nsLs l D aA ((xs.map t3).map PV.tup) (((itemsN rs ls).map t3).map PV.tup) [] g.lists) (nsCs L' aL aR g.cells) g.gens nss raws) (X_nil ?_) (GLe.ofLists (List.sublist_cons_self _ _))
            rw [hpop]
            have : (popN x.1 []).2 + cnt = cnt := by simp [popN]
            rw [this]
            exact ⟨rfl, k1, k2, k3, k4, k5, rfl⟩
          · obtain ⟨y, r, rfl⟩ : ∃ y r, rem = y :: r := by
              cases rem with
              | nil => simp [aroundV, eqbs] at hb
              | cons y r => exact ⟨y, r, rfl⟩
            have lrc : r.length + 1 ≤ 1000 := by simp only [List.length_cons] at hrc; (first | lia | omega)
            have larl : (aroundV r).length = r.length := by simp [aroundV]
            refine T_and (T_cmp _ hd' hu' (E_sub (E_sub (E_local k2 (E_neg (E_int ⟨_, rfl, I_listn (items := aroundV r) (p := .tup [.int y.1, .str y.2]) ?m1 (by rw [larl]; (first | lia | omega)) (E_int (I_tup (j := 0) (by decide) (by decide) rfl rfl (E_local k3 (C_le ⟨_, rfl, fun hb2 => ?_, fun hb2 => ?_⟩))))⟩))))))
            case m1 => rw [← aroundV_cons]; exact .tail _ (.tail _ (.tail _ (.head _)))
            · have hn : ¬ y.1 ≤ x.1 := by have := of_decide_eq_false hb2; (first | lia | omega)
              refine ⟨fun h => (nomatch h), fun _ => ?_⟩
              refine ExecV.pre_drop (g' := mkG (nsLs l D aA ((xs.map t3).map PV.tup) (((itemsN rs ls).map t3).map PV.tup) (y :: r) g.lists) (nsCs L' aL aR g.cells) g.gens nss raws) (X_nil ?_) (GLe.ofLists (List.sublist_cons_self _ _))
              have e0 : popN x.1 (y :: r) = (y :: r, 0) := by
                obtain ⟨yh, yp⟩ := y
                rw [popN, if_neg hn]
              rw [hpop, e0, Nat.zero_add]
              exact ⟨rfl, k1, k2, k3, k4, k5, rfl⟩
            · have hn : y.1 ≤ x.1 := by have := of_decide_eq_true hb2; (first | lia | omega)
              refine T_and_nil ⟨fun _ => ?_, fun h => (nomatch h)⟩
              have hLsz := close_len cnt
              have hcnt : cnt ≤ 64 := by simp only [List.length_cons] at hrc; (first | lia | omega)
              refine ExecV.pre_drop (g' := mkG ((l, (xs.map t3).map PV.tup) :: (D, ((itemsN rs ls).map t3).map PV.tup) :: (aA, aroundV r ++ [.tup [.int y.1, .str y.2]]) :: g.lists) (nsCs L' aL aR g.cells) g.gens nss raws) ?_ (by rw [← aroundV_cons]; exact GLe.ofLists (List.sublist_cons_self _ _))
              refine X_cons (S_expr (E_meth0_list F.slot_list_pop (by kernel_rfl) hd' hu' (E_local k2 ⟨_, _, rfl, .tail _ (.tail _ (.head _)), F_pop (.tail (.tail .head)) (by rw [larl]; (first | lia | omega)) ?_⟩)))
              refine X_cons (S_assign (E_bin (E_local k1 (E_str (B_cat ?sz (X_nil ?_))))))
              case sz => rw [slen, hLsz, sizeLine_eq]; show _ + 1 ≤ _; have : i * 12000 ≤ 64 * 12000 := Nat.mul_le_mul_right _ (by (first | lia | omega)); (first | lia | omega)
              rw [close_succ]
              have e0 : popN x.1 (y :: r) = ((popN x.1 r).1, (popN x.1 r).2 + 1) := by
                obtain ⟨yh, yp⟩ := y
                rw [popN, if_pos hn]
              exact ⟨r.length, by simp, r, cnt + 1, rfl, by simp only [List.length_cons] at hrc; (first | lia | omega), by rw [hpop, e0]; simp only [Prod.mk.injEq, true_and]; (first | lia | omega), rfl, k2, k3, k4, k5, rfl⟩
        case after =>
          rintro l2 _ ⟨k1, k2, k3, k4, k5, rfl⟩
          have hpl := popN_len x.1 st.2
          have hps : ∀ y ∈ (popN x.1 st.2).1, y.2.length ≤ 10000 := fun y hy => h8 y (popN_sub _ _ y hy)
          generalize hrem : (popN x.1 st.2).1 = rem at hpl hps hnext ⊢
          generalize hcnt : (popN x.1 st.2).2 = cnt at hpl hnext k1
          refine X_cons (S_assign (E_int ?_))
          refine X_join (fun l3 g3 => Has l3 "known" (.int (knownP rem)) ∧ Has l3 "line" (.str (st.1 ++ closeP cnt)) ∧ Has l3 "around" (.lst aA) ∧ Has l3 "low" (.int x.1) ∧ Has l3 "less" (.int (-(x.2.1 : Int))) ∧ Has l3 "part" (.str x.2.2) ∧ g3 = mkG (nsLs l D aA ((xs.map t3).map PV.tup) (((itemsN rs ls).map t3).map PV.tup) rem g.lists) (nsCs L' aL aR g.cells) g.gens nss raws) (S_if (T_cmp _ hd' hu' (E_local k2 (E_list (A_nil ⟨Nat.zero_le _, fun e => C_ne_list (k := true) (items := aroundV rem) (items2 := []) (by (first | lia | omega)) (.tail _ (.tail _ (.tail _ (.head _)))) (.head _) (around_kind _) (fun _ h => (nomatch h)) ⟨_, rfl, fun hb => ?_, fun hb => ?_⟩⟩))))) ?_
          · obtain ⟨y, r, rfl⟩ : ∃ y r, rem = y :: r := by
              cases rem with
              | nil => simp [aroundV, eqbs] at hb
              | cons y r => exact ⟨y, r, rfl⟩
            have larl : (aroundV r).length = r.length := by simp [aroundV]
            refine X_cons (S_assign (E_call_bi hd' hu' (E_builtin rfl rfl (by decide) ⟨rfl, A_cons (E_sub (E_sub (E_local k2 (E_neg (E_int ⟨_, rfl, I_listn (items := aroundV r) (p := .tup [.int y.1, .str y.2]) ?m1 (by rw [larl]; simp only [List.length_cons] at hpl; (first | lia | omega)) (E_int (I_tup (j := 1) (by decide) (by decide) rfl rfl (A_nil (F_len_str ?m2 ?_))))⟩))))) (by with_unfolding_all rfl)⟩)))
            case m1 => rw [← aroundV_cons]; exact .tail _ (.tail _ (.tail _ (.head _)))
            case m2 => have := hps y (.head _); (first | lia | omega)
            exact ExecV.pre_drop (g' := mkG (nsLs l D aA ((xs.map t3).map PV.tup) (((itemsN rs ls).map t3).map PV.tup) (y :: r) g.lists) (nsCs L' aL aR g.cells) g.gens nss raws) (X_nil ⟨rfl, rfl, k1, k2, k3, k4, k5, rfl⟩) (GLe.ofLists (List.sublist_cons_self _ _))
          · have he : rem = [] := by
              cases rem with
              | nil => rfl
              | cons y r => rw [aroundV_cons] at hb; cases hq : aroundV r <;> rw [hq] at hb <;> simp [eqbs] at hb
            subst he
            exact ExecV.pre_drop (g' := mkG (nsLs l D aA ((xs.map t3).map PV.tup) (((itemsN rs ls).map t3).map PV.tup) [] g.lists) (nsCs L' aL aR g.cells) g.gens nss raws) (X_nil ⟨rfl, rfl, k1, k2, k3, k4, k5, rfl⟩) (GLe.ofLists (List.sublist_cons_self _ _))
          · rintro l3 _ ⟨m0, m1, m2, m3, m4, m5, rfl⟩
            refine X_cons (S_assign (E_bin (E_bin (E_bin (E_local m1 (E_str (B_cat ?z1 (E_call_ty hd' hu' (E_builtin rfl rfl (by decide) ⟨rfl, A_cons (E_bin (E_neg (E_local m4 ⟨_, rfl, E_local m3 (B_sub (A_nil (F_str ?z2 (B_cat ?z3 (E_slice_str (E_local m5 ⟨_, rfl, ?z4, E_local m0 ⟨_, rfl, B_cat ?z5 ?_⟩⟩))))))⟩))) (by with_unfolding_all rfl)⟩)))))))))
            case z1 => rw [slen, close_len, sizeLine_eq]; show _ + 1 ≤ _; (first | lia | omega)
            case z2 => exact Nat.lt_of_le_of_lt (Nat.log2_le_self _) (by (first | lia | omega))
            case z3 =>
              have hz := len_str_of_int (- -(x.2.1 : Int) - x.1)
              rw [slen, slen, close_len, sizeLine_eq]
              have h1 : (Str.ofString "(").length = 1 := rfl
              (first | lia | omega)
            case z4 => rw [sizeLine_eq]; (first | lia | omega)
            case z5 =>
              have hz := len_str_of_int (- -(x.2.1 : Int) - x.1)
              have hsl := Txt.slice_le x.2.2 (some (knownP rem : Int)) .none
              rw [slen, slen, slen, close_len, sizeLine_eq]
              have h1 : (Str.ofString "(").length = 1 := rfl
              (first | lia | omega)
            have hz := len_str_of_int (- -(x.2.1 : Int) - x.1)
            have hsl := Txt.slice_le x.2.2 (some (knownP rem : Int)) .none
            refine X_cons (S_expr (E_meth_list F.slot_list_append (by kernel_rfl) hd' hu' (E_local m2 ⟨_, _, rfl, .tail _ (.tail _ (.head _)), A_cons (E_tuple (A_cons (E_neg (E_local m4 ⟨_, rfl, A_cons (E_local m5 (A_nil ⟨Nat.le_of_ble_eq_true rfl, A_nil (F_append (.tail (.tail .head)) (by simp [aroundV]; (first | lia | omega)) (X_nil ?_))⟩))⟩)) (by with_unfolding_all rfl))) (by with_unfolding_all rfl)⟩)))
            have hz2 : (- -(x.2.1 : Int) - x.1) = (x.2.1 : Int) - x.1 := by (first | lia | omega)
            rw [hz2] at hz
            have hstep : nestStep st x = ((((st.1 ++ closeP cnt) ++ Str.ofString "(") ++ numZ ((x.2.1 : Int) - x.1)) ++ Txt.slice x.2.2 (some (knownP rem : Int)) .none, (x.2.1, x.2.2) :: rem) := by
              rw [nestStep, hrem, hcnt]
            rw [hnext, hstep]
            refine ⟨_, GLe.rfl, rfl, rfl, ?_, m2, ?_, rfl, rfl, ?_, ?_, ?_⟩
            · rw [hz2]; rfl
            · have ea := aroundV_cons (x.2.1, x.2.2) rem
              show _ :: _ :: (aA, _) :: _ = _ :: _ :: (aA, aroundV ((x.2.1, x.2.2) :: rem)) :: _
              rw [ea, Int.neg_neg]
            · rw [slen, slen, slen, slen, close_len]
              have h1 : (Str.ofString "(").length = 1 := rfl
              unfold numZ
              (first | lia | omega)
            · simp only [List.length_cons]; (first | lia | omega)
            · intro y hy
              rcases List.mem_cons.mp hy with rfl | hy
              · exact b3
              · exact hps y hy
      case done =>
        rintro loc ls' cs gn ⟨h1, h2', rfl, rfl, rfl, h6, h7, h8⟩
        have e1 : ((xs.map t3).map PV.tup).length = xs.length := by simp
        rw [e1, List.take_length] at h1 h6 h7 ⊢
        have slen : ∀ a b : MStr, (a ++ b).length = a.length + b.length := fun a b => by show (a.cps ++ b.cps).size = _; rw [Array.size_append]; rfl
        have larl : (aroundV (nestSt xs).2).length = (nestSt xs).2.length := by simp [aroundV]
        refine X_nil (X_cons (S_ret (E_bin (E_local h1 (E_bin (E_str (E_call_bi hd' hu' (E_builtin rfl rfl (by decide) ⟨rfl, A_cons (E_local h2' (A_nil (F_len_list (.tail _ (.tail _ (.head _))) (by rw [larl]; (first | lia | omega)) ?_)))⟩))))))))
        rw [larl]
        refine B_mulstr (ch := 41) (by (first | lia | omega)) (B_cat ?_ ⟨g, ⟨?_, ?_, .refl _, .refl _, rfl⟩, hfin⟩)
        · have := close_len (nestSt xs).2.length
          have h9 : Str.length ⟨(List.replicate (nestSt xs).2.length 41).toArray⟩ = (nestSt xs).2.length := this
          rw [h9, sizeLine_eq]; (first | lia | omega)
        · exact (List.sublist_cons_self _ _).trans ((List.sublist_cons_self _ _).trans (List.sublist_cons_self _ _))
        · exact (List.sublist_cons_self _ _).trans (List.sublist_cons_self _ _)
end Mine
set_option maxHeartbeats 4000000
namespace Mine
variable {w : Wd} {fs : FS} {c : Cx w fs} {env : Env} {loc : Loc} {g : GS}

noncomputable abbrev SegM (w : Wd) (A : Around) (cd : Code) (t : Sem Fin) (fr : List Frame) (s : Shared) (P : End → Shared → Prop) : Prop := X.SegX (M0 w) A cd t fr s P
section seg
variable {A : Around} {cd : Code} {fr : List Frame} {s : Shared} {P : End → Shared → Prop}
theorem x_wrap {α : Type} {m : Sem α} {K : α → Sem Fin} {H : MVal → Sem Fin} {gd : Bool → Bool} {lv : List MVal → List MVal}
    (h : wpAny (M0 w) (A.over cd fr) m (fun a s' => SegM w A cd (K a) fr s' P) (fun x s' => SegM w A cd (H x) fr s' P) s) : SegM w A cd (m.wrap K H gd lv) fr s P := by
  rintro Γ p rfl hΓ
  obtain ⟨e, s', hr, hq⟩ := runs_wrap_of_wp (Φ := fun e s' => e.quiet = true ∧ P e s') K H gd lv m (h (Γ.over fr) p (hΓ.over fr)) (fun a p' s' h' => h' Γ p' rfl hΓ) (fun x p' s' h' => h' Γ p' rfl hΓ)
  exact ⟨e, s', hr, hq⟩
theorem x_at {p : Pos} {k : Unit → Sem Fin} (h : SegM w A cd (k ()) fr s P) : SegM w A cd (.at p k) fr s P :=
  x_wrap (m := standAt p) (K := k) (H := .raise) (gd := id) (lv := id) (wpAny_standAt h)
theorem x_point {l : List MVal} {k : Unit → Sem Fin} (h : SegM w A cd (k ()) fr s P) : SegM w A cd (.point l k) fr s P :=
  x_wrap (m := point) (K := k) (H := .raise) (gd := id) (lv := fun _ => l) (wpAny_point h)

noncomputable def GenStart (gs : GenState) (cd : Code) (t : Sem Fin) (fr : List Frame) : Prop :=
  (gs = .fresh cd ∧ t = denote table cd ∧ fr = []) ∨ (∃ k l p cl, gs = .suspended k l cd p fr cl ∧ t = k (.send .none))
theorem resume_x {α : Type} {Q : α → Shared → Prop} {E : MVal → Shared → Prop} {gi : Nat} {gs : GenState} {l : List MVal} {k : GenResult → Sem α} {t : Sem Fin} (hg : s.gens[gi]? = some gs) (hs : GenStart gs cd t fr)
    (x : SegM w A cd t fr (s.setGen gi .running) (fun e s₁ => wpAny (M0 w) A (k e.result) Q E (s₁.setGen gi e.genState))) : wpAny (M0 w) A (.resume gi (.send .none) l k) Q E s := by
  refine X.wake_any (C := fun Γ => Γ.In A) α PG w.w hg (c₀ := cd) (t₀ := t) (fs₀ := fr) ?_ (fun _ h => h) (X.SegX.mono x fun e s' h Γ p hΓ => h Γ p hΓ)
  rcases hs with ⟨rfl, rfl, rfl⟩ | ⟨k₀, l₀, p₀, cl, rfl, rfl⟩
  · exact .inl ⟨rfl, rfl, rfl, rfl⟩
  · exact .inr ⟨k₀, l₀, p₀, cl, rfl, rfl⟩
noncomputable def GenOut (gi : Nat) (Q : Option MVal → Shared → Prop) (e : End) (s₁ : Shared) : Prop := match e with
  | .ret r => r = .ok (.ret .none) ∧ ∀ h', (∀ b o, s₁.heap.get? b = some o → h'.get? b = some o) → Q none { s₁.setGen gi .finished with heap := h' }
  | .susp v gd l k cd p fr => Q (some v) (s₁.setGen gi (End.susp v gd l k cd p fr).genState)
theorem pyNext_x {a : Addr} {gi : Nat} {gs : GenState} {t : Sem Fin} {Q : Option MVal → Shared → Prop} {E : MVal → Shared → Prop} (hh : A.handled = none) (hl : s.heap.NoLimit) (hroom : A.depth < recursionLimit) (ha : s.heap.IsGen a gi) (hg : s.gens[gi]? = some gs)
    (hs : GenStart gs cd t fr) (x : SegM w A.in1 cd t fr (s.setGen gi .running) (GenOut gi Q)) : wpAny (M0 w) A (pyNext (.ref a)) Q E s := by
  unfold pyNext
  refine wpAny_bind (wpAny_attempt (wpAny_callSpecial?_slot (name := Str.ofString "__next__") ha.typeIs slot_gen_next (wpAny_call_entry slot_gen_next ha.typeIs entry_gen_next ?_ (args_gen_next _))))
  show wpAny _ _ (Builtin.Generator.genWake (.ref a) (.send .none)) _ _ s
  unfold Builtin.Generator.genWake
  refine wpAny_bind (wpAny_holding (wpAny_genNumber ha (wpAny_bind (wpAny_genState hg ?_))))
  have key : ∀ st : GenStatus, (st = .fresh ∨ st = .suspended) → st = gs.status → True := fun _ _ _ => trivial
  cases gs with
  | running => rcases hs with ⟨h, _⟩ | ⟨_, _, _, _, h, _⟩ <;> cases h
  | finished => rcases hs with ⟨h, _⟩ | ⟨_, _, _, _, h, _⟩ <;> cases h
  | _ =>
    refine wpAny_bind (wpAny_roomToWake hl hroom ?_)
    show wpAny _ _ (.resume gi (.send .none) [] _) _ _ s
    refine resume_x hg hs (X.SegX.mono x fun e s₁ h => ?_)
    cases e with
    | ret r =>
      obtain ⟨rfl, hp⟩ := h
      show wpAny _ _ (newExc (.type "StopIteration") [] >>= _) _ _ _
      refine wpAny_bind ?_
      simp only [newExc, newTuple]
      refine wpAny_bind (wpAny_newObj_type ?_ (by size_fits))
      refine wpAny_bind (m := firstArgMember _ _) (wpAny_of_eq (a := Value.none) (by first | rfl | (simp only [firstArgMember]; rfl)) ?_)
      refine wpAny_newObj_type ?_ (by size_fits)
      simp only [raiseNew]
      refine wpAny_bind (wpAny_bind (wpAny_handled ?_))
      rw [show A.in1.handled = none from hh]
      refine wpAny_throw ?_
      refine wpAny_bind (wpAny_isInstance (T := "StopIteration") (b := true) ⟨_, Heap.get?_push_size _ rfl, rfl⟩ isSubtype_stop ?_)
      exact wpAny_pure (hp _ fun b o hb => Heap.get?_push_of_some _ (Heap.get?_push_of_some _ hb))
    | susp v gd l k c p fr => exact wpAny_pure ⟨v, rfl, wpAny_pure h⟩
end seg
end Mine
set_option maxHeartbeats 4000000
namespace Mine
variable {w : Wd} {fs : FS} {c : Cx w fs} {env : Env} {loc : Loc} {g : GS}

noncomputable def truncH (h : Heap) (n : Nat) : Heap := ⟨h.objs.extract 0 n, h.life⟩
theorem truncH_size (h : Heap) (n : Nat) : (truncH h n).objs.size ≤ n := by simp [truncH]; (first | lia | omega)
theorem truncH_get (h : Heap) {n b : Nat} (hb : b < n) : (truncH h n).get? b = h.get? b := by
  have : (h.objs.extract 0 n)[b]? = h.objs[b]? := by
    rw [Array.getElem?_extract]; simp; (first | lia | omega)
  unfold Heap.get? truncH
  rw [this]
theorem of_truncH {h : Heap} {n b : Nat} {o : Obj} (e : (truncH h n).get? b = some o) : b < n ∧ h.get? b = some o := by
  have hb : b < n := Nat.lt_of_lt_of_le (Heap.lt_size e) (truncH_size h n)
  exact ⟨hb, truncH_get h hb ▸ e⟩

theorem gen_enter {q : MStr} {sc : Scope} {f Lg : Addr} {cdv : MVal} {gl : Loc} {nss : List (Addr × Loc)} {ts : List (MVal × PV)} {rs : Led} {s : Shared} (hk : sc.kind = .function) (R : Rel c loc g ts rs s) (hn : g.nss = (Lg, gl) :: nss) (hL : c.L < Lg) :
    ∃ (c' : Cx w ⟨q, sc, f, cdv, []⟩) (ts' : List (MVal × PV)), c'.L = Lg ∧ c'.dp = c.dp + 1 ∧ c'.un = c.un + 4 ∧ c'.gd = c.gd ∧ c'.outer = c.env :: c.outer ∧ Rel c' gl { g with nss := nss } ts' rs s ∧
      ∀ us g2 gl2 s2, Rel c' gl2 g2 (us ++ ts') rs s2 → Rel c loc { g2 with nss := (Lg, gl2) :: g2.nss } (us ++ ts) rs s2 := by
  obtain ⟨m, imm, mu, R⟩ := R
  obtain ⟨oL, es, ep, hLg, hLd, hLk, hLf⟩ := R.fr.ns
  have nw := R.nw
  have nL : c.L ∉ (imm ++ (mu ++ rs)).map (·.1) := fun q => by
    obtain ⟨p, hp, e⟩ := List.mem_map.mp q
    exact (nw p hp).2.1 e
  have n0 : ∀ b o, c.h₀.get? b = some o → b ∉ (imm ++ (mu ++ rs)).map (·.1) := fun b o e q => by
    obtain ⟨p, hp, rfl⟩ := List.mem_map.mp q
    rw [(nw p hp).2.2] at e; cases e
  generalize hgh : truncH (hideAll s.heap ((imm ++ (mu ++ rs)).map (·.1))) (c.L + 1) = gh
  have st : ∀ b o, c.h₀.get? b = some o → gh.get? b = some o := fun b o e => by
    have hb : b < c.L + 1 := Nat.lt_succ_of_lt (Nat.lt_of_lt_of_le (Heap.lt_size e) R.fr.above)
    rw [← hgh, truncH_get _ hb]
    exact hideAll_get _ (R.fr.keep b o e) (n0 b o e)
  have gL : gh.get? c.L = some oL := by
    rw [← hgh, truncH_get _ (Nat.lt_succ_self _)]
    exact hideAll_get _ hLg nL
  have ofg : ∀ b o, gh.get? b = some o → b < c.L + 1 ∧ s.heap.get? b = some o := fun b o e => by
    rw [← hgh] at e
    obtain ⟨h1, h2⟩ := of_truncH e
    exact ⟨h1, of_hideAll _ h2⟩
  have gn : ∀ p ∈ imm ++ (mu ++ rs), gh.get? p.1 = none := fun p hp => by
    cases e : gh.get? p.1 with
    | none => rfl
    | some o =>
      rw [← hgh] at e
      obtain ⟨h1, h2⟩ := of_truncH e
      rw [hideAll_none _ (List.mem_map_of_mem hp)] at h2; cases h2
  have gs : gh.objs.size ≤ Lg := Nat.le_trans (hgh ▸ truncH_size _ _) hL
  have bL : c.base.get? c.L = none := by
    cases e : c.base.get? c.L with
    | none => rfl
    | some o => exact absurd (Nat.lt_of_lt_of_le (Heap.lt_size (c.below.stays _ _ e)) R.fr.above) (Nat.lt_irrefl _)
  have ff : gh.FunFrames c.base (c.env :: c.outer) :=
    ⟨by show fs.cs.kind ≠ _; rw [c.kind]; decide, ⟨c.L, oL, rfl, bL, gL, fun vs => by rw [hLd]; nofun⟩, c.below.frames.of_keeps fun b o e _ => ⟨o, st b o e, rfl⟩⟩
  let c' : Cx w ⟨q, sc, f, cdv, []⟩ := { dp := c.dp + 1, un := c.un + 4, gd := c.gd, L := Lg, outer := c.env :: c.outer, A₀ := c.A, base := c.base, h₀ := gh, loose := c.loose, mean := c.mean, mg := c.mg, mb := c.mb, dr := c.dr, os := c.os, below := ⟨rfl, fun b o e => st b o (c.below.stays b o e), ff⟩, kin := c.kin.keeps st, top := c.top.keeps st, hds := c.hds.keeps st, scr := c.scr.keeps st, kind := hk }
  obtain ⟨tl, ht1, ht2⟩ := loc_temps R.loc
  have hm : (Lg, gl) ∈ g.nss := by rw [hn]; exact .head _
  obtain ⟨o, mm, ho1, ⟨es', ep', hd1, hd2, hd3⟩, hlo⟩ := R.st.nss Lg gl hm
  have nd := R.munod
  have nnd := R.st.nnd
  rw [hn, List.map_cons, List.nodup_cons] at nnd
  have off : ∀ p ∈ imm ++ (mu.filter (fun q => decide (q.1 ≠ Lg)) ++ rs), p.1 ≠ Lg := fun p hp => by
    rcases List.mem_append.mp hp with hp | hp
    · exact R.off_imm ho1 p hp
    · rcases List.mem_append.mp hp with hp | hp
      · exact of_decide_eq_true (List.mem_filter.mp hp).2
      · exact R.off_rs ho1 p hp
  have sub : List.Sublist (imm ++ (mu.filter (fun q => decide (q.1 ≠ Lg)) ++ rs)) (imm ++ (mu ++ rs)) := (List.Sublist.refl _).append (List.filter_sublist.append (.refl _))
  have goL : s.heap.get? Lg = some o := (nw _ (List.mem_append_right imm (List.mem_append_left rs ho1))).1
  have kind : ∀ o', (Lg, o') ∈ mu → o' = o := fun o' h => nodup_mem_eq nd h ho1
  refine ⟨c', ts ++ tl, rfl, rfl, rfl, rfl, rfl, ⟨mm, imm, mu.filter (fun q => decide (q.1 ≠ Lg)), ?_⟩, fun us g2 gl2 s2 R2 => ?_⟩
  · exact
    { fr := ⟨⟨o, es', ep', goL, hd1, hd2, hd3⟩, fun b o e => (ofg b o e).2, gs⟩
      nw := fun p hp => ⟨(nw p (sub.subset hp)).1, off p hp, gn p (sub.subset hp)⟩
      nd := R.nd.sublist (sub.map _)
      loc := hlo
      st :=
        { R.st with
          lists := fun b q hb => by
            obtain ⟨vs, n, h1, h2⟩ := R.st.lists b q hb
            exact ⟨vs, n, mem_off h1 (fun e => by have e : b = Lg := e; subst e; have := kind _ h1; subst this; cases hd1), h2⟩
          cells := fun b q hb => by
            obtain ⟨ob, ov, h1, h2, h3⟩ := R.st.cells b q hb
            exact ⟨ob, ov, mem_off h1 (fun e => by have e : b = Lg := e; subst e; have := kind _ h1; subst this; rw [hd1] at h2; cases h2), h2, h3⟩
          nss := fun b q hb => by
            have hb' : (b, q) ∈ g.nss := by rw [hn]; exact .tail _ hb
            obtain ⟨ob, m', h1, h2, h3⟩ := R.st.nss b q hb'
            exact ⟨ob, m', mem_off h1 (fun e => nnd.1 (List.mem_map.mpr ⟨(b, q), hb, e⟩)), h2, h3⟩
          nnd := nnd.2
          raws := fun b q hb => by
            obtain ⟨h1, h2⟩ := R.st.raws b q hb
            refine ⟨mem_off h1 (fun e => ?_), h2⟩
            have e : b = Lg := e; subst e; have := kind _ h1; subst this
            exact (rawOk_kind h2).2.2.1 _ _ hd1
          tabs := fun b q hb => by
            obtain ⟨ps, h1, h2⟩ := R.st.tabs b q hb
            exact ⟨ps, mem_off h1 (fun e => by have e : b = Lg := e; subst e; have := kind _ h1; subst this; cases hd1), h2⟩ }
      temps := fun p hp => (List.mem_append.mp hp).elim (R.temps p) (ht2 p)
      tk := R.tk, gens := R.gens, dr := R.dr, os := R.os }
  · obtain ⟨m2, imm2, mu2, R2⟩ := R2
    obtain ⟨o2, es2, ep2, q1, q2, q3, q4⟩ := R2.fr.ns
    have hoff : ∀ p ∈ imm2 ++ (mu2 ++ rs), p.1 ≠ Lg := fun p hp => (R2.nw p hp).2.1
    have hne : Lg ≠ c.L := Nat.ne_of_gt hL
    have h0L : c.h₀.get? Lg = none := by
      cases e : c.h₀.get? Lg with
      | none => rfl
      | some o => exact absurd (Nat.lt_of_lt_of_le (Heap.lt_size e) R.fr.above) (Nat.not_lt.mpr (Nat.le_of_lt hL))
    have S2 : StoreOk imm2 ((Lg, o2) :: mu2) g2 := R2.st.more fun p hp => .tail _ hp
    refine ⟨m, imm2, (Lg, o2) :: mu2, ?_⟩
    exact
    { fr := ⟨⟨oL, es, ep, R2.fr.keep c.L oL gL, hLd, hLk, hLf⟩, fun b o e => R2.fr.keep b o (st b o e), R.fr.above⟩
      nw := news_mid fun p hp => by
        rcases List.mem_cons.mp hp with rfl | hp
        · exact ⟨q1, hne, h0L⟩
        · have z := R2.nw p hp
          refine ⟨z.1, fun e => ?_, ?_⟩
          · have := z.2.2; rw [e] at this; exact nomatch gL.symm.trans this
          · cases e : c.h₀.get? p.1 with
            | none => rfl
            | some o => have := z.2.2; exact nomatch (st _ _ e).symm.trans this
      nd := by
        have hp : List.Perm ((imm2 ++ (((Lg, o2) :: mu2) ++ rs)).map (·.1)) (((Lg, o2) :: (imm2 ++ (mu2 ++ rs))).map (·.1)) := List.perm_middle.map _
        rw [hp.nodup_iff, List.map_cons, List.nodup_cons]
        exact ⟨fun hm => let ⟨p, hp, e⟩ := List.mem_map.mp hm; hoff p hp e, R2.nd⟩
      loc := fun x pv hp => let ⟨v, a, b⟩ := ht1 x pv hp; ⟨v, a, R2.temps _ (List.mem_append_right us (List.mem_append_right ts b))⟩
      st := S2.addNs ⟨o2, m2, .head _, ⟨es2, ep2, q2, q3, q4⟩, R2.loc⟩ (R2.st.lofs (a := Lg) fun b ⟨o', hb⟩ => hoff _ (List.mem_append_right imm2 (List.mem_append_left rs hb))).2.2.1
      temps := fun p hp => R2.temps p ((List.mem_append.mp hp).elim (fun h => List.mem_append_left _ h) fun h => List.mem_append_right us (List.mem_append_left tl h))
      tk := R2.tk, gens := R2.gens, dr := R2.dr, os := R2.os }

theorem Rel.setGen {ts : List (MVal × PV)} {rs : Led} {s : Shared} (R : Rel c loc g ts rs s) (gi : Nat) (x : GenState) : Rel c loc { g with gens := g.gens.setIfInBounds gi x } ts rs (s.setGen gi x) := by
  obtain ⟨m, i, u, R⟩ := R
  exact ⟨m, i, u, { R with st := { R.st with }, gens := by show s.gens.setIfInBounds gi x = _; rw [R.gens], dr := R.dr, os := R.os }⟩
end Mine
set_option maxHeartbeats 4000000
namespace Mine
variable {w : Wd} {fs : FS} {c : Cx w fs} {env : Env} {loc : Loc} {g : GS}

structure Within {fs' : FS} (c' : Cx w fs') (c : Cx w fs) : Prop where
  dp : c'.dp = c.dp + 1
  un : c'.un = c.un + 4
  gd : c'.gd = c.gd
  out : c'.outer = c.env :: c.outer
theorem Within.func {fs' : FS} {c' : Cx w fs'} (W : Within c' c) (body : List Stmt) : (c.A.in1).over (.func body c'.env) [] = c'.A := by
  have e1 : c'.A = ⟨.none, c'.dp, some (c'.env :: c'.outer), c'.gd, c'.un⟩ := rfl
  rw [e1, W.dp, W.un, W.gd, W.out]
  rfl
theorem Within.loop {fs' : FS} {c' : Cx w fs'} (W : Within c' c) (body : List Stmt) (t : PySem.Expr) (it : MVal) (b o : List Stmt) (k : Result → Sem Fin) (p : Pos) :
    (c.A.in1).over (.forLoop t it b o c'.env) [.ret k .none false [] (.func body c'.env) p []] = c'.A := by
  have e1 : c'.A = ⟨.none, c'.dp, some (c'.env :: c'.outer), c'.gd, c'.un⟩ := rfl
  rw [e1, W.dp, W.un, W.gd, W.out]
  rfl
noncomputable def SegT (c : Cx w fs) (A : Around) (cd : Code) (fr : List Frame) (t : Sem Fin) (loc : Loc) (g : GS) (ts : List (MVal × PV)) (rs : Led) (P : End → Shared → Prop) : Prop :=
  ∀ s, Rel c loc g ts rs s → SegM w A cd t fr s P
section rules
variable {A : Around} {cd : Code} {fr : List Frame} {P : End → Shared → Prop} {ts : List (MVal × PV)} {rs : Led} {K : Flow → Sem Fin} {H : MVal → Sem Fin} {gd : Bool → Bool} {lv : List MVal → List MVal}
theorem y_cons {st : Stmt} {b : List Stmt} (h : SegT c A cd fr ((exec st c.env).wrap (fun f => match f with | .next => (execs b c.env).wrap K H gd lv | f => K f) H gd lv) loc g ts rs P) :
    SegT c A cd fr ((execs (st :: b) c.env).wrap K H gd lv) loc g ts rs P := fun s R => by
  rw [execs_cons_wrap]; exact h s R
theorem y_exec (hA : A.over cd fr = c.A) {st : Stmt} (h : StmtV c st loc g fun f l g' => f = .next ∧ SegT c A cd fr (K .next) l g' ts rs P) : SegT c A cd fr ((exec st c.env).wrap K H gd lv) loc g ts rs P := fun s R => by
  refine x_wrap ?_
  rw [hA]
  refine h ts rs s _ _ R fun f fv us l g' s' a R' p => ?_
  obtain ⟨rfl, p⟩ := p
  cases a with
  | next => exact p s' R'
theorem y_if (hA : A.over cd fr = c.A) {e : PySem.Expr} {b b' : List Stmt} {pos : Pos} (h : TestV c c.env e loc g fun t g' => (t = true → SegT c A cd fr ((execs b c.env).wrap K H gd lv) loc g' ts rs P) ∧ (t = false → SegT c A cd fr ((execs b' c.env).wrap K H gd lv) loc g' ts rs P)) :
    SegT c A cd fr ((exec (.If e b b' pos) c.env).wrap K H gd lv) loc g ts rs P := fun s R => by
  show SegM w A cd (.at pos fun _ => ((isTrue e c.env (eval e c.env)) >>= fun t => if t = true then execs b c.env else execs b' c.env).wrap K H gd lv) fr s P
  refine x_at ?_
  rw [Sem.bind_eq_wrap', Sem.wrap_wrap]
  refine x_wrap ?_
  rw [hA]
  refine h ts rs s _ _ R fun t g' s' R' f => ?_
  cases t with
  | true => exact f.1 rfl s' R'
  | false => exact f.2 rfl s' R'
theorem y_yield (hA : A.over cd fr = c.A) {e : PySem.Expr} {yp pos : Pos} (hfs : splitAtGen fr = none) (hfg : fr.any Frame.guarded = false) (hgd : gd false = false)
    (h : EvalV c c.env e loc g fun p g' => ∀ v s' l (k : Resume → Sem Fin) q, Rel c loc g' ((v, p) :: ts) rs s' → k (.send .none) = K .next → P (.susp v false l k cd q fr) s')
    (hco : fs.cs.isCoroutine = false := by rfl) (hi : interactive c.env = false := by rfl) : SegT c A cd fr ((exec (.Expr (.Yield (some e) yp) pos) c.env).wrap K H gd lv) loc g ts rs P := fun s R => by
  rw [exec_Expr c.env _ pos hi rfl]
  show SegM w A cd (.at pos fun _ => ((eval e c.env >>= fun v => (standAt yp >>= fun _ => yieldOut c.env v)) >>= fun x => dropValue (.Yield (some e) yp) pos x).wrap K H gd lv) fr s P
  have hy : ∀ v, yieldOut c.env v = yieldValue v := fun v => by
    show (if fs.cs.isCoroutine = true then _ else _) = _
    rw [hco]; rfl
  simp only [hy]
  refine x_at ?_
  rw [Sem.bind_eq_wrap', Sem.bind_eq_wrap', Sem.wrap_wrap, Sem.wrap_wrap]
  refine x_wrap ?_
  rw [hA]
  refine h ts rs s _ _ R fun v p g' s' R' f => ?_
  refine x_at ?_
  show SegM w A cd (.yield v (gd false) _ _) fr s' P
  rw [hgd]
  exact X.s_yield PG w.w A cd fr P s' v _ _ hfs hfg fun q => f v s' _ _ q R' rfl
end rules

noncomputable def Goes (c : Cx w fs) : List PV → GenState → Addr × Loc → List (Addr × Obj) → Prop
  | [], gs, ns, rw => ∃ cd t fr, GenStart gs cd t fr ∧ ∀ (g : GS) (nss : List (Addr × Loc)) (raws : List (Addr × Obj)) (loc : Loc) (ts : List (MVal × PV)) (rs : Led) (s : Shared) (P : End → Shared → Prop), g.nss = ns :: nss → g.raws = rw ++ raws → Rel c loc g ts rs s →
      (∀ s', Rel c loc { g with nss := nss, raws := raws } ts rs s' → P (.ret (.ok (.ret .none))) s') → SegM w c.A.in1 cd t fr s P
  | p :: rest, gs, ns, rw => ∃ cd t fr, GenStart gs cd t fr ∧ ∀ (g : GS) (nss : List (Addr × Loc)) (raws : List (Addr × Obj)) (loc : Loc) (ts : List (MVal × PV)) (rs : Led) (s : Shared) (P : End → Shared → Prop), g.nss = ns :: nss → g.raws = rw ++ raws → Rel c loc g ts rs s →
      (∀ v l k cd' q fr' ns' rw' s', Rel c loc { g with nss := ns' :: nss, raws := rw' ++ raws } ((v, p) :: ts) rs s' → fr'.any Frame.guarded = false → Goes c rest (.suspended k l cd' q fr' false) ns' rw' → P (.susp v false l k cd' q fr') s') → SegM w c.A.in1 cd t fr s P
end Mine
set_option maxHeartbeats 4000000
namespace Mine
variable {w : Wd} {fs : FS} {c : Cx w fs} {env : Env} {loc : Loc} {g : GS}

noncomputable abbrev genO (gi : Nat) (n q : MStr) (t t' : Tok) : Obj := fieldsO "generator" #[.int gi 0, .str n t, .str q t']
noncomputable def gensOk (gn : Array GenState) : Prop := ∀ y ∈ gn, y.bare = true
theorem gensOk.set {gn : Array GenState} (h : gensOk gn) (gi : Nat) {x : GenState} (hx : x.bare = true) : gensOk (gn.setIfInBounds gi x) := fun y hy => by
  obtain ⟨i, hi, rfl⟩ := Array.mem_iff_getElem.mp hy
  have hi' : i < gn.size := by simpa using hi
  rw [Array.getElem_setIfInBounds hi']
  split
  · exact hx
  · exact h _ (Array.getElem_mem hi')
theorem gensOk.push {gn : Array GenState} (h : gensOk gn) {x : GenState} (hx : x.bare = true) : gensOk (gn.push x) := fun y hy => by
  rcases Array.mem_push.mp hy with hy | rfl
  · exact h y hy
  · exact hx

section call
variable {pos : Pos} {e func : PySem.Expr} {es : List PySem.Expr} {Φ : PV → GS → Prop} {d : Nat}
theorem E_call_gen {f : Addr} {name qual : MStr} {params : Arguments} {body : List Stmt} {scope : Scope} {dV kV doc pm cdv ct oc : MVal} {an od : Option Addr} {osl : Array (Option MVal)}
    (ho : (KK w).lookup f = some ⟨oc, od, .func (fnOf name qual params body scope dV kV doc pm an cdv ct), osl⟩) (hcd : codeIn (KK w) cdv qual = true) (hk : keepIn (KK w) (.ref f) = true) (hd : c.dp ≤ 900)
    (h : EvalV c c.env func loc g fun p g0 => p = .st (.ref f) ∧ ArgsV c c.env pos (e :: es) loc g0 fun ps g1 => ∃ gl : Loc,
      (∀ vs : List MVal, vs.length = ps.length → ∃ binds, (∀ S, peek (KK w) S (bindArgs (fnOf name qual params body scope dV kV doc pm an cdv ct) ⟨vs, []⟩) = some binds) ∧ (binds.all fun x => decide (scope.names.lookup x.1 = some .local)) = true ∧
        ∀ imm, (∀ p ∈ vs.zip ps, VRel imm p.1 p.2) → LocOk imm gl (fun y => binds.reverse.lookup y)) ∧
      ∀ G Lg t t', c.L < Lg → Φ (.st (.ref G)) { g1 with nss := (Lg, gl) :: g1.nss, raws := (G, genO g1.gens.size name qual t t') :: g1.raws, gens := g1.gens.push (.fresh (.func body (envX qual scope Lg f cdv []))) })
    (hco : scope.isCoroutine = false := by rfl) (hgen : scope.isGenerator = true := by rfl) (hks : scope.kind = .function := by rfl) (hcell : ∀ x ∈ scope.names, x.2 ≠ .cell := by decide)
    (hc : eval (.Call func (e :: es) [] pos) c.env = (do callWith pos (← eval func c.env) [] (backTo pos (starEach (e :: es) c.env)) (backToKw pos (keywordEach [] c.env))) := by rfl)
    (he : starEach (e :: es) c.env = (false, eval e c.env) :: starEach es c.env := by rfl) (hp : (backTo pos (starEach es c.env)).any (·.1) = false := by rfl) : EvalV c c.env (.Call func (e :: es) [] pos) loc g Φ := by
  intro ts rs s Q E R q
  refine Call_ (h ts rs s _ E R fun v pv g0 s0 R0 f0 => ?_) hc
  obtain ⟨rfl, f0⟩ := f0
  have hv : v = .ref f := by
    obtain ⟨m, i, u, R0⟩ := R0
    have := R0.temps _ (.head _)
    cases this; rfl
  subst hv
  refine callWith_K (h₀ := c.h₀) c.kin hk ?_ he hp
  refine f0 _ rs s0 _ E R0 fun vs ps g1 s1 hl R1 f1 => ⟨?_, ?_⟩
  · obtain ⟨m, i, u, R1⟩ := R1; exact c.kin.keeps R1.fr.keep
  obtain ⟨gl, hb, hq⟩ := f1
  obtain ⟨m, imm, mu, R1⟩ := R1
  obtain ⟨binds, hb1, hb2, hb3⟩ := hb vs hl
  have X := c.kin.keeps R1.fr.keep
  refine wpAny_call ?_
  refine codeAny_call_generator (fd := fnOf name qual params body scope dV kV doc pm an cdv ct) (body := body) (by show c.dp < recursionLimit; unfold recursionLimit; (first | lia | omega)) (X _ _ ho) rfl hco hgen rfl (codeRec_of X hcd) (kp_binds X hb1 _ _ _ _ ?_)
  refine wpAny_newFunctionEnv hcell (locs hb2) (fun h' hns hsb => ?_) hks
  obtain ⟨oN, es', ep', n1, n2, n3, n4⟩ := hns
  have hsz : h'.objs.size = s1.heap.objs.size + 1 := by rw [hsb.1, Heap.size_push]
  have keep : ∀ b o, s1.heap.get? b = some o → h'.get? b = some o := fun b o eb => hsb.extBut b o (Nat.ne_of_lt (Heap.lt_size eb)) (Heap.get?_push_of_some _ eb)
  have F1 : Fr c.h₀ c.L h' m := R1.fr.keeps keep
  have N1 : News c.h₀ c.L h' (imm ++ (mu ++ rs)) := R1.nw.grown keep
  refine ⟨(c.top.nolimit.keeps R1.fr.keep).keeps keep, ?_⟩
  have hL : c.L < s1.heap.objs.size := R1.fr.ns.lt
  have h0 : c.h₀.get? s1.heap.objs.size = none := by
    cases q : c.h₀.get? s1.heap.objs.size with
    | none => rfl
    | some o => exact absurd (Nat.lt_of_lt_of_le (Heap.lt_size q) R1.fr.above) (Nat.not_lt.mpr (Nat.le_of_lt hL))
  have lt1 : ∀ p ∈ imm ++ (mu ++ rs), p.1 < s1.heap.objs.size := R1.lt_size
  have hlo : LocOk imm gl (fun y => binds.reverse.lookup y) := hb3 imm fun p hp => R1.temps p (List.mem_append_left _ hp)
  have R2 := R1.pushN (h' := h') (tk := s1.toks + binds.length) (a := s1.heap.objs.size) (o := oN) (l := gl) ⟨es', ep', n2, n3, n4⟩ hlo F1
    (fun p hp => (List.mem_cons.mp hp).elim (fun e => by subst e; exact ⟨n1, Nat.ne_of_gt hL, h0⟩) (N1 p)) lt1 (Nat.lt_of_lt_of_le R1.tk (Nat.le_add_right _ _))
  have R3 := R2.newRaw "generator" #[.int s1.gens.size 0, .str name (s1.toks + binds.length), .str qual (s1.toks + binds.length + 1)] (tk := s1.toks + binds.length + 1 + 1) (Nat.succ_pos _)
  have hgz : s1.gens.size = g1.gens.size := by rw [R1.gens]
  have R4 : RelW c loc { g1 with nss := (s1.heap.objs.size, gl) :: g1.nss, raws := (h'.objs.size, genO g1.gens.size name qual (s1.toks + binds.length) (s1.toks + binds.length + 1)) :: g1.raws, gens := g1.gens.push (.fresh (.func body (envX qual scope s1.heap.objs.size f cdv []))) } _ rs
      { s1 with gens := s1.gens.push (.fresh (.func body (envX qual scope s1.heap.objs.size f cdv []))), toks := s1.toks + binds.length + 1 + 1, heap := h'.push (genO g1.gens.size name qual (s1.toks + binds.length) (s1.toks + binds.length + 1)) } m imm _ :=
    { (hgz ▸ R3) with
      st := { (hgz ▸ R3 : RelW c loc { g1 with nss := (s1.heap.objs.size, gl) :: g1.nss, raws := (h'.objs.size, genO g1.gens.size name qual (s1.toks + binds.length) (s1.toks + binds.length + 1)) :: g1.raws } _ rs _ m imm _).st with }
      gens := by show s1.gens.push _ = g1.gens.push _; rw [R1.gens], dr := R1.dr, os := R1.os }
  have R5 := R4.temp (v := .ref h'.objs.size) (.st (.ref h'.objs.size))
  have := q (.ref h'.objs.size) (.st (.ref h'.objs.size)) _ _ (Rel.weaken ⟨m, imm, _, R5⟩ fun p hp => (List.mem_cons.mp hp).elim (fun e => e ▸ .head _) fun h => .tail _ (List.mem_append_right _ (.tail _ h))) (hq h'.objs.size s1.heap.objs.size (s1.toks + binds.length) (s1.toks + binds.length + 1) hL)
  rw [← hgz] at this
  exact this
end call

structure OverGen (c : Cx w fs) (target : PySem.Expr) (body orelse : List Stmt) (Ψ : FV → Loc → GS → Prop) (nss0 : List (Addr × Loc)) (raws0 : List (Addr × Obj)) (items : List PV) (P : Nat → Loc → List (Addr × List PV) → List (Addr × Option PV) → Prop) : Prop where
  turn : ∀ i loc ls cs gn nss raws p, items[i]? = some p → P i loc ls cs → gensOk gn → nss0.Sublist nss → raws0.Sublist raws → AssignV c target p loc (mkG ls cs gn nss raws) fun l2 g2 => ExecV c body l2 g2 (turnF (fun l3 g3 => ∃ g4, GLe g4 g3 ∧ g4.raws = raws ∧ g4.nss = nss ∧ g4.gens = gn ∧ P (i + 1) l3 g4.lists g4.cells) Ψ)
  done : ∀ loc ls cs gn, P items.length loc ls cs → gensOk gn → ExecV c orelse loc (mkG ls cs gn nss0 raws0) Ψ
inductive GenI (c : Cx w fs) (target : PySem.Expr) (body orelse : List Stmt) (Ψ : FV → Loc → GS → Prop) (g : GS) (it : MVal) (n' : Nat) (loc : Loc) (g' : GS) : Prop
  | mk (G : Addr) (gi : Nat) (gs : GenState) (ns : Addr × Loc) (rw : List (Addr × Obj)) (nm qn : MStr) (t t' : Nat) (items : List PV) (P : Nat → Loc → List (Addr × List PV) → List (Addr × Option PV) → Prop) (i : Nat) (ls : List (Addr × List PV)) (cs : List (Addr × Option PV)) (gn : Array GenState)
    (O : OverGen c target body orelse Ψ g.nss g.raws items P) (e1 : it = .ref G) (hi : i ≤ items.length) (e2 : n' = items.length - i) (e3 : g' = mkG ls cs gn (ns :: g.nss) (rw ++ (G, genO gi nm qn t t') :: g.raws)) (hgs : gn[gi]? = some gs) (hok : gensOk gn) (hgo : Goes c (items.drop i) gs ns rw) (hP : P i loc ls cs)
theorem S_for_gen {target iter : PySem.Expr} {body orelse : List Stmt} {pos : Pos} {Ψ : FV → Loc → GS → Prop} (hd : c.dp ≤ 900)
    (h : EvalV c c.env iter loc g fun p g1 => ∃ G gi gs ns nm qn t t' items P, p = .st (.ref G) ∧ g1.nss = ns :: g.nss ∧ g1.raws = (G, genO gi nm qn t t') :: g.raws ∧ g1.gens[gi]? = some gs ∧ gensOk g1.gens ∧ Goes c items gs ns [] ∧ P 0 loc g1.lists g1.cells ∧ OverGen c target body orelse Ψ g.nss g.raws items P)
    (hf : ∀ x, foldedSetIterable iter c.env x = pure x := by intro _; rfl) : StmtV c (.For target iter body orelse pos) loc g Ψ := by
  refine S_for (GenI c target body orelse Ψ g) (h.mono fun p g1 hp => ?_) ?_ hf
  · obtain ⟨G, gi, gs, ns, nm, qn, t, t', items, P, rfl, hn, hr, hgs, hok, hgo, hP, O⟩ := hp
    intro ts rs s Q E v0 R q
    have := R.st (.head _); subst this
    have R1 := R.weaken tl1
    obtain ⟨m, im, mu, R'⟩ := R1
    obtain ⟨z1, _⟩ := R'.rawAt (by rw [hr]; exact .head _)
    refine wpAny_pyIter_gen (g := gi) ⟨_, _, _, z1, rfl, rfl, rfl⟩ ?_
    refine q _ items.length _ _ ⟨m, im, mu, R'⟩ ⟨G, gi, gs, ns, [], nm, qn, t, t', items, P, 0, g1.lists, g1.cells, g1.gens, O, rfl, Nat.zero_le _, by (first | lia | omega), ?_, hgs, hok, hgo, hP⟩
    rw [← hn]
    show g1 = mkG g1.lists g1.cells g1.gens g1.nss ((G, genO gi nm qn t t') :: g.raws)
    rw [← hr]
  · rintro it n' loc g' ⟨G, gi, gs, ns, rw', nm, qn, t, t', items, P, i, ls, cs, gn, O, rfl, hi, rfl, rfl, hgs, hok, hgo, hP⟩ ts rs s Q E R q1 q2
    have hG : (G, genO gi nm qn t t') ∈ (mkG ls cs gn (ns :: g.nss) (rw' ++ (G, genO gi nm qn t t') :: g.raws)).raws := List.mem_append_right _ (.head _)
    obtain ⟨m, im, mu, R'⟩ := _root_.id R
    obtain ⟨z1, _⟩ := R'.rawAt hG
    have hlim := c.top.nolimit.keeps R'.fr.keep
    have hroom : c.A.depth < recursionLimit := by show c.dp < recursionLimit; unfold recursionLimit; (first | lia | omega)
    have hsg : s.gens[gi]? = some gs := by rw [R'.gens]; exact hgs
    have hgi : gi < gn.size := by
      have := Array.getElem?_eq_some_iff.mp hgs
      exact this.1
    by_cases hlt : i < items.length
    · have ed : items.drop i = items[i] :: items.drop (i + 1) := List.drop_eq_getElem_cons hlt
      rw [ed] at hgo
      obtain ⟨cd, tr, fr, hst, go⟩ := hgo
      refine pyNext_x (gi := gi) rfl hlim hroom ⟨_, _, _, z1, rfl, rfl, rfl⟩ hsg hst ?_
      refine go _ g.nss ((G, genO gi nm qn t t') :: g.raws) loc ts rs _ _ rfl rfl (R.setGen gi .running) fun v l k cd' q fr' ns' rw2 s' R2 hfg hgo2 => ?_
      show Q (some v) (s'.setGen gi (End.susp v false l k cd' q fr').genState)
      have eg : (End.susp v false l k cd' q fr').genState = .suspended k l cd' q fr' false := by
        show GenState.suspended k l cd' q fr' (false || fr'.any Frame.guarded) = _
        rw [hfg]; rfl
      rw [eg]
      have R3 := R2.setGen gi (.suspended k l cd' q fr' false)
      have eg2 : ((mkG ls cs (gn.setIfInBounds gi .running) (ns' :: g.nss) (rw2 ++ (G, genO gi nm qn t t') :: g.raws)).gens.setIfInBounds gi (.suspended k l cd' q fr' false))[gi]? = some (.suspended k l cd' q fr' false) := by
        rw [Array.getElem?_setIfInBounds_self_of_lt]
        simpa using hgi
      generalize hgn : (gn.setIfInBounds gi .running).setIfInBounds gi (.suspended k l cd' q fr' false) = gn2 at R3 eg2
      have hok2 : gensOk gn2 := hgn ▸ (hok.set gi rfl).set gi rfl
      refine q1 v items[i] _ _ R3 (fun Q' E' h => ?_) ?_
      · obtain ⟨m3, im3, mu3, R3⟩ := R3
        obtain ⟨y1, _⟩ := R3.rawAt (D := G) (o := genO gi nm qn t t') (List.mem_append_right rw2 (.head _))
        exact own_skip y1 rfl (by decide) h
      · intro ts rs s Q E v R hv q
        refine O.turn i loc ls cs gn2 (ns' :: g.nss) (rw2 ++ (G, genO gi nm qn t t') :: g.raws) items[i] (List.getElem?_eq_getElem hlt) hP hok2 (List.sublist_cons_self _ _) ((List.sublist_cons_self _ _).trans (List.sublist_append_right _ _)) ts rs s Q E v (by rw [← hgn] at R ⊢; exact R) hv fun l2 g2 s2 R2 k => q l2 g2 s2 R2 ?_
        intro ts rs s Q E R q
        refine k ts rs s Q E R fun f fv us loc' g3 s3 a3 R3 p => ?_
        have fin : ∀ l3, Rel c l3 g3 (us ++ ts) rs s3 → (∃ g4, GLe g4 g3 ∧ g4.raws = rw2 ++ (G, genO gi nm qn t t') :: g.raws ∧ g4.nss = ns' :: g.nss ∧ g4.gens = gn2 ∧ P (i + 1) l3 g4.lists g4.cells) → ∃ g4, Rel c l3 g4 (us ++ ts) rs s3 ∧ ∃ m, m < items.length - i ∧ GenI c target body orelse Ψ g (.ref G) m l3 g4 := by
          rintro l3 R3 ⟨g4, hle, e1, e2, e3, hP4⟩
          refine ⟨g4, R3.drop hle, items.length - (i + 1), by (first | lia | omega), G, gi, _, ns', rw2, nm, qn, t, t', items, P, i + 1, g4.lists, g4.cells, g4.gens, O, rfl, hlt, rfl, ?_, ?_, ?_, hgo2, hP4⟩
          · rw [← e1, ← e2]
          · rw [e3]; exact eg2
          · rw [e3]; exact hok2
        cases a3 with
        | next => obtain ⟨g4, R4, k⟩ := fin _ R3 p; exact q _ _ _ _ _ _ .next R4 k
        | cont => obtain ⟨g4, R4, k⟩ := fin _ R3 p; exact q _ _ _ _ _ _ .cont R4 k
        | brk => exact q _ _ _ _ _ _ .brk R3 p
        | ret v pv => exact q _ _ _ _ _ _ (.ret v pv) R3 p
    · obtain rfl : i = items.length := Nat.le_antisymm hi (Nat.not_lt.mp hlt)
      rw [List.drop_length] at hgo
      obtain ⟨cd, tr, fr, hst, go⟩ := hgo
      refine pyNext_x (gi := gi) rfl hlim hroom ⟨_, _, _, z1, rfl, rfl, rfl⟩ hsg hst ?_
      refine go _ g.nss ((G, genO gi nm qn t t') :: g.raws) loc ts rs _ _ rfl rfl (R.setGen gi .running) fun s' R2 => ?_
      refine ⟨rfl, fun h' hk => ?_⟩
      have R3 := R2.setGen gi .finished
      obtain ⟨m3, im3, mu3, R3⟩ := R3
      have R4 := R3.moved (R3.fr.keeps hk) (R3.nw.grown hk) R3.tk
      refine q2 (mkG ls cs ((gn.setIfInBounds gi .running).setIfInBounds gi .finished) g.nss g.raws) _ (Rel.drop ⟨m3, im3, mu3, R4⟩ ⟨.refl _, .refl _, .refl _, List.sublist_cons_self _ _, rfl⟩) (O.done loc ls cs _ hP ((hok.set gi rfl).set gi rfl))
end Mine
set_option maxHeartbeats 4000000
namespace Mine
variable {w : Wd} {fs : FS} {c : Cx w fs} {env : Env} {loc : Loc} {g : GS}

noncomputable abbrev enumO (it : Addr) (i : Int) (old : MVal) : Obj := { cls := .type "enumerate", dict := none, data := .fields #[.none, .bool false, .ref it, rawInt i, .none, old], slots := #[] }
noncomputable abbrev enumP (it : Addr) (i : Int) (old : MVal) (a : Addr) : Obj := { cls := .type "enumerate", dict := none, data := .fields #[rawInt a, .bool false, .ref it, rawInt i, .none, old], slots := #[] }
noncomputable def IterO (o : Obj) (x : MStr) (t : Tok) (i : Nat) : Prop := o.cls = .type "str_ascii_iterator" ∧ o.data = .fields #[.str x t, .int i 0]
section enum
variable {ts : List (MVal × PV)} {rs : Led} {s : Shared} {m : MStr → Option MVal} {imm mu : Led} {h' : Heap} {tk : Nat}
theorem rawOk_fields {a : Addr} {o o' : Obj} {vs : Array MVal} (h : rawOk a o = true) (hd : o'.data = .fields vs) : rawOk a o' = true := by
  rw [rawOk, Bool.and_eq_true] at h ⊢
  exact ⟨h.1, by rw [hd]⟩
theorem RelW.step2 (R : RelW c loc g ts rs s m imm mu) {D I : Addr} {oD oI oD' oI' : Obj} {raws : List (Addr × Obj)} (hr : g.raws = (D, oD) :: (I, oI) :: raws) (h1 : rawOk D oD' = true) (h2 : rawOk I oI' = true)
    (hk : ∀ b o, b ≠ D → b ≠ I → s.heap.get? b = some o → h'.get? b = some o) (hD : h'.get? D = some oD') (hI : h'.get? I = some oI') (htk : 0 < tk) :
    RelW c loc { g with raws := (D, oD') :: (I, oI') :: raws } ts rs { s with heap := h', toks := tk } m imm (setL I oI' (setL D oD' mu)) := by
  have mD : (D, oD) ∈ g.raws := by rw [hr]; exact .head _
  have mI : (I, oI) ∈ g.raws := by rw [hr]; exact .tail _ (.head _)
  obtain ⟨a1, a2, a3, a4⟩ := R.rawAt mD
  obtain ⟨b1, b2, b3, b4⟩ := R.rawAt mI
  have S1 := R.st.setRaw (o' := oD') (rw' := (D, oD') :: (I, oI) :: raws) R.munod h1 (by rw [hr]; exact .head)
  have n1 : ((setL D oD' mu).map (·.1)).Nodup := by rw [setL_fst]; exact R.munod
  have S2 := S1.setRaw (D := I) (o := oI) (o' := oI') (rw' := (D, oD') :: (I, oI') :: raws) n1 h2 (.tail .head)
  have e1 : setL I oI' (setL D oD' (imm ++ (mu ++ rs))) = imm ++ (setL I oI' (setL D oD' mu) ++ rs) := by
    rw [R.all_set a4, setL_app, setL_app, setL_off (R.off_imm b4), setL_off (R.off_rs b4)]
  exact
  { R with
    fr := ⟨R.fr.ns.at' fun o e => hk _ o (Ne.symm a2) (Ne.symm b2) e, fun b o e => hk b o (fun q => by subst q; rw [a3] at e; cases e) (fun q => by subst q; rw [b3] at e; cases e) (R.fr.keep b o e), R.fr.above⟩
    nw := by
      rw [← e1]
      intro p hp
      obtain ⟨q, hq, rfl⟩ := List.mem_map.mp hp
      obtain ⟨r, hr, rfl⟩ := List.mem_map.mp hq
      have y := R.nw r hr
      by_cases k1 : r.1 = D
      · rw [if_pos k1]
        by_cases k2 : D = I
        · rw [if_pos k2]; exact ⟨hI, b2, b3⟩
        · rw [if_neg k2]; exact ⟨hD, a2, a3⟩
      · rw [if_neg k1]
        by_cases k2 : r.1 = I
        · rw [if_pos k2]; exact ⟨hI, b2, b3⟩
        · rw [if_neg k2]; exact ⟨hk _ _ k1 k2 y.1, y.2⟩
    nd := by rw [← e1, setL_fst, setL_fst]; exact R.nd
    st := { S2 with }
    tk := htk, gens := R.gens, dr := R.dr, os := R.os }
theorem F_enum {x : MStr} {d : Nat} {Φ : PV → GS → Prop} (hx : x.cps.all (· < 128) = true) (h : ∀ D I o t, IterO o x t 0 → Φ (.st (.ref D)) { g with raws := (D, enumO I 0 .none) :: (I, o) :: g.raws }) : CallR w d (.st (.type "enumerate")) [.str x] [] g Φ := by
  intro fs c loc ts rs s Q E fv vs ks _ _ R hf hl hp hk hkp q
  have := R.st hf; subst this
  obtain ⟨v, rfl⟩ := len1 hl
  obtain ⟨t, rfl⟩ := R.str (hp (v, .str x) (by simp))
  have hks : ks = [] := by cases ks with | nil => rfl | cons => cases hk
  subst hks
  obtain ⟨m, i, u, R'⟩ := R
  refine call_enumerate_str fun h' he hi hsz hkp => ?_
  obtain ⟨oI, hI, hIc, hId⟩ := hi
  have hcls : strIterType x = "str_ascii_iterator" := by rw [strIterType, hx]; rfl
  rw [hcls] at hIc
  have F1 := R'.fr.keeps hkp
  have N1 := R'.nw.grown hkp
  have hL : c.L < s.heap.objs.size := R'.fr.ns.lt
  have h0 : ∀ a, s.heap.objs.size ≤ a → c.h₀.get? a = none := fun a ha => by
    cases q : c.h₀.get? a with
    | none => rfl
    | some o => exact absurd (Nat.lt_of_lt_of_le (Nat.lt_trans (Nat.lt_of_lt_of_le (Heap.lt_size q) R'.fr.above) hL) ha) (Nat.lt_irrefl _)
  have R2 := R'.pushR (h' := h') (tk := s.toks) (a := s.heap.objs.size) (o := oI) (rawOk_fields (R'.rawNew (o := fieldsO "" #[]) (cls := .none) rfl) hId) F1 (fun p hp => (List.mem_cons.mp hp).elim (fun e => by subst e; exact ⟨hI, Nat.ne_of_gt hL, h0 _ (Nat.le_refl _)⟩) (N1 p)) R'.lt_size R'.tk
  have lt2 : ∀ p ∈ i ++ (((s.heap.objs.size, oI) :: u) ++ rs), p.1 < s.heap.objs.size + 1 := fun p hp => by
    rcases List.mem_append.mp hp with hp | hp
    · exact Nat.lt_succ_of_lt (R'.lt_size p (List.mem_append_left _ hp))
    · rcases List.mem_cons.mp hp with rfl | hp
      · exact Nat.lt_succ_self _
      · exact Nat.lt_succ_of_lt (R'.lt_size p (List.mem_append_right _ hp))
  have hok : rawOk (s.heap.objs.size + 1) (enumO s.heap.objs.size 0 .none) = true := by
    rw [rawOk, Bool.and_eq_true]
    refine ⟨List.all_eq_true.mpr fun p hp => ?_, rfl⟩
    obtain ⟨ps, k1, _⟩ := R2.st.tabs p.1 p.2 hp
    have := lt2 _ (List.mem_append_right i (List.mem_append_left rs k1))
    exact bne_iff_ne.mpr (Nat.ne_of_lt this)
  have R3 := R2.pushR (h' := h') (tk := s.toks) (a := s.heap.objs.size + 1) (o := enumO s.heap.objs.size 0 .none) hok F1 (fun p hp => (List.mem_cons.mp hp).elim (fun e => by subst e; exact ⟨he, Nat.ne_of_gt (Nat.lt_succ_of_lt hL), h0 _ (Nat.le_succ _)⟩) (R2.nw p)) lt2 R'.tk
  exact q _ (.st _) _ _ ⟨m, i, _, R3.temp (.st _)⟩ (h _ _ _ _ ⟨hIc, hId⟩)
end enum
end Mine
set_option maxHeartbeats 4000000
namespace Mine
variable {w : Wd} {fs fg : FS} {c : Cx w fs} {c' : Cx w fg} {env : Env} {loc : Loc} {g : GS}

noncomputable def AccI (c : Cx w fs) (c' : Cx w fg) (Lg : Addr) (items : List PV) (g : GS) (raws : List (Addr × Obj)) (ts : List (MVal × PV)) (rs : Led) (P : End → Shared → Prop) : Prop := match items with
  | [] => ∀ loc' s', Rel c' loc' { g with raws := raws } ts rs s' → P (.ret (.ok (.ret .none))) s'
  | p :: rest => ∀ v l k cd q fr loc' rw' s', Rel c' loc' { g with raws := rw' ++ raws } ((v, p) :: ts) rs s' → fr.any Frame.guarded = false → Goes c rest (.suspended k l cd q fr false) (Lg, loc') rw' → P (.susp v false l k cd q fr) s'

noncomputable abbrev genv (fg : FS) (L : Addr) : Env := envX fg.cn fg.cs L fg.a fg.ccd fg.cl
theorem Goes.inside {q : MStr} {sc : Scope} {f : Addr} {cdv : MVal} {Lg : Addr} {gl : Loc} {rw0 : List (Addr × Obj)} {gs : GenState} {cd : Code} {t : Sem Fin} {fr : List Frame} {items : List PV} (hk : sc.kind = .function) (hs : GenStart gs cd t fr) (hL : c.L < Lg)
    (h : ∀ c' : Cx w ⟨q, sc, f, cdv, []⟩, Within c' c → c'.L = Lg → ∀ g raws ts rs P, g.raws = rw0 ++ raws → AccI c c' Lg items g raws ts rs P → SegT c' c.A.in1 cd fr t gl g ts rs P) : Goes c items gs (Lg, gl) rw0 := by
  cases items with
  | nil =>
    refine ⟨cd, t, fr, hs, fun g nss raws loc ts rs s P hn hr R k => ?_⟩
    obtain ⟨c', ts', e1, e2, e3, e4, e5, R', lv⟩ := gen_enter (q := q) (f := f) (cdv := cdv) hk R hn hL
    refine h c' ⟨e2, e3, e4, e5⟩ e1 { g with nss := nss } raws ts' rs P hr (fun loc' s' R2 => k s' ?_) s R'
    exact (lv [] { g with nss := nss, raws := raws } _ _ R2).drop ⟨.refl _, .refl _, List.sublist_cons_self (Lg, loc') nss, .refl _, rfl⟩
  | cons p rest =>
    refine ⟨cd, t, fr, hs, fun g nss raws loc ts rs s P hn hr R k => ?_⟩
    obtain ⟨c', ts', e1, e2, e3, e4, e5, R', lv⟩ := gen_enter (q := q) (f := f) (cdv := cdv) hk R hn hL
    refine h c' ⟨e2, e3, e4, e5⟩ e1 { g with nss := nss } raws ts' rs P hr (fun v l k2 cd2 q2 fr2 loc2 rw2 s2 R2 h2 go2 => k v l k2 cd2 q2 fr2 (Lg, loc2) rw2 s2 ?_ h2 go2) s R'
    exact lv [(v, p)] _ _ _ R2

section rules
variable {A : Around} {cd : Code} {fr : List Frame} {P : End → Shared → Prop} {ts : List (MVal × PV)} {rs : Led} {K : Flow → Sem Fin} {H : MVal → Sem Fin} {gd : Bool → Bool} {lv : List MVal → List MVal}
theorem y_for (hA : A.over cd fr = c.A) {target iter : PySem.Expr} {body orelse : List Stmt} {pos : Pos} (hgd : gd false = false) (hlv : lv [] = [])
    (h : EvalV c c.env iter loc g fun p g1 => ∀ v s', Rel c loc g1 ((v, p) :: ts) rs s' → ∀ (k1 : Result → Sem Fin) (E : MVal → Shared → Prop), k1 (.ok .next) = K .next →
      wpAny (M0 w) c.A (pyIter v) (fun it s2 => ∀ q, SegM w A (.forLoop target it body orelse c.env) (denote table (.forLoop target it body orelse c.env)) (.ret k1 .none false [] cd q [] :: fr) s2 P) E s')
    (hf : ∀ x, foldedSetIterable iter c.env x = pure x := by intro _; rfl) : SegT c A cd fr ((exec (.For target iter body orelse pos) c.env).wrap K H gd lv) loc g ts rs P := fun s R => by
  rw [exec_For]
  show SegM w A cd (.at pos fun _ => ((eval iter c.env >>= fun v => (foldedSetIterable iter c.env v >>= fun x => (standAt iter.pos >>= fun _ => holding [x] (pyIter x) >>= fun it => runOwn (.forLoop target it body orelse c.env) c.env)))).wrap K H gd lv) fr s P
  refine x_at ?_
  rw [Sem.bind_eq_wrap', Sem.wrap_wrap]
  refine x_wrap ?_
  rw [hA]
  refine h ts rs s _ _ R fun v p g' s' R' f => ?_
  rw [hf v]
  show SegM w A cd (.at iter.pos fun _ => ((holding [v] (pyIter v) >>= fun it => runOwn (.forLoop target it body orelse c.env) c.env)).wrap K H gd lv) fr s' P
  refine x_at ?_
  rw [Sem.bind_eq_wrap', Sem.wrap_wrap]
  refine x_wrap ?_
  rw [hA]
  refine wpAny_holding ?_
  refine wpAny_mono (f v s' R' (fun r => ((match r with | .ok f => (.pure f : Sem Flow) | .error e => .raise e).onRaise fun x => do
      if (← field x 1) == PySem.Value.none then unsupported "frame.own-activation:exception-without-traceback"
      setFlight x c.env.frame).wrap K H gd lv) _ rfl) (fun it s2 hq => ?_) (fun _ _ x => x)
  show SegM w A cd (.call _ .none (gd false) (lv []) _) fr s2 P
  rw [hgd, hlv]
  exact X.s_call PG w.w A cd fr P s2 _ _ _ _ _ hq
end rules
end Mine
set_option maxHeartbeats 4000000
namespace Mine
variable {w : Wd} {fs fg : FS} {c : Cx w fs} {c' : Cx w fg} {env : Env} {loc : Loc} {g : GS}

noncomputable def escU (i : Nat) (ch : Nat) : PV := .tup [.int i, .str (Str.ofString "\\" ++ (⟨#[ch]⟩ : MStr))]
noncomputable def escG (i : Nat) (ch : Nat) : PV := .tup [.int i, .str ⟨#[ch]⟩]
noncomputable def escB (i : Nat) : PV := .tup [.int i, .str (Str.ofString "\\")]
noncomputable def escL : Nat → Bool → List Nat → List PV
  | i, true, [] => [escB (i - 1)]
  | _, false, [] => []
  | i, true, ch :: r => escU i ch :: escL (i + 1) false r
  | i, false, ch :: r => if ch = 92 then escL (i + 1) true r else escG i ch :: escL (i + 1) false r
noncomputable def outT (i : Nat) (b : Bool) (ch : Nat) : Option PV := match b with
  | true => some (escU i ch)
  | false => if ch = 92 then none else some (escG i ch)

noncomputable def TurnOK (w : Wd) (fg : FS) (lb : List Stmt) : Prop := ∀ (c' : Cx w fg) (A : Around) (cd : Code) (fr : List Frame) (hA : A.over cd fr = c'.A) (hsp : splitAtGen fr = none) (hgu : fr.any Frame.guarded = false) (K : Flow → Sem Fin) (H : MVal → Sem Fin)
  (i : Nat) (b : Bool) (ch : Nat) (loc : Loc) (g : GS) (ts : List (MVal × PV)) (rs : Led) (P : End → Shared → Prop), Has loc "escape" (.bool b) → Has loc "pos" (.int i) → Has loc "ch" (.str ⟨#[ch]⟩) →
  (match outT i b ch with
    | none => ∀ loc', Has loc' "escape" (.bool true) → Has loc' "pos" (.int i) → SegT c' A cd fr (K .next) loc' g ts rs P
    | some p => ∀ v s' l k q, Rel c' loc g ((v, p) :: ts) rs s' →
        (∀ (c2 : Cx w fg) (h2 : c2.env = c'.env) (hA2 : A.over cd fr = c2.A) (g2 : GS) ts2 rs2 P2, (∀ loc3, Has loc3 "escape" (.bool false) → Has loc3 "pos" (.int i) → SegT c2 A cd fr (K .next) loc3 g2 ts2 rs2 P2) → SegT c2 A cd fr (k (.send .none)) loc g2 ts2 rs2 P2) → P (.susp v false l k cd q fr) s') →
  SegT c' A cd fr ((execs lb c'.env).wrap K H id id) loc g ts rs P
noncomputable def PostOK (w : Wd) (fg : FS) (post : List Stmt) : Prop := ∀ (c' : Cx w fg) (A : Around) (cd : Code) (fr : List Frame) (hA : A.over cd fr = c'.A) (hsp : splitAtGen fr = none) (hgu : fr.any Frame.guarded = false) (K : Flow → Sem Fin) (H : MVal → Sem Fin)
  (i : Nat) (b : Bool) (loc : Loc) (g : GS) (ts : List (MVal × PV)) (rs : Led) (P : End → Shared → Prop), Has loc "escape" (.bool b) → (b = true → Has loc "pos" (.int i)) →
  (match b with
    | false => ∀ loc', SegT c' A cd fr (K .next) loc' g ts rs P
    | true => ∀ v s' l k q, Rel c' loc g ((v, escB i) :: ts) rs s' →
        (∀ (c2 : Cx w fg) (h2 : c2.env = c'.env) (hA2 : A.over cd fr = c2.A) (g2 : GS) ts2 rs2 P2, (∀ loc3, SegT c2 A cd fr (K .next) loc3 g2 ts2 rs2 P2) → SegT c2 A cd fr (k (.send .none)) loc g2 ts2 rs2 P2) → P (.susp v false l k cd q fr) s') →
  SegT c' A cd fr ((execs post c'.env).wrap K H id id) loc g ts rs P

theorem env_eq {q : MStr} {sc : Scope} {f : Addr} {cdv : MVal} {Lg : Addr} (c' : Cx w ⟨q, sc, f, cdv, []⟩) (h : c'.L = Lg) : c'.env = envX q sc Lg f cdv [] := by
  subst h; rfl

section loop
variable {q : MStr} {sc : Scope} {f : Addr} {cdv : MVal} {Lg : Addr} {lb post body0 : List Stmt} {elts : List PySem.Expr} {ctx : Nat} {pp : Pos} {K0 : Flow → Sem Fin} {H0 : MVal → Sem Fin} {k1 : Result → Sem Fin} {qp : Pos} {x : MStr} {t : Tok} {D I : Addr}
theorem gen_loop (hks : sc.kind = .function) (hLg : c.L < Lg) (hx : x.cps.all (· < 128) = true) (hturn : TurnOK w ⟨q, sc, f, cdv, []⟩ lb) (hpost : PostOK w ⟨q, sc, f, cdv, []⟩ post)
    (hasg : ∀ (c' : Cx w ⟨q, sc, f, cdv, []⟩) (i : Nat) (y : MStr) loc g (Φ : Loc → GS → Prop), Φ (("ch", .str y) :: ("pos", .int i) :: loc) g → AssignV c' (.Tuple elts ctx pp) (.tup [.int i, .str y]) loc g Φ)
    (hk1 : k1 (.ok .next) = (execs post (envX q sc Lg f cdv [])).wrap K0 H0 id id) (hK0 : K0 .next = .pure (.done (.ret .none))) :
    ∀ (n i : Nat) (b : Bool) (c' : Cx w ⟨q, sc, f, cdv, []⟩), x.length - i = n → i ≤ x.length → Within c' c → c'.L = Lg → ∀ (loc : Loc) (g : GS) (raws : List (Addr × Obj)) (old : MVal) (io : Obj) (ts : List (MVal × PV)) (rs : Led) (P : End → Shared → Prop),
      g.raws = (D, enumO I i old) :: (I, io) :: raws → IterO io x t i → Has loc "escape" (.bool b) → (b = true → 0 < i) → (0 < i → Has loc "pos" (.int (i - 1 : Nat))) → AccI c c' Lg (escL i b (x.cps.toList.drop i)) g raws ts rs P →
      SegT c' c.A.in1 (.forLoop (.Tuple elts ctx pp) (.ref D) lb [] (envX q sc Lg f cdv [])) [.ret k1 .none false [] (.func body0 (envX q sc Lg f cdv [])) qp []] (denote table (.forLoop (.Tuple elts ctx pp) (.ref D) lb [] (envX q sc Lg f cdv []))) loc g ts rs P := by
  intro n
  induction n with
  | zero =>
    intro i b c' hn hi W hL loc g raws old io ts rs P hr hio he hb hpos acc s R
    have ei : i = x.length := by (first | lia | omega)
    have env0 := env_eq c' hL
    have hA := W.loop body0 (.Tuple elts ctx pp) (.ref D) lb [] k1 qp
    have hA0 := W.func body0
    rw [env0] at hA hA0
    show SegM w _ _ ((forTurn (.Tuple elts ctx pp) (.ref D) lb [] (envX q sc Lg f cdv [])).onRaise _) _ s P
    rw [Sem.onRaise_eq_wrap]
    show SegM w _ _ (.at _ fun _ => (((pyNext (.ref D)).onRaise _ >>= _).wrap .pure _ id id)) _ s P
    refine x_at ?_
    rw [Sem.bind_eq_wrap', Sem.wrap_wrap]
    refine x_wrap ?_
    rw [hA]
    refine wpAny_onRaise ?_
    obtain ⟨m, im, mu, R'⟩ := _root_.id R
    obtain ⟨z1, _⟩ := R'.rawAt (D := D) (by rw [hr]; exact .head _)
    obtain ⟨z2, _⟩ := R'.rawAt (D := I) (by rw [hr]; exact .tail _ (.head _))
    refine wpAny_pyNext_enum_endD (Draws.strAscii (A := c'.A.in1) rfl I x t) z1 ⟨io, z2, hio.1, by rw [hio.2, ei]; rfl⟩ fun h' hx' => ?_
    have R1 : RelW c' loc { g with raws := (I, io) :: raws } ts rs s m im mu := { R' with st := R'.st.drop ⟨.refl _, .refl _, .refl _, by rw [hr]; exact List.sublist_cons_self _ _, rfl⟩ }
    obtain ⟨mu', R2⟩ := R1.dropRaw rfl hx' R1.tk
    show SegM w _ _ (.pure (.again (.block [] (envX q sc Lg f cdv [])))) _ _ P
    refine X.s_again PG w.w _ _ _ P _ _ rfl ?_
    refine X.s_pop PG w.w _ _ _ P _ (.ok .next) _ rfl _ _ _ _ _ _ _ ?_
    rw [hk1]
    rw [← env0] at hA0 ⊢
    refine hpost c' _ _ _ hA0 rfl rfl K0 H0 (i - 1) b loc { g with raws := raws } ts rs P he (fun e => hpos (hb e)) ?_ _ ⟨m, im, mu', R2⟩
    have hdr : x.cps.toList.drop i = [] := List.drop_of_length_le (by rw [ei]; exact Nat.le_of_eq (Array.length_toList))
    rw [hdr] at acc
    cases b with
    | false =>
      intro loc' s' R3
      rw [hK0]
      exact X.s_end PG w.w _ _ P _ (.ok (.ret .none)) _ rfl (acc loc' s' R3)
    | true =>
      intro v s' l k q2 R3 hres
      refine acc v l k _ q2 _ loc [] s' R3 rfl ?_
      refine Goes.inside (q := q) (f := f) (cdv := cdv) hks (.inr ⟨k, l, q2, false, rfl, rfl⟩) hLg fun c2 W2 hL2 g2 raws2 ts2 rs2 P2 hr2 acc2 => ?_
      have e2 := env_eq c2 hL2
      refine hres c2 (e2.trans env0.symm) ?_ g2 ts2 rs2 P2 fun loc3 s3 R3 => ?_
      · rw [env0, ← e2]; exact W2.func body0
      · rw [hK0]
        refine X.s_end PG w.w _ _ P2 _ (.ok (.ret .none)) _ rfl (acc2 loc3 s3 ?_)
        rw [List.nil_append] at hr2
        rw [← hr2]; exact R3
  | succ n ih =>
    intro i b c' hn hi W hL loc g raws old io ts rs P hr hio he hb hpos acc s R
    have hlt : i < x.length := by (first | lia | omega)
    have env0 := env_eq c' hL
    have hA := W.loop body0 (.Tuple elts ctx pp) (.ref D) lb [] k1 qp
    rw [env0] at hA
    show SegM w _ _ ((forTurn (.Tuple elts ctx pp) (.ref D) lb [] (envX q sc Lg f cdv [])).onRaise _) _ s P
    rw [Sem.onRaise_eq_wrap]
    show SegM w _ _ (.at _ fun _ => (((pyNext (.ref D)).onRaise _ >>= _).wrap .pure _ id id)) _ s P
    refine x_at ?_
    rw [Sem.bind_eq_wrap', Sem.wrap_wrap]
    refine x_wrap ?_
    rw [hA]
    refine wpAny_onRaise ?_
    obtain ⟨m, im, mu, R'⟩ := _root_.id R
    have mD : (D, enumO I i old) ∈ g.raws := by rw [hr]; exact .head _
    have mI : (I, io) ∈ g.raws := by rw [hr]; exact .tail _ (.head _)
    obtain ⟨z1, zL, z0, _⟩ := R'.rawAt mD
    obtain ⟨z2, _⟩ := R'.rawAt mI
    have hDI : D ≠ I := by
      have := R'.st.rnd
      rw [hr, List.map_cons, List.map_cons, List.nodup_cons] at this
      intro e; exact this.1 (e ▸ .head _)
    refine wpAny_pyNext_enum_itemD (Draws.strAscii (A := c'.A.in1) rfl I x t) z1 ⟨io, z2, hio.1, hio.2⟩ hlt hDI (by simpa using hDI) fun v h' tk ⟨ch, u, hch, hv⟩ hout hit htup hsz hkp => ?_
    subst hv
    obtain ⟨io', y1, y2, y3⟩ := hit
    have hok1 : rawOk D (enumP I ((i : Int) + 1) (.str ⟨#[ch]⟩ u) s.heap.objs.size) = true := rawOk_fields (R'.st.raws _ _ mD).2 rfl
    have hok2 : rawOk I io' = true := rawOk_fields (R'.st.raws _ _ mI).2 y3
    have R2 := R'.step2 (tk := tk + 1) hr hok1 hok2 hkp hout y1 (Nat.succ_pos _)
    have hLs : c'.L < s.heap.objs.size := R'.fr.ns.lt
    have h0 : c'.h₀.get? s.heap.objs.size = none := by
      cases q : c'.h₀.get? s.heap.objs.size with
      | none => rfl
      | some o => exact absurd (Nat.lt_trans (Nat.lt_of_lt_of_le (Heap.lt_size q) R'.fr.above) hLs) (Nat.lt_irrefl _)
    have lt2 : ∀ p ∈ im ++ (setL I io' (setL D (enumP I ((i : Int) + 1) (.str ⟨#[ch]⟩ u) s.heap.objs.size) mu) ++ rs), p.1 < s.heap.objs.size := fun p hp => by
      have hmem : p.1 ∈ (im ++ (mu ++ rs)).map (·.1) := by
        have : p.1 ∈ (im ++ (setL I io' (setL D (enumP I ((i : Int) + 1) (.str ⟨#[ch]⟩ u) s.heap.objs.size) mu) ++ rs)).map (·.1) := List.mem_map_of_mem hp
        simpa only [List.map_append, setL_fst] using this
      obtain ⟨r, hr, e⟩ := List.mem_map.mp hmem
      exact e ▸ R'.lt_size r hr
    have R3 := R2.pushI (a := s.heap.objs.size) (o := tupO [.int i tk, .str ⟨#[ch]⟩ u] 0) R2.fr (fun p hp => (List.mem_cons.mp hp).elim (fun e => by subst e; exact ⟨htup, Nat.ne_of_gt hLs, h0⟩) (R2.nw p)) lt2 (Nat.succ_pos tk)
    have R4 := R3.temp (v := .ref s.heap.objs.size) (pv := .tup [.int i, .str ⟨#[ch]⟩]) (.tup (.head _) (.cons (.int _ _) (.cons (.str _ _) .nil)))
    show SegM w _ _ ((letOwnedTupleGo (.Tuple elts ctx pp) (.ref D) (.ref s.heap.objs.size) >>= _).wrap .pure _ id id) _ _ P
    rw [Sem.bind_eq_wrap', Sem.wrap_wrap]
    refine x_wrap ?_
    rw [hA]
    refine wpAny_letOwnedTupleGo_enum hout fun h2 hen hsb => ?_
    have R5 := R4.stepRaw (D := D) (o' := enumO I ((i : Int) + 1) (.str ⟨#[ch]⟩ u)) (rw' := (D, enumO I ((i : Int) + 1) (.str ⟨#[ch]⟩ u)) :: (I, io') :: raws) .head (rawOk_fields hok1 rfl) hsb hen R4.tk
    show SegM w _ _ ((assign (.Tuple elts ctx pp) (envX q sc Lg f cdv []) (.ref s.heap.objs.size) >>= _).wrap .pure _ id id) _ _ P
    rw [Sem.bind_eq_wrap', Sem.wrap_wrap]
    refine x_wrap ?_
    rw [hA]
    rw [← env0]
    refine hasg c' i ⟨#[ch]⟩ loc { g with raws := (D, enumO I ((i : Int) + 1) (.str ⟨#[ch]⟩ u)) :: (I, io') :: raws } (fun l2 g2 => l2 = (("ch" : MStr), PV.str ⟨#[ch]⟩) :: (("pos" : MStr), PV.int i) :: loc ∧ g2 = { g with raws := (D, enumO I ((i : Int) + 1) (.str ⟨#[ch]⟩ u)) :: (I, io') :: raws }) ⟨rfl, rfl⟩ _ rs _ _ _ _ ⟨m, _, _, R5⟩ (.head _) fun l2 g2 s2 R6 hk => ?_
    obtain ⟨rfl, rfl⟩ := hk
    have hcd : x.cps.toList.drop i = ch :: x.cps.toList.drop (i + 1) := by
      have hl : i < x.cps.toList.length := by rw [Array.length_toList]; exact hlt
      rw [List.drop_eq_getElem_cons hl]
      congr 1
      have := Array.getElem?_eq_some_iff.mp hch
      obtain ⟨h3, h4⟩ := this
      rw [Array.getElem_toList]; exact h4
    have step : ∀ (c2 : Cx w ⟨q, sc, f, cdv, []⟩) (W2 : Within c2 c) (hL2 : c2.L = Lg) b' loc' g2 raws2 ts2 rs2 P2, g2.raws = (D, enumO I ((i : Int) + 1) (.str ⟨#[ch]⟩ u)) :: (I, io') :: raws2 → Has loc' "escape" (.bool b') → Has loc' "pos" (.int i) → AccI c c2 Lg (escL (i + 1) b' (x.cps.toList.drop (i + 1))) g2 raws2 ts2 rs2 P2 →
        SegT c2 c.A.in1 (.forLoop (.Tuple elts ctx pp) (.ref D) lb [] (envX q sc Lg f cdv [])) [.ret k1 .none false [] (.func body0 (envX q sc Lg f cdv [])) qp []] (.pure (.again (.forLoop (.Tuple elts ctx pp) (.ref D) lb [] (envX q sc Lg f cdv [])))) loc' g2 ts2 rs2 P2 :=
      fun c2 W2 hL2 b' loc' g2 raws2 ts2 rs2 P2 hr2 he2 hp2 acc2 s2 R2 => X.s_again PG w.w _ _ _ P2 _ _ rfl (ih (i + 1) b' c2 (by (first | lia | omega)) hlt W2 hL2 loc' g2 raws2 _ io' ts2 rs2 P2 hr2 ⟨y2, y3⟩ he2 (fun _ => Nat.succ_pos _) (fun _ => hp2) acc2 s2 R2)
    rw [hcd] at acc
    show SegM w _ _ ((execs lb c'.env >>= _).wrap .pure _ id id) _ _ P
    rw [Sem.bind_eq_wrap', Sem.wrap_wrap]
    rw [← env0] at hA step
    refine hturn c' _ _ _ hA rfl rfl _ _ i b ch (((("ch" : MStr), PV.str ⟨#[ch]⟩) :: (("pos" : MStr), PV.int i) :: loc) : Loc) _ ts rs P he rfl rfl ?_ _ (R6.weaken tl1)
    cases b with
    | true =>
      intro v s' l k q2 R7 hres
      refine acc v l k _ q2 _ _ [(D, enumO I ((i : Int) + 1) (.str ⟨#[ch]⟩ u)), (I, io')] s' R7 rfl ?_
      refine Goes.inside (q := q) (f := f) (cdv := cdv) hks (.inr ⟨k, l, q2, false, rfl, rfl⟩) hLg fun c2 W2 hL2 g2 raws2 ts2 rs2 P2 hr2 acc2 => ?_
      have e2 := (env_eq c2 hL2).trans env0.symm
      refine hres c2 e2 ?_ g2 ts2 rs2 P2 fun loc3 h3 h4 => step c2 W2 hL2 false loc3 g2 raws2 ts2 rs2 P2 hr2 h3 h4 acc2
      rw [← e2]; exact W2.loop body0 _ _ lb [] k1 qp
    | false =>
      by_cases hc : ch = 92
      · have e1 : outT i false ch = none := by rw [outT, if_pos hc]
        rw [e1]
        rw [escL, if_pos hc] at acc
        exact fun loc' h3 h4 => step c' W hL true loc' _ raws ts rs P rfl h3 h4 acc
      · have e1 : outT i false ch = some (escG i ch) := by rw [outT, if_neg hc]
        rw [e1]
        rw [escL, if_neg hc] at acc
        intro v s' l k q2 R7 hres
        refine acc v l k _ q2 _ _ [(D, enumO I ((i : Int) + 1) (.str ⟨#[ch]⟩ u)), (I, io')] s' R7 rfl ?_
        refine Goes.inside (q := q) (f := f) (cdv := cdv) hks (.inr ⟨k, l, q2, false, rfl, rfl⟩) hLg fun c2 W2 hL2 g2 raws2 ts2 rs2 P2 hr2 acc2 => ?_
        have e2 := (env_eq c2 hL2).trans env0.symm
        refine hres c2 e2 ?_ g2 ts2 rs2 P2 fun loc3 h3 h4 => step c2 W2 hL2 false loc3 g2 raws2 ts2 rs2 P2 hr2 h3 h4 acc2
        rw [← e2]; exact W2.loop body0 _ _ lb [] k1 qp
end loop
end Mine
set_option maxHeartbeats 8000000
namespace Mine
variable {w : Wd} {fs fg : FS} {c : Cx w fs} {c' : Cx w fg} {env : Env} {loc : Loc} {g : GS}
noncomputable abbrev escX (x : MStr) : List PV := escL 0 false x.cps.toList
theorem bs_eq (ch : Nat) : ((⟨#[ch]⟩ : MStr) == Str.ofString "\\") = decide (ch = 92) := by
  have : Str.ofString "\\" = ⟨#[92]⟩ := rfl
  rw [this]
  by_cases h : ch = 92
  · subst h; rfl
  · rw [decide_eq_false h]
    simp [h]
theorem Goes.begin {q : MStr} {sc : Scope} {f : Addr} {cdv : MVal} {Lg : Addr} {gl : Loc} {body : List Stmt} {items : List PV} (hL : c.L < Lg)
    (h : ∀ c' : Cx w ⟨q, sc, f, cdv, []⟩, Within c' c → c'.L = Lg → ∀ g raws ts rs P, g.raws = raws → AccI c c' Lg items g raws ts rs P → ∀ (K0 : Flow → Sem Fin) (H0 : MVal → Sem Fin), K0 .next = .pure (.done (.ret .none)) → SegT c' c.A.in1 (.func body c'.env) [] ((execs body c'.env).wrap K0 H0 id id) gl g ts rs P)
    (hk : sc.kind = .function := by rfl) : Goes c items (.fresh (.func body (envX q sc Lg f cdv []))) (Lg, gl) [] := by
  refine Goes.inside (q := q) (f := f) (cdv := cdv) hk (.inl ⟨rfl, rfl, rfl⟩) hL fun c' W hcL g raws ts rs P hr acc s R => ?_
  have env0 := env_eq c' hcL
  rw [← env0]
  show SegM w _ _ (.point [] fun _ => ((execs body c'.env).onRaise (leaving c'.env)) >>= _) _ s P
  refine x_point ?_
  rw [Sem.onRaise_eq_wrap, Sem.bind_eq_wrap', Sem.wrap_wrap]
  exact h c' W hcL g raws ts rs P hr acc _ _ rfl s R
theorem E_esc {nm : MStr} {np pos : Pos} {e : PySem.Expr} {Φ : PV → GS → Prop} (hd : c.dp ≤ 900) (hf : EvalV c c.env (.Name nm np) loc g fun p g0 => p = .st (.ref 48) ∧ EvalV c c.env e loc g0 fun p g1 => ∃ x : MStr, p = .str x ∧ x.cps.all (· < 128) = true ∧
      ∀ G ns gs q1 q2 t t', gs.bare = true → Goes c (escX x) gs ns [] → Φ (.st (.ref G)) { g1 with nss := ns :: g1.nss, raws := (G, genO g1.gens.size q1 q2 t t') :: g1.raws, gens := g1.gens.push gs })
    (hc : eval (.Call (.Name nm np) [e] [] pos) c.env = (do callWith pos (← eval (.Name nm np) c.env) [] (backTo pos (starEach [e] c.env)) (backToKw pos (keywordEach [] c.env))) := by rfl)
    (he : starEach [e] c.env = (false, eval e c.env) :: starEach [] c.env := by rfl) : EvalV c c.env (.Call (.Name nm np) [e] [] pos) loc g Φ := by
  refine' E_call_gen (f := 48) ?ho ?hcd rfl hd ?h ?c1 ?c2 ?c3 ?c4 hc he
  case ho => exact rfl
  case hcd => exact rfl
  case c1 => exact rfl
  case c2 => exact rfl
  case c3 => exact rfl
  case c4 => decide
  case h =>
    refine hf.mono fun p g0 hp => ⟨hp.1, A_cons (hp.2.mono fun p g1 hp => A_nil ?_) he⟩
    obtain ⟨x, rfl, hx, hΦ⟩ := hp
    refine ⟨[("addr", .str x)], fun vs hv => ?_, fun G Lg t t' hL => hΦ _ _ _ _ _ _ _ rfl ?_⟩
    · obtain ⟨v, rfl⟩ := len1 hv
      exact ⟨[("addr", v)], fun S => by kernel_rfl, rfl, fun imm h1 => LocOk.of_binds (ns := ["addr"]) rfl (by decide) ⟨rfl, h1 (v, .str x) (by simp), trivial⟩⟩
    · refine Goes.begin hL fun c' W hcL g raws ts rs P hr acc K0 H0 hK0 => ?_
      have hA := W.func
      refine y_cons (y_exec (hA _) (S_assign (E_int ⟨rfl, ?_⟩)))
      refine y_cons (y_exec (hA _) (S_assign (E_bool ⟨rfl, ?_⟩)))
      refine y_cons (y_for (hA _) rfl rfl ?_)
      refine E_call_ty (d := c'.dp + c'.un) (by (first | lia | omega)) (by (first | lia | omega)) (E_builtin rfl rfl (by decide) ⟨rfl, A_cons (E_local rfl (A_nil (F_enum hx fun D I o t hio => ?_)))⟩)
      intro v s' R k1 E hk1
      have := R.st (.head _); subst this
      have R := R.weaken tl1
      obtain ⟨m, im, mu, R'⟩ := _root_.id R
      obtain ⟨z1, _⟩ := R'.rawAt (D := D) (.head _)
      refine wpAny_pyIter_enum z1 fun qp => ?_
      subst hcL
      subst hr
      refine gen_loop (x := x) (t := t) rfl hL hx ?turn ?post ?asg hk1 hK0 x.length 0 false c' rfl (Nat.zero_le _) W rfl _ { g with raws := (D, enumO I 0 .none) :: (I, o) :: g.raws } g.raws .none o ts rs P rfl hio rfl (fun h => (nomatch h)) (fun h => absurd h (Nat.lt_irrefl _)) acc s' R
      case asg =>
        intro c2 i y loc g Φ h
        exact AV_tuple (AS_cons (AV_local (AS_cons (AV_local (AS_nil h))))) rfl
      case post =>
        intro c2 A cd fr hA2 hsp hgu K H i b loc g ts rs P he hp hout
        refine y_cons (y_if hA2 (T_name (E_local he (Tr_bool ⟨fun hb => ?_, fun hb => ?_⟩))))
        · subst hb
          refine y_cons (y_yield hA2 hsp hgu rfl (E_tuple (A_cons (E_local (hp rfl) (A_cons (E_str (A_nil ⟨Nat.le_of_ble_eq_true rfl, ?_⟩)))))))
          intro v s' l k q R hk
          refine hout v s' l k q R fun c3 h3 hA3 g2 ts2 rs2 P2 go => ?_
          rw [hk]
          exact go loc
        · subst hb
          exact hout loc
      case turn =>
        intro c2 A cd fr hA2 hsp hgu K H i b ch loc g ts rs P he hp hch hout
        refine y_cons (y_if hA2 (T_name (E_local he (Tr_bool ⟨fun hb => ?_, fun hb => ?_⟩))))
        · subst hb
          refine y_cons (y_yield hA2 hsp hgu rfl (E_tuple (A_cons (E_local hp (A_cons (E_bin (E_str (E_local hch (B_cat (by rw [sizeLine_eq]; exact Nat.le_of_ble_eq_true rfl) (A_nil ⟨Nat.le_of_ble_eq_true rfl, ?_⟩))))) (by with_unfolding_all rfl))))))
          intro v s' l k q R hk
          refine hout v s' l k q R fun c3 h3 hA3 g2 ts2 rs2 P2 go => ?_
          rw [hk]
          rw [← h3]
          refine y_cons (y_exec hA3 (S_assign (E_bool ⟨rfl, ?_⟩)))
          exact go _ rfl hp
        · subst hb
          refine y_cons (y_if hA2 (T_cmp (c2.dp + c2.un) (by (first | lia | omega)) (by (first | lia | omega)) (E_local hch (E_str (C_eqs ⟨_, rfl, fun hb => ?_, fun hb => ?_⟩)))))
          · rw [bs_eq] at hb
            have hb := of_decide_eq_true hb
            rw [outT, if_pos hb] at hout
            refine y_cons (y_exec hA2 (S_assign (E_bool ⟨rfl, ?_⟩)))
            exact hout _ rfl hp
          · rw [bs_eq] at hb
            have hb := of_decide_eq_false hb
            rw [outT, if_neg hb] at hout
            refine y_cons (y_yield hA2 hsp hgu rfl (E_tuple (A_cons (E_local hp (A_cons (E_local hch (A_nil ⟨Nat.le_of_ble_eq_true rfl, ?_⟩)))))))
            intro v s' l k q R hk
            refine hout v s' l k q R fun c3 h3 hA3 g2 ts2 rs2 P2 go => ?_
            rw [hk]
            exact go _ he hp
end Mine
set_option maxHeartbeats 8000000
namespace Mine
noncomputable def escN : Nat → Bool → List Nat → List (Nat × MStr)
  | i, true, [] => [(i - 1, Str.ofString "\\")]
  | _, false, [] => []
  | i, true, ch :: r => (i, Str.ofString "\\" ++ (⟨#[ch]⟩ : MStr)) :: escN (i + 1) false r
  | i, false, ch :: r => if ch = 92 then escN (i + 1) true r else (i, ⟨#[ch]⟩) :: escN (i + 1) false r
noncomputable def unitV (u : Nat × MStr) : PV := .tup [.int u.1, .str u.2]
theorem escL_eq : ∀ (i : Nat) (b : Bool) (l : List Nat), escL i b l = (escN i b l).map unitV
  | i, true, [] => by simp [escL, escN, unitV, escB]
  | i, false, [] => by simp [escL, escN]
  | i, true, ch :: r => by rw [escL, escN, escL_eq (i + 1) false r]; rfl
  | i, false, ch :: r => by
    rw [escL, escN]
    split
    · exact escL_eq (i + 1) true r
    · rw [escL_eq (i + 1) false r]; rfl
noncomputable abbrev unitsX (x : MStr) : List (Nat × MStr) := escN 0 false x.cps.toList
theorem escX_eq (x : MStr) : escX x = (unitsX x).map unitV := escL_eq 0 false _
noncomputable def parenGo : Int → List (Nat × MStr) → Bool
  | n, [] => n == 0
  | n, u :: r => if u.2 == Str.ofString "(" then parenGo (n + 1) r else if u.2 == Str.ofString ")" then (if n - 1 < 0 then false else parenGo (n - 1) r) else parenGo n r
noncomputable def parenP (x : MStr) : Bool := parenGo 0 (unitsX x)

theorem spec_strip {w : Wd} {d : Nat} {g : GS} {x : MStr} {Φ : PV → GS → Prop} (hd : d ≤ 800) (hq : Txt.contains x (Str.ofString "\"") = false) (h : Φ (.str x) g) : CallR w d (.st (.ref 55)) [.str x] [] g Φ := by
  refine' CallR_fn (loc' := [("addr", .str x)]) ?ho ?hcd (by (first | lia | omega)) ?hb ?hk ?h ?c1 ?c2 ?c3
  case ho => exact rfl
  case hcd => exact rfl
  case hk => exact rfl
  case c1 => exact rfl
  case c2 => exact rfl
  case c3 => decide
  case hb =>
    intro vs ks hv hk
    obtain ⟨v, rfl⟩ := len1 hv
    obtain rfl := len0 hk
    exact ⟨[("addr", v)], fun S => by kernel_rfl, rfl, fun imm h1 h2 => LocOk.of_binds (ns := ["addr"]) rfl (by decide) ⟨rfl, h1 (v, .str x) (by simp), trivial⟩⟩
  case h =>
    intro c' hd' hu'
    exact X_cons (S_ift (T_cmp _ hd' hu' (E_str (E_local rfl (C_notin ⟨_, rfl, by rw [hq]; rfl, X_cons (S_ret (E_local rfl h))⟩)))))

theorem spec_paren {w : Wd} {d : Nat} {g : GS} {x : MStr} {Φ : PV → GS → Prop} (hd : d ≤ 700) (hx : x.cps.all (· < 128) = true) (hq : Txt.contains x (Str.ofString "\"") = false) (hok : gensOk g.gens)
    (h : ∀ gn, gensOk gn → Φ (.bool (parenP x)) { g with gens := gn }) : CallR w d (.st (.ref 62)) [.str x] [] g Φ := by
  refine' CallR_fn (loc' := [("addr", .str x)]) ?ho ?hcd (by (first | lia | omega)) ?hb ?hk ?h ?c1 ?c2 ?c3
  case ho => exact rfl
  case hcd => exact rfl
  case hk => exact rfl
  case c1 => exact rfl
  case c2 => exact rfl
  case c3 => decide
  case hb =>
    intro vs ks hv hk
    obtain ⟨v, rfl⟩ := len1 hv
    obtain rfl := len0 hk
    exact ⟨[("addr", v)], fun S => by kernel_rfl, rfl, fun imm h1 h2 => LocOk.of_binds (ns := ["addr"]) rfl (by decide) ⟨rfl, h1 (v, .str x) (by simp), trivial⟩⟩
  case h =>
    intro c' hd' hu'
    refine ExecV.post_drop ?_
    refine X_cons (S_assign (E_call rfl hd' hu' (E_global rfl ⟨rfl, A_cons (E_local rfl (A_nil (spec_strip (by (first | lia | omega)) hq ?_)))⟩)))
    refine X_cons (S_assign (E_int ?_))
    refine X_cons (S_for_gen (by (first | lia | omega)) (E_esc (by (first | lia | omega)) (E_global rfl ⟨rfl, E_local rfl ⟨x, rfl, hx, fun G ns gs q1 q2 t t' hb hgo => ?_⟩⟩)))
    refine ⟨G, _, gs, ns, q1, q2, t, t', escX x, fun i loc ls cs => ∃ n, Has loc "opens" (.int n) ∧ ls = g.lists ∧ cs = g.cells ∧ parenGo n ((unitsX x).drop i) = parenP x, rfl, rfl, rfl, by simp, hok.push hb, hgo, ⟨0, rfl, rfl, rfl, rfl⟩, ⟨?turn, ?done⟩⟩
    case turn =>
      rintro i loc ls cs gn nss raws p hp ⟨n, h1, rfl, rfl, h4⟩ hgn hs1 hs2
      rw [escX_eq, List.getElem?_map] at hp
      obtain ⟨u, hu, rfl⟩ : ∃ u, (unitsX x)[i]? = some u ∧ p = unitV u := by
        cases e : (unitsX x)[i]? with
        | none => rw [e] at hp; cases hp
        | some u => rw [e] at hp; exact ⟨u, rfl, (Option.some.inj hp).symm⟩
      have hdr : (unitsX x).drop i = u :: (unitsX x).drop (i + 1) := by
        have hlt := (List.getElem?_eq_some_iff.mp hu)
        obtain ⟨h5, h6⟩ := hlt
        rw [List.drop_eq_getElem_cons h5, h6]
      rw [hdr, parenGo] at h4
      refine AV_tuple (AS_cons (AV_local (AS_cons (AV_local (AS_nil ?_))))) rfl
      refine X_cons (S_if (T_cmp _ hd' hu' (E_local rfl (E_str (C_eqs ⟨_, rfl, fun hb => ?_, fun hb => ?_⟩)))))
      · rw [if_pos hb] at h4
        refine X_cons (S_aug h1 (E_int (N_add (X_nil (X_nil ⟨_, GLe.rfl, rfl, rfl, rfl, n + 1, rfl, rfl, rfl, h4⟩)))))
      · rw [if_neg (by rw [hb]; decide)] at h4
        refine X_cons (S_if (T_cmp _ hd' hu' (E_local rfl (E_str (C_eqs ⟨_, rfl, fun hb => ?_, fun hb => ?_⟩)))))
        · rw [if_pos hb] at h4
          refine X_cons (S_aug h1 (E_int (N_sub ?_)))
          refine X_cons (S_if (T_cmp _ hd' hu' (E_local rfl (E_int (C_lt ⟨_, rfl, fun hc => ?_, fun hc => ?_⟩)))))
          · rw [if_pos (of_decide_eq_true hc)] at h4
            refine X_cons (S_ret (E_bool ?_))
            refine ⟨{ g with gens := gn }, ⟨.refl _, .refl _, hs1, hs2, rfl⟩, ?_⟩
            have := h gn hgn
            rw [← h4] at this
            exact this
          · rw [if_neg (of_decide_eq_false hc)] at h4
            exact X_nil (X_nil (X_nil (X_nil ⟨_, GLe.rfl, rfl, rfl, rfl, n - 1, rfl, rfl, rfl, h4⟩)))
        · rw [if_neg (by rw [hb]; decide)] at h4
          exact X_nil (X_nil (X_nil ⟨_, GLe.rfl, rfl, rfl, rfl, n, h1, rfl, rfl, h4⟩))
    case done =>
      rintro loc ls cs gn ⟨n, h1, rfl, rfl, h4⟩ hgn
      refine X_nil (X_cons (S_ret (E_cmp _ hd' hu' (E_local h1 (E_int (C_eqi ?_))))))
      rw [escX_eq, List.length_map, List.drop_length, parenGo] at h4
      refine ⟨{ g with gens := gn }, GLe.rfl, ?_⟩
      have := h gn hgn
      rw [← h4] at this
      exact this
end Mine
set_option maxHeartbeats 8000000
namespace Mine
structure WS where
  ways : List (MStr × MStr)
  way : MStr
  piece : MStr
  often : List MStr
  sizes : List Nat
  fresh : Bool
noncomputable def ws0 : WS := ⟨[], Str.ofString "", Str.ofString "", [], [], false⟩
noncomputable def wayEnd (piece u : MStr) : Bool := ((Txt.item piece 0).cps.toList != (Str.ofString "&").cps.toList) || (u == Str.ofString ";")
noncomputable def wayClose (st : WS) : Option WS := match st.sizes, st.often with
  | s :: ss, o :: os => some { st with way := Txt.slice st.way .none (some (s : Int)), sizes := ss, often := os }
  | _, _ => none
noncomputable def wayText (st : WS) (u : MStr) : Option WS :=
  if wayEnd (st.piece ++ u) u then
    match st.often with
    | o :: _ => some { st with way := st.way ++ (st.piece ++ u), ways := (st.way ++ (st.piece ++ u), o) :: st.ways, piece := Str.ofString "" }
    | [] => none
  else some { st with piece := st.piece ++ u }
noncomputable def wayStep (st : WS) (u : MStr) : Option WS :=
  if st.fresh then some { st with often := u :: st.often, fresh := false }
  else if u == Str.ofString "(" then some { st with sizes := st.way.length :: st.sizes, fresh := true }
  else if u == Str.ofString ")" then wayClose st
  else wayText st u
noncomputable def wayRun : WS → List (Nat × MStr) → Option WS
  | st, [] => some st
  | st, u :: r => match wayStep st u.2 with
    | some st' => wayRun st' r
    | none => none
noncomputable def wayV (x : MStr × MStr) : PV := .tup [.str x.1, .str x.2]
noncomputable def waysV (l : List (MStr × MStr)) : List PV := l.reverse.map wayV
noncomputable def strsV (l : List MStr) : List PV := l.reverse.map .str
noncomputable def natsV (l : List Nat) : List PV := l.reverse.map fun (n : Nat) => PV.int n
theorem waysV_cons (x : MStr × MStr) (l : List (MStr × MStr)) : waysV (x :: l) = waysV l ++ [wayV x] := by simp [waysV]
theorem strsV_cons (x : MStr) (l : List MStr) : strsV (x :: l) = strsV l ++ [.str x] := by simp [strsV]
theorem natsV_cons (x : Nat) (l : List Nat) : natsV (x :: l) = natsV l ++ [.int x] := by simp [natsV]
noncomputable def wyLs (aS aO aW : Addr) (st : WS) (ls0 : List (Addr × List PV)) : List (Addr × List PV) := (aS, natsV st.sizes) :: (aO, strsV st.often) :: (aW, waysV st.ways) :: ls0
noncomputable def placed : Nat → List (Nat × MStr) → Prop
  | _, [] => True
  | n, u :: r => 0 < u.2.length ∧ u.1 + 1 = n + u.2.length ∧ placed (n + u.2.length) r
theorem len_cat (a b : MStr) : (a ++ b).length = a.length + b.length := by show (a.cps ++ b.cps).size = _; rw [Array.size_append]; rfl
theorem placed_escN : ∀ (l : List Nat) (i : Nat), placed i (escN i false l) ∧ (0 < i → placed (i - 1) (escN i true l))
  | [], i => ⟨trivial, fun h => ⟨Nat.zero_lt_one, by show i - 1 + 1 = i - 1 + 1; rfl, trivial⟩⟩
  | ch :: r, i => by
    refine ⟨?_, fun h => ?_⟩
    · rw [escN]
      split
      · exact (placed_escN r (i + 1)).2 (Nat.succ_pos _)
      · exact ⟨Nat.zero_lt_one, rfl, (placed_escN r (i + 1)).1⟩
    · rw [escN]
      have e : (Str.ofString "\\" ++ (⟨#[ch]⟩ : MStr)).length = 2 := rfl
      refine ⟨by rw [e]; decide, by rw [e]; (first | lia | omega), ?_⟩
      rw [e]
      have : i - 1 + 2 = i + 1 := by (first | lia | omega)
      rw [this]
      exact (placed_escN r (i + 1)).1
noncomputable def lenU (l : List (Nat × MStr)) : Nat := (l.map fun u => u.2.length).sum
theorem lenU_escN : ∀ (l : List Nat) (i : Nat) (b : Bool), lenU (escN i b l) = l.length + (if b then 1 else 0)
  | [], i, true => rfl
  | [], i, false => rfl
  | ch :: r, i, true => by
    have := lenU_escN r (i + 1) false
    rw [escN]
    show 2 + lenU _ = _
    rw [this]; simp; (first | lia | omega)
  | ch :: r, i, false => by
    rw [escN]
    split
    · have := lenU_escN r (i + 1) true
      rw [this]; simp
    · have := lenU_escN r (i + 1) false
      show 1 + lenU _ = _
      rw [this]; simp; (first | lia | omega)

theorem TestV.mono {w : Wd} {fs : FS} {c : Cx w fs} {env : Env} {loc : Loc} {g : GS} {e : PySem.Expr} {Φ Φ' : Bool → GS → Prop} (h : TestV c env e loc g Φ) (k : ∀ b g', Φ b g' → Φ' b g') : TestV c env e loc g Φ' :=
  fun ts rs s Q E R q => h ts rs s Q E R fun b g' s' R' f => q b g' s' R' (k _ _ f)
theorem charAt0 {x : MStr} (h : 0 < x.length) : (Txt.charAt x 0).isSome = true := by
  have e : seqIndex? 0 x.length = some 0 := by
    unfold seqIndex?
    simp [h]
  rw [Txt.charAt, e]
  have h : 0 < x.cps.size := h
  simp [h]
theorem spec_ways {w : Wd} {d : Nat} {g : GS} {x : MStr} {st : WS} {Φ : PV → GS → Prop} (hd : d ≤ 700) (hx : x.cps.all (· < 128) = true) (hlen : x.length ≤ 900000) (hok : gensOk g.gens) (hrun : wayRun ws0 (unitsX x) = some st)
    (h : ∀ a gn, gensOk gn → Φ (.lst a) { g with lists := (a, waysV st.ways) :: g.lists, gens := gn }) : CallR w d (.st (.ref 211)) [.str x] [] g Φ := by
  refine' CallR_fn (loc' := [("line", .str x)]) ?ho ?hcd (by (first | lia | omega)) ?hb ?hk ?h ?c1 ?c2 ?c3
  case ho => exact rfl
  case hcd => exact rfl
  case hk => exact rfl
  case c1 => exact rfl
  case c2 => exact rfl
  case c3 => decide
  case hb =>
    intro vs ks hv hk
    obtain ⟨v, rfl⟩ := len1 hv
    obtain rfl := len0 hk
    exact ⟨[("line", v)], fun S => by kernel_rfl, rfl, fun imm h1 h2 => LocOk.of_binds (ns := ["line"]) rfl (by decide) ⟨rfl, h1 (v, .str x) (by simp), trivial⟩⟩
  case h =>
    intro c' hd' hu'
    refine ExecV.post_drop ?_
    refine X_cons (S_assign (E_list (A_nil ⟨Nat.zero_le _, fun aW => ?_⟩)))
    refine X_cons (S_assign (E_str ?_))
    refine X_cons (S_assign (E_str ?_))
    refine X_cons (S_assign (E_list (A_nil ⟨Nat.zero_le _, fun aO => ?_⟩)))
    refine X_cons (S_assign (E_list (A_nil ⟨Nat.zero_le _, fun aS => ?_⟩)))
    refine X_cons (S_assign (E_bool ?_))
    refine X_cons (S_assign (E_int ?_))
    refine X_cons (S_for_gen (by (first | lia | omega)) (E_esc (by (first | lia | omega)) (E_global rfl ⟨rfl, E_local rfl ⟨x, rfl, hx, fun G ns gs q1 q2 t t' hb hgo => ?_⟩⟩)))
    refine ⟨G, _, gs, ns, q1, q2, t, t', escX x, fun i loc ls cs => ∃ (s : WS) (n : Nat), Has loc "ways" (.lst aW) ∧ Has loc "way" (.str s.way) ∧ Has loc "piece" (.str s.piece) ∧ Has loc "often" (.lst aO) ∧ Has loc "sizes" (.lst aS) ∧ Has loc "fresh" (.bool s.fresh) ∧ Has loc "size" (.int n) ∧
      ls = wyLs aS aO aW s g.lists ∧ cs = g.cells ∧ wayRun s ((unitsX x).drop i) = some st ∧ placed n ((unitsX x).drop i) ∧ n + lenU ((unitsX x).drop i) = x.length ∧ s.way.length + s.piece.length ≤ n ∧ s.ways.length ≤ n ∧ s.often.length ≤ n ∧ s.sizes.length ≤ n, rfl, rfl, rfl, by simp, hok.push hb, hgo,
      ⟨ws0, 0, rfl, rfl, rfl, rfl, rfl, rfl, rfl, rfl, rfl, hrun, (placed_escN _ 0).1, ?_, Nat.le_refl _, Nat.le_refl _, Nat.le_refl _, Nat.le_refl _⟩, ⟨?turn, ?done⟩⟩
    · have := lenU_escN x.cps.toList 0 false
      rw [Nat.zero_add]
      refine this.trans ?_
      simp; rfl
    case turn =>
      rintro i loc ls cs gn nss raws p hp ⟨s, n, h1, h2, h3, h4, h5, h6, h7, rfl, rfl, hr, hpl, hl, b1, b2, b3, b4⟩ hgn hs1 hs2
      rw [escX_eq, List.getElem?_map] at hp
      obtain ⟨u, hu, rfl⟩ : ∃ u, (unitsX x)[i]? = some u ∧ p = unitV u := by
        cases e : (unitsX x)[i]? with
        | none => rw [e] at hp; cases hp
        | some u => rw [e] at hp; exact ⟨u, rfl, (Option.some.inj hp).symm⟩
      have hdr : (unitsX x).drop i = u :: (unitsX x).drop (i + 1) := by
        obtain ⟨h5, h6⟩ := List.getElem?_eq_some_iff.mp hu
        rw [List.drop_eq_getElem_cons h5, h6]
      rw [hdr] at hr hpl hl
      obtain ⟨p1, p2, p3⟩ := hpl
      have hl' : n + u.2.length + lenU ((unitsX x).drop (i + 1)) = x.length := by
        rw [← hl]; show _ = n + (u.2.length + lenU _); (first | lia | omega)
      have fin : ∀ (s' : WS) (l3 : Loc), wayStep s u.2 = some s' → Has l3 "ways" (.lst aW) → Has l3 "way" (.str s'.way) → Has l3 "piece" (.str s'.piece) → Has l3 "often" (.lst aO) → Has l3 "sizes" (.lst aS) → Has l3 "fresh" (.bool s'.fresh) → Has l3 "size" (.int ((n + u.2.length : Nat) : Int)) →
          s'.way.length + s'.piece.length ≤ n + u.2.length → s'.ways.length ≤ n + u.2.length → s'.often.length ≤ n + u.2.length → s'.sizes.length ≤ n + u.2.length →
          ∃ g4, GLe g4 (mkG (wyLs aS aO aW s' g.lists) g.cells gn nss raws) ∧ g4.raws = raws ∧ g4.nss = nss ∧ g4.gens = gn ∧ ∃ (s : WS) (n : Nat), Has l3 "ways" (.lst aW) ∧ Has l3 "way" (.str s.way) ∧ Has l3 "piece" (.str s.piece) ∧ Has l3 "often" (.lst aO) ∧ Has l3 "sizes" (.lst aS) ∧ Has l3 "fresh" (.bool s.fresh) ∧ Has l3 "size" (.int n) ∧
            g4.lists = wyLs aS aO aW s g.lists ∧ g4.cells = g.cells ∧ wayRun s ((unitsX x).drop (i + 1)) = some st ∧ placed n ((unitsX x).drop (i + 1)) ∧ n + lenU ((unitsX x).drop (i + 1)) = x.length ∧ s.way.length + s.piece.length ≤ n ∧ s.ways.length ≤ n ∧ s.often.length ≤ n ∧ s.sizes.length ≤ n := by
        intro s' l3 hs k1 k2 k3 k4 k5 k6 k7 c1 c2 c3 c4
        rw [wayRun, hs] at hr
        exact ⟨_, GLe.rfl, rfl, rfl, rfl, s', n + u.2.length, k1, k2, k3, k4, k5, k6, k7, rfl, rfl, hr, p3, hl', c1, c2, c3, c4⟩
      refine AV_tuple (AS_cons (AV_local (AS_cons (AV_local (AS_nil ?_))))) rfl
      refine X_cons (S_assign (E_bin (E_local h7 (E_call_bi hd' hu' (E_builtin rfl rfl (by decide) ⟨rfl, A_cons (E_local rfl (A_nil (F_len_str (by (first | lia | omega)) (B_add ?_))))⟩)))))
      have hsz : ((n : Int) + (u.2.length : Int)) = ((n + u.2.length : Nat) : Int) := by (first | lia | omega)
      rw [hsz]
      show ExecV _ _ _ _ _
      generalize hL : ((("size" : MStr), PV.int ((n + u.2.length : Nat) : Int)) :: (("unit" : MStr), PV.str u.2) :: (("place" : MStr), PV.int u.1) :: loc : Loc) = L
      have e1 : Has L "ways" (.lst aW) := by rw [← hL]; exact h1
      have e2 : Has L "way" (.str s.way) := by rw [← hL]; exact h2
      have e3 : Has L "piece" (.str s.piece) := by rw [← hL]; exact h3
      have e4 : Has L "often" (.lst aO) := by rw [← hL]; exact h4
      have e5 : Has L "sizes" (.lst aS) := by rw [← hL]; exact h5
      have e6 : Has L "fresh" (.bool s.fresh) := by rw [← hL]; exact h6
      have e7 : Has L "size" (.int ((n + u.2.length : Nat) : Int)) := by rw [← hL]; rfl
      have e8 : Has L "unit" (.str u.2) := by rw [← hL]; rfl
      have e9 : Has L "place" (.int u.1) := by rw [← hL]; rfl
      clear hL
      refine X_cons (S_iff (T_cmp _ hd' hu' (E_local e9 (E_bin (E_local e7 (E_int (B_sub (C_nei ⟨_, rfl, ?ne, X_nil ?_⟩))))))))
      case ne =>
        have : (u.1 : Int) = ((n + u.2.length : Nat) : Int) - 1 := by (first | lia | omega)
        rw [this]; simp
      refine X_cons (S_if (T_name (E_local e6 (Tr_bool ⟨fun hb => ?_, fun hb => ?_⟩))))
      · refine X_cons (S_expr (E_meth_list F.slot_list_append (by kernel_rfl) hd' hu' (E_local e4 ⟨_, _, rfl, .tail _ (.head _), A_cons (E_local e8 (A_nil (F_append (.tail .head) (by simp [strsV]; (first | lia | omega)) ?_)))⟩)))
        refine X_cons (S_assign (E_bool (X_nil (X_nil ?_))))
        have := fin { s with often := u.2 :: s.often, fresh := false } ((("fresh" : MStr), PV.bool false) :: L) (by rw [wayStep, if_pos hb]) e1 e2 e3 e4 e5 rfl e7 (Nat.le_trans b1 (Nat.le_add_right _ _)) (Nat.le_trans b2 (Nat.le_add_right _ _)) (by show s.often.length + 1 ≤ n + u.2.length; (first | lia | omega)) (Nat.le_trans b4 (Nat.le_add_right _ _))
        rw [wyLs, strsV_cons] at this
        exact this
      · have hb0 : ¬ s.fresh = true := by rw [hb]; decide
        refine X_cons (S_if (T_cmp _ hd' hu' (E_local e8 (E_str (C_eqs ⟨_, rfl, fun hc => ?_, fun hc => ?_⟩)))))
        · refine X_cons (S_expr (E_meth_list F.slot_list_append (by kernel_rfl) hd' hu' (E_local e5 ⟨_, _, rfl, .head _, A_cons (E_call_bi hd' hu' (E_builtin rfl rfl (by decide) ⟨rfl, A_cons (E_local e2 (A_nil (F_len_str (by (first | lia | omega)) (A_nil (F_append .head (by simp [natsV]; (first | lia | omega)) ?_)))))⟩)) (by with_unfolding_all rfl)⟩)))
          refine X_cons (S_assign (E_bool (X_nil (X_nil (X_nil ?_)))))
          have := fin { s with sizes := s.way.length :: s.sizes, fresh := true } ((("fresh" : MStr), PV.bool true) :: L) (by rw [wayStep, if_neg hb0, if_pos hc]) e1 e2 e3 e4 e5 rfl e7 (Nat.le_trans b1 (Nat.le_add_right _ _)) (Nat.le_trans b2 (Nat.le_add_right _ _)) (Nat.le_trans b3 (Nat.le_add_right _ _)) (by show s.sizes.length + 1 ≤ n + u.2.length; (first | lia | omega))
          rw [wyLs, natsV_cons] at this
          exact this
        · have hc0 : ¬ (u.2 == Str.ofString "(") = true := by rw [hc]; decide
          refine X_cons (S_if (T_cmp _ hd' hu' (E_local e8 (E_str (C_eqs ⟨_, rfl, fun he => ?_, fun he => ?_⟩)))))
          · have hst : wayStep s u.2 = wayClose s := by rw [wayStep, if_neg hb0, if_neg hc0, if_pos he]
            have hsome : ∃ s', wayClose s = some s' := by
              rw [wayRun, hst] at hr
              cases e : wayClose s with
              | none => rw [e] at hr; cases hr
              | some s' => exact ⟨s', rfl⟩
            obtain ⟨s', hs'⟩ := hsome
            obtain ⟨wz, wy, wp, wo, wsz, wf⟩ := s
            match wsz, wo, hs' with
            | z :: zs, o :: os, hs' =>
              have hs'' : s' = ⟨wz, Txt.slice wy .none (some (z : Int)), wp, os, zs, wf⟩ := (Option.some.inj hs').symm
              subst hs''
              have em1 : natsV (z :: zs) = natsV zs ++ [.int z] := natsV_cons z zs
              have em2 : strsV (o :: os) = strsV os ++ [.str o] := strsV_cons o os
              rw [wyLs, em1, em2]
              have hsl := Txt.slice_le wy .none (some (z : Int))
              refine X_cons (S_assign (E_slice_str (E_local e2 ⟨_, rfl, ?q1, E_meth0_list F.slot_list_pop (by kernel_rfl) hd' hu' (E_local e5 ⟨_, _, rfl, .head _, F_pop .head ?q2 ⟨_, rfl, ?_⟩⟩)⟩)))
              case q1 => rw [sizeLine_eq]; have b1 : wy.length + wp.length ≤ n := b1; (first | lia | omega)
              case q2 => have b4 : zs.length + 1 ≤ n := b4; simp [natsV]; (first | lia | omega)
              refine X_cons (S_expr (E_meth0_list F.slot_list_pop (by kernel_rfl) hd' hu' (E_local e4 ⟨_, _, rfl, .tail _ (.head _), F_pop (.tail .head) ?q3 (X_nil (X_nil (X_nil (X_nil ?_))))⟩)))
              case q3 => have b3 : os.length + 1 ≤ n := b3; simp [strsV]; (first | lia | omega)
              have b1 : wy.length + wp.length ≤ n := b1
              have b3 : os.length + 1 ≤ n := b3
              have b4 : zs.length + 1 ≤ n := b4
              exact fin ⟨wz, Txt.slice wy .none (some (z : Int)), wp, os, zs, wf⟩ ((("way" : MStr), PV.str (Txt.slice wy .none (some (z : Int)))) :: L) (hst.trans hs') e1 rfl e3 e4 e5 e6 e7 (by show (Txt.slice wy .none (some (z : Int))).length + wp.length ≤ n + u.2.length; (first | lia | omega)) (Nat.le_trans b2 (Nat.le_add_right _ _)) (by show os.length ≤ n + u.2.length; (first | lia | omega)) (by show zs.length ≤ n + u.2.length; (first | lia | omega))
          · have he0 : ¬ (u.2 == Str.ofString ")") = true := by rw [he]; decide
            have hst : wayStep s u.2 = wayText s u.2 := by rw [wayStep, if_neg hb0, if_neg hc0, if_neg he0]
            have hpl : (s.piece ++ u.2).length = s.piece.length + u.2.length := len_cat _ _
            have hsz1 : s.piece.length + u.2.length ≤ sizeLine := by rw [sizeLine_eq]; (first | lia | omega)
            refine X_cons (S_assign (E_bin (E_local e3 (E_local e8 (B_cat hsz1 ?_)))))
            have hin : (Txt.charAt (s.piece ++ u.2) 0).isSome = true := charAt0 (by rw [hpl]; (first | lia | omega))
            have hwe : wayEnd (s.piece ++ u.2) u.2 = ((Txt.item (s.piece ++ u.2) 0).cps.toList != (Str.ofString "&").cps.toList || (u.2 == Str.ofString ";")) := rfl
            refine X_cons (S_if (TestV.mono (Φ := fun b g' => b = wayEnd (s.piece ++ u.2) u.2 ∧ g' = mkG (wyLs aS aO aW s g.lists) g.cells gn nss raws) (T_or (T_cmp _ hd' hu' (E_sub (E_local rfl (E_int (I_str (by decide) hin (E_str (C_nes ⟨_, rfl, fun ht => ?_, fun ht => T_or (T_cmp _ hd' hu' (E_local e8 (E_str (C_eqs ⟨_, rfl, fun ht2 => ?_, fun ht2 => T_or_nil ?_⟩))))⟩)))))))) ?_))
            · rw [hwe, ht]; exact ⟨rfl, rfl⟩
            · rw [hwe, ht, ht2]; exact ⟨rfl, rfl⟩
            · rw [hwe, ht, ht2]; exact ⟨rfl, rfl⟩
            · rintro b g' ⟨hbw, rfl⟩
              refine ⟨fun hb1 => ?_, fun hb1 => ?_⟩
              · rw [hb1] at hbw
                have hsome : ∃ o os, s.often = o :: os := by
                  rw [wayRun, hst, wayText, if_pos hbw.symm] at hr
                  cases e : s.often with
                  | nil => rw [e] at hr; cases hr
                  | cons o os => exact ⟨o, os, rfl⟩
                obtain ⟨o, os, hos⟩ := hsome
                have hs' : wayStep s u.2 = some { s with way := s.way ++ (s.piece ++ u.2), ways := (s.way ++ (s.piece ++ u.2), o) :: s.ways, piece := Str.ofString "" } := by
                  rw [hst, wayText, if_pos hbw.symm, hos]
                have hwl : (s.way ++ (s.piece ++ u.2)).length = s.way.length + (s.piece.length + u.2.length) := by rw [len_cat, hpl]
                have em2 : strsV s.often = strsV os ++ [.str o] := by rw [hos]; exact strsV_cons o os
                have b3' : os.length + 1 ≤ n := by rw [hos] at b3; exact b3
                rw [wyLs, em2]
                refine X_cons (S_assign (E_bin (E_local e2 (E_local rfl (B_cat (by rw [sizeLine_eq, hpl]; (first | lia | omega)) ?_)))))
                refine X_cons (S_expr (E_meth_list F.slot_list_append (by kernel_rfl) hd' hu' (E_local e1 ⟨_, _, rfl, .tail _ (.tail _ (.head _)), A_cons (E_tuple (A_cons (E_local rfl (A_cons (E_sub (E_local e4 (E_neg (E_int ⟨_, rfl, ?sub⟩)))) (by with_unfolding_all rfl))))) (by with_unfolding_all rfl)⟩)))
                refine I_listn (items := strsV os) (p := .str o) (.tail _ (.head _)) (by simp [strsV]; (first | lia | omega)) (A_nil ⟨Nat.le_of_ble_eq_true rfl, A_nil (F_append (.tail (.tail .head)) (by simp [waysV]; (first | lia | omega)) ?_)⟩)
                refine X_cons (S_assign (E_str (X_nil (X_nil (X_nil (X_nil (X_nil ?_)))))))
                have := fin _ ((("piece" : MStr), PV.str (Str.ofString "")) :: (("way" : MStr), PV.str (s.way ++ (s.piece ++ u.2))) :: (("piece" : MStr), PV.str (s.piece ++ u.2)) :: L) hs' e1 rfl rfl e4 e5 e6 e7 (by show (s.way ++ (s.piece ++ u.2)).length + 0 ≤ _; rw [hwl]; (first | lia | omega)) (by show s.ways.length + 1 ≤ n + u.2.length; (first | lia | omega)) (Nat.le_trans b3 (Nat.le_add_right _ _)) (Nat.le_trans b4 (Nat.le_add_right _ _))
                rw [wyLs, em2, waysV_cons] at this
                exact this
              · rw [hb1] at hbw
                have hs' : wayStep s u.2 = some { s with piece := s.piece ++ u.2 } := by
                  rw [hst, wayText, if_neg (by rw [← hbw]; decide)]
                refine X_nil (X_nil (X_nil (X_nil (X_nil ?_))))
                exact fin { s with piece := s.piece ++ u.2 } ((("piece" : MStr), PV.str (s.piece ++ u.2)) :: L) hs' e1 e2 rfl e4 e5 e6 e7 (by show s.way.length + (s.piece ++ u.2).length ≤ _; rw [hpl]; (first | lia | omega)) (Nat.le_trans b2 (Nat.le_add_right _ _)) (Nat.le_trans b3 (Nat.le_add_right _ _)) (Nat.le_trans b4 (Nat.le_add_right _ _))
    case done =>
      rintro loc ls cs gn ⟨s, n, h1, _, _, _, _, _, _, rfl, rfl, hr, _⟩ hgn
      rw [escX_eq, List.length_map, List.drop_length, wayRun] at hr
      have hr := Option.some.inj hr
      subst hr
      refine X_nil (X_cons (S_ret (E_local h1 ?_)))
      exact ⟨{ g with lists := (aW, waysV s.ways) :: g.lists, gens := gn }, ⟨(List.sublist_cons_self _ _).trans (List.sublist_cons_self _ _), .refl _, .refl _, .refl _, rfl⟩, h aW gn hgn⟩
end Mine
set_option maxHeartbeats 4000000
namespace Mine
noncomputable abbrev tabs2 : List (Addr × Addr) := [(193, 189), (186, 184)]
theorem goodG_true {cw : ClaimW} {cl : MStr → Option Addr} {mean : ExcName → Option MVal} {args : List WData} {tabs : List (Addr × Addr)} {s₁ s' : Shared} (hT : TabsAt tabs s₁.heap) (hr : ∀ a x, cw.raises a x = false) (hp : cw.post args (.bool true) args = true)
    (hk : ∀ b o, (ghostOf s₁.heap tabs).get? b = some o → s'.heap.get? b = some o) (hos : s'.os = s₁.os) (hg : AllBare s'.gens) (hgr : GrownAll tabs s'.heap) : GoodWG cw cl mean args s₁ (.ok (.ret (.bool true))) s' := by
  have keep : ∀ b o, b ∉ tabs.map (·.2) → s₁.heap.get? b = some o → s'.heap.get? b = some o := fun b o hb e => hk b o (ghost_ne e hb)
  have grown : ∀ b o, b ∈ tabs.map (·.2) → s₁.heap.get? b = some o → isCodeTable s₁.heap b ∧ o = tabObj #[] ∧ ∃ ps, s'.heap.get? b = some (tabObj ps) := fun b o hb e => by
    obtain ⟨q, hq, rfl⟩ := List.mem_map.mp hb
    have e2 := (hT q hq).2
    rw [e] at e2
    exact ⟨((hT q hq).1.tab (hT q hq).2).isCodeTable, Option.some.inj e2, hgr.get q hq⟩
  refine ⟨.inl ⟨_, .bool true, [], rfl, fun x => hr _ x, .bool true, hp, fun _ => ⟨.nil, fun _ h => (nomatch h)⟩⟩, ⟨fun b o e => ?_, fun b o e => ?_⟩, hos, hg⟩
  · by_cases hb : b ∈ tabs.map (·.2)
    · obtain ⟨ht, rfl, ps, hP⟩ := grown b o hb e
      exact .inr (.inl ⟨ht, rfl, #[], ps, rfl, by rw [Array.empty_append]; exact hP⟩)
    · exact .inl (keep b o hb e)
  · by_cases hb : b ∈ tabs.map (·.2)
    · obtain ⟨_, _, ps, hP⟩ := grown b o hb e
      exact ⟨_, hP⟩
    · exact ⟨o, keep b o hb e⟩

theorem env_one {M : Model} {A : Around} {E : MVal → Shared → Prop} {s : Shared} {scope : Scope} {globals : Addr} {n : MStr} {v : MVal} {qual : MStr} {func : Option Addr} {code : MVal} {builtins : Addr} {Q : Env → Shared → Prop} (hk : scope.kind = .function) (hn : scope.names.lookup n = some .local)
    (hQ : ∀ env, env = newEnv scope s.heap.objs.size globals (cellsFrom (s.heap.objs.size + 1) scope.names []) qual func code none builtins →
      ∀ s', InCallC s env.locals (fun y => if y = n then some v else none) env.cells (fun _ => none) s' → 0 < s'.toks → Q env s') :
    wpAny M A (newFunctionEnv scope globals [] [(n, v)] qual func code none builtins) Q E s := by
  simp only [newFunctionEnv, Option.isSome_none, Bool.false_eq_true, if_false]
  refine wpAny_bind (wpAny_alloc ?_)
  refine wpAny_bind (wpAny_layCells _ (fun name kind cells => by cases hkc : kind == NameKind.cell <;> simp [hkc]) _ _ _ _ ?_)
  have ok := cellsFrom_ok scope.names (s.heap.push { cls := .type "frame", data := .dict #[] }) (s.heap.objs.size + 1) [] ⟨fun _ _ hm => (nomatch hm), List.Pairwise.nil⟩ (by rw [Heap.size_push]; exact Nat.le_refl _)
  rw [Heap.size_push] at ok
  rw [show ({ s with heap := s.heap.push { cls := .type "frame", data := .dict #[] } } : Shared).heap.objs.size = s.heap.objs.size + 1 from Heap.size_push ..]
  have hns := (Heap.Ns.new s.heap (.type "frame")).keeps (pushCells_keeps scope.names (s.heap.push { cls := .type "frame", data := .dict #[] }))
  rw [List.forIn_cons]
  refine wpAny_bind (wpAny_bind (wpAny_bind ?_))
  refine wpAny_storeName_local (env := newEnv scope s.heap.objs.size globals (cellsFrom (s.heap.objs.size + 1) scope.names []) qual func code none builtins) hn hns (fun h' hn' hs' => ?_) (by show (scope.kind == .class || (scope.kind == .module && _)) = false; rw [hk]; rfl)
  refine wpAny_pure ?_
  dsimp only
  rw [List.forIn_nil]
  refine wpAny_pure (wpAny_pure (hQ _ rfl _ ⟨⟨⟨h', _, rfl⟩, hn', fun b o e => ?_, Nat.le_refl _⟩, fun k c' hk' => ?_, ok.apart, fun n c hm => (ok.empty n c hm).2⟩ (Nat.succ_pos _)))
  · exact hs'.extBut b o (Nat.ne_of_lt (Heap.lt_size e)) (pushCells_keeps _ _ b o (Heap.get?_push_of_some _ e))
  · have hm := mem_of_lookup hk'
    exact ((ok.empty k c' hm).1).sameBut hs' (Nat.ne_of_gt (ok.empty k c' hm).2)

section
variable {w : Wd} {s₁ : Shared} {fa : Addr} {o : Obj} {fd : FuncData} {body : List Stmt} {p : Program} {loose : List MStr} {mean : ExcName → Option MVal} {mg mb : MStr → Option MVal} {R : Result → Shared → Prop} {vs : List MVal}
theorem top_call (X : (KK w).In s₁.heap) (T : Top p loose mean mg mb s₁.heap) (hT : TabsAt tabs2 s₁.heap) (ho : s₁.heap.get? fa = some o) (hd : o.data = .func fd) (hbody : fd.body = .stmts body) (hcd : s₁.heap.CodeRec fd.code fd.qualname)
    (hbind : BindsTo s₁ fd ⟨[.ref w.sc], []⟩ [("script", .ref w.sc)]) (hglob : fd.globals = mainGlobals) (hclo : fd.closure = []) (hbi : fd.builtins = builtinsNs) (hlist : s₁.heap.IsList w.sc vs.toArray) (hI : IntsAre vs w.ns) (hg : s₁.gens = #[])
    (hn : fd.scope.names.lookup ("script" : MStr) = some NameKind.local)
    (h : ∀ (L : Addr) (c : Cx w ⟨fd.qualname, fd.scope, fa, fd.code, cellsFrom (L + 1) fd.scope.names []⟩), c.dp = 302 → c.un = 7 → ExecV c body [("script", .st (.ref w.sc))] ⟨[], (cellsFrom (L + 1) fd.scope.names []).map fun x => (x.2, none), [], [], #[]⟩ fun fv _ g' => retP fv = .bool true ∧ gensOk g'.gens)
    (hR : ∀ s', (∀ b o, (ghostOf s₁.heap tabs2).get? b = some o → s'.heap.get? b = some o) → s'.os = s₁.os → AllBare s'.gens → GrownAll tabs2 s'.heap → R (.ok (.ret (.bool true))) s')
    (hco : fd.scope.isCoroutine = false) (hgen : fd.scope.isGenerator = false) (hk : fd.scope.kind = .function) (hnd' : decide ((cellsFrom 0 fd.scope.names []).map (·.1)).Nodup = true) : codeAny (M0 w) callerA (.call (.ref fa) ⟨[.ref w.sc], []⟩) R s₁ := by
  have hnd := of_decide_eq_true hnd'
  refine codeAny_call_function (by decide) ho hd hco hgen hbody hcd (hbind _ _ _ _ ?_)
  rw [hglob, hclo, hbi]
  refine env_one hk hn fun env he s' x htk => ?_
  subst he
  refine ⟨T.nolimit.keeps x.toInCall.keep, codeAny_func ?_⟩
  obtain ⟨h₁, tk, rfl, hk₁⟩ := x.done
  have look : ∀ n c, (n, c) ∈ cellsFrom (s₁.heap.objs.size + 1) fd.scope.names [] → (cellsFrom (s₁.heap.objs.size + 1) fd.scope.names []).lookup n = some c :=
    fun n c hm => lookup_of_mem_nodup (cellsFrom_names fd.scope.names 0 (s₁.heap.objs.size + 1) [] [] rfl ▸ hnd) hm
  obtain ⟨cells, NC, Y⟩ := Cl.news (h₀ := s₁.heap) (Nat.le_refl _) fun n c hm => ⟨x.cell n c (look n c hm), x.above n c hm⟩
  have FF : Fr s₁.heap s₁.heap.objs.size h₁ _ := ⟨x.toInCall.ns, hk₁, Nat.le_refl _⟩
  have FG := ghost_fr hT FF
  have NG := ghost_news hT FF NC
  have lG := ghost_lt hT FF
  have hds : Heads (ghostOf s₁.heap tabs2) := ⟨(ghost_code hT).1, (ghost_code hT).2.1⟩
  let c0 : Cx w ⟨fd.qualname, fd.scope, fa, fd.code, cellsFrom (s₁.heap.objs.size + 1) fd.scope.names []⟩ := { dp := 302, un := 7, gd := some [], L := s₁.heap.objs.size, outer := [], A₀ := callerA, base := ghostOf s₁.heap tabs2, h₀ := ghostOf s₁.heap tabs2, loose := _, mean := mean, mg := mg, mb := mb, dr := s₁.drawn, os := s₁.os, below := ghost_below hT, kin := ghost_K hT X (by kernel_rfl), top := ghost_top hT T, hds := hds, scr := ⟨vs, ghost_list hT hlist, hI⟩, kind := hk }
  have hcells : ∀ cs : List (MStr × Addr), CellsV [] (fun _ => none) cs (cs.map fun x => (x.2, none)) := fun cs => by
    induction cs with
    | nil => trivial
    | cons a r ih => exact ⟨rfl, rfl, ih⟩
  obtain ⟨e1, e2, e3⟩ := CellsV.store (mu := tabNews tabs2) Y (hcells _)
  have big : ∀ p ∈ cells, s₁.heap.objs.size < p.1 := fun p hp => by
    have : p.1 ∈ (cellsFrom (s₁.heap.objs.size + 1) fd.scope.names []).map (·.2) := e1 ▸ List.mem_map_of_mem hp
    obtain ⟨q, hq, e⟩ := List.mem_map.mp this
    exact e ▸ x.above q.1 q.2 hq
  have cnd : (cells.map (·.1)).Nodup := e1 ▸ nodup_of_pairwise x.apart
  have R0 : RelW c0 [("script", .st (.ref w.sc))] ⟨[], (cellsFrom (s₁.heap.objs.size + 1) fd.scope.names []).map fun x => (x.2, none), [], [], #[]⟩ [] [] { s₁ with heap := h₁, toks := tk } _ [] (cells ++ tabNews tabs2) :=
    { fr := FG
      nw := by rw [List.append_nil]; exact NG
      nd := by
        rw [List.append_nil, List.nil_append, List.map_append, List.nodup_append]
        refine ⟨cnd, by decide, ?_⟩
        rintro a ha b hb rfl
        obtain ⟨p, hp, rfl⟩ := List.mem_map.mp ha
        obtain ⟨r, hr, e⟩ := List.mem_map.mp hb
        exact Nat.lt_irrefl _ (Nat.lt_trans (big p hp) (e ▸ lG r hr))
      loc := fun y pv hy => by
        rw [List.lookup_cons] at hy
        split at hy
        · rename_i e
          have := eq_of_beq e; subst this
          cases hy
          exact ⟨.ref w.sc, by simp, .st _⟩
        · cases hy
      st :=
        { lists := fun _ _ h => (nomatch h), lnd := .nil, nss := fun _ _ h => (nomatch h), nnd := .nil, raws := fun _ _ h => (nomatch h), rnd := .nil
          cells := e3
          cnd := by show ((List.map _ _).map _).Nodup; rw [e2, ← e1]; exact cnd
          tabs := fun a q hq => by
            refine ⟨#[], List.mem_append_right _ ?_, ⟨trivial, fun pos v e => (nomatch e)⟩⟩
            rcases List.mem_cons.mp hq with e | hq
            · cases e; exact .head _
            · have := List.mem_singleton.mp hq; cases this; exact .tail _ (.head _) }
      temps := fun _ h => (nomatch h), tk := htk, gens := hg, dr := rfl, os := rfl }
  refine h s₁.heap.objs.size c0 rfl rfl [] [] _ _ _ ⟨_, [], _, R0⟩ fun fl fv us loc' g' s' a R' ⟨p1, p2⟩ => ?_
  cases a with
  | next => cases p1
  | brk => cases p1
  | cont => cases p1
  | ret v pv =>
    have p1 : pv = .bool true := p1
    subst p1
    have hv := R'.bool (.head _)
    subst hv
    obtain ⟨m, im, mu, R'⟩ := R'
    refine hR s' R'.fr.keep R'.os (by rw [R'.gens]; exact p2) ?_
    have gt : ∀ a q, (a, q) ∈ tabList → GrownAt a s'.heap := fun a q hq => by
      obtain ⟨ps, hm, _⟩ := R'.st.tabs a q hq
      exact ⟨ps, (R'.nw _ (List.mem_append_right im (List.mem_append_left [] hm))).1⟩
    exact ⟨gt 189 _ (.head _), gt 184 _ (.tail _ (.head _)), trivial⟩
end
end Mine
set_option maxHeartbeats 8000000
namespace Mine
noncomputable def sgL (ns : List Int) : List MStr := signsP ns 6
noncomputable def oddL (ns : List Int) : Int := ns.sum.fmod 2
noncomputable def wsL (ns : List Int) : List MStr := (sgL ns).map (handP (oddL ns))
noncomputable def dsL (ns : List Int) : List MStr := (sgL ns).map (dueP (oddL ns))
noncomputable def tlL (ns : List Int) : List MStr := tailsP (wsL ns) 6
noncomputable def rowL (ns : List Int) : List Nat := rowN (fun k => (tlL ns).getD k Str.empty) (List.range 6)
noncomputable def againL (ns : List Int) : List Nat := rowN (fun k => (wsL ns).getD k Str.empty) (behindP (rowL ns))
noncomputable def RL (ns : List Int) : RSt := runR (tailsP (dsL ns) 6) (tlL ns) (rowL ns) (uptoP (dsL ns) 6)
noncomputable def restsL (ns : List Int) : List MStr := (rowL ns).map fun k => (tlL ns).getD k Str.empty
noncomputable def cutsP (rests : List MStr) (p : MStr) : Nat := bsL (fun k => decide ((rests.getD k Str.empty).cps.toList < p.cps.toList)) rests.length 0 rests.length
noncomputable def rotP (x : MStr) : MStr := Txt.slice x (some 1) .none ++ Txt.slice x .none (some 1)
structure LineOK (line : MStr) (due : List (MStr × MStr)) : Prop where
  asc : line.cps.all (· < 128) = true
  quo : Txt.contains line (Str.ofString "\"") = false
  len : line.length ≤ 100000
  par : parenP line = true
  rasc : (rotP line).cps.all (· < 128) = true
  rquo : Txt.contains (rotP line) (Str.ofString "\"") = false
  rpar : parenP (rotP line) = false
  oasc : (line ++ Str.ofString "(").cps.all (· < 128) = true
  oquo : Txt.contains (line ++ Str.ofString "(") (Str.ofString "\"") = false
  opar : parenP (line ++ Str.ofString "(") = false
  run : ∃ st, wayRun ws0 (unitsX line) = some st ∧ st.ways.Perm due
structure LawFacts (ns : List Int) : Prop where
  h0 : ∀ x ∈ sgL ns, x.length ≤ 100
  h1 : ∀ x ∈ sgL ns, (escP "&" "&amp;" x).length ≤ 100
  h2 : ∀ x ∈ sgL ns, (escP "<" "&lt;" (escP "&" "&amp;" x)).length ≤ 100
  h3 : ∀ x ∈ sgL ns, (escA x).length ≤ 100
  h4 : ∀ x ∈ sgL ns, (escC x).length ≤ 100
  ws : ∀ x ∈ wsL ns, x.length ≤ 100
  ds : ∀ x ∈ dsL ns, x.length ≤ 100
  tl : ∀ x ∈ tlL ns, x.length ≤ 1000
  row : ∀ k ∈ rowL ns, k < 6
  rowlen : (rowL ns).length = 6
  again : againL ns = rowL ns
  tab : rngP (tlL ns) (rowL ns) (Str.ofString "\t") = (0, 0)
  til : rngP (tlL ns) (rowL ns) (Str.ofString "~") = (6, 6)
  parts : ∀ s f, (partP (dsL ns) s f).length ≤ 1000
  told : (RL ns).due.map (fun p => (cutsP (restsL ns) p.1, cutsP (restsL ns) (p.1 ++ Str.ofString "~"))) = (RL ns).told
  duelen : ∀ p ∈ (RL ns).due, p.1.length ≤ 1000
  due2 : 2 ≤ (RL ns).due.length
  due64 : (RL ns).due.length < 64
  rg2 : 2 ≤ (RL ns).ranges.length
  rg64 : (RL ns).ranges.length < 64
  rgb : ∀ p ∈ (RL ns).ranges, p.1 ≤ 1000 ∧ p.2 ≤ 1000
  lgl : (RL ns).longest.length = (RL ns).ranges.length
  lgb : ∀ x ∈ (RL ns).longest, x.length ≤ 10000
  line : ∀ xs, xs.Perm (itemsN (RL ns).ranges (RL ns).longest) → t3Sorted xs → LineOK (nestP xs) (RL ns).due
end Mine
set_option maxHeartbeats 8000000
namespace Mine
theorem perm_sorted_eq {α : Type} {le : α → α → Prop} : ∀ {l1 l2 : List α}, (∀ a ∈ l1, ∀ b ∈ l1, le a b → le b a → a = b) → l1.Perm l2 → l1.Pairwise le → l2.Pairwise le → l1 = l2
  | [], l2, _, hp, _, _ => hp.symm.eq_nil.symm
  | a :: t, [], _, hp, _, _ => hp.eq_nil
  | a :: t, b :: u, anti, hp, h1, h2 => by
    have ha : a ∈ b :: u := hp.mem_iff.mp (.head _)
    have hb : b ∈ a :: t := hp.mem_iff.mpr (.head _)
    rw [List.pairwise_cons] at h1 h2
    have e : a = b := by
      rcases List.mem_cons.mp ha with e | ha
      · exact e
      · rcases List.mem_cons.mp hb with e | hb
        · exact e.symm
        · exact anti a (.head _) b (.tail _ hb) (h1.1 b hb) (h2.1 a ha)
    subst e
    rw [perm_sorted_eq (fun x hx y hy => anti x (.tail _ hx) y (.tail _ hy)) (List.Perm.cons_inv hp) h1.2 h2.2]
theorem tup_anti : ∀ {a b : List PV}, likes a b = true → tupLt b a = false → tupLt a b = false → a = b
  | [], [], _, _, _ => rfl
  | [], _ :: _, h, _, _ => by cases h
  | _ :: _, [], h, _, _ => by cases h
  | x :: a, y :: b, h, k1, k2 => by
    rw [likes, Bool.and_eq_true] at h
    rw [tup_head (like_symm h.1)] at k1
    rw [tup_head h.1] at k2
    rcases k1 with ⟨rfl, k1⟩ | k1
    · rcases k2 with ⟨_, k2⟩ | k2
      · rw [tup_anti h.2 k1 k2]
      · rw [ltf_irr] at k2; cases k2
    · rcases k2 with ⟨rfl, k2⟩ | k2
      · rw [ltf_irr] at k1; cases k1
      · have := ltf_trans k1 k2; rw [ltf_irr] at this; cases this
noncomputable def t2 (x : MStr × MStr) : List PV := [.str x.1, .str x.2]
theorem way_t2 (x : MStr × MStr) : wayV x = .tup (t2 x) := rfl
theorem due_t2 (x : MStr × MStr) : dueV x = .tup (t2 x) := rfl
theorem sort_t2 {us vs : List (List PV)} {l k : List (MStr × MStr)} (h : l.Perm k) (hu : us.Perm (l.map t2)) (hv : vs.Perm (k.map t2)) (su : us.Pairwise fun x y => tupLt y x = false) (sv : vs.Pairwise fun x y => tupLt y x = false) : us = vs := by
  have hp : us.Perm vs := hu.trans ((h.map t2).trans hv.symm)
  refine perm_sorted_eq (fun a ha b hb h1 h2 => ?_) hp su sv
  obtain ⟨x, _, rfl⟩ := List.mem_map.mp (hu.mem_iff.mp ha)
  obtain ⟨y, _, rfl⟩ := List.mem_map.mp (hu.mem_iff.mp hb)
  exact tup_anti rfl h1 h2
end Mine
set_option maxHeartbeats 1000000
namespace Mine
noncomputable section
noncomputable def cutPV (rests : List MStr) : PV → PV
  | .tup [.str x, _] => .tup [.int (cutsP rests x), .int (cutsP rests (x ++ Str.ofString "~"))]
  | p => p
theorem cutPV_due (rests : List MStr) (x : MStr × MStr) : cutPV rests (dueV x) = .tup [.int (cutsP rests x.1), .int (cutsP rests (x.1 ++ Str.ofString "~"))] := rfl
theorem cut_due {due : List (MStr × MStr)} {told : List (Nat × Nat)} {rests : List MStr} (h : due.map (fun p => (cutsP rests p.1, cutsP rests (p.1 ++ Str.ofString "~"))) = told) : ((due.map dueV).filter (fun _ => true)).map (cutPV rests) = told.map pairV := by
  rw [List.filter_eq_self.mpr (fun _ _ => rfl), ← h, List.map_map, List.map_map]
  refine List.map_congr_left fun k _ => ?_
  show cutPV rests (dueV k) = pairV (cutsP rests k.1, cutsP rests (k.1 ++ Str.ofString "~"))
  rw [cutPV_due]; rfl
theorem T (facts : ∀ ns, LawFacts ns) : PySem.Challenge.rw_ux0023_01.Holds := hd (by
  w_strict (
  k_fill
  intro w s₀ s₁ mg mb G Y fa o pm cd doc dV kV ho hd hcd hD hmg hg args vals as hpre hlay hrd hwl hlo
  have KX := km_in_of Y
  km_tabs Y
  have X := (Ground.X G).1
  have V := (Ground.X G).2
  refine Ground.open G ?_
  intro T B D TE TW
  replace hmg : mg (Str.ofString "law") = _ := hmg
  km_lay T hmg ho hd cd
  clear hmg
  wrow_args hpre hlay hrd hwl hlo
  all_goals (
    refine enter_call ?_
    w_top on
    have eD := hD.pos_none rfl
    have eK := hD.kw_none rfl
    subst eD; subst eK
    rename_i ns _ _ _ _ _ _ _ sc vs _ hL _ _ _ hI _ hc _
    refine' top_call (w := ⟨w, sc, ns⟩) KX T hT9 ho hd ?hbody hcd ?hbind ?hglob ?hclo ?hbi hL hI hg ?hn ?h ?hR ?hco ?hgen ?hk ?hnd
    case hbody => rfl
    case hglob => rfl
    case hclo => rfl
    case hbi => rfl
    case hn => rfl
    case hco => rfl
    case hgen => rfl
    case hk => rfl
    case hnd => rfl
    case hbind => exact BindsTo.of_eq rfl
    case hR =>
      intro s' h1 h2 h3 h4
      refine' goodG_true hT9 (fun _ _ => rfl) ?hp h1 h2 h3 h4
      case hp =>
        refine' postW_of ?zq1 ?zq2 ?zq3
        case zq1 => o_shape
        case zq2 => wtm_val
        case zq3 => w_fin
    case h =>
      intro L c hdp hun
      have fx := facts ns
      have hlen : ns.length < 1000 := by (first | lia | omega)
      clear G Y KX hT8 X V T B TE TW hT9 hD hcd
      have hd' : c.dp ≤ 310 := by (first | lia | omega)
      have hu' : c.un ≤ 10 * 310 := by (first | lia | omega)
      refine ExecV.post_drop ?_
      refine X_cons (S_assign (E_call rfl hd' hu' (E_global rfl ⟨rfl, A_cons (E_local rfl (A_nil (spec_signs (by (first | lia | omega)) hlen fun aSg => ?_)))⟩)))
      refine X_cons (S_assign_cell rfl (E_bin (E_call_bi hd' hu' (E_builtin rfl rfl (by decide) ⟨rfl, A_cons (E_local rfl (A_nil (F_sum_scr (E_int (B_mod (by decide) ⟨_, _, .tail (.tail .head), ?_⟩)))))⟩))))
      have len6 : (sgL ns).length = 6 := by simp [sgL, signsP]
      have wlen6 : (wsL ns).length = 6 := by rw [wsL, List.length_map]; exact len6
      have dlen6 : (dsL ns).length = 6 := by rw [dsL, List.length_map]; exact len6
      have tlen6 : (tlL ns).length = 6 := by simp [tlL, tailsP]
      refine X_cons (S_assign_tup (E_call rfl hd' hu' (E_global rfl ⟨rfl, A_cons (E_comp rfl (E_local rfl ⟨rfl, ?comp1⟩)) (by with_unfolding_all rfl)⟩)))
      refine CompOK.ofMap ((sgL ns).map .str) (fun ls => (aSg, (sgL ns).map PV.str) ∈ ls) (fun p => match p with | .str x => .str (handP (oddL ns) x) | p => p) (fun _ => true) src_list (fun _ _ h => .tail _ h) (.head _) (by rw [List.length_map, len6]; decide) ?_ ?_
      · intro i p hp D C ys l nss raws
        obtain ⟨x, hx, rfl⟩ : ∃ x, x ∈ sgL ns ∧ p = .str x := by
          rw [List.getElem?_map] at hp
          cases e : (sgL ns)[i]? with
          | none => rw [e] at hp; cases hp
          | some x => rw [e] at hp; exact ⟨x, List.mem_of_getElem? e, (Option.some.inj hp).symm⟩
        refine ⟨_, AC_name rfl rfl, rfl, GLe.rfl, fun _ => ?_⟩
        refine E_call rfl hd' hu' (E_cglobal rfl ⟨rfl, A_cons (E_ccell rfl (.tail _ (.tail _ (.head _))) (A_cons (E_cvar (.head _) rfl (A_nil (spec_hand (by (first | lia | omega)) (fx.h0 x hx) (fx.h1 x hx) (fx.h2 x hx) (fx.h3 x hx) (fx.h4 x hx) ⟨rfl, GLe.rfl⟩))))) (by with_unfolding_all rfl)⟩)
      intro aW
      have eW : (((sgL ns).map PV.str).filter (fun _ => true)).map (fun p => match p with | .str x => PV.str (handP (oddL ns) x) | p => p) = (wsL ns).map .str := by
        rw [List.filter_eq_self.mpr (fun _ _ => rfl), wsL, List.map_map, List.map_map]; rfl
      rw [eW]
      refine A_nil (spec_row (by (first | lia | omega)) (.head _) wlen6 fx.ws fun aT aR aA aG => ?_)
      refine AV_tuple (AS_cons (AV_cell rfl (.tail .head) (AS_cons (AV_local (AS_cons (AV_local (AS_cons (AV_local (AS_nil ?_))))))))) rfl
      have rowlt : ∀ k ∈ rowL ns, k < (tlL ns).length := fun k hk => by rw [tlen6]; exact fx.row k hk
      have tlsz : ∀ x ∈ tlL ns, x.length ≤ 1000000 := fun x hx => Nat.le_trans (fx.tl x hx) (by decide)
      have kN : kindAll false (List.replicate 12 PV.none) := fun y hy => by rw [List.eq_of_mem_replicate hy]; exact ⟨rfl, rfl⟩
      have kNat : ∀ l : List Nat, kindAll false (nats l) := fun l y hy => by
        obtain ⟨n, _, rfl⟩ := List.mem_map.mp hy
        exact ⟨rfl, rfl⟩
      show ExecV c _ [((Str.ofString "given" : MStr), PV.lst aG), (Str.ofString "again", PV.lst aA), (Str.ofString "row", PV.lst aR), (Str.ofString "signs", PV.lst aSg), (Str.ofString "script", PV.st (.ref sc))] (mkG [(aG, List.replicate 12 PV.none), (aA, nats (againL ns)), (aR, nats (rowL ns)), (aT, (tlL ns).map PV.str), (aW, (wsL ns).map PV.str), (aSg, (sgL ns).map PV.str)] [(L + 3, none), (L + 2, some (.lst aT)), (L + 1, some (.int (oddL ns)))] #[] [] []) _
      show ExecV _ _ _ _ _
      generalize hLS : [(aG, List.replicate 12 PV.none), (aA, nats (againL ns)), (aR, nats (rowL ns)), (aT, (tlL ns).map PV.str), (aW, (wsL ns).map PV.str), (aSg, (sgL ns).map PV.str)] = LS
      have mG : (aG, List.replicate 12 PV.none) ∈ LS := hLS ▸ .head _
      have mA : (aA, nats (againL ns)) ∈ LS := hLS ▸ .tail _ (.head _)
      have mR : (aR, nats (rowL ns)) ∈ LS := hLS ▸ .tail _ (.tail _ (.head _))
      have mT : (aT, (tlL ns).map PV.str) ∈ LS := hLS ▸ .tail _ (.tail _ (.tail _ (.head _)))
      have mS : (aSg, (sgL ns).map PV.str) ∈ LS := hLS ▸ .tail _ (.tail _ (.tail _ (.tail _ (.tail _ (.head _)))))
      generalize hlc : [((Str.ofString "given" : MStr), PV.lst aG), (Str.ofString "again", PV.lst aA), (Str.ofString "row", PV.lst aR), (Str.ofString "signs", PV.lst aSg), (Str.ofString "script", PV.st (.ref sc))] = l1
      have lG : Has l1 "given" (.lst aG) := hlc ▸ rfl
      have lA : Has l1 "again" (.lst aA) := hlc ▸ rfl
      have lR : Has l1 "row" (.lst aR) := hlc ▸ rfl
      have lS : Has l1 "signs" (.lst aSg) := hlc ▸ rfl
      refine X_cons (S_iff (T_or (T_cmp _ hd' hu' (E_local lG (E_bin (E_list (A_cons (E_none (A_nil ⟨Nat.le_of_ble_eq_true rfl, fun e1 => E_int (B_mullist (n := 12) (.head _) (by decide) fun e2 => C_ne_list (by (first | lia | omega)) (.tail _ (.tail _ mG)) (.head _) kN kN ⟨_, rfl, fun hb => ?n1, fun hb => T_or (T_cmp _ hd' hu' (E_local lA (E_local lR (C_ne_list (by (first | lia | omega)) (.tail _ (.tail _ mA)) (.tail _ (.tail _ mR)) (kNat _) (kNat _) ⟨_, rfl, fun hb => ?n2, fun hb => T_or_nil ⟨rfl, X_nil ?_⟩⟩))))⟩)⟩)))))))))
      case n1 =>
        rw [(eqbs_iff kN kN).mpr rfl] at hb; cases hb
      case n2 =>
        rw [fx.again, (eqbs_iff (kNat _) (kNat _)).mpr rfl] at hb; cases hb
      have sl2 : ∀ {a b : Addr × List PV}, LS.Sublist (a :: b :: LS) := (List.sublist_cons_self _ _).trans (List.sublist_cons_self _ _)
      refine ExecV.pre_drop (g' := mkG LS [(L + 3, none), (L + 2, some (.lst aT)), (L + 1, some (.int (oddL ns)))] #[] [] []) ?_ ⟨sl2, .refl _, .refl _, .refl _, rfl⟩
      have rl : (rowL ns).length < 1000 := by rw [fx.rowlen]; decide
      have tl : (tlL ns).length < 1000 := by rw [tlen6]; decide
      refine X_cons (S_iff (T_or (T_cmp _ hd' hu' (E_call rfl hd' hu' (E_global rfl ⟨rfl, A_cons (E_cell rfl (.tail _ (.head _)) (A_cons (E_local lR (A_cons (E_str (A_nil (spec_range (by (first | lia | omega)) mT mR rowlt rl tl tlsz (Nat.le_of_ble_eq_true rfl) (E_tuple (A_cons (E_int (A_cons (E_int (A_nil ⟨Nat.le_of_ble_eq_true rfl, C_ne_tup (by (first | lia | omega)) rfl rfl ⟨_, rfl, fun hb => ?n1, fun hb => ?nxt⟩⟩)))))))))))))⟩)))))
      case n1 => rw [fx.tab] at hb; cases hb
      refine T_or (T_cmp _ hd' hu' (E_call rfl hd' hu' (E_global rfl ⟨rfl, A_cons (E_cell rfl (.tail _ (.head _)) (A_cons (E_local lR (A_cons (E_str (A_nil (spec_range (by (first | lia | omega)) mT mR rowlt rl tl tlsz (Nat.le_of_ble_eq_true rfl) (E_tuple (A_cons (E_int (A_cons (E_int (A_nil ⟨Nat.le_of_ble_eq_true rfl, C_ne_tup (by (first | lia | omega)) rfl rfl ⟨_, rfl, fun hb => ?n1, fun hb => T_or_nil ⟨rfl, X_nil ?_⟩⟩⟩)))))))))))))⟩)))
      case n1 => rw [fx.til] at hb; cases hb
      refine X_cons (S_assign_tup (E_call rfl hd' hu' (E_global rfl ⟨rfl, A_cons (E_comp rfl (E_local lS ⟨rfl, ?comp2⟩)) (by with_unfolding_all rfl)⟩)))
      refine CompOK.ofMap ((sgL ns).map .str) (fun ls => (aSg, (sgL ns).map PV.str) ∈ ls) (fun p => match p with | .str x => .str (dueP (oddL ns) x) | p => p) (fun _ => true) src_list (fun _ _ h => .tail _ h) mS (by rw [List.length_map, len6]; decide) ?_ ?_
      · intro i p hp D C ys l nss raws
        obtain ⟨x, hx, rfl⟩ : ∃ x, x ∈ sgL ns ∧ p = .str x := by
          rw [List.getElem?_map] at hp
          cases e : (sgL ns)[i]? with
          | none => rw [e] at hp; cases hp
          | some x => rw [e] at hp; exact ⟨x, List.mem_of_getElem? e, (Option.some.inj hp).symm⟩
        refine ⟨_, AC_name rfl rfl, rfl, GLe.rfl, fun _ => ?_⟩
        refine E_call rfl hd' hu' (E_cglobal rfl ⟨rfl, A_cons (E_ccell rfl (.tail _ (.tail _ (.head _))) (A_cons (E_cvar (.head _) rfl (A_nil (spec_due (by (first | lia | omega)) (fx.h0 x hx) ⟨rfl, GLe.rfl⟩))))) (by with_unfolding_all rfl)⟩)
      intro aD2
      have eD : (((sgL ns).map PV.str).filter (fun _ => true)).map (fun p => match p with | .str x => PV.str (dueP (oddL ns) x) | p => p) = (dsL ns).map .str := by
        rw [List.filter_eq_self.mpr (fun _ _ => rfl), dsL, List.map_map, List.map_map]; rfl
      rw [eD]
      refine A_cons (E_cell rfl (.tail _ (.head _)) (A_cons (E_local lR (A_nil (spec_ranges (by (first | lia | omega)) (.head _) (.tail _ mT) (.tail _ mR) dlen6 fx.ds rowlt rl tl tlsz (fun s f => Nat.le_trans (fx.parts s f) (by decide)) fun aL aRg aTo aDu => ?_)))))
      refine AV_tuple (AS_cons (AV_local (AS_cons (AV_local (AS_cons (AV_local (AS_cons (AV_local (AS_nil ?_))))))))) rfl
      show ExecV c _ ((Str.ofString "longest", PV.lst aL) :: (Str.ofString "ranges", PV.lst aRg) :: (Str.ofString "told", PV.lst aTo) :: (Str.ofString "due", PV.lst aDu) :: l1) (mkG ((aL, (RL ns).longest.map .str) :: (aRg, (RL ns).ranges.map pairV) :: (aTo, (RL ns).told.map pairV) :: (aDu, (RL ns).due.map dueV) :: (aD2, (dsL ns).map .str) :: LS) [(L + 3, none), (L + 2, some (.lst aT)), (L + 1, some (.int (oddL ns)))] #[] [] []) _
      have mT2 : (aT, (tlL ns).map PV.str) ∈ ((aL, (RL ns).longest.map .str) :: (aRg, (RL ns).ranges.map pairV) :: (aTo, (RL ns).told.map pairV) :: (aDu, (RL ns).due.map dueV) :: (aD2, (dsL ns).map .str) :: LS : List (Addr × List PV)) := .tail _ (.tail _ (.tail _ (.tail _ (.tail _ mT))))
      have mR2 : (aR, nats (rowL ns)) ∈ ((aL, (RL ns).longest.map .str) :: (aRg, (RL ns).ranges.map pairV) :: (aTo, (RL ns).told.map pairV) :: (aDu, (RL ns).due.map dueV) :: (aD2, (dsL ns).map .str) :: LS : List (Addr × List PV)) := .tail _ (.tail _ (.tail _ (.tail _ (.tail _ mR))))
      show ExecV _ _ _ _ _
      generalize hLS2 : ((aL, (RL ns).longest.map PV.str) :: (aRg, (RL ns).ranges.map pairV) :: (aTo, (RL ns).told.map pairV) :: (aDu, (RL ns).due.map dueV) :: (aD2, (dsL ns).map .str) :: LS : List (Addr × List PV)) = LS2 at mT2 mR2 ⊢
      have mL2 : (aL, (RL ns).longest.map PV.str) ∈ LS2 := hLS2 ▸ .head _
      have mRg2 : (aRg, (RL ns).ranges.map pairV) ∈ LS2 := hLS2 ▸ .tail _ (.head _)
      have mTo2 : (aTo, (RL ns).told.map pairV) ∈ LS2 := hLS2 ▸ .tail _ (.tail _ (.head _))
      have mDu2 : (aDu, (RL ns).due.map dueV) ∈ LS2 := hLS2 ▸ .tail _ (.tail _ (.tail _ (.head _)))
      generalize hlc2 : ((Str.ofString "longest", PV.lst aL) :: (Str.ofString "ranges", PV.lst aRg) :: (Str.ofString "told", PV.lst aTo) :: (Str.ofString "due", PV.lst aDu) :: l1 : Loc) = l2
      have lL : Has l2 "longest" (.lst aL) := hlc2 ▸ rfl
      have lRg : Has l2 "ranges" (.lst aRg) := hlc2 ▸ rfl
      have lTo : Has l2 "told" (.lst aTo) := hlc2 ▸ rfl
      have lDu : Has l2 "due" (.lst aDu) := hlc2 ▸ rfl
      have lR2 : Has l2 "row" (.lst aR) := by rw [← hlc2]; exact lR
      refine X_cons (S_assign_cell rfl (E_comp rfl (E_local lR2 ⟨rfl, ?comp3⟩)))
      refine CompOK.ofMap (nats (rowL ns)) (fun ls => (aR, nats (rowL ns)) ∈ ls) (fun p => match p with | .int k => .str ((tlL ns).getD k.toNat Str.empty) | p => p) (fun _ => true) src_list (fun _ _ h => .tail _ h) mR2 (by rw [List.length_map, fx.rowlen]; decide) ?_ ?_
      · intro i p hp D C ys l nss raws
        obtain ⟨k, hk, rfl⟩ : ∃ k, k ∈ rowL ns ∧ p = .int (k : Int) := by
          rw [List.getElem?_map] at hp
          cases e : (rowL ns)[i]? with
          | none => rw [e] at hp; cases hp
          | some x => rw [e] at hp; exact ⟨x, List.mem_of_getElem? e, (Option.some.inj hp).symm⟩
        have hk6 := rowlt k hk
        refine ⟨_, AC_name rfl rfl, rfl, GLe.rfl, fun _ => ?_⟩
        refine E_sub (E_ccell rfl (.tail _ (.head _)) (E_cvar (.head _) rfl (I_list (.tail _ mT2) (by (first | lia | omega)) (by (first | lia | omega)) (p := .str ((tlL ns).getD k Str.empty)) ?_ ⟨rfl, GLe.rfl⟩)))
        rw [Int.toNat_natCast, List.getElem?_map, List.getElem?_eq_getElem hk6, List.getD_eq_getElem?_getD, List.getElem?_eq_getElem hk6]; rfl
      intro aRe
      have eR : ((nats (rowL ns)).filter (fun _ => true)).map (fun p => match p with | .int k => PV.str ((tlL ns).getD k.toNat Str.empty) | p => p) = (restsL ns).map .str := by
        rw [List.filter_eq_self.mpr (fun _ _ => rfl), restsL, List.map_map, List.map_map]
        exact List.map_congr_left fun k _ => rfl
      rw [eR]
      refine ⟨_, _, .head, ?_⟩
      show ExecV c _ l2 (mkG ((aRe, (restsL ns).map .str) :: LS2) [(L + 3, some (.lst aRe)), (L + 2, some (.lst aT)), (L + 1, some (.int (oddL ns)))] #[] [] []) _
      have relen : (restsL ns).length < 1000 := by rw [restsL, List.length_map]; exact rl
      have kP : ∀ l : List (Nat × Nat), kindAll true (l.map pairV) := fun l y hy => by
        obtain ⟨n, _, rfl⟩ := List.mem_map.mp hy
        exact ⟨rfl, rfl⟩
      refine X_cons (S_iff (T_cmp _ hd' hu' (E_comp rfl (E_local lDu ⟨rfl, ?comp4⟩))))
      refine CompOK.ofMap ((RL ns).due.map dueV) (fun ls => (aDu, (RL ns).due.map dueV) ∈ ls) (cutPV (restsL ns)) (fun _ => true) src_list (fun _ _ h => .tail _ h) (.tail _ mDu2) (by rw [List.length_map]; have := fx.due64; (first | lia | omega)) ?_ ?_
      · intro i p hp D C ys l nss raws
        obtain ⟨x, hx, rfl⟩ : ∃ x, x ∈ (RL ns).due ∧ p = dueV x := by
          rw [List.getElem?_map] at hp
          cases e : (RL ns).due[i]? with
          | none => rw [e] at hp; cases hp
          | some x => rw [e] at hp; exact ⟨x, List.mem_of_getElem? e, (Option.some.inj hp).symm⟩
        have hxl := fx.duelen x hx
        refine ⟨_, AC_tup2 rfl rfl rfl, rfl, GLe.rfl, fun _ => ?_⟩
        refine E_tuple (A_cons (E_call rfl hd' hu' (E_cglobal rfl ⟨rfl, A_cons (E_ccell rfl (.head _) (A_cons (E_cvar (.head _) rfl (A_nil ?_)) (by with_unfolding_all rfl))) (by with_unfolding_all rfl)⟩)) (by with_unfolding_all rfl))
        refine spec_bl_plain (sl := restsL ns) (by (first | lia | omega)) (.tail _ (.head _)) relen ?_
        refine A_cons (E_call rfl hd' hu' (E_cglobal rfl ⟨rfl, A_cons (E_ccell rfl (.head _) (A_cons (E_bin (E_cvar (.head _) rfl (E_str (B_cat ?z1 (A_nil ?_))))) (by with_unfolding_all rfl))) (by with_unfolding_all rfl)⟩)) (by with_unfolding_all rfl)
        case z1 => rw [sizeLine_eq]; show _ + 1 ≤ _; (first | lia | omega)
        refine spec_bl_plain (sl := restsL ns) (by (first | lia | omega)) (.tail _ (.head _)) relen ?_
        refine A_nil ⟨Nat.le_of_ble_eq_true rfl, ?_, ?_⟩
        · exact (cutPV_due (restsL ns) x).symm
        · exact GLe.rfl
      intro aC
      have eC : (((RL ns).due.map dueV).filter (fun _ => true)).map (cutPV (restsL ns)) = (RL ns).told.map pairV := cut_due fx.told
      rw [eC]
      refine E_local lTo (C_ne_list (by (first | lia | omega)) (.head _) (.tail _ (.tail _ mTo2)) (kP _) (kP _) ⟨_, rfl, by rw [(eqbs_iff (kP _) (kP _)).mpr rfl]; rfl, X_nil ?_⟩)
      have slr : ∀ {a b : Addr × List PV}, LS2.Sublist (a :: b :: LS2) := (List.sublist_cons_self _ _).trans (List.sublist_cons_self _ _)
      generalize hCS : [(L + 3, some (PV.lst aRe)), (L + 2, some (.lst aT)), (L + 1, some (.int (oddL ns)))] = CS
      refine ExecV.pre_drop (g' := mkG LS2 CS #[] [] []) ?_ ⟨slr, .refl _, .refl _, .refl _, rfl⟩
      refine X_cons (S_assign (E_call rfl hd' hu' (E_global rfl ⟨rfl, A_cons (E_local lRg (A_cons (E_local lL (A_nil (spec_nest (by (first | lia | omega)) mRg2 mL2 fx.lgl fx.rg2 fx.rg64 fx.rgb fx.lgb fun xs hpm hst => ?_)))))⟩)))
      have ok := fx.line xs hpm hst
      generalize nestP xs = line at ok ⊢
      have lDu3 : Has ((Str.ofString "line", PV.str line) :: l2) "due" (.lst aDu) := lDu
      show ExecV _ _ _ _ _
      generalize hl3 : ((Str.ofString "line", PV.str line) :: l2 : Loc) = l3 at lDu3 ⊢
      have lLn : Has l3 "line" (.str line) := hl3 ▸ rfl
      refine X_cons (S_iff (T_cmp _ hd' hu' (E_call rfl hd' hu' (E_global rfl ⟨rfl, A_cons (E_local lLn (A_nil (spec_paren (by (first | lia | omega)) ok.asc ok.quo (fun y hy => by simp at hy) fun gn hgn => E_bool (C_isnot_bool ⟨_, rfl, by rw [ok.par]; rfl, X_nil ?_⟩))))⟩))))
      have hll := ok.len
      refine X_cons (S_iff (T_cmp _ hd' hu' (E_comp rfl (E_list (A_cons (E_bin (E_slice_str (E_local lLn ⟨_, rfl, by rw [sizeLine_eq]; (first | lia | omega), E_int ⟨1, rfl, ?s1⟩⟩))) (by with_unfolding_all rfl))))))
      case s1 =>
        refine E_slice_str (E_local lLn ⟨_, rfl, by rw [sizeLine_eq]; (first | lia | omega), E_int ⟨1, rfl, B_cat ?z1 ?_⟩⟩)
        case z1 =>
          have h1 := Txt.slice_le line (some 1) .none
          have h2 := Txt.slice_le line .none (some 1)
          rw [sizeLine_eq]; (first | lia | omega)
        refine A_cons (E_bin (E_local lLn (E_str (B_cat ?z2 (A_nil ⟨Nat.le_of_ble_eq_true rfl, fun e3 => ⟨rfl, ?comp5⟩⟩))))) (by with_unfolding_all rfl)
        case z2 => rw [sizeLine_eq]; show _ + 1 ≤ _; (first | lia | omega)
        have texts : ∀ (i : Nat) (p : PV), [PV.str (rotP line), PV.str (line ++ Str.ofString "(")][i]? = some p → ∃ x : MStr, p = .str x ∧ x.cps.all (· < 128) = true ∧ Txt.contains x (Str.ofString "\"") = false ∧ parenP x = false := fun i p hp => by
          match i, hp with
          | 0, hp => exact ⟨rotP line, (Option.some.inj hp).symm, ok.rasc, ok.rquo, ok.rpar⟩
          | 1, hp => exact ⟨line ++ Str.ofString "(", (Option.some.inj hp).symm, ok.oasc, ok.oquo, ok.opar⟩
          | (i + 2), hp => cases hp
        refine ⟨[PV.str (rotP line), PV.str (line ++ Str.ofString "(")], fun ls => (e3, [PV.str (rotP line), PV.str (line ++ Str.ofString "(")]) ∈ ls, fun i ys ls cs gn => ls = (e3, [PV.str (rotP line), PV.str (line ++ Str.ofString "(")]) :: LS2 ∧ cs = CS ∧ gensOk gn ∧ ys = [], src_list, fun _ _ h => .tail _ h, ?a1, ⟨rfl, rfl, hgn, rfl⟩, Nat.le_of_ble_eq_true rfl, ?a2, ?turn, ?fin⟩
        case a1 => rintro i ys ls cs gn ⟨rfl, _⟩; exact .head _
        case a2 => rintro i ys ls cs gn ⟨_, _, _, rfl⟩; exact Nat.zero_le _
        case turn =>
          rintro i p ys ls cs gn hp ⟨rfl, rfl, hgn, rfl⟩ D C l nss raws
          obtain ⟨x, rfl, x1, x2, x3⟩ := texts i p hp
          refine ⟨_, AC_name rfl rfl, ?_⟩
          refine T_cmp _ hd' hu' (E_call rfl hd' hu' (E_cglobal rfl ⟨rfl, A_cons (E_cvar (.head _) rfl (A_nil (spec_paren (by (first | lia | omega)) x1 x2 hgn fun gn2 hgn2 => E_bool (C_isnot_bool ⟨_, rfl, fun hb => ?_, fun _ => ?_⟩)))) (by with_unfolding_all rfl)⟩))
          · rw [x3] at hb; cases hb
          · exact ⟨_, _, _, GLe.rfl, rfl, rfl, rfl, rfl, rfl, hgn2, rfl⟩
        case fin =>
          rintro ys ls cs gn ⟨rfl, rfl, hgn, rfl⟩ D
          refine E_list (A_nil ⟨Nat.zero_le _, fun e4 => C_ne_list (k := true) (by (first | lia | omega)) (.tail _ (.head _)) (.head _) (fun _ h => (nomatch h)) (fun _ h => (nomatch h)) ⟨_, rfl, rfl, X_nil ?_⟩⟩)
          obtain ⟨st, hrun, hperm⟩ := ok.run
          refine ExecV.pre_drop (g' := mkG LS2 cs gn [] []) ?_ ⟨(List.sublist_cons_self _ _).trans ((List.sublist_cons_self _ _).trans (List.sublist_cons_self _ _)), .refl _, .refl _, .refl _, rfl⟩
          have ew : waysV st.ways = (st.ways.reverse.map t2).map PV.tup := by rw [waysV, List.map_map]; rfl
          have ed : (RL ns).due.map dueV = ((RL ns).due.map t2).map PV.tup := by rw [List.map_map]; rfl
          have hdl := hperm.length_eq
          have d2 := fx.due2
          have d64 := fx.due64
          have hkind : ∀ (l : List (MStr × MStr)) (us : List (List PV)), us.Perm (l.map t2) → kindAll true (us.map PV.tup) := fun l us hp y hy => by
            obtain ⟨t, ht, rfl⟩ := List.mem_map.mp hy
            obtain ⟨x, _, rfl⟩ := List.mem_map.mp (hp.mem_iff.mp ht)
            exact ⟨rfl, rfl⟩
          have hlike : ∀ (l : List (MStr × MStr)), ∀ t ∈ l.map t2, ∀ t' ∈ l.map t2, likes t t' = true := fun l t ht t' ht' => by
            obtain ⟨x, _, rfl⟩ := List.mem_map.mp ht
            obtain ⟨y, _, rfl⟩ := List.mem_map.mp ht'
            rfl
          have hty : ∀ (l : List (MStr × MStr)), ∀ t ∈ l.map t2, ∃ x k, t = x :: k ∧ x.like x = true ∧ x.tyN = "str" := fun l t ht => by
            obtain ⟨x, _, rfl⟩ := List.mem_map.mp ht
            exact ⟨_, _, rfl, rfl, rfl⟩
          refine X_cons (S_ret (E_cmp _ hd' hu' (E_call_bi hd' hu' (E_builtin rfl rfl (by decide) ⟨rfl, A_cons (E_call rfl hd' hu' (E_global rfl ⟨rfl, A_cons (E_local lLn (A_nil (spec_ways (st := st) (by (first | lia | omega)) ok.asc (by (first | lia | omega)) hgn hrun fun aWy gn3 hgn3 => ?_)))⟩)) (by with_unfolding_all rfl)⟩))))
          rw [ew]
          refine A_nil (F_sorted (us := st.ways.reverse.map t2) (T := "str") (.head _) (by rw [List.length_map, List.length_reverse]; (first | lia | omega)) (by rw [List.length_map, List.length_reverse]; (first | lia | omega)) (hlike _) (hty _) fun aS1 us1 hp1 hs1 => ?_)
          refine E_call_bi hd' hu' (E_builtin rfl rfl (by decide) ⟨rfl, A_cons (E_local lDu3 (A_nil ?_))⟩)
          refine F_sorted (us := (RL ns).due.map t2) (T := "str") (.tail _ (.tail _ (ed ▸ mDu2))) (by rw [List.length_map]; (first | lia | omega)) (by rw [List.length_map]; (first | lia | omega)) (hlike _) (hty _) fun aS2 us2 hp2 hs2 => ?_
          have heq : us1 = us2 := sort_t2 ((List.reverse_perm _).trans hperm) hp1 hp2 hs1 hs2
          refine C_eq_list (k := true) (by (first | lia | omega)) (.tail _ (.head _)) (.head _) (hkind _ _ hp1) (hkind _ _ hp2) ⟨_, GLe.rfl, ?_, hgn3⟩
          show PV.bool (eqbs (us1.map PV.tup) (us2.map PV.tup)) = PV.bool true
          rw [(eqbs_iff (hkind _ _ hp1) (hkind _ _ hp2)).mpr (by rw [heq])])))
end
end Mine
set_option maxHeartbeats 4000000
namespace Mine
noncomputable abbrev cs (x : MStr) : List Nat := x.cps.toList
theorem cs_inj {x y : MStr} (h : cs x = cs y) : x = y := by
  cases x; cases y
  exact congrArg Str.mk (Array.toList_inj.mp h)
theorem bsL_spec {t : Nat → Bool} : ∀ {n lo hi : Nat}, hi - lo ≤ n → lo ≤ hi → (∀ i j, lo ≤ i → i ≤ j → j < hi → t j = true → t i = true) →
    lo ≤ bsL t n lo hi ∧ bsL t n lo hi ≤ hi ∧ (∀ i, lo ≤ i → i < bsL t n lo hi → t i = true) ∧ (∀ i, bsL t n lo hi ≤ i → i < hi → t i = false)
  | 0, lo, hi, h1, h2, _ => ⟨Nat.le_refl _, h2, fun i a b => absurd (Nat.lt_of_le_of_lt a b) (Nat.lt_irrefl _), fun i (a : lo ≤ i) b => by (first | lia | omega)⟩
  | n + 1, lo, hi, h1, h2, mono => by
    rw [bsL]
    split
    · rename_i hlt
      split
      · rename_i ht
        obtain ⟨a, b, c, d⟩ := bsL_spec (t := t) (n := n) (lo := (lo + hi) / 2 + 1) (hi := hi) (by (first | lia | omega)) (by (first | lia | omega)) fun i j a b c e => mono i j (by (first | lia | omega)) b c e
        refine ⟨by (first | lia | omega), b, fun i x y => ?_, d⟩
        by_cases hi' : i ≤ (lo + hi) / 2
        · exact mono i ((lo + hi) / 2) x hi' (by (first | lia | omega)) ht
        · exact c i (by (first | lia | omega)) y
      · rename_i ht
        obtain ⟨a, b, c, d⟩ := bsL_spec (t := t) (n := n) (lo := lo) (hi := (lo + hi) / 2) (by (first | lia | omega)) (by (first | lia | omega)) fun i j a b c e => mono i j a b (by (first | lia | omega)) e
        refine ⟨a, by (first | lia | omega), c, fun i x y => ?_⟩
        by_cases hi' : i < (lo + hi) / 2
        · exact d i x hi'
        · cases e : t i with
          | false => rfl
          | true => exact absurd (mono ((lo + hi) / 2) i (by (first | lia | omega)) (by (first | lia | omega)) y e) ht
    · exact ⟨Nat.le_refl _, h2, fun i a b => absurd (Nat.lt_of_le_of_lt a b) (Nat.lt_irrefl _), fun i (a : lo ≤ i) b => by (first | lia | omega)⟩

noncomputable def befR (key : Nat → MStr) (ord : Nat → Nat) (a b : Nat) : Prop := cs (key a) < cs (key b) ∨ (cs (key a) = cs (key b) ∧ ord a < ord b)
theorem lst_le_of_not {a b : List Nat} (h : ¬ a < b) : b < a ∨ b = a := List.le_iff_lt_or_eq.mp (List.not_lt.mp h)
theorem befR_anti {key : Nat → MStr} {ord : Nat → Nat} {a b : Nat} (h : befR key ord a b) (k : befR key ord b a) : False := by
  rcases h with h | ⟨h, h'⟩ <;> rcases k with k | ⟨k, k'⟩
  · exact List.lt_irrefl _ (List.lt_trans h k)
  · rw [k] at h; exact List.lt_irrefl _ h
  · rw [h] at k; exact List.lt_irrefl _ k
  · (first | lia | omega)
theorem pw_get {α : Type} {R : α → α → Prop} {l : List α} (h : l.Pairwise R) {i j : Nat} {a b : α} (hij : i < j) (ha : l[i]? = some a) (hb : l[j]? = some b) : R a b := by
  obtain ⟨hi, rfl⟩ := List.getElem?_eq_some_iff.mp ha
  obtain ⟨hj, rfl⟩ := List.getElem?_eq_some_iff.mp hb
  exact List.pairwise_iff_getElem.mp h i j hi hj hij
theorem insN_sorted {key : Nat → MStr} {ord : Nat → Nat} {l : List Nat} {x : Nat} (h : l.Pairwise (befR key ord)) (hx : ∀ y ∈ l, ord y < ord x) : (insN key l x).Pairwise (befR key ord) := by
  have kle : ∀ i j, i ≤ j → j < l.length → ¬ cs (key (l.getD j 0)) < cs (key (l.getD i 0)) := fun i j hij hj hlt => by
    rcases Nat.lt_or_eq_of_le hij with hij | rfl
    · have hi : i < l.length := Nat.lt_trans hij hj
      have e1 : l[i]? = some (l.getD i 0) := by rw [List.getD_eq_getElem?_getD, List.getElem?_eq_getElem hi]; rfl
      have e2 : l[j]? = some (l.getD j 0) := by rw [List.getD_eq_getElem?_getD, List.getElem?_eq_getElem hj]; rfl
      rcases pw_get h hij e1 e2 with q | ⟨q, _⟩
      · exact List.lt_irrefl _ (List.lt_trans q hlt)
      · rw [q] at hlt; exact List.lt_irrefl _ hlt
    · exact List.lt_irrefl _ hlt
  obtain ⟨_, a2, a3, a4⟩ := bsL_spec (t := fun j => decide (¬ cs (key x) < cs (key (l.getD j 0)))) (n := l.length) (lo := 0) (hi := l.length) (by (first | lia | omega)) (by (first | lia | omega)) fun i j _ hij hj ht => by
    have ht := of_decide_eq_true ht
    refine decide_eq_true fun hlt => ht ?_
    rcases lst_le_of_not (kle i j hij hj) with q | q
    · exact List.lt_trans hlt q
    · rw [← q]; exact hlt
  change posN key l x ≤ l.length at a2
  rw [insN, List.pairwise_append, List.pairwise_cons]
  refine ⟨h.sublist (List.take_sublist _ _), ⟨fun b hb => ?_, h.sublist (List.drop_sublist _ _)⟩, fun a ha b hb => ?_⟩
  · obtain ⟨j, hj⟩ := List.mem_iff_getElem?.mp hb
    rw [List.getElem?_drop] at hj
    have hlt := (List.getElem?_eq_some_iff.mp hj).1
    have := a4 (posN key l x + j) (Nat.le_add_right _ _) hlt
    have := of_decide_eq_false this
    have e : l.getD (posN key l x + j) 0 = b := by rw [List.getD_eq_getElem?_getD, hj]; rfl
    rw [e] at this
    exact .inl (Classical.not_not.mp this)
  · obtain ⟨i, hi⟩ := List.mem_iff_getElem?.mp ha
    have hip : i < posN key l x := by
      have := (List.getElem?_eq_some_iff.mp hi).1
      rw [List.length_take] at this; (first | lia | omega)
    rw [List.getElem?_take_of_lt hip] at hi
    have hal : a ∈ l := List.mem_of_getElem? hi
    rcases List.mem_cons.mp hb with rfl | hb
    · have := of_decide_eq_true (a3 i (Nat.zero_le _) hip)
      have e : l.getD i 0 = a := by rw [List.getD_eq_getElem?_getD, hi]; rfl
      rw [e] at this
      rcases lst_le_of_not this with q | q
      · exact .inl q
      · exact .inr ⟨q, hx a hal⟩
    · obtain ⟨j, hj⟩ := List.mem_iff_getElem?.mp hb
      rw [List.getElem?_drop] at hj
      exact pw_get h (by (first | lia | omega)) hi hj
theorem rowN_sorted {key : Nat → MStr} {ord : Nat → Nat} : ∀ {l acc : List Nat}, acc.Pairwise (befR key ord) → l.Pairwise (fun a b => ord a < ord b) → (∀ y ∈ acc, ∀ z ∈ l, ord y < ord z) → (l.foldl (insN key) acc).Pairwise (befR key ord) ∧ (l.foldl (insN key) acc).Perm (acc ++ l)
  | [], acc, h, _, _ => ⟨h, by rw [List.append_nil]; exact .refl _⟩
  | x :: l, acc, h, hl, hd => by
    rw [List.pairwise_cons] at hl
    have h1 := insN_sorted h fun y hy => hd y hy x (.head _)
    obtain ⟨r1, r2⟩ := rowN_sorted (acc := insN key acc x) h1 hl.2 fun y hy z hz => by
      rcases mem_insN.mp hy with rfl | hy
      · exact hl.1 z hz
      · exact hd y hy z (.tail _ hz)
    refine ⟨r1, r2.trans ?_⟩
    exact (insN_perm.append_right l).trans (List.perm_middle (a := x) (l₁ := acc) (l₂ := l)).symm
end Mine
set_option maxHeartbeats 4000000
namespace Mine
theorem cs_cat (x y : MStr) : cs (x ++ y) = cs x ++ cs y := by
  show (x.cps ++ y.cps).toList = _
  exact Array.toList_append
theorem cs_len (x : MStr) : (cs x).length = x.length := Array.length_toList

noncomputable def signs5 : List MStr := ["&", "<", "(", ")", "\r"].map Str.ofString
theorem signP_mem (ns : List Int) (i : Nat) : signP ns i ∈ signs5 := by
  unfold signP
  rcases fmod5 (cellP ns i) with h | h | h | h | h <;> rw [h] <;> decide +kernel
theorem sgL_mem (ns : List Int) : ∀ x ∈ sgL ns, x ∈ signs5 := fun x hx => by
  obtain ⟨i, _, rfl⟩ := List.mem_map.mp hx
  exact signP_mem ns i
theorem oddL_cases (ns : List Int) : oddL ns = 0 ∨ oddL ns = 1 := by
  have h1 := Int.fmod_nonneg_of_pos ns.sum (b := 2) (by decide)
  have h2 := Int.fmod_lt_of_pos ns.sum (b := 2) (by decide)
  unfold oddL
  (first | lia | omega)
noncomputable def codes (odd : Int) : List MStr := (["&amp;", "&lt;", "\\(", "\\)"].map Str.ofString) ++ [if odd = 1 then Str.ofString "&#xD;" else Str.ofString "\r"]
theorem sign_facts : ∀ odd ∈ [(0 : Int), 1], ∀ x ∈ signs5, handP odd x = dueP odd x ∧ handP odd x ∈ codes odd ∧ x.length ≤ 100 ∧ (escP "&" "&amp;" x).length ≤ 100 ∧ (escP "<" "&lt;" (escP "&" "&amp;" x)).length ≤ 100 ∧ (escA x).length ≤ 100 ∧ (escC x).length ≤ 100 := by
  decide +kernel
theorem odd_mem (ns : List Int) : oddL ns ∈ [(0 : Int), 1] := by
  rcases oddL_cases ns with h | h <;> rw [h] <;> decide
theorem ws_ds (ns : List Int) : wsL ns = dsL ns := List.map_congr_left fun x hx => (sign_facts _ (odd_mem ns) x (sgL_mem ns x hx)).1
theorem ws_mem (ns : List Int) : ∀ x ∈ wsL ns, x ∈ codes (oddL ns) := fun x hx => by
  obtain ⟨y, hy, rfl⟩ := List.mem_map.mp hx
  exact (sign_facts _ (odd_mem ns) y (sgL_mem ns y hy)).2.1
theorem ws_len (ns : List Int) : (wsL ns).length = 6 := by simp [wsL, sgL, signsP]

noncomputable def Div (x y : List Nat) : Prop := ∃ p c r d s, x = p ++ c :: r ∧ y = p ++ d :: s ∧ c < d
theorem lt_app : ∀ (p : List Nat) {a b : List Nat}, p ++ a < p ++ b ↔ a < b
  | [], a, b => Iff.rfl
  | x :: p, a, b => by
    rw [List.cons_append, List.cons_append, List.cons_lt_cons_iff]
    have := lt_app p (a := a) (b := b)
    constructor
    · rintro (h | ⟨_, h⟩)
      · exact absurd h (Nat.lt_irrefl _)
      · exact this.mp h
    · exact fun h => .inr ⟨rfl, this.mpr h⟩
theorem Div.lt {x y : List Nat} (h : Div x y) (u v : List Nat) : x ++ u < y ++ v := by
  obtain ⟨p, c, r, d, s, rfl, rfl, hcd⟩ := h
  rw [List.append_assoc, List.append_assoc, lt_app, List.cons_append, List.cons_append, List.cons_lt_cons_iff]
  exact .inl hcd
theorem Div.lt' {x y : List Nat} (h : Div x y) : x < y := by
  have := h.lt [] []
  rwa [List.append_nil, List.append_nil] at this
structure Code (C : List (List Nat)) : Prop where
  ne : ∀ x ∈ C, x ≠ []
  div : ∀ x ∈ C, ∀ y ∈ C, x = y ∨ Div x y ∨ Div y x
  low : ∀ x ∈ C, ∀ a ∈ x, 9 < a ∧ a < 126 ∧ a ≠ 34
noncomputable def divB : List Nat → List Nat → Option Bool
  | a :: x, b :: y => if a = b then divB x y else some (decide (a < b))
  | _, _ => none
theorem divB_spec : ∀ {x y : List Nat} {b : Bool}, divB x y = some b → (b = true → Div x y) ∧ (b = false → Div y x)
  | [], [], _, h => by cases h
  | [], _ :: _, _, h => by cases h
  | _ :: _, [], _, h => by cases h
  | a :: x, c :: y, b, h => by
    rw [divB] at h
    split at h
    · rename_i e
      subst e
      obtain ⟨h1, h2⟩ := divB_spec h
      have up : ∀ {x y : List Nat}, Div x y → Div (a :: x) (a :: y) := fun ⟨p, c, r, d, s, e1, e2, l⟩ => ⟨a :: p, c, r, d, s, by rw [e1]; rfl, by rw [e2]; rfl, l⟩
      exact ⟨fun e => up (h1 e), fun e => up (h2 e)⟩
    · rename_i e
      have h := Option.some.inj h
      subst h
      refine ⟨fun q => ⟨[], a, x, c, y, rfl, rfl, of_decide_eq_true q⟩, fun q => ⟨[], c, y, a, x, rfl, rfl, ?_⟩⟩
      have := of_decide_eq_false q; (first | lia | omega)
theorem code_of {C : List (List Nat)} (h : (C.all fun x => decide (x ≠ []) && x.all (fun a => decide (9 < a ∧ a < 126 ∧ a ≠ 34)) && C.all fun y => decide (x = y) || (divB x y).isSome) = true) : Code C := by
  have key : ∀ x ∈ C, x ≠ [] ∧ (∀ a ∈ x, 9 < a ∧ a < 126 ∧ a ≠ 34) ∧ ∀ y ∈ C, x = y ∨ (divB x y).isSome = true := fun x hx => by
    have := List.all_eq_true.mp h x hx
    rw [Bool.and_eq_true, Bool.and_eq_true] at this
    obtain ⟨⟨h1, h2⟩, h3⟩ := this
    refine ⟨of_decide_eq_true h1, fun a ha => of_decide_eq_true (List.all_eq_true.mp h2 a ha), fun y hy => ?_⟩
    have := List.all_eq_true.mp h3 y hy
    rw [Bool.or_eq_true] at this
    exact this.imp of_decide_eq_true id
  refine ⟨fun x hx => (key x hx).1, fun x hx y hy => ?_, fun x hx => (key x hx).2.1⟩
  rcases (key x hx).2.2 y hy with e | e
  · exact .inl e
  · obtain ⟨b, hb⟩ := Option.isSome_iff_exists.mp e
    obtain ⟨h1, h2⟩ := divB_spec hb
    cases b with
    | true => exact .inr (.inl (h1 rfl))
    | false => exact .inr (.inr (h2 rfl))
theorem codes_code (ns : List Int) : Code ((codes (oddL ns)).map cs) := by
  rcases oddL_cases ns with h | h <;> rw [h] <;> exact code_of (by decide +kernel)

section code
variable {C : List (List Nat)}
noncomputable def Over (C : List (List Nat)) (u : List (List Nat)) : Prop := ∀ x ∈ u, x ∈ C
theorem Over.cons {x : List Nat} {u : List (List Nat)} (h : Over C (x :: u)) : x ∈ C ∧ Over C u := ⟨h x (.head _), fun y hy => h y (.tail _ hy)⟩
theorem Over.sub {u v : List (List Nat)} (h : Over C u) (k : ∀ x ∈ v, x ∈ u) : Over C v := fun x hx => h x (k x hx)
theorem div_no_prefix {x y u v : List Nat} (h : Div x y) : ¬ (x ++ u <+: y ++ v) ∧ ¬ (y ++ v <+: x ++ u) := by
  obtain ⟨p, c, r, d, s, rfl, rfl, hcd⟩ := h
  constructor
  · rw [List.append_assoc, List.append_assoc, List.prefix_append_right_inj, List.cons_append, List.cons_append, List.cons_prefix_cons]
    rintro ⟨e, _⟩; (first | lia | omega)
  · rw [List.append_assoc, List.append_assoc, List.prefix_append_right_inj, List.cons_append, List.cons_append, List.cons_prefix_cons]
    rintro ⟨e, _⟩; (first | lia | omega)
theorem pre_flat (K : Code C) : ∀ {u v : List (List Nat)}, Over C u → Over C v → (u.flatten <+: v.flatten ↔ u <+: v)
  | [], v, _, _ => by simp
  | x :: u, [], hu, _ => by
    have := K.ne x (hu.cons).1
    constructor
    · intro h
      have := List.prefix_nil.mp h
      rw [List.flatten_cons, List.append_eq_nil_iff] at this
      exact absurd this.1 ‹_›
    · intro h; exact absurd (List.prefix_nil.mp h) (by simp)
  | x :: u, y :: v, hu, hv => by
    rw [List.flatten_cons, List.flatten_cons, List.cons_prefix_cons]
    rcases K.div x hu.cons.1 y hv.cons.1 with rfl | h | h
    · rw [List.prefix_append_right_inj, pre_flat K hu.cons.2 hv.cons.2]
      exact ⟨fun h => ⟨rfl, h⟩, fun h => h.2⟩
    · refine ⟨fun k => absurd k (div_no_prefix h).1, ?_⟩
      rintro ⟨rfl, _⟩; exact absurd h.lt' (List.lt_irrefl _)
    · refine ⟨fun k => absurd k (div_no_prefix h).2, ?_⟩
      rintro ⟨rfl, _⟩; exact absurd h.lt' (List.lt_irrefl _)
theorem flat_inj (K : Code C) {u v : List (List Nat)} (hu : Over C u) (hv : Over C v) (h : u.flatten = v.flatten) : u = v := by
  have h1 := (pre_flat K hu hv).mp (h ▸ List.prefix_refl _)
  have h2 := (pre_flat K hv hu).mp (h ▸ List.prefix_refl _)
  exact h1.eq_of_length (Nat.le_antisymm h1.length_le h2.length_le)
theorem lt_cons (K : Code C) {x y : List Nat} {u v : List Nat} (hx : x ∈ C) (hy : y ∈ C) : x ++ u < y ++ v ↔ x < y ∨ (x = y ∧ u < v) := by
  rcases K.div x hx y hy with rfl | h | h
  · rw [lt_app]
    exact ⟨fun h => .inr ⟨rfl, h⟩, fun h => h.elim (fun h => absurd h (List.lt_irrefl _)) (·.2)⟩
  · exact ⟨fun _ => .inl h.lt', fun _ => h.lt _ _⟩
  · constructor
    · exact fun k => absurd (List.lt_trans k (h.lt v u)) (List.lt_irrefl _)
    · rintro (k | ⟨rfl, _⟩)
      · exact absurd (List.lt_trans k h.lt') (List.lt_irrefl _)
      · exact absurd h.lt' (List.lt_irrefl _)
end code
end Mine
set_option maxHeartbeats 4000000
namespace Mine
theorem foldl_cat : ∀ (l : List MStr) (acc : Array Nat), (l.foldl (fun acc p => acc ++ (Str.ofString "").cps ++ p.cps) acc).toList = acc.toList ++ (l.map cs).flatten
  | [], acc => by simp
  | x :: l, acc => by
    rw [List.foldl_cons, foldl_cat l]
    have : (Str.ofString "").cps = #[] := rfl
    rw [this]; simp [cs]
theorem cs_join (l : List MStr) : cs (Txt.join (Str.ofString "") l) = (l.map cs).flatten := by
  cases l with
  | nil => rfl
  | cons x l =>
    show ((l.foldl (fun acc p => acc ++ (Str.ofString "").cps ++ p.cps) x.cps)).toList = _
    rw [foldl_cat]; rfl
theorem take_lt : ∀ (p a : List Nat), a.take p.length < p ↔ a < p
  | [], a => by simp
  | c :: p, [] => by simp
  | c :: p, x :: a => by
    rw [List.length_cons, List.take_succ_cons, List.cons_lt_cons_iff, List.cons_lt_cons_iff, take_lt p a]
theorem lt_tilde : ∀ (p a : List Nat), (∀ x ∈ a, x < 126) → (¬ p < a.take p.length ↔ a < p ++ [126])
  | [], [], _ => by simp
  | [], x :: a, h => by
    have := h x (.head _)
    simp [List.cons_lt_cons_iff, this]
  | c :: p, [], _ => by simp
  | c :: p, x :: a, h => by
    rw [List.length_cons, List.take_succ_cons, List.cons_lt_cons_iff, List.cons_append, List.cons_lt_cons_iff, ← lt_tilde p a fun y hy => h y (.tail _ hy)]
    constructor
    · intro k
      by_cases e : x = c
      · exact .inr ⟨e, fun q => k (.inr ⟨e.symm, q⟩)⟩
      · exact .inl (by have : ¬ c < x := fun q => k (.inl q); (first | lia | omega))
    · rintro (k | ⟨rfl, k⟩) (q | ⟨e, q⟩)
      · (first | lia | omega)
      · (first | lia | omega)
      · (first | lia | omega)
      · exact k q
theorem pre_iff (p a : List Nat) (h : ∀ x ∈ a, x < 126) : p <+: a ↔ ¬ a < p ∧ a < p ++ [126] := by
  rw [← take_lt, ← lt_tilde p a h, List.prefix_iff_eq_take]
  constructor
  · intro e
    rw [← e]
    exact ⟨List.lt_irrefl _, List.lt_irrefl _⟩
  · rintro ⟨h1, h2⟩
    rcases lst_le_of_not h1 with q | q
    · exact absurd q h2
    · exact q
theorem bsL_true {t : Nat → Bool} {n : Nat} (h : ∀ j, j < n → t j = true) : bsL t n 0 n = n := by
  obtain ⟨_, a, b, c⟩ := bsL_spec (t := t) (n := n) (lo := 0) (hi := n) (by (first | lia | omega)) (by (first | lia | omega)) fun i j _ hij hj _ => h i (by (first | lia | omega))
  rcases Nat.lt_or_eq_of_le a with q | q
  · have := c _ (Nat.le_refl _) q
    rw [h _ q] at this; cases this
  · exact q
theorem bsL_false {t : Nat → Bool} {n : Nat} (h : ∀ j, j < n → t j = false) : bsL t n 0 n = 0 := by
  obtain ⟨_, a, b, c⟩ := bsL_spec (t := t) (n := n) (lo := 0) (hi := n) (by (first | lia | omega)) (by (first | lia | omega)) fun i j _ hij hj e => by rw [h j hj] at e; cases e
  rcases Nat.eq_zero_or_pos (bsL t n 0 n) with q | q
  · exact q
  · have := b 0 (Nat.zero_le _) q
    rw [h 0 (by (first | lia | omega))] at this; cases this
theorem range_map (f : Nat → Nat) (n : Nat) (h : ∀ i, i < n → f i = i) : (List.range n).map f = List.range n := by
  conv => rhs; rw [← List.map_id (List.range n)]
  exact List.map_congr_left fun i hi => h i (List.mem_range.mp hi)
theorem idx_take (n len : Nat) : Builtin.Str.strSliceIndices .none (some (n : Int)) 1 len = List.range (min n len) := by
  unfold Builtin.Str.strSliceIndices sliceRange
  simp only [show ((1 : Int) > 0) from by decide, if_true]
  have e1 : ¬ ((n : Int) < 0) := by (first | lia | omega)
  rw [if_neg e1]
  have e2 : max (0 : Int) (min (n : Int) (len : Int)) = ((min n len : Nat) : Int) := by (first | lia | omega)
  rw [e2]
  by_cases h : (0 : Int) < ((min n len : Nat) : Int)
  · rw [if_pos h]
    have e3 : ((((min n len : Nat) : Int) - 0 + 1 - 1) / 1).toNat = min n len := by rw [Int.ediv_one]; (first | lia | omega)
    rw [e3]
    exact range_map _ _ fun i _ => by (first | lia | omega)
  · rw [if_neg h]
    have : min n len = 0 := by (first | lia | omega)
    rw [this]; rfl
theorem idx_drop (n len : Nat) : Builtin.Str.strSliceIndices (some (n : Int)) .none 1 len = (List.range (len - n)).map fun k => n + k := by
  unfold Builtin.Str.strSliceIndices sliceRange
  simp only [show ((1 : Int) > 0) from by decide, if_true]
  have e1 : ¬ ((n : Int) < 0) := by (first | lia | omega)
  rw [if_neg e1]
  by_cases hn : n ≤ len
  · have e2 : max (0 : Int) (min (n : Int) (len : Int)) = (n : Int) := by (first | lia | omega)
    rw [e2]
    by_cases h : (n : Int) < (len : Int)
    · rw [if_pos h]
      have e3 : (((len : Int) - (n : Int) + 1 - 1) / 1).toNat = len - n := by rw [Int.ediv_one]; (first | lia | omega)
      rw [e3]
      exact List.map_congr_left fun i _ => by (first | lia | omega)
    · rw [if_neg h]
      have : len - n = 0 := by (first | lia | omega)
      rw [this]; rfl
  · have e2 : max (0 : Int) (min (n : Int) (len : Int)) = (len : Int) := by (first | lia | omega)
    rw [e2, if_neg (by (first | lia | omega))]
    have : len - n = 0 := by (first | lia | omega)
    rw [this]; rfl
theorem filterMap_take : ∀ (l : List Nat) (m : Nat), (List.range m).filterMap (fun i => l[i]?) = l.take m
  | [], m => by
    rw [List.take_nil, List.filterMap_eq_nil_iff]; intro i _; rfl
  | x :: l, 0 => rfl
  | x :: l, m + 1 => by
    rw [List.range_succ_eq_map, List.filterMap_cons, List.filterMap_map, List.take_succ_cons, ← filterMap_take l m]
    rfl
theorem filterMap_drop (l : List Nat) (n : Nat) : ((List.range (l.length - n)).map fun k => n + k).filterMap (fun i => l[i]?) = l.drop n := by
  rw [List.filterMap_map]
  have : (List.range (l.length - n)).filterMap ((fun i => l[i]?) ∘ fun k => n + k) = (List.range (l.length - n)).filterMap (fun i => (l.drop n)[i]?) := by
    congr 1
    funext i
    show l[n + i]? = (l.drop n)[i]?
    rw [List.getElem?_drop]
  rw [this, filterMap_take]
  exact List.take_of_length_le (by rw [List.length_drop]; exact Nat.le_refl _)
theorem slice_take (x : MStr) (n : Nat) : cs (Txt.slice x .none (some (n : Int))) = (cs x).take n := by
  unfold Txt.slice
  rw [idx_take]
  split
  · rename_i h
    have : min n x.length = x.length := by simpa using h
    exact (List.take_of_length_le (by rw [cs_len]; (first | lia | omega))).symm
  · show ((List.range (min n x.length)).filterMap (x.cps[·]?)).toArray.toList = _
    have e : (fun i : Nat => x.cps[i]?) = fun i => (cs x)[i]? := by funext i; exact (Array.getElem?_toList).symm
    rw [List.toList_toArray, e, filterMap_take]
    by_cases h : n ≤ x.length
    · rw [Nat.min_eq_left h]
    · rw [Nat.min_eq_right (by (first | lia | omega)), List.take_of_length_le (by rw [cs_len]; exact Nat.le_refl _), List.take_of_length_le (by rw [cs_len]; (first | lia | omega))]
theorem slice_drop (x : MStr) (n : Nat) : cs (Txt.slice x (some (n : Int)) .none) = (cs x).drop n := by
  unfold Txt.slice
  rw [idx_drop]
  split
  · rename_i h
    have h : x.length - n = x.length := by simpa using h
    by_cases hn : n = 0
    · subst hn; rfl
    · have : (cs x).length = 0 := by rw [cs_len]; (first | lia | omega)
      rw [List.length_eq_zero_iff.mp this]
      simp
  · show (((List.range (x.length - n)).map fun k => n + k).filterMap (x.cps[·]?)).toArray.toList = _
    have e : (fun i : Nat => x.cps[i]?) = fun i => (cs x)[i]? := by funext i; exact (Array.getElem?_toList).symm
    rw [List.toList_toArray, e, ← cs_len x, filterMap_drop]
end Mine
set_option maxHeartbeats 4000000
namespace Mine
noncomputable def UL (ns : List Int) : List (List Nat) := (wsL ns).map cs
noncomputable def CL (ns : List Int) : List (List Nat) := (codes (oddL ns)).map cs
noncomputable def TL (ns : List Int) (k : Nat) : List Nat := ((UL ns).drop k).flatten
section
variable (ns : List Int)
theorem UL_len : (UL ns).length = 6 := by rw [UL, List.length_map]; exact ws_len ns
theorem UL_over : Over (CL ns) (UL ns) := fun x hx => by
  obtain ⟨y, hy, rfl⟩ := List.mem_map.mp hx
  exact List.mem_map_of_mem (ws_mem ns y hy)
theorem drop_over (k : Nat) : Over (CL ns) ((UL ns).drop k) := (UL_over ns).sub fun x hx => List.drop_subset _ _ hx
theorem CL_code : Code (CL ns) := codes_code ns
theorem cs_tail (k : Nat) : cs ((tlL ns).getD k Str.empty) = TL ns k := by
  rw [tlL, tailsP, TL, List.getD_eq_getElem?_getD, List.getElem?_map]
  by_cases h : k < 6
  · rw [List.getElem?_range h]
    show cs (Txt.join (Str.ofString "") ((wsL ns).drop k)) = _
    rw [cs_join, UL, List.map_drop]
  · have : (List.range 6)[k]? = none := List.getElem?_eq_none (by simp; (first | lia | omega))
    rw [this, List.drop_of_length_le (by rw [UL_len]; (first | lia | omega))]
    rfl
theorem cs_ws (k : Nat) (h : k < 6) : cs ((wsL ns).getD k Str.empty) = (UL ns)[k]'(by rw [UL_len]; exact h) := by
  rw [List.getD_eq_getElem?_getD, List.getElem?_eq_getElem (by rw [ws_len]; exact h)]
  simp [UL]
theorem TL_cons (k : Nat) (h : k < 6) : TL ns k = (UL ns)[k]'(by rw [UL_len]; exact h) ++ TL ns (k + 1) := by
  rw [TL, List.drop_eq_getElem_cons (by rw [UL_len]; exact h), List.flatten_cons]; rfl
theorem TL_six : TL ns 6 = [] := by rw [TL, List.drop_of_length_le (by rw [UL_len]; exact Nat.le_refl _)]; rfl
theorem TL_inj {k l : Nat} (hk : k ≤ 6) (hl : l ≤ 6) (h : TL ns k = TL ns l) : k = l := by
  have := flat_inj (CL_code ns) (drop_over ns k) (drop_over ns l) h
  have := congrArg List.length this
  rw [List.length_drop, List.length_drop, UL_len] at this
  (first | lia | omega)
theorem UL_mem (k : Nat) (h : k < 6) : (UL ns)[k]'(by rw [UL_len]; exact h) ∈ CL ns := UL_over ns _ (List.getElem_mem _)
theorem TL_ne (k : Nat) (h : k < 6) : ∃ a r, TL ns k = a :: r ∧ 9 < a ∧ a < 126 := by
  rw [TL_cons ns k h]
  have h1 := (CL_code ns).ne _ (UL_mem ns k h)
  have h2 := (CL_code ns).low _ (UL_mem ns k h)
  cases e : (UL ns)[k]'(by rw [UL_len]; exact h) with
  | nil => exact absurd e h1
  | cons a r =>
    rw [e] at h2
    exact ⟨a, r ++ TL ns (k + 1), rfl, (h2 a (.head _)).1, (h2 a (.head _)).2.1⟩

theorem row_facts : (rowL ns).Pairwise (fun a b => TL ns a < TL ns b) ∧ (rowL ns).Perm (List.range 6) := by
  obtain ⟨h1, h2⟩ := rowN_sorted (key := fun k => (tlL ns).getD k Str.empty) (ord := id) (l := List.range 6) (acc := []) .nil List.pairwise_lt_range (fun _ h => (nomatch h))
  rw [List.nil_append] at h2
  refine ⟨?_, h2⟩
  refine h1.imp_of_mem fun {a b} ha hb h => ?_
  have ha := List.mem_range.mp (h2.mem_iff.mp ha)
  have hb := List.mem_range.mp (h2.mem_iff.mp hb)
  rcases h with h | ⟨h, hab⟩
  · rwa [cs_tail, cs_tail] at h
  · rw [cs_tail, cs_tail] at h
    have := TL_inj ns (Nat.le_of_lt ha) (Nat.le_of_lt hb) h
    have hab : a < b := hab
    (first | lia | omega)
theorem row_lt : ∀ k ∈ rowL ns, k < 6 := fun k hk => List.mem_range.mp ((row_facts ns).2.mem_iff.mp hk)
theorem row_len : (rowL ns).length = 6 := by rw [(row_facts ns).2.length_eq]; rfl
theorem idx_ne {x a : Nat} {l : List Nat} (h : x ≠ a) : (x :: l).idxOf a = l.idxOf a + 1 := by
  rw [List.idxOf_cons]
  have : (x == a) = false := by simpa using h
  rw [this]; rfl
theorem pw_idx : ∀ {l : List Nat}, l.Nodup → l.Pairwise (fun a b => l.idxOf a < l.idxOf b)
  | [], _ => .nil
  | x :: l, h => by
    rw [List.nodup_cons] at h
    rw [List.pairwise_cons]
    refine ⟨fun b hb => ?_, (pw_idx h.2).imp_of_mem fun {a b} ha hb q => ?_⟩
    · have hne : x ≠ b := fun e => h.1 (e ▸ hb)
      rw [List.idxOf_cons_self, idx_ne hne]
      exact Nat.succ_pos _
    · have h1 : x ≠ a := fun e => h.1 (e ▸ ha)
      have h2 : x ≠ b := fun e => h.1 (e ▸ hb)
      rw [idx_ne h1, idx_ne h2]
      exact Nat.succ_lt_succ q
theorem six_facts : (6 :: rowL ns).Pairwise (fun a b => TL ns a < TL ns b) := by
  rw [List.pairwise_cons]
  refine ⟨fun b hb => ?_, (row_facts ns).1⟩
  rw [TL_six]
  obtain ⟨a, r, e, _⟩ := TL_ne ns b (row_lt ns b hb)
  rw [e]; simp
theorem again_row : againL ns = rowL ns := by
  have hsix := six_facts ns
  have hnd : (6 :: rowL ns).Nodup := List.Pairwise.imp (S := fun a b => a ≠ b) (fun {a b} (h : TL ns a < TL ns b) (e : a = b) => List.lt_irrefl (TL ns b) (by rw [e] at h; exact h)) hsix
  have hidx := pw_idx hnd
  obtain ⟨hrow, hperm⟩ := row_facts ns
  have hbeh : (behindP (rowL ns)).Perm (List.range 6) := by
    have h1 : (behindP (rowL ns)).Perm (behindP (List.range 6)) := ((hperm.cons 6).filter _).map _
    exact h1.trans (by decide)
  have hord : (behindP (rowL ns)).Pairwise (fun a b => (6 :: rowL ns).idxOf (a + 1) < (6 :: rowL ns).idxOf (b + 1)) := by
    unfold behindP
    rw [List.pairwise_map]
    refine (hidx.sublist List.filter_sublist).imp_of_mem fun {a b} ha hb q => ?_
    have ha := of_decide_eq_true (List.mem_filter.mp ha).2
    have hb := of_decide_eq_true (List.mem_filter.mp hb).2
    have e1 : a - 1 + 1 = a := by (first | lia | omega)
    have e2 : b - 1 + 1 = b := by (first | lia | omega)
    rw [e1, e2]; exact q
  obtain ⟨h1, h2⟩ := rowN_sorted (key := fun k => (wsL ns).getD k Str.empty) (ord := fun k => (6 :: rowL ns).idxOf (k + 1)) (l := behindP (rowL ns)) (acc := []) .nil hord (fun _ h => (nomatch h))
  rw [List.nil_append] at h2
  have hag : (againL ns).Perm (rowL ns) := h2.trans (hbeh.trans hperm.symm)
  refine perm_sorted_eq (fun a _ b _ q k => (befR_anti q k).elim) hag h1 ?_
  refine hrow.imp_of_mem fun {a b} ha hb h => ?_
  have ha := row_lt ns a ha
  have hb := row_lt ns b hb
  rw [TL_cons ns a ha, TL_cons ns b hb] at h
  show cs ((wsL ns).getD a Str.empty) < cs ((wsL ns).getD b Str.empty) ∨ (cs ((wsL ns).getD a Str.empty) = cs ((wsL ns).getD b Str.empty) ∧ _)
  rw [cs_ws ns a ha, cs_ws ns b hb]
  rcases (lt_cons (CL_code ns) (UL_mem ns a ha) (UL_mem ns b hb)).mp h with q | ⟨q, k⟩
  · exact .inl q
  · refine .inr ⟨q, ?_⟩
    have in6 : ∀ c, c < 6 → c + 1 ∈ 6 :: rowL ns := fun c hc => by
      by_cases e : c + 1 = 6
      · rw [e]; exact .head _
      · exact .tail _ (hperm.mem_iff.mpr (List.mem_range.mpr (by (first | lia | omega))))
    have g1 := List.idxOf_lt_length_of_mem (in6 a ha)
    have g2 := List.idxOf_lt_length_of_mem (in6 b hb)
    have s1 : (6 :: rowL ns)[(6 :: rowL ns).idxOf (a + 1)]? = some (a + 1) := by rw [List.getElem?_eq_getElem g1, List.getElem_idxOf]
    have s2 : (6 :: rowL ns)[(6 :: rowL ns).idxOf (b + 1)]? = some (b + 1) := by rw [List.getElem?_eq_getElem g2, List.getElem_idxOf]
    rcases Nat.lt_trichotomy ((6 :: rowL ns).idxOf (a + 1)) ((6 :: rowL ns).idxOf (b + 1)) with l | e | l
    · exact l
    · rw [e, s2] at s1
      have : b + 1 = a + 1 := Option.some.inj s1
      have : b = a := by (first | lia | omega)
      subst this
      exact absurd k (List.lt_irrefl _)
    · exact absurd (List.lt_trans k (pw_get hsix l s2 s1)) (List.lt_irrefl _)
end
end Mine
set_option maxHeartbeats 400000
namespace Mine
structure Ctx6 (U C : List (List Nat)) (ws tl : List MStr) (row : List Nat) : Prop where
  code : Code C
  over : Over C U
  len : U.length = 6
  wsU : ws.map cs = U
  tlW : tl = tailsP ws 6
  tail : ∀ k, cs (tl.getD k Str.empty) = (U.drop k).flatten
  sorted : row.Pairwise (fun a b => (U.drop a).flatten < (U.drop b).flatten)
  perm : row.Perm (List.range 6)
theorem ctx6 (ns : List Int) : Ctx6 (UL ns) (CL ns) (wsL ns) (tlL ns) (rowL ns) :=
  ⟨CL_code ns, UL_over ns, UL_len ns, rfl, rfl, cs_tail ns, (row_facts ns).1, (row_facts ns).2⟩
section
variable {U C : List (List Nat)} {ws tl : List MStr} {row : List Nat} (X : Ctx6 U C ws tl row)
include X
theorem Ctx6.rowlen : row.length = 6 := by rw [X.perm.length_eq]; rfl
theorem Ctx6.rowlt : ∀ k ∈ row, k < 6 := fun k hk => List.mem_range.mp (X.perm.mem_iff.mp hk)
theorem Ctx6.low (k : Nat) : ∀ x ∈ (U.drop k).flatten, x < 126 := fun x hx => by
  obtain ⟨y, hy, hx⟩ := List.mem_flatten.mp hx
  exact (X.code.low y (X.over y (List.drop_subset _ _ hy)) x hx).2.1
theorem Ctx6.ne (k : Nat) (h : k < 6) : ∃ a r, (U.drop k).flatten = a :: r ∧ 9 < a ∧ a < 126 := by
  have hk : k < U.length := by rw [X.len]; exact h
  rw [List.drop_eq_getElem_cons hk, List.flatten_cons]
  have hm := X.over _ (List.getElem_mem hk)
  have h1 := X.code.ne _ hm
  have h2 := X.code.low _ hm
  cases e : U[k] with
  | nil => exact absurd e h1
  | cons a r =>
    rw [e] at h2
    exact ⟨a, r ++ (U.drop (k + 1)).flatten, rfl, (h2 a (.head _)).1, (h2 a (.head _)).2.1⟩
end
noncomputable def SU (U : List (List Nat)) (row : List Nat) (j : Nat) : List Nat := (U.drop (row.getD j 6)).flatten
noncomputable def below (U : List (List Nat)) (row : List Nat) (p : List Nat) : Nat := bsL (fun j => decide (SU U row j < p)) 6 0 6
section
variable {U C : List (List Nat)} {ws tl : List MStr} {row : List Nat} (X : Ctx6 U C ws tl row)
include X
theorem SL_lt {i j : Nat} (hij : i < j) (hj : j < 6) : SU U row i < SU U row j := by
  have h := X.sorted
  have hl := X.rowlen
  refine pw_get h hij ?_ ?_
  · rw [List.getD_eq_getElem?_getD, List.getElem?_eq_getElem (by (first | lia | omega))]; rfl
  · rw [List.getD_eq_getElem?_getD, List.getElem?_eq_getElem (by (first | lia | omega))]; rfl
theorem SL_le {i j : Nat} (hij : i ≤ j) (hj : j < 6) : ¬ SU U row j < SU U row i := by
  rcases Nat.lt_or_eq_of_le hij with h | rfl
  · exact fun k => List.lt_irrefl _ (List.lt_trans k (SL_lt X h hj))
  · exact List.lt_irrefl _
theorem SL_low (j : Nat) : ∀ x ∈ SU U row j, x < 126 := X.low _
theorem row_getD {j : Nat} (hj : j < 6) : row.getD j 6 < 6 ∧ (nats row).getD j .none = .int (row.getD j 6 : Nat) := by
  have hl := X.rowlen
  have e : row.getD j 6 = row[j]'(by (first | lia | omega)) := by rw [List.getD_eq_getElem?_getD, List.getElem?_eq_getElem (by (first | lia | omega))]; rfl
  refine ⟨by rw [e]; exact X.rowlt _ (List.getElem_mem _), ?_⟩
  rw [List.getD_eq_getElem?_getD, List.getElem?_map, e, List.getElem?_eq_getElem (by (first | lia | omega))]; rfl
theorem below_spec (p : List Nat) : below U row p ≤ 6 ∧ ∀ j, j < 6 → (j < below U row p ↔ SU U row j < p) := by
  obtain ⟨_, a, b, c⟩ := bsL_spec (t := fun j => decide (SU U row j < p)) (n := 6) (lo := 0) (hi := 6) (by (first | lia | omega)) (by (first | lia | omega)) fun i j _ hij hj h => by
    have h := of_decide_eq_true h
    refine decide_eq_true ?_
    rcases lst_le_of_not (SL_le X hij hj) with q | q
    · exact List.lt_trans q h
    · rw [q]; exact h
  refine ⟨a, fun j hj => ⟨fun h => of_decide_eq_true (b j (Nat.zero_le _) h), fun h => ?_⟩⟩
  rcases Nat.lt_or_ge j (below U row p) with q | q
  · exact q
  · exact absurd h (of_decide_eq_false (c j q hj))
theorem rng_eq (p : MStr) : rngP tl row p = (below U row (cs p), below U row (cs p ++ [126])) := by
  have hl : (nats row).length = 6 := by rw [List.length_map]; exact X.rowlen
  have key : ∀ j, j < 6 → (keyCut tl p.length ((nats row).getD j .none)).cps.toList = (SU U row j).take (cs p).length := fun j hj => by
    rw [(row_getD X hj).2]
    show cs (Txt.slice (tl.getD (((row.getD j 6 : Nat) : Int)).toNat Str.empty) .none (some (p.length : Int))) = _
    rw [slice_take, Int.toNat_natCast, X.tail, cs_len]; rfl
  unfold rngP below
  rw [hl]
  congr 1
  · refine bsL_congr fun j _ hj => ?_
    rw [key j hj]
    exact decide_eq_decide.mpr (take_lt (cs p) (SU U row j))
  · refine bsL_congr fun j _ hj => ?_
    rw [key j hj]
    exact decide_eq_decide.mpr (lt_tilde (cs p) (SU U row j) (SL_low X j))
theorem cuts_eq (p : MStr) : cutsP (row.map fun k => tl.getD k Str.empty) p = below U row (cs p) := by
  have hl : (row.map fun k => tl.getD k Str.empty).length = 6 := by rw [List.length_map]; exact X.rowlen
  unfold cutsP below
  rw [hl]
  refine bsL_congr fun j _ hj => ?_
  have e : cs ((row.map fun k => tl.getD k Str.empty).getD j Str.empty) = SU U row j := by
    have hr := X.rowlen
    rw [List.getD_eq_getElem?_getD, List.getElem?_map, List.getElem?_eq_getElem (by (first | lia | omega))]
    show cs (tl.getD _ Str.empty) = _
    rw [X.tail, SU, List.getD_eq_getElem?_getD, List.getElem?_eq_getElem (by (first | lia | omega))]; rfl
  show decide (cs ((row.map fun k => tl.getD k Str.empty).getD j Str.empty) < cs p) = _
  rw [e]
theorem told_eq (p : MStr) : (cutsP (row.map fun k => tl.getD k Str.empty) p, cutsP (row.map fun k => tl.getD k Str.empty) (p ++ Str.ofString "~")) = rngP tl row p := by
  rw [rng_eq X, cuts_eq X, cuts_eq X, cs_cat]; rfl
theorem tab_eq : rngP tl row (Str.ofString "\t") = (0, 0) := by
  rw [rng_eq X]
  have e : cs (Str.ofString "\t") = [9] := rfl
  rw [e]
  have h : ∀ j, j < 6 → ∃ a r, SU U row j = a :: r ∧ 9 < a := fun j hj => by
    obtain ⟨a, r, e, h, _⟩ := X.ne _ (row_getD X hj).1
    exact ⟨a, r, e, h⟩
  have h1 : below U row [9] = 0 := bsL_false fun j hj => by
    obtain ⟨a, r, e, h⟩ := h j hj
    refine decide_eq_false fun k => ?_
    rw [e, List.cons_lt_cons_iff] at k
    rcases k with k | ⟨k, _⟩ <;> (first | lia | omega)
  have h2 : below U row ([9] ++ [126]) = 0 := bsL_false fun j hj => by
    obtain ⟨a, r, e, h⟩ := h j hj
    refine decide_eq_false fun k => ?_
    rw [e, List.cons_append, List.cons_lt_cons_iff] at k
    rcases k with k | ⟨k, _⟩ <;> (first | lia | omega)
  rw [h1, h2]
theorem til_eq : rngP tl row (Str.ofString "~") = (6, 6) := by
  rw [rng_eq X]
  have e : cs (Str.ofString "~") = [126] := rfl
  rw [e]
  have h : ∀ j, j < 6 → ∃ a r, SU U row j = a :: r ∧ a < 126 := fun j hj => by
    obtain ⟨a, r, e, _, h⟩ := X.ne _ (row_getD X hj).1
    exact ⟨a, r, e, h⟩
  have h1 : below U row [126] = 6 := bsL_true fun j hj => by
    obtain ⟨a, r, e, h⟩ := h j hj
    refine decide_eq_true ?_
    rw [e, List.cons_lt_cons_iff]; exact .inl h
  have h2 : below U row ([126] ++ [126]) = 6 := bsL_true fun j hj => by
    obtain ⟨a, r, e, h⟩ := h j hj
    refine decide_eq_true ?_
    rw [e, List.cons_append, List.cons_lt_cons_iff]; exact .inl h
  rw [h1, h2]
theorem rg_mem (p : MStr) {j : Nat} (hj : j < 6) : ((rngP tl row p).1 ≤ j ∧ j < (rngP tl row p).2) ↔ cs p <+: SU U row j := by
  rw [rng_eq X, pre_iff _ _ (SL_low X j)]
  have h1 := (below_spec X (cs p)).2 j hj
  have h2 := (below_spec X (cs p ++ [126])).2 j hj
  dsimp only
  rw [← h1, ← h2, Nat.not_lt]
theorem rg_le (p : MStr) : (rngP tl row p).1 ≤ 6 ∧ (rngP tl row p).2 ≤ 6 := by
  rw [rng_eq X]
  exact ⟨(below_spec X _).1, (below_spec X _).1⟩
omit X in
theorem starts_iff (x y : MStr) : Txt.startswith x y = true ↔ cs y <+: cs x := by
  unfold Txt.startswith Builtin.Str.subAt
  rw [Bool.and_eq_true, decide_eq_true_eq, beq_iff_eq, Nat.zero_add]
  have e : x.cps.extract 0 y.length = y.cps ↔ (cs x).take y.length = cs y := by
    rw [← Array.toList_inj, Array.toList_extract]; simp [cs, List.extract]
  rw [e, List.prefix_iff_eq_take, cs_len]
  constructor
  · exact fun h => h.2.symm
  · intro h
    refine ⟨?_, h.symm⟩
    have := congrArg List.length h
    rw [List.length_take, cs_len, cs_len] at this
    (first | lia | omega)
theorem SU_map : (List.range 6).map (SU U row) = row.map (fun k => (U.drop k).flatten) := by
  have hl := X.rowlen
  apply List.ext_getElem
  · simp [hl]
  · intro i h1 h2
    have hi : i < 6 := by simpa using h1
    simp only [List.getElem_map, List.getElem_range]
    rw [SU, List.getD_eq_getElem?_getD, List.getElem?_eq_getElem (by (first | lia | omega))]; rfl
theorem count_eq (p : MStr) (h : (rngP tl row p).1 ≤ (rngP tl row p).2) : cntP tl p = (rngP tl row p).2 - (rngP tl row p).1 := by
  have e1 : cntP tl p = ((List.range 6).map (fun k => (U.drop k).flatten)).countP (fun t => decide (cs p <+: t)) := by
    unfold cntP
    rw [← List.countP_eq_length_filter, X.tlW, tailsP, List.countP_map, List.countP_map]
    refine List.countP_congr fun k hk => ?_
    have hk := List.mem_range.mp hk
    show Txt.startswith (Txt.join (Str.ofString "") (ws.drop k)) p = true ↔ decide (cs p <+: (U.drop k).flatten) = true
    rw [starts_iff, cs_join, decide_eq_true_eq, List.map_drop, X.wsU]
  have e2 : ((List.range 6).map (fun k => (U.drop k).flatten)).countP (fun t => decide (cs p <+: t)) = ((List.range 6).map (SU U row)).countP (fun t => decide (cs p <+: t)) := by
    rw [SU_map X]
    exact (X.perm.symm.map _).countP_eq _
  rw [e1, e2, List.countP_map]
  have e3 : (List.range 6).countP ((fun t => decide (cs p <+: t)) ∘ SU U row) = (List.range 6).countP (fun j => decide ((rngP tl row p).1 ≤ j ∧ j < (rngP tl row p).2)) := by
    refine List.countP_congr fun j hj => ?_
    have hj := List.mem_range.mp hj
    show decide (cs p <+: SU U row j) = true ↔ _
    rw [decide_eq_true_eq, decide_eq_true_eq, rg_mem X p hj]
  rw [e3]
  have hb := rg_le X p
  generalize (rngP tl row p).1 = lo at h hb
  generalize (rngP tl row p).2 = hi at h hb
  have key : ∀ lo, lo ∈ List.range 7 → ∀ hi, hi ∈ List.range 7 → lo ≤ hi → (List.range 6).countP (fun j => decide (lo ≤ j ∧ j < hi)) = hi - lo := by decide
  exact key lo (List.mem_range.mpr (by (first | lia | omega))) hi (List.mem_range.mpr (by (first | lia | omega))) h
end
end Mine
set_option maxHeartbeats 400000
namespace Mine
noncomputable def IsPart (U C : List (List Nat)) (p : MStr) : Prop := ∃ u, cs p = u.flatten ∧ Over C u ∧ u ≠ [] ∧ ∃ f, f < 6 ∧ u <+: U.drop f
noncomputable def LenLe (C : List (List Nat)) (p q : MStr) : Prop := ∀ u v, cs p = u.flatten → Over C u → cs q = v.flatten → Over C v → u.length ≤ v.length
section
variable {U C : List (List Nat)} {ws tl : List MStr} {row : List Nat} (X : Ctx6 U C ws tl row)
include X
theorem V_over (j : Nat) : Over C (U.drop j) := X.over.sub fun x hx => List.drop_subset _ _ hx
theorem part_pre {p : MStr} {u : List (List Nat)} (e : cs p = u.flatten) (hu : Over C u) (j : Nat) : cs p <+: SU U row j ↔ u <+: U.drop (row.getD j 6) := by
  rw [e]; exact pre_flat X.code hu (V_over X _)
theorem part_some {p : MStr} (h : IsPart U C p) : ∃ j, j < 6 ∧ cs p <+: SU U row j := by
  obtain ⟨u, e, hu, _, f, hf, hp⟩ := h
  have hm : f ∈ row := X.perm.mem_iff.mpr (List.mem_range.mpr hf)
  have hl := List.idxOf_lt_length_of_mem hm
  refine ⟨row.idxOf f, by rw [← X.rowlen]; exact hl, (part_pre X e hu _).mpr ?_⟩
  have : row.getD (row.idxOf f) 6 = f := by rw [List.getD_eq_getElem?_getD, List.getElem?_eq_getElem hl, List.getElem_idxOf]; rfl
  rw [this]; exact hp
theorem part_lt {p : MStr} (h : IsPart U C p) : (rngP tl row p).1 < (rngP tl row p).2 := by
  obtain ⟨j, hj, hp⟩ := part_some X h
  have := (rg_mem X p hj).mpr hp
  (first | lia | omega)
theorem pre_sub {p q : MStr} (hq : IsPart U C q) (h : cs p <+: cs q) : (rngP tl row p).1 ≤ (rngP tl row q).1 ∧ (rngP tl row q).2 ≤ (rngP tl row p).2 := by
  have hlt := part_lt X hq
  have hle := rg_le X q
  have h1 := (rg_mem X q (j := (rngP tl row q).1) (by (first | lia | omega))).mp ⟨Nat.le_refl _, hlt⟩
  have h2 := (rg_mem X q (j := (rngP tl row q).2 - 1) (by (first | lia | omega))).mp ⟨by (first | lia | omega), by (first | lia | omega)⟩
  have k1 := (rg_mem X p (j := (rngP tl row q).1) (by (first | lia | omega))).mpr (h.trans h1)
  have k2 := (rg_mem X p (j := (rngP tl row q).2 - 1) (by (first | lia | omega))).mpr (h.trans h2)
  (first | lia | omega)
theorem share_pre {p q : MStr} (hp : IsPart U C p) (hq : IsPart U C q) {j : Nat} (h1 : (rngP tl row p).1 ≤ j) (h2 : j < (rngP tl row p).2) (h3 : (rngP tl row q).1 ≤ j) (h4 : j < (rngP tl row q).2) : cs p <+: cs q ∨ cs q <+: cs p := by
  have hj : j < 6 := Nat.lt_of_lt_of_le h2 (rg_le X p).2
  exact List.prefix_or_prefix_of_prefix ((rg_mem X p hj).mp ⟨h1, h2⟩) ((rg_mem X q hj).mp ⟨h3, h4⟩)
theorem same_pre {p q : MStr} (hp : IsPart U C p) (hq : IsPart U C q) (he : rngP tl row p = rngP tl row q) (hl : LenLe C p q) : cs p <+: cs q := by
  have hlt := part_lt X hp
  have hlt2 := part_lt X hq
  have h : cs p <+: cs q ∨ cs q <+: cs p := share_pre X hp hq (j := (rngP tl row p).1) (Nat.le_refl _) hlt (by rw [he]; exact Nat.le_refl _) (by rw [he]; exact hlt2)
  obtain ⟨u, e1, o1, _, _⟩ := hp
  obtain ⟨v, e2, o2, _, _⟩ := hq
  have hle := hl u v e1 o1 e2 o2
  rcases h with h | h
  · exact h
  · rw [e1, e2, pre_flat X.code o2 o1] at h
    have := h.eq_of_length (Nat.le_antisymm h.length_le hle)
    rw [e1, e2, this]; exact List.prefix_refl _
theorem part_word {s f : Nat} (hs : s < 6) (hf : f < 6 - s) : cs (partP ws (s + 1) f) = ((U.drop f).take (s + 1)).flatten ∧ ((U.drop f).take (s + 1)).length = s + 1 := by
  refine ⟨?_, ?_⟩
  · unfold partP
    rw [cs_join, List.map_take, List.map_drop, X.wsU]
  · rw [List.length_take, List.length_drop, X.len]; (first | lia | omega)
theorem take_over {s f : Nat} : Over C ((U.drop f).take s) := (V_over X f).sub fun x hx => List.take_subset _ _ hx
theorem mem_upto {p : MStr} : p ∈ uptoP ws 6 ↔ IsPart U C p := by
  unfold uptoP
  rw [List.mem_flatMap]
  constructor
  · rintro ⟨s, hs, hp⟩
    obtain ⟨f, hf, rfl⟩ := List.mem_map.mp hp
    have hs := List.mem_range.mp hs
    have hf := List.mem_range.mp hf
    obtain ⟨e, hl⟩ := part_word X hs hf
    exact ⟨_, e, take_over X, fun h => (by rw [h] at hl; cases hl), f, by (first | lia | omega), List.take_prefix _ _⟩
  · rintro ⟨u, e, hu, hne, f, hf, hp⟩
    have hl := hp.length_le
    rw [List.length_drop, X.len] at hl
    have h0 : 0 < u.length := List.length_pos_iff.mpr hne
    refine ⟨u.length - 1, List.mem_range.mpr (by (first | lia | omega)), List.mem_map.mpr ⟨f, List.mem_range.mpr (by (first | lia | omega)), ?_⟩⟩
    obtain ⟨e2, _⟩ := part_word X (s := u.length - 1) (f := f) (by (first | lia | omega)) (by (first | lia | omega))
    apply cs_inj
    rw [e2, e]
    have : u.length - 1 + 1 = u.length := by (first | lia | omega)
    rw [this, List.prefix_iff_eq_take.mp hp, List.length_take]
    congr 2
    rw [List.length_drop, X.len]; (first | lia | omega)
theorem upto_len : (uptoP ws 6).Pairwise (LenLe C) := by
  unfold uptoP
  rw [List.pairwise_flatMap]
  have key : ∀ s f, s < 6 → f < 6 - s → ∀ u, cs (partP ws (s + 1) f) = u.flatten → Over C u → u.length = s + 1 := fun s f hs hf u e hu => by
    obtain ⟨e2, hl⟩ := part_word X hs hf
    rw [e2] at e
    rw [← flat_inj X.code (take_over X) hu e, hl]
  constructor
  · intro s hs
    have hs := List.mem_range.mp hs
    rw [List.pairwise_map]
    refine List.Pairwise.imp_of_mem (R := fun _ _ => True) (fun {a b} ha hb _ u v e1 o1 e2 o2 => ?_) (List.pairwise_of_forall (fun _ _ => trivial))
    rw [key s a hs (List.mem_range.mp ha) u e1 o1, key s b hs (List.mem_range.mp hb) v e2 o2]
    exact Nat.le_refl _
  · refine List.Pairwise.imp_of_mem (fun {a b} ha hb hab x hx y hy u v e1 o1 e2 o2 => ?_) (List.pairwise_lt_range (n := 6))
    obtain ⟨f, hf, rfl⟩ := List.mem_map.mp hx
    obtain ⟨g, hg, rfl⟩ := List.mem_map.mp hy
    rw [key a f (List.mem_range.mp ha) (List.mem_range.mp hf) u e1 o1, key b g (List.mem_range.mp hb) (List.mem_range.mp hg) v e2 o2]
    (first | lia | omega)
end
end Mine
set_option maxHeartbeats 400000
namespace Mine
theorem nodup_at {α : Type} {l : List α} (h : l.Nodup) {i j : Nat} {a : α} (h1 : l[i]? = some a) (h2 : l[j]? = some a) : i = j := by
  rcases Nat.lt_trichotomy i j with q | q | q
  · exact absurd rfl (pw_get h q h1 h2)
  · exact q
  · exact absurd rfl (pw_get h q h2 h1)
structure RInv (wh tl : List MStr) (row : List Nat) (done : List MStr) (st : RSt) : Prop where
  mem : ∀ p, p ∈ st.parts ↔ p ∈ done
  nd : st.parts.Nodup
  due : st.due = st.parts.map fun p => (p, numS (cntP wh p))
  told : st.told = st.parts.map (rngP tl row)
  rnd : st.ranges.Nodup
  rmem : ∀ r, r ∈ st.ranges ↔ ∃ p ∈ st.parts, rngP tl row p = r
  lgl : st.longest.length = st.ranges.length
  lg : ∀ (i : Nat) (r : Nat × Nat) (x : MStr), st.ranges[i]? = some r → st.longest[i]? = some x → x ∈ st.parts ∧ rngP tl row x = r ∧ ∀ q ∈ st.parts, rngP tl row q = r → cs q <+: cs x
section
variable {U C : List (List Nat)} {ws tl wh : List MStr} {row : List Nat} (X : Ctx6 U C ws tl row)
include X
theorem RInv.step {done : List MStr} {st : RSt} {p : MStr} (I : RInv wh tl row done st) (hd : ∀ q ∈ done, IsPart U C q) (hp : IsPart U C p) (hl : ∀ q ∈ done, LenLe C q p) : RInv wh tl row (done ++ [p]) (stepR wh tl row st p) := by
  unfold stepR
  split
  · rename_i hmem
    have hm : ∀ q, q ∈ st.parts ↔ q ∈ done ++ [p] := fun q => by
      rw [List.mem_append, List.mem_singleton, ← I.mem q]
      exact ⟨.inl, fun h => h.elim id fun e => e ▸ hmem⟩
    exact { I with mem := hm }
  · rename_i hnm
    have hpart : ∀ q ∈ st.parts, IsPart U C q ∧ LenLe C q p := fun q hq => ⟨hd q ((I.mem q).mp hq), hl q ((I.mem q).mp hq)⟩
    refine ⟨fun q => ?_, ?_, ?_, ?_, ?_, fun r => ?_, ?_, ?_⟩
    · show q ∈ st.parts ++ [p] ↔ _
      rw [List.mem_append, List.mem_append, I.mem q]
    · show (st.parts ++ [p]).Nodup
      rw [List.nodup_append]
      refine ⟨I.nd, by simp, fun a ha b hb e => ?_⟩
      rw [List.mem_singleton] at hb
      subst hb; subst e
      exact hnm ha
    · show st.due ++ [_] = (st.parts ++ [p]).map _
      rw [List.map_append, I.due]; rfl
    · show st.told ++ [_] = (st.parts ++ [p]).map _
      rw [List.map_append, I.told]; rfl
    · dsimp only
      split
      · exact I.rnd
      · rename_i hr
        rw [List.nodup_append]
        refine ⟨I.rnd, by simp, fun a ha b hb e => ?_⟩
        rw [List.mem_singleton] at hb
        subst hb; subst e
        exact hr ha
    · dsimp only
      have : (∃ q ∈ st.parts ++ [p], rngP tl row q = r) ↔ (∃ q ∈ st.parts, rngP tl row q = r) ∨ rngP tl row p = r := by
        constructor
        · rintro ⟨q, hq, e⟩
          rcases List.mem_append.mp hq with hq | hq
          · exact .inl ⟨q, hq, e⟩
          · rw [List.mem_singleton] at hq; subst hq; exact .inr e
        · rintro (⟨q, hq, e⟩ | e)
          · exact ⟨q, List.mem_append_left _ hq, e⟩
          · exact ⟨p, List.mem_append_right _ (.head _), e⟩
      rw [this, ← I.rmem r]
      split
      · rename_i hr
        exact ⟨.inl, fun h => h.elim id fun e => e ▸ hr⟩
      · rw [List.mem_append, List.mem_singleton, eq_comm (a := r)]
    · dsimp only
      split
      · rw [List.length_set, I.lgl]
      · rw [List.length_append, List.length_append, I.lgl]; rfl
    · intro i r x hi hx
      dsimp only at hi hx ⊢
      have old : ∀ (r : Nat × Nat) (x : MStr), st.ranges[i]? = some r → st.longest[i]? = some x → r ≠ rngP tl row p → x ∈ st.parts ++ [p] ∧ rngP tl row x = r ∧ ∀ q ∈ st.parts ++ [p], rngP tl row q = r → cs q <+: cs x := fun r x h1 h2 hne => by
        obtain ⟨a, b, c⟩ := I.lg i r x h1 h2
        refine ⟨List.mem_append_left _ a, b, fun q hq e => ?_⟩
        rcases List.mem_append.mp hq with hq | hq
        · exact c q hq e
        · rw [List.mem_singleton] at hq; subst hq; exact absurd e.symm hne
      split at hx
      · rename_i hr
        rw [if_pos hr] at hi
        rw [List.getElem?_set] at hx
        split at hx
        · rename_i hj
          have hi' : r = rngP tl row p := by
            have hlt := List.idxOf_lt_length_of_mem hr
            subst hj
            rw [List.getElem?_eq_getElem hlt, List.getElem_idxOf] at hi
            exact (Option.some.inj hi).symm
          subst hi'
          split at hx
          · have hx := Option.some.inj hx
            subst hx
            refine ⟨List.mem_append_right _ (.head _), rfl, fun q hq e => ?_⟩
            rcases List.mem_append.mp hq with hq | hq
            · obtain ⟨h1, h2⟩ := hpart q hq
              exact same_pre X h1 hp e h2
            · rw [List.mem_singleton] at hq; subst hq; exact List.prefix_refl _
          · cases hx
        · rename_i hj
          refine old r x hi hx fun e => hj ?_
          subst e
          have h2 := List.idxOf_lt_length_of_mem hr
          exact nodup_at I.rnd (by rw [List.getElem?_eq_getElem h2, List.getElem_idxOf]) hi
      · rename_i hr
        rw [if_neg hr] at hi
        by_cases hlt : i < st.ranges.length
        · rw [List.getElem?_append_left hlt] at hi
          rw [List.getElem?_append_left (by rw [I.lgl]; exact hlt)] at hx
          exact old r x hi hx fun e => hr (e ▸ List.mem_of_getElem? hi)
        · rw [List.getElem?_append_right (by (first | lia | omega))] at hi
          rw [List.getElem?_append_right (by rw [I.lgl]; (first | lia | omega)), I.lgl] at hx
          have hz : i - st.ranges.length = 0 := by
            have := (List.getElem?_eq_some_iff.mp hi).1
            simp at this; (first | lia | omega)
          rw [hz] at hi hx
          have hi := Option.some.inj hi
          have hx := Option.some.inj hx
          subst hi; subst hx
          refine ⟨List.mem_append_right _ (.head _), rfl, fun q hq e => ?_⟩
          rcases List.mem_append.mp hq with hq | hq
          · exact absurd ((I.rmem _).mpr ⟨q, hq, e⟩) hr
          · rw [List.mem_singleton] at hq; subst hq; exact List.prefix_refl _
theorem rinv_fold : ∀ {l done : List MStr} {st : RSt}, RInv wh tl row done st → (∀ q ∈ done ++ l, IsPart U C q) → (done ++ l).Pairwise (LenLe C) → RInv wh tl row (done ++ l) (l.foldl (stepR wh tl row) st)
  | [], done, st, I, _, _ => by rw [List.append_nil]; exact I
  | p :: l, done, st, I, hd, hl => by
    have e : done ++ p :: l = (done ++ [p]) ++ l := by simp
    rw [List.foldl_cons, e]
    rw [e] at hd hl
    refine rinv_fold (I.step X (fun q hq => hd q (by simp [hq])) (hd p (by simp)) fun q hq => ?_) hd hl
    rw [List.append_assoc, List.pairwise_append] at hl
    exact hl.2.2 q hq p (by simp)
theorem rinv_run : RInv wh tl row (uptoP ws 6) (runR wh tl row (uptoP ws 6)) := by
  have := rinv_fold X (wh := wh) (l := uptoP ws 6) (done := []) (st := ⟨[], [], [], [], []⟩) ⟨fun _ => Iff.rfl, .nil, rfl, rfl, .nil, fun r => ⟨fun h => (nomatch h), fun ⟨_, h, _⟩ => (nomatch h)⟩, rfl, fun i r x h => by cases h⟩
    (fun q hq => (mem_upto X).mp hq) (upto_len X)
  rwa [List.nil_append] at this
end
end Mine
set_option maxHeartbeats 400000
namespace Mine
noncomputable def escM : Bool → List Nat → List MStr
  | true, [] => [Str.ofString "\\"]
  | false, [] => []
  | true, ch :: r => (Str.ofString "\\" ++ (⟨#[ch]⟩ : MStr)) :: escM false r
  | false, ch :: r => if ch = 92 then escM true r else (⟨#[ch]⟩ : MStr) :: escM false r
theorem escN_map : ∀ (l : List Nat) (i : Nat) (b : Bool), (escN i b l).map (·.2) = escM b l
  | [], i, true => rfl
  | [], i, false => rfl
  | ch :: r, i, true => by
    rw [escN, escM, List.map_cons, escN_map r (i + 1) false]
  | ch :: r, i, false => by
    rw [escN, escM]
    split
    · exact escN_map r (i + 1) true
    · rw [List.map_cons, escN_map r (i + 1) false]
noncomputable def wayRunU : WS → List MStr → Option WS
  | st, [] => some st
  | st, u :: r => match wayStep st u with
    | some st' => wayRunU st' r
    | none => none
theorem wayRun_eq : ∀ (l : List (Nat × MStr)) (st : WS), wayRun st l = wayRunU st (l.map (·.2))
  | [], st => rfl
  | u :: r, st => by
    rw [wayRun, List.map_cons, wayRunU]
    cases wayStep st u.2 with
    | none => rfl
    | some st' => exact wayRun_eq r st'
noncomputable def parenU : Int → List MStr → Bool
  | n, [] => n == 0
  | n, u :: r => if u == Str.ofString "(" then parenU (n + 1) r else if u == Str.ofString ")" then (if n - 1 < 0 then false else parenU (n - 1) r) else parenU n r
theorem parenGo_eq : ∀ (l : List (Nat × MStr)) (n : Int), parenGo n l = parenU n (l.map (·.2))
  | [], n => rfl
  | u :: r, n => by rw [parenGo, List.map_cons, parenU, parenGo_eq r, parenGo_eq r, parenGo_eq r]
noncomputable def Closed (a : List Nat) : Prop := ∀ rest, escM false (a ++ rest) = escM false a ++ escM false rest
theorem Closed.nil : Closed [] := fun _ => rfl
theorem Closed.app {a b : List Nat} (h : Closed a) (k : Closed b) : Closed (a ++ b) := fun rest => by
  rw [List.append_assoc, h, k, h b, List.append_assoc]
theorem Closed.one {c : Nat} (h : c ≠ 92) : Closed [c] := fun rest => by
  show escM false (c :: rest) = escM false [c] ++ _
  rw [escM, if_neg h, escM, if_neg h]; rfl
theorem Closed.two (c : Nat) : Closed [92, c] := fun rest => by
  show escM false (92 :: c :: rest) = _
  rw [escM, if_pos rfl, escM, escM, if_pos rfl]; rfl
theorem Closed.cons {c : Nat} {a : List Nat} (h : c ≠ 92) (k : Closed a) : Closed (c :: a) := (Closed.one h).app k
noncomputable abbrev unitsU (x : MStr) : List MStr := escM false (cs x)
theorem units_app {x y : MStr} (h : Closed (cs x)) : unitsU (x ++ y) = unitsU x ++ unitsU y := by rw [unitsU, cs_cat, h]

noncomputable def topP : List (MStr × MStr) → MStr
  | [] => Str.ofString ""
  | a :: _ => a.1
noncomputable def sizesP : List (MStr × MStr) → List Nat
  | [] => []
  | _ :: r => (topP r).length :: sizesP r
noncomputable def wsOf (ways : List (MStr × MStr)) (σ : List (MStr × MStr)) : WS := ⟨ways, topP σ, Str.ofString "", σ.map (·.2), sizesP σ, false⟩
noncomputable def Chain : List (MStr × MStr) → Prop
  | [] => True
  | a :: r => cs (topP r) <+: cs a.1 ∧ Chain r
theorem run_close {ways : List (MStr × MStr)} {a : MStr × MStr} {r : List (MStr × MStr)} (h : Chain (a :: r)) (vs : List MStr) : wayRunU (wsOf ways (a :: r)) (Str.ofString ")" :: vs) = wayRunU (wsOf ways r) vs := by
  have e : wayStep (wsOf ways (a :: r)) (Str.ofString ")") = some (wsOf ways r) := by
    show wayStep ⟨ways, a.1, Str.ofString "", a.2 :: r.map (·.2), (topP r).length :: sizesP r, false⟩ (Str.ofString ")") = _
    have h1 : (Str.ofString ")" == Str.ofString "(") = false := by decide
    rw [wayStep, if_neg Bool.false_ne_true, if_neg (by rw [h1]; decide), if_pos (by decide)]
    show some (⟨ways, Txt.slice a.1 .none (some ((topP r).length : Int)), Str.ofString "", r.map (·.2), sizesP r, false⟩ : WS) = _
    have : Txt.slice a.1 .none (some ((topP r).length : Int)) = topP r := by
      apply cs_inj
      rw [slice_take, ← cs_len]
      exact (List.prefix_iff_eq_take.mp h.1).symm
    rw [this]; rfl
  rw [wayRunU, e]
theorem run_closes {ways : List (MStr × MStr)} : ∀ {n : Nat} {σ : List (MStr × MStr)}, Chain σ → n ≤ σ.length → ∀ vs, wayRunU (wsOf ways σ) (List.replicate n (Str.ofString ")") ++ vs) = wayRunU (wsOf ways (σ.drop n)) vs
  | 0, σ, _, _, vs => rfl
  | n + 1, [], _, h, vs => absurd h (by simp)
  | n + 1, a :: r, hc, h, vs => by
    rw [List.replicate_succ, List.cons_append, run_close hc]
    exact run_closes (σ := r) hc.2 (by simpa using h) vs
theorem run_open {ways σ : List (MStr × MStr)} {o : MStr} (vs : List MStr) : wayRunU (wsOf ways σ) (Str.ofString "(" :: o :: vs) = wayRunU ⟨ways, topP σ, Str.ofString "", o :: σ.map (·.2), (topP σ).length :: sizesP σ, false⟩ vs := by
  have e : wayStep (wsOf ways σ) (Str.ofString "(") = some ⟨ways, topP σ, Str.ofString "", σ.map (·.2), (topP σ).length :: sizesP σ, true⟩ := by
    show wayStep ⟨ways, topP σ, Str.ofString "", σ.map (·.2), sizesP σ, false⟩ (Str.ofString "(") = _
    rw [wayStep, if_neg Bool.false_ne_true, if_pos (by decide)]
  rw [wayRunU, e]
  show wayRunU ⟨ways, topP σ, Str.ofString "", σ.map (·.2), (topP σ).length :: sizesP σ, true⟩ (o :: vs) = _
  rw [wayRunU]
  have e2 : wayStep ⟨ways, topP σ, Str.ofString "", σ.map (·.2), (topP σ).length :: sizesP σ, true⟩ o = some ⟨ways, topP σ, Str.ofString "", o :: σ.map (·.2), (topP σ).length :: sizesP σ, false⟩ := by
    rw [wayStep, if_pos rfl]
  rw [e2]
noncomputable def codeAll : List MStr := ["&amp;", "&lt;", "\\(", "\\)", "\r", "&#xD;"].map Str.ofString
structure Letter (x : MStr) : Prop where
  closed : Closed (cs x)
  run : ∀ (ways : List (MStr × MStr)) (way o : MStr) (os : List MStr) (sizes : List Nat) (vs : List MStr), wayRunU ⟨ways, way, Str.ofString "", o :: os, sizes, false⟩ (unitsU x ++ vs) = wayRunU ⟨(way ++ x, o) :: ways, way ++ x, Str.ofString "", o :: os, sizes, false⟩ vs
  par : ∀ (n : Int) (vs : List MStr), parenU n (unitsU x ++ vs) = parenU n vs
theorem letters : ∀ x ∈ codeAll, Letter x := by
  intro x hx
  have hx : x = Str.ofString "&amp;" ∨ x = Str.ofString "&lt;" ∨ x = Str.ofString "\\(" ∨ x = Str.ofString "\\)" ∨ x = Str.ofString "\r" ∨ x = Str.ofString "&#xD;" := by
    simpa [codeAll] using hx
  rcases hx with rfl | rfl | rfl | rfl | rfl | rfl
  · exact ⟨.cons (by decide) (.cons (by decide) (.cons (by decide) (.cons (by decide) (.one (by decide))))), fun _ _ _ _ _ _ => rfl, fun _ _ => rfl⟩
  · exact ⟨.cons (by decide) (.cons (by decide) (.cons (by decide) (.one (by decide)))), fun _ _ _ _ _ _ => rfl, fun _ _ => rfl⟩
  · exact ⟨.two _, fun _ _ _ _ _ _ => rfl, fun _ _ => rfl⟩
  · exact ⟨.two _, fun _ _ _ _ _ _ => rfl, fun _ _ => rfl⟩
  · exact ⟨.one (by decide), fun _ _ _ _ _ _ => rfl, fun _ _ => rfl⟩
  · exact ⟨.cons (by decide) (.cons (by decide) (.cons (by decide) (.cons (by decide) (.one (by decide))))), fun _ _ _ _ _ _ => rfl, fun _ _ => rfl⟩
end Mine
set_option maxHeartbeats 400000
namespace Mine
noncomputable abbrev mkS (l : List Nat) : MStr := ⟨l.toArray⟩
theorem cs_mk (l : List Nat) : cs (mkS l) = l := List.toList_toArray
noncomputable def extW (o : MStr) : MStr → List (List Nat) → List (MStr × MStr) → List (MStr × MStr)
  | _, [], ways => ways
  | way, x :: d, ways => extW o (way ++ mkS x) d ((way ++ mkS x, o) :: ways)
noncomputable def addM : MStr → List (List Nat) → MStr
  | way, [] => way
  | way, x :: d => addM (way ++ mkS x) d
theorem cs_addM : ∀ (d : List (List Nat)) (way : MStr), cs (addM way d) = cs way ++ d.flatten
  | [], way => by simp [addM]
  | x :: d, way => by rw [addM, cs_addM d, cs_cat, cs_mk, List.flatten_cons, List.append_assoc]
theorem mem_extW {o : MStr} : ∀ {d : List (List Nat)} {way : MStr} {ways : List (MStr × MStr)} {y : MStr × MStr}, y ∈ extW o way d ways ↔ y ∈ ways ∨ (y.2 = o ∧ ∃ i, i < d.length ∧ cs y.1 = cs way ++ (d.take (i + 1)).flatten)
  | [], way, ways, y => by simp [extW]
  | x :: d, way, ways, y => by
    rw [extW, mem_extW (d := d), List.mem_cons]
    constructor
    · rintro ((rfl | h) | ⟨h, i, hi, e⟩)
      · exact .inr ⟨rfl, 0, by simp, by simp [cs_cat, cs_mk]⟩
      · exact .inl h
      · refine .inr ⟨h, i + 1, by simpa using hi, ?_⟩
        rw [e, cs_cat, cs_mk, List.take_succ_cons, List.flatten_cons, List.append_assoc]
    · rintro (h | ⟨h, i, hi, e⟩)
      · exact .inl (.inr h)
      · cases i with
        | zero =>
          refine .inl (.inl ?_)
          obtain ⟨q, o'⟩ := y
          have h : o' = o := h
          subst h
          congr 1
          apply cs_inj
          have e : cs q = _ := e
          rw [e, cs_cat, cs_mk]; simp
        | succ i =>
          refine .inr ⟨h, i, by simpa using hi, ?_⟩
          rw [e, cs_cat, cs_mk, List.take_succ_cons, List.flatten_cons, List.append_assoc]
theorem nodup_extW {o : MStr} : ∀ {d : List (List Nat)} {way : MStr} {ways : List (MStr × MStr)}, ways.Nodup → (∀ x ∈ d, x ≠ []) → (∀ i, i < d.length → ∀ q, cs q = cs way ++ (d.take (i + 1)).flatten → (q, o) ∉ ways) → (extW o way d ways).Nodup
  | [], way, ways, h, _, _ => h
  | x :: d, way, ways, h, hne, hn => by
    rw [extW]
    refine nodup_extW (List.nodup_cons.mpr ⟨hn 0 (by simp) _ (by simp [cs_cat, cs_mk]), h⟩) (fun y hy => hne y (.tail _ hy)) fun i hi q e hm => ?_
    rcases List.mem_cons.mp hm with hm | hm
    · have hm : q = way ++ mkS x := congrArg Prod.fst hm
      subst hm
      have : (d.take (i + 1)).flatten = [] := by
        have := congrArg List.length e
        rw [List.length_append] at this
        exact List.length_eq_zero_iff.mp (by (first | lia | omega))
      cases d with
      | nil => cases hi
      | cons z d =>
        rw [List.take_succ_cons, List.flatten_cons, List.append_eq_nil_iff] at this
        exact hne z (.tail _ (.head _)) this.1
    · exact hn (i + 1) (by simpa using hi) q (by rw [e, cs_cat, cs_mk, List.take_succ_cons, List.flatten_cons, List.append_assoc]) hm

noncomputable def AllLetter (d : List (List Nat)) : Prop := ∀ x ∈ d, Letter (mkS x)
theorem closed_word : ∀ {d : List (List Nat)}, AllLetter d → Closed d.flatten
  | [], _ => Closed.nil
  | x :: d, h => by
    rw [List.flatten_cons]
    have := (h x (.head _)).closed
    rw [cs_mk] at this
    exact this.app (closed_word fun y hy => h y (.tail _ hy))
theorem run_word {o : MStr} {os : List MStr} {sizes : List Nat} : ∀ {d : List (List Nat)} (h : AllLetter d) (ways : List (MStr × MStr)) (way : MStr) (vs : List MStr),
    wayRunU ⟨ways, way, Str.ofString "", o :: os, sizes, false⟩ (escM false d.flatten ++ vs) = wayRunU ⟨extW o way d ways, addM way d, Str.ofString "", o :: os, sizes, false⟩ vs
  | [], _, ways, way, vs => rfl
  | x :: d, h, ways, way, vs => by
    have hx := h x (.head _)
    have hc := hx.closed
    rw [cs_mk] at hc
    rw [List.flatten_cons, hc, List.append_assoc, extW, addM]
    have := hx.run ways way o os sizes (escM false d.flatten ++ vs)
    rw [unitsU, cs_mk] at this
    rw [this]
    exact run_word (fun y hy => h y (.tail _ hy)) _ _ _
theorem par_word : ∀ {d : List (List Nat)} (h : AllLetter d) (n : Int) (vs : List MStr), parenU n (escM false d.flatten ++ vs) = parenU n vs
  | [], _, n, vs => rfl
  | x :: d, h, n, vs => by
    have hx := h x (.head _)
    have hc := hx.closed
    rw [cs_mk] at hc
    rw [List.flatten_cons, hc, List.append_assoc]
    have := hx.par n (escM false d.flatten ++ vs)
    rw [unitsU, cs_mk] at this
    rw [this]
    exact par_word (fun y hy => h y (.tail _ hy)) _ _
theorem cs_close (n : Nat) : cs (closeP n) = List.replicate n 41 := List.toList_toArray
theorem closed_close : ∀ n, Closed (List.replicate n 41)
  | 0 => Closed.nil
  | n + 1 => Closed.cons (by decide) (closed_close n)
theorem units_close : ∀ n, escM false (List.replicate n 41) = List.replicate n (Str.ofString ")")
  | 0 => rfl
  | n + 1 => by
    rw [List.replicate_succ, List.replicate_succ, escM, if_neg (by decide), units_close n]; rfl
theorem par_close : ∀ {c : Nat} {n : Int}, (c : Int) ≤ n → ∀ vs, parenU n (List.replicate c (Str.ofString ")") ++ vs) = parenU (n - c) vs
  | 0, n, _, vs => by simp
  | c + 1, n, h, vs => by
    rw [List.replicate_succ, List.cons_append, parenU, if_neg (by decide), if_pos (by decide), if_neg (by (first | lia | omega)), par_close (c := c) (by (first | lia | omega))]
    congr 1; (first | lia | omega)
structure Digit (o : MStr) : Prop where
  closed : Closed (cs o)
  units : unitsU o = [o]
  nb : (o == Str.ofString "(") = false ∧ (o == Str.ofString ")") = false
theorem digits : ∀ k, k < 7 → 0 < k → Digit (numZ ((k : Nat) : Int)) := by
  intro k h0 h1
  have hk : k = 1 ∨ k = 2 ∨ k = 3 ∨ k = 4 ∨ k = 5 ∨ k = 6 := by (first | lia | omega)
  rcases hk with rfl | rfl | rfl | rfl | rfl | rfl <;> exact ⟨Closed.one (by decide), rfl, by decide⟩
structure LineRun (line : MStr) (ways σ : List (MStr × MStr)) : Prop where
  closed : Closed (cs line)
  chain : Chain σ
  run : ∀ vs, wayRunU ws0 (unitsU line ++ vs) = wayRunU (wsOf ways σ) vs
  par : ∀ vs, parenU 0 (unitsU line ++ vs) = parenU (σ.length : Int) vs
theorem LineRun.start : LineRun (Str.ofString "") [] [] := ⟨Closed.nil, trivial, fun _ => rfl, fun _ => rfl⟩
theorem chain_drop : ∀ {σ : List (MStr × MStr)} (n : Nat), Chain σ → Chain (σ.drop n)
  | _, 0, h => h
  | [], n + 1, h => h
  | a :: r, n + 1, h => chain_drop (σ := r) n h.2
theorem LineRun.step {line R o : MStr} {ways σ : List (MStr × MStr)} {c : Nat} {d : List (List Nat)} (h : LineRun line ways σ) (hc : c ≤ σ.length) (ho : Digit o) (hd : AllLetter d) (hR : cs R = d.flatten) :
    LineRun ((((line ++ closeP c) ++ Str.ofString "(") ++ o) ++ R) (extW o (topP (σ.drop c)) d ways) ((addM (topP (σ.drop c)) d, o) :: σ.drop c) := by
  have k1 : Closed (cs (closeP c)) := by rw [cs_close]; exact closed_close c
  have k2 : Closed (cs (Str.ofString "(")) := Closed.one (c := 40) (by decide)
  have k3 : Closed (cs R) := by rw [hR]; exact closed_word hd
  have c1 : Closed (cs (line ++ closeP c)) := by rw [cs_cat]; exact h.closed.app k1
  have c2 : Closed (cs ((line ++ closeP c) ++ Str.ofString "(")) := by rw [cs_cat]; exact c1.app k2
  have c3 : Closed (cs (((line ++ closeP c) ++ Str.ofString "(") ++ o)) := by rw [cs_cat]; exact c2.app ho.closed
  have eu : ∀ vs, unitsU ((((line ++ closeP c) ++ Str.ofString "(") ++ o) ++ R) ++ vs = unitsU line ++ (List.replicate c (Str.ofString ")") ++ (Str.ofString "(" :: o :: (escM false d.flatten ++ vs))) := fun vs => by
    rw [units_app c3, units_app c2, units_app c1, units_app h.closed, ho.units]
    have e1 : unitsU (closeP c) = List.replicate c (Str.ofString ")") := by rw [unitsU, cs_close, units_close]
    have e2 : unitsU (Str.ofString "(") = [Str.ofString "("] := rfl
    rw [e1, e2, unitsU, unitsU, hR]
    simp
  refine ⟨by rw [cs_cat]; exact c3.app k3, ⟨?_, chain_drop c h.chain⟩, fun vs => ?_, fun vs => ?_⟩
  · show cs (topP (σ.drop c)) <+: cs (addM (topP (σ.drop c)) d)
    rw [cs_addM]; exact List.prefix_append _ _
  · rw [eu, h.run, run_closes h.chain hc, run_open, run_word hd]; rfl
  · rw [eu, h.par, par_close (by (first | lia | omega)), parenU, if_pos (by decide), parenU, ho.nb.1, ho.nb.2, if_neg Bool.false_ne_true, if_neg Bool.false_ne_true, par_word hd]
    congr 1
    rw [List.length_cons, List.length_drop]; (first | lia | omega)
theorem LineRun.fin {line : MStr} {ways σ : List (MStr × MStr)} (h : LineRun line ways σ) : LineRun (line ++ closeP σ.length) ways [] := by
  have k1 : Closed (cs (closeP σ.length)) := by rw [cs_close]; exact closed_close _
  have eu : ∀ vs, unitsU (line ++ closeP σ.length) ++ vs = unitsU line ++ (List.replicate σ.length (Str.ofString ")") ++ vs) := fun vs => by
    rw [units_app h.closed]
    have e1 : unitsU (closeP σ.length) = List.replicate σ.length (Str.ofString ")") := by rw [unitsU, cs_close, units_close]
    rw [e1, List.append_assoc]
  refine ⟨by rw [cs_cat]; exact h.closed.app k1, trivial, fun vs => ?_, fun vs => ?_⟩
  · rw [eu, h.run, run_closes h.chain (Nat.le_refl _), List.drop_length]
  · rw [eu, h.par, par_close (Int.le_refl _)]
    congr 1; rw [List.length_nil]; (first | lia | omega)
theorem LineRun.read {line : MStr} {ways : List (MStr × MStr)} (h : LineRun line ways []) : parenP line = true ∧ wayRun ws0 (unitsX line) = some (wsOf ways []) := by
  constructor
  · rw [parenP, parenGo_eq, escN_map]
    have := h.par []
    rw [List.append_nil] at this
    rw [show escM false line.cps.toList = unitsU line from rfl, this]; rfl
  · rw [wayRun_eq, escN_map]
    have := h.run []
    rw [List.append_nil] at this
    rw [show escM false line.cps.toList = unitsU line from rfl, this]; rfl
end Mine
set_option maxHeartbeats 400000
namespace Mine
noncomputable abbrev Item := Nat × Nat × MStr
noncomputable def Bef (y x : Item) : Prop := y.1 < x.1 ∨ (y.1 = x.1 ∧ x.2.1 < y.2.1)
structure Items (U C : List (List Nat)) (tl : List MStr) (row : List Nat) (xs : List Item) : Prop where
  part : ∀ x ∈ xs, IsPart U C x.2.2 ∧ rngP tl row x.2.2 = (x.1, x.2.1)
  long : ∀ x ∈ xs, ∀ q, IsPart U C q → rngP tl row q = (x.1, x.2.1) → cs q <+: cs x.2.2
  all : ∀ q, IsPart U C q → ∃ x ∈ xs, rngP tl row q = (x.1, x.2.1)
  ord : xs.Pairwise Bef
noncomputable def stackOf (low : Nat) (pre : List Item) : List Item := (pre.filter fun y => decide (low < y.2.1)).reverse
noncomputable def fP (y : Item) : Nat × MStr := (y.2.1, y.2.2)
noncomputable def cntZ (y : Item) : MStr := numZ ((y.2.1 : Int) - y.1)
noncomputable def fS (y : Item) : MStr × MStr := (y.2.2, cntZ y)
theorem mem_stack {low : Nat} {pre : List Item} {z : Item} : z ∈ stackOf low pre ↔ z ∈ pre ∧ low < z.2.1 := by
  rw [stackOf, List.mem_reverse, List.mem_filter, decide_eq_true_eq]
theorem pop_stack {low : Nat} : ∀ {S : List Item}, S.Pairwise (fun a b => a.2.1 ≤ b.2.1) → (popN low (S.map fP)).1 = (S.filter fun y => decide (low < y.2.1)).map fP ∧ S.drop (popN low (S.map fP)).2 = S.filter fun y => decide (low < y.2.1)
  | [], _ => ⟨rfl, rfl⟩
  | y :: S, h => by
    rw [List.pairwise_cons] at h
    obtain ⟨i1, i2⟩ := pop_stack (low := low) h.2
    rw [List.map_cons]
    show (popN low ((y.2.1, y.2.2) :: S.map fP)).1 = _ ∧ _
    by_cases hy : y.2.1 ≤ low
    · have e : popN low (fP y :: S.map fP) = ((popN low (S.map fP)).1, (popN low (S.map fP)).2 + 1) := by
        show popN low ((y.2.1, y.2.2) :: S.map fP) = _
        rw [popN, if_pos hy]
      have e2 : (y :: S).filter (fun y => decide (low < y.2.1)) = S.filter fun y => decide (low < y.2.1) := List.filter_cons_of_neg (by simp; (first | lia | omega))
      rw [e2]
      constructor
      · show (popN low (fP y :: S.map fP)).1 = _
        rw [e]; exact i1
      · show (y :: S).drop (popN low (fP y :: S.map fP)).2 = _
        rw [e]; exact i2
    · have e : popN low (fP y :: S.map fP) = (fP y :: S.map fP, 0) := by
        show popN low ((y.2.1, y.2.2) :: S.map fP) = _
        rw [popN, if_neg hy]; rfl
      have e2 : (y :: S).filter (fun y => decide (low < y.2.1)) = y :: S := by
        rw [List.filter_eq_self]
        intro z hz
        refine decide_eq_true ?_
        rcases List.mem_cons.mp hz with rfl | hz
        · (first | lia | omega)
        · have := h.1 z hz; (first | lia | omega)
      rw [e2]
      constructor
      · show (popN low (fP y :: S.map fP)).1 = _
        rw [e]; rfl
      · show (y :: S).drop (popN low (fP y :: S.map fP)).2 = _
        rw [e]; rfl
theorem stack_stack {low low' : Nat} (h : low ≤ low') (pre : List Item) : (stackOf low pre).filter (fun y => decide (low' < y.2.1)) = stackOf low' pre := by
  rw [stackOf, stackOf, List.filter_reverse, List.filter_filter]
  congr 1
  refine List.filter_congr fun y _ => ?_
  by_cases hy : low' < y.2.1
  · have : low < y.2.1 := by (first | lia | omega)
    simp [hy, this]
  · simp [hy]
section
variable {U C : List (List Nat)} {ws tl : List MStr} {row : List Nat} (X : Ctx6 U C ws tl row) {xs : List Item} (I : Items U C tl row xs)
include X I
theorem item_lt {x : Item} (hx : x ∈ xs) : x.1 < x.2.1 ∧ x.2.1 ≤ 6 := by
  obtain ⟨hp, e⟩ := I.part x hx
  have h1 := part_lt X hp
  have h2 := rg_le X x.2.2
  rw [e] at h1 h2
  exact ⟨h1, h2.2⟩
theorem ov {y x : Item} (hy : y ∈ xs) (hx : x ∈ xs) (hb : Bef y x) (hlt : x.1 < y.2.1) : x.2.1 ≤ y.2.1 ∧ cs y.2.2 <+: cs x.2.2 := by
  obtain ⟨py, ey⟩ := I.part y hy
  obtain ⟨px, ex⟩ := I.part x hx
  have lx := item_lt X I hx
  have h := share_pre X py px (j := x.1) (by rw [ey]; rcases hb with h | ⟨h, _⟩ <;> dsimp only <;> (first | lia | omega)) (by rw [ey]; exact hlt) (by rw [ex]; exact Nat.le_refl _) (by rw [ex]; exact lx.1)
  rcases h with h | h
  · have := pre_sub X px h
    rw [ey, ex] at this
    exact ⟨this.2, h⟩
  · have := pre_sub X py h
    rw [ey, ex] at this
    dsimp only at this
    rcases hb with hb | ⟨hb, hb2⟩ <;> (first | lia | omega)
theorem stack_pw {pre post : List Item} (e : xs = pre ++ post) {low : Nat} (hl : ∀ y ∈ pre, y.1 ≤ low) : (stackOf low pre).Pairwise (fun a b => a.2.1 ≤ b.2.1 ∧ cs b.2.2 <+: cs a.2.2) := by
  rw [stackOf, List.pairwise_reverse]
  have hord := I.ord
  rw [e, List.pairwise_append] at hord
  refine (hord.1.sublist List.filter_sublist).imp_of_mem fun {a b} ha hb hab => ?_
  obtain ⟨ha, ha2⟩ := List.mem_filter.mp ha
  obtain ⟨hb, hb2⟩ := List.mem_filter.mp hb
  have ha2 := of_decide_eq_true ha2
  have := hl b hb
  exact ov X I (e ▸ List.mem_append_left _ ha) (e ▸ List.mem_append_left _ hb) hab (by (first | lia | omega))
end
end Mine
set_option maxHeartbeats 400000
namespace Mine
structure WOK (U C : List (List Nat)) (tl : List MStr) (row : List Nat) (pre : List Item) (ways : List (MStr × MStr)) : Prop where
  nd : ways.Nodup
  sound : ∀ y ∈ ways, IsPart U C y.1 ∧ ∃ z ∈ pre, rngP tl row y.1 = (z.1, z.2.1) ∧ y.2 = cntZ z
  comp : ∀ q, IsPart U C q → ∀ z ∈ pre, rngP tl row q = (z.1, z.2.1) → (q, cntZ z) ∈ ways
section
variable {U C : List (List Nat)} {ws tl : List MStr} {row : List Nat} (X : Ctx6 U C ws tl row)
include X
theorem part_ne {q : MStr} (h : IsPart U C q) : cs q ≠ [] := by
  obtain ⟨u, e, hu, hne, _⟩ := h
  cases u with
  | nil => exact absurd rfl hne
  | cons x u =>
    rw [e, List.flatten_cons]
    intro h
    exact X.code.ne x (hu x (.head _)) (List.append_eq_nil_iff.mp h).1
variable {xs : List Item} (I : Items U C tl row xs)
include I
variable {pre post : List Item} {x : Item} (e : xs = pre ++ x :: post)
include e
theorem bef_pre {y : Item} (hy : y ∈ pre) : Bef y x := by
  have h := I.ord
  rw [e, List.pairwise_append] at h
  exact h.2.2 y hy x (.head _)
theorem x_mem : x ∈ xs := by rw [e]; exact List.mem_append_right _ (.head _)
theorem pre_mem {y : Item} (hy : y ∈ pre) : y ∈ xs := by rw [e]; exact List.mem_append_left _ hy
theorem pre_lo {y : Item} (hy : y ∈ pre) : y.1 ≤ x.1 := by
  rcases bef_pre X I e hy with h | ⟨h, _⟩ <;> (first | lia | omega)
theorem top_word {w : List (List Nat)} (hw : cs x.2.2 = w.flatten) (ow : Over C w) : ∃ w', Over C w' ∧ cs (topP ((stackOf x.1 pre).map fS)) = w'.flatten ∧ w' <+: w ∧ (∀ z ∈ stackOf x.1 pre, cs z.2.2 <+: w'.flatten) ∧
    ∀ q, IsPart U C q → rngP tl row q = (x.1, x.2.1) → ¬ cs q <+: w'.flatten := by
  have pw := stack_pw X I e (low := x.1) fun y hy => pre_lo X I e hy
  cases hS : stackOf x.1 pre with
  | nil =>
    refine ⟨[], fun _ h => (nomatch h), rfl, List.nil_prefix, fun _ h => (nomatch h), fun q hq _ h => part_ne X hq (List.prefix_nil.mp h)⟩
  | cons y S =>
    rw [hS, List.pairwise_cons] at pw
    have hy : y ∈ stackOf x.1 pre := by rw [hS]; exact .head _
    obtain ⟨hy1, hy2⟩ := mem_stack.mp hy
    obtain ⟨⟨w', e', o', _, _⟩, ey⟩ := I.part y (pre_mem X I e hy1)
    have hb := bef_pre X I e hy1
    have ho := ov X I (pre_mem X I e hy1) (x_mem X I e) hb hy2
    refine ⟨w', o', e', ?_, fun z hz => ?_, fun q hq hr h => ?_⟩
    · have := ho.2
      rw [e', hw, pre_flat X.code o' ow] at this
      exact this
    · rw [← e']
      rcases List.mem_cons.mp hz with rfl | hz
      · exact List.prefix_refl _
      · exact (pw.1 z hz).2
    · rw [← e'] at h
      have := pre_sub X (I.part y (pre_mem X I e hy1)).1 h
      rw [hr, ey] at this
      dsimp only at this
      rcases hb with hb | ⟨hb, hb2⟩ <;> (first | lia | omega)
theorem ext_sound {w w' : List (List Nat)} (hw : cs x.2.2 = w.flatten) (ow : Over C w) (o' : Over C w') (hst : ∀ z ∈ stackOf x.1 pre, cs z.2.2 <+: w'.flatten) {i : Nat} (h1 : w'.length < i) (h2 : i ≤ w.length) {q : MStr} (hq : cs q = (w.take i).flatten) :
    IsPart U C q ∧ rngP tl row q = (x.1, x.2.1) := by
  have hx := x_mem X I e
  obtain ⟨px, ex⟩ := I.part x hx
  have ot : Over C (w.take i) := ow.sub fun y hy => List.take_subset _ _ hy
  have hlt : (w.take i).length = i := by rw [List.length_take]; (first | lia | omega)
  have hp : IsPart U C q := by
    obtain ⟨u, eu, ou, _, f, hf, hfp⟩ := px
    have : u = w := flat_inj X.code ou ow (by rw [← eu, hw])
    subst this
    exact ⟨_, hq, ot, fun h => by rw [h] at hlt; simp at hlt; (first | lia | omega), f, hf, (List.take_prefix _ _).trans hfp⟩
  refine ⟨hp, ?_⟩
  have hpre : cs q <+: cs x.2.2 := by
    rw [hq, hw, pre_flat X.code ot ow]; exact List.take_prefix _ _
  have hsub := pre_sub X px hpre
  rw [ex] at hsub
  obtain ⟨z, hz, ez⟩ := I.all q hp
  rw [ez] at hsub ⊢
  dsimp only at hsub
  have lx := item_lt X I hx
  by_cases hne : (z.1, z.2.1) = (x.1, x.2.1)
  · exact hne
  · exfalso
    have hzp : z ∈ pre := by
      rw [e] at hz
      rcases List.mem_append.mp hz with hz | hz
      · exact hz
      · rcases List.mem_cons.mp hz with rfl | hz
        · exact absurd rfl hne
        · have hord := I.ord
          rw [e, List.pairwise_append, List.pairwise_cons] at hord
          rcases hord.2.1.1 z hz with hb | ⟨hb, hb2⟩
          · (first | lia | omega)
          · (first | lia | omega)
    have hzs := hst z (mem_stack.mpr ⟨hzp, by (first | lia | omega)⟩)
    have := (I.long z (pre_mem X I e hzp) q hp ez).trans hzs
    rw [hq, pre_flat X.code ot o'] at this
    have := this.length_le
    (first | lia | omega)
theorem ext_comp {w w' : List (List Nat)} (hw : cs x.2.2 = w.flatten) (ow : Over C w) (hpw : w' <+: w) (hno : ∀ q, IsPart U C q → rngP tl row q = (x.1, x.2.1) → ¬ cs q <+: w'.flatten) (o' : Over C w') {q : MStr} (hq : IsPart U C q) (hr : rngP tl row q = (x.1, x.2.1)) :
    ∃ i, w'.length < i ∧ i ≤ w.length ∧ cs q = (w.take i).flatten := by
  have h := I.long x (x_mem X I e) q hq hr
  have hn := hno q hq hr
  obtain ⟨u, eu, ou, _, _⟩ := hq
  rw [eu, hw, pre_flat X.code ou ow] at h
  rw [eu, pre_flat X.code ou o'] at hn
  refine ⟨u.length, ?_, h.length_le, ?_⟩
  · rcases Nat.lt_or_ge w'.length u.length with k | k
    · exact k
    · exact absurd (List.prefix_of_prefix_length_le h hpw k) hn
  · rw [eu, ← List.prefix_iff_eq_take.mp h]
theorem nest_step (hL : ∀ l ∈ C, Letter (mkS l)) {low : Nat} (hlow : ∀ y ∈ pre, y.1 ≤ low) (hx : low ≤ x.1) {st : MStr × List (Nat × MStr)} {ways : List (MStr × MStr)} (hr : LineRun st.1 ways ((stackOf low pre).map fS)) (hs : st.2 = (stackOf low pre).map fP) (hw : WOK U C tl row pre ways) :
    ∃ ways', LineRun (nestStep st x).1 ways' ((stackOf x.1 (pre ++ [x])).map fS) ∧ (nestStep st x).2 = (stackOf x.1 (pre ++ [x])).map fP ∧ WOK U C tl row (pre ++ [x]) ways' := by
  have hxm := x_mem X I e
  have lx := item_lt X I hxm
  have pw := stack_pw X I e hlow
  obtain ⟨p1, p2⟩ := pop_stack (low := x.1) (pw.imp fun h => h.1)
  rw [stack_stack hx] at p1 p2
  have hnew : stackOf x.1 (pre ++ [x]) = x :: stackOf x.1 pre := by
    rw [stackOf, stackOf, List.filter_append]
    have : [x].filter (fun y => decide (x.1 < y.2.1)) = [x] := by simp [lx.1]
    rw [this, List.reverse_append]; rfl
  obtain ⟨⟨w, ew, ow, hwne, _⟩, ex⟩ := I.part x hxm
  obtain ⟨w', o', etop, hpw, hst, hno⟩ := top_word X I e ew ow
  obtain ⟨d, hd⟩ := hpw
  have od : Over C d := fun y hy => ow y (by rw [← hd]; exact List.mem_append_right _ hy)
  have ad : AllLetter d := fun y hy => hL y (od y hy)
  have hcnt : Digit (cntZ x) := by
    have := digits (x.2.1 - x.1) (by (first | lia | omega)) (by (first | lia | omega))
    have e3 : ((x.2.1 : Int) - (x.1 : Int)) = ((x.2.1 - x.1 : Nat) : Int) := by (first | lia | omega)
    rw [cntZ, e3]; exact this
  generalize hc : (popN x.1 ((stackOf low pre).map fP)).2 = c at p2
  have hcl : c ≤ ((stackOf low pre).map fS).length := by
    have := popN_len x.1 ((stackOf low pre).map fP)
    rw [hc, List.length_map] at this
    rw [List.length_map]; (first | lia | omega)
  have hdrop : ((stackOf low pre).map fS).drop c = (stackOf x.1 pre).map fS := by rw [← List.map_drop, p2]
  have hknown : knownP (popN x.1 ((stackOf low pre).map fP)).1 = (topP ((stackOf x.1 pre).map fS)).length := by
    rw [p1]
    cases stackOf x.1 pre with
    | nil => rfl
    | cons y S => rfl
  have hR : cs (Txt.slice x.2.2 (some (knownP (popN x.1 ((stackOf low pre).map fP)).1 : Int)) .none) = d.flatten := by
    rw [slice_drop, hknown, ← cs_len, etop, ew, ← hd, List.flatten_append, List.drop_left]
  have hP : addM (topP ((stackOf x.1 pre).map fS)) d = x.2.2 := by
    apply cs_inj
    rw [cs_addM, etop, ew, ← hd, List.flatten_append]
  have hstep := hr.step hcl hcnt ad hR
  rw [hdrop, hP] at hstep
  have htake : ∀ i, (topP ((stackOf x.1 pre).map fS)).cps.toList ++ (d.take (i + 1)).flatten = (w.take (w'.length + (i + 1))).flatten := fun i => by
    rw [show (topP ((stackOf x.1 pre).map fS)).cps.toList = w'.flatten from etop, ← hd, List.take_length_add_append, List.flatten_append]
  refine ⟨extW (cntZ x) (topP ((stackOf x.1 pre).map fS)) d ways, ?_, ?_, ?_⟩
  · rw [hnew, nestStep, hs]
    have : (popN x.1 ((stackOf low pre).map fP)).2 = c := hc
    rw [this]
    exact hstep
  · rw [hnew, nestStep, hs, p1]; rfl
  · have hnotin : ∀ z ∈ pre, (z.1, z.2.1) ≠ (x.1, x.2.1) := fun z hz h => by
      injection h with h1 h2
      rcases bef_pre X I e hz with hb | ⟨hb, hb2⟩ <;> (first | lia | omega)
    have hwl : w.length = w'.length + d.length := by rw [← hd, List.length_append]
    refine ⟨?_, fun y hy => ?_, fun q hq z hz hrz => ?_⟩
    · refine nodup_extW hw.nd (fun y hy => X.code.ne y (od y hy)) fun i hi q hq hm => ?_
      have hq : cs q = _ := hq.trans (htake i)
      obtain ⟨_, h2⟩ := ext_sound X I e ew ow o' hst (i := w'.length + (i + 1)) (by (first | lia | omega)) (by (first | lia | omega)) hq
      obtain ⟨_, z, hz, hz2, _⟩ := hw.sound _ hm
      exact hnotin z hz (hz2.symm.trans h2)
    · rcases mem_extW.mp hy with hy | ⟨hy, i, hi, hq⟩
      · obtain ⟨a, z, hz, b⟩ := hw.sound y hy
        exact ⟨a, z, List.mem_append_left _ hz, b⟩
      · have hq : cs y.1 = _ := hq.trans (htake i)
        obtain ⟨h1, h2⟩ := ext_sound X I e ew ow o' hst (i := w'.length + (i + 1)) (by (first | lia | omega)) (by (first | lia | omega)) hq
        exact ⟨h1, x, List.mem_append_right _ (.head _), h2, hy⟩
    · rcases List.mem_append.mp hz with hz | hz
      · exact mem_extW.mpr (.inl (hw.comp q hq z hz hrz))
      · rw [List.mem_singleton] at hz
        subst hz
        obtain ⟨i, h1, h2, h3⟩ := ext_comp X I e ew ow ⟨d, hd⟩ hno o' hq hrz
        refine mem_extW.mpr (.inr ⟨rfl, i - w'.length - 1, by (first | lia | omega), ?_⟩)
        refine h3.trans ?_
        rw [show cs (topP ((stackOf z.1 pre).map fS)) ++ (d.take (i - w'.length - 1 + 1)).flatten = _ from htake (i - w'.length - 1)]
        congr 2; (first | lia | omega)
end
section
variable {U C : List (List Nat)} {ws tl : List MStr} {row : List Nat} (X : Ctx6 U C ws tl row) {xs : List Item} (I : Items U C tl row xs)
include X I
theorem nest_all (hL : ∀ l ∈ C, Letter (mkS l)) : ∀ {post pre : List Item} {low : Nat} {st : MStr × List (Nat × MStr)} {ways : List (MStr × MStr)}, xs = pre ++ post → (∀ y ∈ pre, y.1 ≤ low) → (∀ y ∈ post, low ≤ y.1) → LineRun st.1 ways ((stackOf low pre).map fS) → st.2 = (stackOf low pre).map fP → WOK U C tl row pre ways →
    ∃ ways' low', LineRun (post.foldl nestStep st).1 ways' ((stackOf low' xs).map fS) ∧ (post.foldl nestStep st).2 = (stackOf low' xs).map fP ∧ WOK U C tl row xs ways'
  | [], pre, low, st, ways, e, _, _, hr, hs, hw => by
    rw [List.append_nil] at e
    subst e
    exact ⟨ways, low, hr, hs, hw⟩
  | x :: post, pre, low, st, ways, e, h1, h2, hr, hs, hw => by
    obtain ⟨ways', a, b, c⟩ := nest_step X I e hL h1 (h2 x (.head _)) hr hs hw
    rw [List.foldl_cons]
    have e2 : xs = (pre ++ [x]) ++ post := by rw [e]; simp
    refine nest_all hL e2 (fun y hy => ?_) (fun y hy => ?_) a b c
    · rcases List.mem_append.mp hy with hy | hy
      · exact pre_lo X I e hy
      · rw [List.mem_singleton] at hy; subst hy; exact Nat.le_refl _
    · have hord := I.ord
      rw [e, List.pairwise_append, List.pairwise_cons] at hord
      rcases hord.2.1.1 y hy with hb | ⟨hb, _⟩ <;> (first | lia | omega)
theorem nest_fin (hL : ∀ l ∈ C, Letter (mkS l)) : ∃ ways, LineRun (nestP xs) ways [] ∧ WOK U C tl row xs ways := by
  obtain ⟨ways, low, a, b, c⟩ := nest_all X I hL (post := xs) (pre := []) (low := 0) (st := (Str.ofString "", [])) (ways := []) rfl (fun _ h => (nomatch h)) (fun _ _ => Nat.zero_le _) LineRun.start rfl ⟨.nil, fun _ h => (nomatch h), fun _ _ _ h => (nomatch h)⟩
  refine ⟨ways, ?_, c⟩
  have := a.fin
  rw [List.length_map] at this
  have hl : (nestSt xs).2.length = (stackOf low xs).length := by rw [show (nestSt xs).2 = _ from b, List.length_map]
  rw [nestP, hl]
  exact this
end
end Mine
set_option maxHeartbeats 400000
namespace Mine
noncomputable def scanU : Int → List MStr → Option Int
  | n, [] => some n
  | n, u :: r => if u == Str.ofString "(" then scanU (n + 1) r else if u == Str.ofString ")" then (if n - 1 < 0 then none else scanU (n - 1) r) else scanU n r
noncomputable def balU : List MStr → Int
  | [] => 0
  | u :: r => (if u == Str.ofString "(" then 1 else if u == Str.ofString ")" then -1 else 0) + balU r
theorem parenU_scan : ∀ (us : List MStr) (n : Int), parenU n us = match scanU n us with | some m => m == 0 | none => false
  | [], n => rfl
  | u :: r, n => by
    rw [parenU, scanU]
    split
    · exact parenU_scan r _
    · split
      · split
        · rfl
        · exact parenU_scan r _
      · exact parenU_scan r _
theorem scan_app : ∀ (us vs : List MStr) (n : Int), scanU n (us ++ vs) = (scanU n us).bind fun m => scanU m vs
  | [], vs, n => rfl
  | u :: r, vs, n => by
    rw [List.cons_append, scanU, scanU]
    split
    · exact scan_app r vs _
    · split
      · split
        · rfl
        · exact scan_app r vs _
      · exact scan_app r vs _
theorem scan_bal : ∀ {us : List MStr} {n m : Int}, scanU n us = some m → m = n + balU us ∧ (0 ≤ n → 0 ≤ m)
  | [], n, m, h => by
    have := Option.some.inj h
    subst this
    exact ⟨by simp [balU], id⟩
  | u :: r, n, m, h => by
    rw [scanU] at h
    rw [balU]
    by_cases c1 : (u == Str.ofString "(") = true
    · rw [if_pos c1] at h ⊢
      obtain ⟨a, b⟩ := scan_bal h
      exact ⟨by (first | lia | omega), fun hn => b (by (first | lia | omega))⟩
    · rw [if_neg c1] at h ⊢
      by_cases c2 : (u == Str.ofString ")") = true
      · rw [if_pos c2] at h ⊢
        split at h
        · cases h
        · obtain ⟨a, b⟩ := scan_bal h
          exact ⟨by (first | lia | omega), fun hn => b (by (first | lia | omega))⟩
      · rw [if_neg c2] at h ⊢
        obtain ⟨a, b⟩ := scan_bal h
        exact ⟨by (first | lia | omega), b⟩
theorem rot_false {U : List MStr} (h : ∀ vs, parenU 1 (U ++ vs) = parenU 0 vs) (vs : List MStr) : parenU 0 (U ++ vs) = false := by
  have h1 := h []
  rw [List.append_nil, parenU_scan] at h1
  have e1 : scanU 1 U = some 0 := by
    cases e : scanU 1 U with
    | none => rw [e] at h1; cases h1
    | some m =>
      rw [e] at h1
      have : m = 0 := by simpa [parenU] using h1
      rw [this]
  rw [parenU_scan, scan_app]
  cases e : scanU 0 U with
  | none => rfl
  | some m =>
    have a := scan_bal e1
    have b := scan_bal e
    have := b.2 (Int.le_refl _)
    (first | lia | omega)
noncomputable def GoodC (x : List Nat) : Prop := ∀ c ∈ x, c < 126 ∧ c ≠ 34
theorem GoodC.app {x y : List Nat} (h : GoodC x) (k : GoodC y) : GoodC (x ++ y) := fun c hc => (List.mem_append.mp hc).elim (h c) (k c)
theorem forIn_inv {α β : Type} (P : β → Prop) (f : α → β → Id (ForInStep β)) : ∀ (l : List α) (b : β), P b → (∀ a ∈ l, ∀ b, P b → ∃ b', f a b = ForInStep.yield b' ∧ P b') → P (Id.run (forIn l b f))
  | [], b, hb, _ => hb
  | a :: l, b, hb, h => by
    obtain ⟨b', e, hb'⟩ := h a (.head _) b hb
    rw [List.forIn_cons]
    show P (Id.run (f a b >>= _))
    rw [e]
    exact forIn_inv P f l b' hb' fun a ha => h a (.tail _ ha)
theorem no_quote {x : MStr} (h : GoodC (cs x)) : Txt.contains x (Str.ofString "\"") = false := by
  have hs : ∀ i, i + 1 ≤ x.length → Builtin.Str.subAt x (Str.ofString "\"") i = false := fun i hi => by
    unfold Builtin.Str.subAt
    have e1 : (Str.ofString "\"").length = 1 := rfl
    have e2 : (Str.ofString "\"").cps = #[34] := rfl
    rw [e1, e2]
    cases e : (x.cps.extract i (i + 1) == #[34]) with
    | false => rfl
    | true =>
      exfalso
      have e := beq_iff_eq.mp e
      have hl : i < x.cps.size := hi
      have hm : 34 ∈ (x.cps.extract i (i + 1)).toList := by rw [e]; exact .head _
      rw [Array.toList_extract] at hm
      have : 34 ∈ cs x := by
        rw [List.extract_eq_take_drop] at hm
        exact List.drop_subset _ _ (List.take_subset _ _ hm)
      exact (h 34 this).2 rfl
  have key : Builtin.Str.occurrences x (Str.ofString "\"") 0 x.length 1 = [] := by
    unfold Builtin.Str.occurrences
    dsimp only
    rw [Std.Legacy.Range.forIn_eq_forIn_range']
    have := forIn_inv (fun b : Array Nat × Nat => b.1 = #[]) (fun i s => if (decide (s.1.size < 1) && decide (s.2 ≤ i) && decide (i + (Str.ofString "\"").length ≤ x.length) && Builtin.Str.subAt x (Str.ofString "\"") i) = true then pure (ForInStep.yield (s.1.push i, i + (Str.ofString "\"").length)) else pure (ForInStep.yield (s.1, s.2))) (List.range' [:x.length + 1].start [:x.length + 1].size [:x.length + 1].step) (#[], 0) rfl fun i _ b hb => by
      have e1 : (Str.ofString "\"").length = 1 := rfl
      refine ⟨(b.1, b.2), ?_, hb⟩
      by_cases hc : i + 1 ≤ x.length
      · rw [hs i hc, Bool.and_false, if_neg Bool.false_ne_true]; rfl
      · rw [e1, decide_eq_false hc, Bool.and_false, Bool.false_and, if_neg Bool.false_ne_true]; rfl
    exact congrArg Array.toList this
  unfold Txt.contains
  rw [key]; rfl
end Mine
set_option maxHeartbeats 400000
namespace Mine
theorem GoodC.close (n : Nat) : GoodC (cs (closeP n)) := fun c hc => by
  rw [cs_close] at hc
  rw [List.eq_of_mem_replicate hc]; decide
theorem GoodC.open_ : GoodC (cs (Str.ofString "(")) := fun c hc => by
  have : cs (Str.ofString "(") = [40] := rfl
  rw [this, List.mem_singleton] at hc
  subst hc; decide
theorem good_fold : ∀ (post : List Item) (st : MStr × List (Nat × MStr)), GoodC (cs st.1) → (∀ x ∈ post, GoodC (cs x.2.2) ∧ GoodC (cs (cntZ x))) → GoodC (cs (post.foldl nestStep st).1)
  | [], st, h, _ => h
  | x :: post, st, h, k => by
    rw [List.foldl_cons]
    refine good_fold post _ ?_ fun y hy => k y (.tail _ hy)
    obtain ⟨k1, k2⟩ := k x (.head _)
    rw [nestStep, cs_cat, cs_cat, cs_cat, cs_cat]
    refine GoodC.app (GoodC.app (GoodC.app (h.app (.close _)) .open_) k2) ?_
    rw [slice_drop]
    exact fun c hc => k1 c (List.drop_subset _ _ hc)
theorem len_fold {B : Nat} : ∀ (post : List Item) (st : MStr × List (Nat × MStr)), (∀ x ∈ post, x.2.2.length ≤ B ∧ (cntZ x).length ≤ 1) → (post.foldl nestStep st).1.length + (post.foldl nestStep st).2.length ≤ st.1.length + st.2.length + post.length * (B + 3)
  | [], st, _ => by simp
  | x :: post, st, k => by
    rw [List.foldl_cons]
    have ih := len_fold post (nestStep st x) fun y hy => k y (.tail _ hy)
    obtain ⟨k1, k2⟩ := k x (.head _)
    have hp := popN_len x.1 st.2
    have hs := Txt.slice_le x.2.2 (some (knownP (popN x.1 st.2).1 : Int)) .none
    have h1 : (nestStep st x).1.length ≤ st.1.length + (popN x.1 st.2).2 + 1 + 1 + B := by
      rw [nestStep, len_cat, len_cat, len_cat, len_cat, close_len]
      have e1 : (Str.ofString "(").length = 1 := rfl
      unfold cntZ at k2
      (first | lia | omega)
    have h2 : (nestStep st x).2.length = (popN x.1 st.2).1.length + 1 := rfl
    have h3 : (x :: post).length * (B + 3) = post.length * (B + 3) + (B + 3) := by rw [List.length_cons, Nat.add_mul, Nat.one_mul]
    (first | lia | omega)
theorem pre_fold : ∀ (post : List Item) (st : MStr × List (Nat × MStr)), cs st.1 <+: cs (post.foldl nestStep st).1
  | [], st => List.prefix_refl _
  | x :: post, st => by
    rw [List.foldl_cons]
    refine List.IsPrefix.trans ?_ (pre_fold post _)
    rw [nestStep, cs_cat, cs_cat, cs_cat, cs_cat, List.append_assoc, List.append_assoc, List.append_assoc]
    exact List.prefix_append _ _
theorem first_bracket (x : Item) (post : List Item) : ∃ r, cs (nestP (x :: post)) = 40 :: r := by
  have h1 : ∃ r, cs (nestStep (Str.ofString "", []) x).1 = 40 :: r := by
    rw [nestStep, cs_cat, cs_cat, cs_cat, cs_cat]
    exact ⟨_, rfl⟩
  obtain ⟨r, h1⟩ := h1
  obtain ⟨t, ht⟩ := pre_fold post (nestStep (Str.ofString "", []) x)
  rw [nestP, cs_cat]
  refine ⟨r ++ t ++ cs (closeP (nestSt (x :: post)).2.length), ?_⟩
  have : cs (nestSt (x :: post)).1 = 40 :: (r ++ t) := by
    show cs (post.foldl nestStep (nestStep (Str.ofString "", []) x)).1 = _
    rw [← ht, h1]; rfl
  rw [this]; rfl
theorem GoodC.lt {x : MStr} (h : GoodC (cs x)) : x.cps.all (· < 128) = true := by
  rw [Array.all_eq_true_iff_forall_mem]
  intro c hc
  have : c ∈ cs x := by simpa using hc
  have := (h c this).1
  exact decide_eq_true (by (first | lia | omega))
theorem line_ok {line : MStr} {ways due : List (MStr × MStr)} (hg : GoodC (cs line)) (hl : line.length ≤ 100000) (hr : LineRun line ways []) (hb : ∃ r, cs line = 40 :: r) (hp : ways.Perm due) : LineOK line due := by
  obtain ⟨r, hb⟩ := hb
  have hrot : cs (rotP line) = r ++ [40] := by
    rw [rotP, cs_cat]
    have e1 : Txt.slice line (some 1) .none = Txt.slice line (some ((1 : Nat) : Int)) .none := rfl
    have e2 : Txt.slice line .none (some 1) = Txt.slice line .none (some ((1 : Nat) : Int)) := rfl
    rw [e1, e2, slice_drop, slice_take, hb]; rfl
  have gr : GoodC (cs (rotP line)) := by
    rw [hrot]
    refine GoodC.app (fun c hc => hg c (by rw [hb]; exact .tail _ hc)) fun c hc => ?_
    rw [List.mem_singleton] at hc; subst hc; decide
  have go : GoodC (cs (line ++ Str.ofString "(")) := by rw [cs_cat]; exact hg.app .open_
  have hcr : Closed r := fun rest => by
    have := hr.closed rest
    rw [hb, List.cons_append, escM, if_neg (by decide), escM, if_neg (by decide)] at this
    exact (List.cons.inj this).2
  obtain ⟨r1, r2⟩ := hr.read
  refine ⟨hg.lt, no_quote hg, hl, r1, gr.lt, no_quote gr, ?_, go.lt, no_quote go, ?_, ⟨_, r2, hp⟩⟩
  · rw [parenP, parenGo_eq, escN_map, show (rotP line).cps.toList = r ++ [40] from hrot, hcr]
    refine rot_false (fun vs => ?_) _
    have := hr.par vs
    rw [unitsU, hb, escM, if_neg (by decide), List.cons_append, parenU, if_pos (by decide)] at this
    exact this
  · rw [parenP, parenGo_eq, escN_map, show escM false (line ++ Str.ofString "(").cps.toList = unitsU (line ++ Str.ofString "(") from rfl, units_app hr.closed, hr.par]
    rfl
end Mine
set_option maxHeartbeats 400000
namespace Mine
theorem t3_lt {x y : Item} (h : tupLt (t3 y) (t3 x) = false) : Bef x y ∨ (x.1, x.2.1) = (y.1, y.2.1) := by
  unfold t3 at h
  rw [tup_head rfl] at h
  rcases h with ⟨e, h⟩ | h
  · rw [tup_head rfl] at h
    have e : (y.1 : Int) = (x.1 : Int) := by injection e
    rcases h with ⟨e2, _⟩ | h
    · have e2 : (-(y.2.1 : Int)) = (-(x.2.1 : Int)) := by injection e2
      exact .inr (by rw [Prod.mk.injEq]; (first | lia | omega))
    · have h : (-(x.2.1 : Int)) < (-(y.2.1 : Int)) := of_decide_eq_true h
      exact .inl (.inr ⟨by (first | lia | omega), by (first | lia | omega)⟩)
  · have h : (x.1 : Int) < (y.1 : Int) := of_decide_eq_true h
    exact .inl (.inl (by (first | lia | omega)))
theorem two_le {α : Type} {l : List α} {a b : α} (ha : a ∈ l) (hb : b ∈ l) (h : a ≠ b) : 2 ≤ l.length := by
  match l, ha, hb with
  | [x], ha, hb =>
    rw [List.mem_singleton] at ha hb
    exact absurd (ha.trans hb.symm) h
  | x :: y :: l, _, _ => simp
section
variable {U C : List (List Nat)} {ws tl : List MStr} {row : List Nat} (X : Ctx6 U C ws tl row) {st : RSt} (R : RInv tl tl row (uptoP ws 6) st)
include X R
theorem R_part {p : MStr} : p ∈ st.parts ↔ IsPart U C p := (R.mem p).trans (mem_upto X)
theorem items_rng : (itemsN st.ranges st.longest).map (fun x => (x.1, x.2.1)) = st.ranges := by
  unfold itemsN
  rw [List.map_map]
  apply List.ext_getElem
  · simp
  · intro i h1 h2
    simp only [List.getElem_map, List.getElem_range, Function.comp]
    rw [List.getD_eq_getElem?_getD, List.getElem?_eq_getElem h2]
    rfl
theorem items_at {x : Item} (hx : x ∈ itemsN st.ranges st.longest) : ∃ i : Nat, st.ranges[i]? = some (x.1, x.2.1) ∧ st.longest[i]? = some x.2.2 := by
  unfold itemsN at hx
  obtain ⟨i, hi, rfl⟩ := List.mem_map.mp hx
  have hi := List.mem_range.mp hi
  have hi2 : i < st.longest.length := by rw [R.lgl]; exact hi
  refine ⟨i, ?_, ?_⟩
  · rw [List.getElem?_eq_getElem hi, List.getD_eq_getElem?_getD, List.getElem?_eq_getElem hi]; rfl
  · rw [List.getElem?_eq_getElem hi2]
    show _ = some (st.longest.getD i Str.empty)
    rw [List.getD_eq_getElem?_getD, List.getElem?_eq_getElem hi2]; rfl
theorem items_ok {xs : List Item} (hp : xs.Perm (itemsN st.ranges st.longest)) (hs : t3Sorted xs) : Items U C tl row xs := by
  have hat : ∀ x ∈ xs, x.2.2 ∈ st.parts ∧ rngP tl row x.2.2 = (x.1, x.2.1) ∧ ∀ q ∈ st.parts, rngP tl row q = (x.1, x.2.1) → cs q <+: cs x.2.2 := fun x hx => by
    obtain ⟨i, h1, h2⟩ := items_at X R (hp.mem_iff.mp hx)
    exact R.lg i _ _ h1 h2
  have hmap : (xs.map fun x => (x.1, x.2.1)).Perm st.ranges := (hp.map _).trans (List.Perm.of_eq (items_rng X R))
  refine ⟨fun x hx => ?_, fun x hx q hq e => ?_, fun q hq => ?_, ?_⟩
  · obtain ⟨a, b, _⟩ := hat x hx
    exact ⟨(R_part X R).mp a, b⟩
  · exact (hat x hx).2.2 q ((R_part X R).mpr hq) e
  · have hm := (R.rmem _).mpr ⟨q, (R_part X R).mpr hq, rfl⟩
    have := hmap.mem_iff.mpr hm
    obtain ⟨x, hx, e⟩ := List.mem_map.mp this
    exact ⟨x, hx, e.symm⟩
  · have hnd : (xs.map fun x => (x.1, x.2.1)).Nodup := hmap.nodup_iff.mpr R.rnd
    unfold t3Sorted at hs
    rw [List.pairwise_map] at hs
    have hnd : (xs.map fun x => (x.1, x.2.1)).Pairwise (· ≠ ·) := hnd
    rw [List.pairwise_map] at hnd
    exact (List.pairwise_and_iff.mpr ⟨hs, hnd⟩).imp fun {a b} h => (t3_lt h.1).resolve_right h.2
theorem ways_due {xs : List Item} (I : Items U C tl row xs) {ways : List (MStr × MStr)} (w : WOK U C tl row xs ways) : ways.Perm st.due := by
  have hnum : ∀ q, IsPart U C q → ∀ z ∈ xs, rngP tl row q = (z.1, z.2.1) → numS (cntP tl q) = cntZ z := fun q hq z hz e => by
    have hlt := part_lt X hq
    have := count_eq X q (Nat.le_of_lt hlt)
    rw [this, e]
    rw [e] at hlt
    dsimp only at hlt ⊢
    unfold numS cntZ numZ
    have : ((z.2.1 - z.1 : Nat) : Int) = (z.2.1 : Int) - (z.1 : Int) := by (first | lia | omega)
    rw [this]
  have hdn : st.due.Nodup := by
    rw [R.due]
    have : (st.parts.map fun p => (p, numS (cntP tl p))).Pairwise (· ≠ ·) := by
      rw [List.pairwise_map]
      exact List.Pairwise.imp (S := fun a b => (a, numS (cntP tl a)) ≠ (b, numS (cntP tl b))) (fun {a b} (h : a ≠ b) e => h (congrArg Prod.fst e)) R.nd
    exact this
  refine (List.perm_ext_iff_of_nodup w.nd hdn).mpr fun y => ?_
  rw [R.due, List.mem_map]
  constructor
  · intro hy
    obtain ⟨hq, z, hz, e, e2⟩ := w.sound y hy
    refine ⟨y.1, (R_part X R).mpr hq, ?_⟩
    rw [hnum y.1 hq z hz e, ← e2]
  · rintro ⟨p, hp, rfl⟩
    have hq := (R_part X R).mp hp
    obtain ⟨z, hz, e⟩ := I.all p hq
    rw [hnum p hq z hz e]
    exact w.comp p hq z hz e
end
end Mine
set_option maxHeartbeats 400000
namespace Mine
theorem upto_21 (ws : List MStr) : (uptoP ws 6).length = 21 := by
  unfold uptoP
  rw [List.length_flatMap]
  simp only [List.length_map, List.length_range]
  decide
theorem flat_len {k : Nat} : ∀ {u : List (List Nat)}, (∀ x ∈ u, x.length ≤ k) → u.flatten.length ≤ u.length * k
  | [], _ => by simp
  | x :: u, h => by
    have h1 := h x (.head _)
    have h2 := flat_len (u := u) fun y hy => h y (.tail _ hy)
    rw [List.flatten_cons, List.length_append, List.length_cons, Nat.add_mul, Nat.one_mul]
    (first | lia | omega)
theorem digit_good : ∀ k, k < 7 → 0 < k → GoodC (cs (numZ ((k : Nat) : Int))) ∧ (numZ ((k : Nat) : Int)).length ≤ 1 := by
  intro k h0 h1
  have hk : k = 1 ∨ k = 2 ∨ k = 3 ∨ k = 4 ∨ k = 5 ∨ k = 6 := by (first | lia | omega)
  rcases hk with rfl | rfl | rfl | rfl | rfl | rfl
  · exact ⟨fun c hc => by rw [List.mem_singleton.mp (show c ∈ [49] from hc)]; decide, Nat.le_of_ble_eq_true rfl⟩
  · exact ⟨fun c hc => by rw [List.mem_singleton.mp (show c ∈ [50] from hc)]; decide, Nat.le_of_ble_eq_true rfl⟩
  · exact ⟨fun c hc => by rw [List.mem_singleton.mp (show c ∈ [51] from hc)]; decide, Nat.le_of_ble_eq_true rfl⟩
  · exact ⟨fun c hc => by rw [List.mem_singleton.mp (show c ∈ [52] from hc)]; decide, Nat.le_of_ble_eq_true rfl⟩
  · exact ⟨fun c hc => by rw [List.mem_singleton.mp (show c ∈ [53] from hc)]; decide, Nat.le_of_ble_eq_true rfl⟩
  · exact ⟨fun c hc => by rw [List.mem_singleton.mp (show c ∈ [54] from hc)]; decide, Nat.le_of_ble_eq_true rfl⟩
section
variable {U C : List (List Nat)} {ws tl : List MStr} {row : List Nat} (X : Ctx6 U C ws tl row)
include X
theorem part_len (hB : ∀ x ∈ C, x.length ≤ 100) {p : MStr} (h : IsPart U C p) : p.length ≤ 1000 := by
  obtain ⟨u, e, hu, _, f, hf, hp⟩ := h
  have h1 := flat_len fun x hx => hB x (hu x hx)
  have h2 := hp.length_le
  rw [List.length_drop, X.len] at h2
  rw [← cs_len, e]
  have : u.length * 100 ≤ 6 * 100 := Nat.mul_le_mul_right _ (by (first | lia | omega))
  (first | lia | omega)
theorem part_good {p : MStr} (h : IsPart U C p) : GoodC (cs p) := by
  obtain ⟨u, e, hu, _⟩ := h
  intro c hc
  rw [e] at hc
  obtain ⟨y, hy, hc⟩ := List.mem_flatten.mp hc
  have := X.code.low y (hu y hy) c hc
  exact ⟨this.2.1, this.2.2⟩
theorem two_ranges : ∃ p q, IsPart U C p ∧ IsPart U C q ∧ rngP tl row p ≠ rngP tl row q := by
  have m0 : IsPart U C (partP ws (5 + 1) 0) := (mem_upto X).mp (by
    unfold uptoP
    exact List.mem_flatMap.mpr ⟨5, by decide, List.mem_map.mpr ⟨0, by decide, rfl⟩⟩)
  have m1 : IsPart U C (partP ws (0 + 1) 1) := (mem_upto X).mp (by
    unfold uptoP
    exact List.mem_flatMap.mpr ⟨0, by decide, List.mem_map.mpr ⟨1, by decide, rfl⟩⟩)
  obtain ⟨e0, l0⟩ := part_word X (s := 5) (f := 0) (by (first | lia | omega)) (by (first | lia | omega))
  obtain ⟨e1, l1⟩ := part_word X (s := 0) (f := 1) (by (first | lia | omega)) (by (first | lia | omega))
  refine ⟨_, _, m0, m1, fun h => ?_⟩
  have hm : 1 ∈ row := X.perm.mem_iff.mpr (by decide)
  have hl := List.idxOf_lt_length_of_mem hm
  have hj : row.idxOf 1 < 6 := by rw [← X.rowlen]; exact hl
  have hg : row.getD (row.idxOf 1) 6 = 1 := by rw [List.getD_eq_getElem?_getD, List.getElem?_eq_getElem hl, List.getElem_idxOf]; rfl
  have h1 : cs (partP ws (0 + 1) 1) <+: SU U row (row.idxOf 1) := by
    rw [part_pre X e1 (take_over X), hg]; exact List.take_prefix _ _
  have h2 := (rg_mem X _ hj).mpr h1
  rw [← h] at h2
  have h3 := (rg_mem X _ hj).mp h2
  rw [part_pre X e0 (take_over X), hg] at h3
  have := h3.length_le
  rw [l0, List.length_drop, X.len] at this
  (first | lia | omega)
variable {st : RSt} (R : RInv tl tl row (uptoP ws 6) st)
include R
theorem rg_two : 2 ≤ st.ranges.length ∧ 2 ≤ st.parts.length := by
  obtain ⟨p, q, hp, hq, hne⟩ := two_ranges X
  have kp := (R_part X R).mpr hp
  have kq := (R_part X R).mpr hq
  exact ⟨two_le ((R.rmem _).mpr ⟨p, kp, rfl⟩) ((R.rmem _).mpr ⟨q, kq, rfl⟩) hne, two_le kp kq fun e => hne (by rw [e])⟩
theorem line_all (hL : ∀ l ∈ C, Letter (mkS l)) (hB : ∀ x ∈ C, x.length ≤ 100) (h21 : st.ranges.length ≤ 21) {xs : List Item} (hp : xs.Perm (itemsN st.ranges st.longest)) (hs : t3Sorted xs) : LineOK (nestP xs) st.due := by
  have I := items_ok X R hp hs
  obtain ⟨ways, hr, hw⟩ := nest_fin X I hL
  have hd := ways_due X R I hw
  have hxl : xs.length = st.ranges.length := by rw [hp.length_eq]; simp [itemsN]
  have h2 := (rg_two X R).1
  have hdig : ∀ x ∈ xs, GoodC (cs (cntZ x)) ∧ (cntZ x).length ≤ 1 := fun x hx => by
    have lx := item_lt X I hx
    have := digit_good (x.2.1 - x.1) (by (first | lia | omega)) (by (first | lia | omega))
    have e3 : ((x.2.1 : Int) - (x.1 : Int)) = ((x.2.1 - x.1 : Nat) : Int) := by (first | lia | omega)
    rw [cntZ, e3]; exact this
  refine line_ok ?_ ?_ hr ?_ hd
  · rw [nestP, cs_cat]
    refine GoodC.app ?_ (.close _)
    exact good_fold xs (Str.ofString "", []) (fun c hc => nomatch (show c ∈ [] from hc)) fun x hx => ⟨part_good X (I.part x hx).1, (hdig x hx).1⟩
  · have h3 := len_fold (B := 1000) xs (Str.ofString "", []) fun x hx => ⟨part_len X hB (I.part x hx).1, (hdig x hx).2⟩
    have h4 : (nestSt xs).1.length + (nestSt xs).2.length ≤ 0 + 0 + xs.length * 1003 := h3
    rw [nestP, len_cat, close_len]
    have : xs.length * 1003 ≤ 21 * 1003 := Nat.mul_le_mul_right _ (by (first | lia | omega))
    (first | lia | omega)
  · match xs, hxl with
    | [], hxl => rw [List.length_nil] at hxl; (first | lia | omega)
    | x :: post, _ => exact first_bracket x post
end

theorem code_small : ∀ odd ∈ [(0 : Int), 1], ∀ x ∈ codes odd, x.length ≤ 100 ∧ x ∈ codeAll := by decide +kernel
theorem CL_letter (ns : List Int) : ∀ l ∈ CL ns, Letter (mkS l) := fun l hl => by
  obtain ⟨x, hx, rfl⟩ := List.mem_map.mp hl
  have e : mkS (cs x) = x := cs_inj (cs_mk _)
  rw [e]
  exact letters x (code_small _ (odd_mem ns) x hx).2
theorem CL_small (ns : List Int) : ∀ l ∈ CL ns, l.length ≤ 100 := fun l hl => by
  obtain ⟨x, hx, rfl⟩ := List.mem_map.mp hl
  rw [cs_len]
  exact (code_small _ (odd_mem ns) x hx).1
theorem ws_small (ns : List Int) : ∀ x ∈ wsL ns, x.length ≤ 100 := fun x hx => (code_small _ (odd_mem ns) x (ws_mem ns x hx)).1
theorem RL_eq (ns : List Int) : RL ns = runR (tlL ns) (tlL ns) (rowL ns) (uptoP (wsL ns) 6) := by
  unfold RL
  rw [← ws_ds]
  rfl
theorem RL_inv (ns : List Int) : RInv (tlL ns) (tlL ns) (rowL ns) (uptoP (wsL ns) 6) (RL ns) := by
  rw [RL_eq]; exact rinv_run (ctx6 ns)
theorem RL_le (ns : List Int) : RLe 21 (RL ns) := by
  have := runR_le (tlL ns) (tlL ns) (rowL ns) (uptoP (wsL ns) 6)
  rw [upto_21, ← RL_eq] at this
  exact this
theorem tails_small (ns : List Int) : ∀ x ∈ tlL ns, x.length ≤ 1000 := fun x hx => by
  unfold tlL tailsP at hx
  obtain ⟨k, hk, rfl⟩ := List.mem_map.mp hx
  have hk := List.mem_range.mp hk
  rw [← cs_len, cs_join]
  have h1 := flat_len (k := 100) (u := ((wsL ns).drop k).map cs) fun y hy => by
    obtain ⟨z, hz, rfl⟩ := List.mem_map.mp hy
    rw [cs_len]; exact ws_small ns z (List.drop_subset _ _ hz)
  rw [List.length_map, List.length_drop, ws_len] at h1
  have : (6 - k) * 100 ≤ 6 * 100 := Nat.mul_le_mul_right _ (by (first | lia | omega))
  (first | lia | omega)
theorem parts_small (ns : List Int) (s f : Nat) : (partP (wsL ns) s f).length ≤ 1000 := by
  unfold partP
  rw [← cs_len, cs_join]
  have h1 := flat_len (k := 100) (u := (((wsL ns).drop f).take s).map cs) fun y hy => by
    obtain ⟨z, hz, rfl⟩ := List.mem_map.mp hy
    rw [cs_len]; exact ws_small ns z (List.drop_subset _ _ (List.take_subset _ _ hz))
  rw [List.length_map, List.length_take, List.length_drop, ws_len] at h1
  have : min s (6 - f) * 100 ≤ 6 * 100 := Nat.mul_le_mul_right _ (by (first | lia | omega))
  (first | lia | omega)
theorem told_all {U C : List (List Nat)} {ws tl : List MStr} {row : List Nat} (X : Ctx6 U C ws tl row) {st : RSt} (R : RInv tl tl row (uptoP ws 6) st) :
    st.due.map (fun p => (cutsP (row.map fun k => tl.getD k Str.empty) p.1, cutsP (row.map fun k => tl.getD k Str.empty) (p.1 ++ Str.ofString "~"))) = st.told := by
  rw [R.due, R.told, List.map_map]
  exact List.map_congr_left fun p _ => told_eq X p
theorem due_part {U C : List (List Nat)} {ws tl : List MStr} {row : List Nat} (X : Ctx6 U C ws tl row) {st : RSt} (R : RInv tl tl row (uptoP ws 6) st) : (∀ p ∈ st.due, IsPart U C p.1) ∧ (∀ x ∈ st.longest, IsPart U C x) ∧ (∀ p ∈ st.ranges, p.1 ≤ 1000 ∧ p.2 ≤ 1000) ∧ st.due.length = st.parts.length := by
  refine ⟨fun p hp => ?_, fun x hx => ?_, fun p hp => ?_, by rw [R.due, List.length_map]⟩
  · rw [R.due] at hp
    obtain ⟨q, hq, rfl⟩ := List.mem_map.mp hp
    exact (R_part X R).mp hq
  · obtain ⟨i, hi⟩ := List.mem_iff_getElem?.mp hx
    have hlt := (List.getElem?_eq_some_iff.mp hi).1
    rw [R.lgl] at hlt
    exact (R_part X R).mp (R.lg i _ x (List.getElem?_eq_getElem hlt) hi).1
  · obtain ⟨q, _, rfl⟩ := (R.rmem p).mp hp
    have := rg_le X q
    exact ⟨by (first | lia | omega), by (first | lia | omega)⟩
theorem lawFacts (ns : List Int) : LawFacts ns where
  h0 := fun x hx => (sign_facts _ (odd_mem ns) x (sgL_mem ns x hx)).2.2.1
  h1 := fun x hx => (sign_facts _ (odd_mem ns) x (sgL_mem ns x hx)).2.2.2.1
  h2 := fun x hx => (sign_facts _ (odd_mem ns) x (sgL_mem ns x hx)).2.2.2.2.1
  h3 := fun x hx => (sign_facts _ (odd_mem ns) x (sgL_mem ns x hx)).2.2.2.2.2.1
  h4 := fun x hx => (sign_facts _ (odd_mem ns) x (sgL_mem ns x hx)).2.2.2.2.2.2
  ws := ws_small ns
  ds := by rw [← ws_ds]; exact ws_small ns
  tl := tails_small ns
  row := row_lt ns
  rowlen := row_len ns
  again := again_row ns
  tab := tab_eq (ctx6 ns)
  til := til_eq (ctx6 ns)
  parts := by rw [← ws_ds]; exact parts_small ns
  told := by rw [restsL]; exact told_all (ctx6 ns) (RL_inv ns)
  duelen := fun p hp => part_len (ctx6 ns) (CL_small ns) ((due_part (ctx6 ns) (RL_inv ns)).1 p hp)
  due2 := by rw [(due_part (ctx6 ns) (RL_inv ns)).2.2.2]; exact (rg_two (ctx6 ns) (RL_inv ns)).2
  due64 := Nat.lt_of_le_of_lt (RL_le ns).due (by decide)
  rg2 := (rg_two (ctx6 ns) (RL_inv ns)).1
  rg64 := Nat.lt_of_le_of_lt (RL_le ns).ranges (by decide)
  rgb := (due_part (ctx6 ns) (RL_inv ns)).2.2.1
  lgl := (RL_inv ns).lgl
  lgb := fun x hx => Nat.le_trans (part_len (ctx6 ns) (CL_small ns) ((due_part (ctx6 ns) (RL_inv ns)).2.1 x hx)) (by decide)
  line := fun xs hp hs => line_all (ctx6 ns) (RL_inv ns) (CL_letter ns) (CL_small ns) (RL_le ns).ranges hp hs
end Mine
end
set_option maxHeartbeats 8000000 in
theorem PySem.Challenge.cw_ux0023_01_holds : PySem.Challenge.rw_ux0023_01.Holds := by
  exact Mine.T Mine.lawFacts
