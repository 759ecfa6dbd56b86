import PyProof.Rows.All
import Wide.All
import OpenK.AllK
import Wide.FinOn
import Lean
import PySem.Challenge.RW_uj0010_01
open PySem PySem.W PyProof.Rows
set_option Elab.async false
set_option maxRecDepth 100000
set_option maxHeartbeats 8000000

/-! UHead -/
namespace Mine
/-! the part of the heap that the walk knows; the functions' trees are taken out of the given program -/
noncomputable def top (i : Nat) : Stmt := (PySem.Challenge.pw_uj0010_01.main.body[i]?).getD (.Pass default)
noncomputable def meth (j : Nat) : Stmt := match top 24 with
  | .ClassDef _ _ _ b _ _ _ _ _ _ _ => (b[j]?).getD (.Pass default)
  | s => s
noncomputable def fnOf (s : Stmt) (df : Value) (qual m : String) (tok code : Nat) : Obj := match s with
  | .FunctionDef n ps b _ _ _ sc _ _ _ => { cls := .type "function", data := .func { name := n, qualname := PySem.Str.ofString qual, params := ps, body := .stmts b, scope := sc, globals := 3, closure := [], defaults := df, kwdefaults := .none, pyModule := .str (PySem.Str.ofString m) tok, code := .ref code } }
  | _ => { cls := .none }
noncomputable def heap0 (P : Params) : Frag := [
  (3, { cls := Value.type "dict", data := Data.dict #[{ hash := PyData.keyHash P (PySem.Str.ofString "__name__"), key := Value.str (PySem.Str.ofString "__name__") 165, val := Value.str (PySem.Str.ofString "law_uj0010_01") 671 }, { hash := PyData.keyHash P (PySem.Str.ofString "__doc__"), key := Value.str (PySem.Str.ofString "__doc__") 166, val := Value.none }, { hash := PyData.keyHash P (PySem.Str.ofString "__package__"), key := Value.str (PySem.Str.ofString "__package__") 167, val := Value.none }, { hash := PyData.keyHash P (PySem.Str.ofString "__loader__"), key := Value.str (PySem.Str.ofString "__loader__") 168, val := Value.builtin "__main__.__loader__#\x6fpaque" }, { hash := PyData.keyHash P (PySem.Str.ofString "__spec__"), key := Value.str (PySem.Str.ofString "__spec__") 169, val := Value.none }, { hash := PyData.keyHash P (PySem.Str.ofString "__annotations__"), key := Value.str (PySem.Str.ofString "__annotations__") 170, val := Value.ref 6 }, { hash := PyData.keyHash P (PySem.Str.ofString "__builtins__"), key := Value.str (PySem.Str.ofString "__builtins__") 171, val := Value.ref 4 }, { hash := PyData.keyHash P (PySem.Str.ofString "__file__"), key := Value.str (PySem.Str.ofString "__file__") 173, val := Value.str (PySem.Str.ofString "/claim/cut.py") 172 }, { hash := PyData.keyHash P (PySem.Str.ofString "__cached__"), key := Value.str (PySem.Str.ofString "__cached__") 174, val := Value.none }, { hash := PyData.keyHash P (PySem.Str.ofString "_sre"), key := Value.str (PySem.Str.ofString "_sre") 275, val := Value.ref 12 }, { hash := PyData.keyHash P (PySem.Str.ofString "_wall"), key := Value.str (PySem.Str.ofString "_wall") 288, val := Value.ref 38 }, { hash := PyData.keyHash P (PySem.Str.ofString "ELLIPSIS_MARKER"), key := Value.str (PySem.Str.ofString "ELLIPSIS_MARKER") 292, val := Value.str (PySem.Str.ofString "...") 291 }, { hash := PyData.keyHash P (PySem.Str.ofString "_ellipsis_match"), key := Value.str (PySem.Str.ofString "_ellipsis_match") 304, val := Value.ref 45 }, { hash := PyData.keyHash P (PySem.Str.ofString "ONE_THIRD"), key := Value.str (PySem.Str.ofString "ONE_THIRD") 310, val := Value.float 4599676419421066581 309 }, { hash := PyData.keyHash P (PySem.Str.ofString "ONE_SIXTH"), key := Value.str (PySem.Str.ofString "ONE_SIXTH") 314, val := Value.float 4595172819793696085 313 }, { hash := PyData.keyHash P (PySem.Str.ofString "TWO_THIRD"), key := Value.str (PySem.Str.ofString "TWO_THIRD") 318, val := Value.float 4604180019048437077 317 }, { hash := PyData.keyHash P (PySem.Str.ofString "rgb_to_hls"), key := Value.str (PySem.Str.ofString "rgb_to_hls") 337, val := Value.ref 52 }, { hash := PyData.keyHash P (PySem.Str.ofString "hls_to_rgb"), key := Value.str (PySem.Str.ofString "hls_to_rgb") 348, val := Value.ref 59 }, { hash := PyData.keyHash P (PySem.Str.ofString "_v"), key := Value.str (PySem.Str.ofString "_v") 357, val := Value.ref 66 }, { hash := PyData.keyHash P (PySem.Str.ofString "hsv_to_rgb"), key := Value.str (PySem.Str.ofString "hsv_to_rgb") 371, val := Value.ref 73 }, { hash := PyData.keyHash P (PySem.Str.ofString "_MAX_STRING_SIZE"), key := Value.str (PySem.Str.ofString "_MAX_STRING_SIZE") 375, val := Value.int 40 374 }, { hash := PyData.keyHash P (PySem.Str.ofString "_MOVE_COST"), key := Value.str (PySem.Str.ofString "_MOVE_COST") 377, val := Value.int 2 376 }, { hash := PyData.keyHash P (PySem.Str.ofString "_CASE_COST"), key := Value.str (PySem.Str.ofString "_CASE_COST") 379, val := Value.int 1 378 }, { hash := PyData.keyHash P (PySem.Str.ofString "_substitution_cost"), key := Value.str (PySem.Str.ofString "_substitution_cost") 387, val := Value.ref 80 }, { hash := PyData.keyHash P (PySem.Str.ofString "_levenshtein_distance"), key := Value.str (PySem.Str.ofString "_levenshtein_distance") 407, val := Value.ref 87 }, { hash := PyData.keyHash P (PySem.Str.ofString "tspecials"), key := Value.str (PySem.Str.ofString "tspecials") 443, val := Value.ref 92 }, { hash := PyData.keyHash P (PySem.Str.ofString "_name_disallowed_re"), key := Value.str (PySem.Str.ofString "_name_disallowed_re") 469, val := Value.ref 97 }, { hash := PyData.keyHash P (PySem.Str.ofString "_value_disallowed_re"), key := Value.str (PySem.Str.ofString "_value_disallowed_re") 503, val := Value.ref 102 }, { hash := PyData.keyHash P (PySem.Str.ofString "_formatparam"), key := Value.str (PySem.Str.ofString "_formatparam") 513, val := Value.ref 110 }, { hash := PyData.keyHash P (PySem.Str.ofString "Headers"), key := Value.str (PySem.Str.ofString "Headers") 670, val := Value.ref 231 }, { hash := PyData.keyHash P (PySem.Str.ofString "_law_paint"), key := Value.str (PySem.Str.ofString "_law_paint") 679, val := Value.ref 242 }, { hash := PyData.keyHash P (PySem.Str.ofString "_law_negative"), key := Value.str (PySem.Str.ofString "_law_negative") 689, val := Value.ref 249 }, { hash := PyData.keyHash P (PySem.Str.ofString "_law_word"), key := Value.str (PySem.Str.ofString "_law_word") 699, val := Value.ref 256 }, { hash := PyData.keyHash P (PySem.Str.ofString "_law_forms"), key := Value.str (PySem.Str.ofString "_law_forms") 711, val := Value.ref 263 }, { hash := PyData.keyHash P (PySem.Str.ofString "_law_takes_none"), key := Value.str (PySem.Str.ofString "_law_takes_none") 720, val := Value.ref 270 }, { hash := PyData.keyHash P (PySem.Str.ofString "_law_grounds"), key := Value.str (PySem.Str.ofString "_law_grounds") 726, val := Value.ref 275 }, { hash := PyData.keyHash P (PySem.Str.ofString "_law_kinds"), key := Value.str (PySem.Str.ofString "_law_kinds") 732, val := Value.ref 280 }, { hash := PyData.keyHash P (PySem.Str.ofString "_law_box"), key := Value.str (PySem.Str.ofString "_law_box") 745, val := Value.ref 287 }, { hash := PyData.keyHash P (PySem.Str.ofString "_law_facing"), key := Value.str (PySem.Str.ofString "_law_facing") 758, val := Value.ref 294 }, { hash := PyData.keyHash P (PySem.Str.ofString "_law_whole"), key := Value.str (PySem.Str.ofString "_law_whole") 764, val := Value.ref 299 }, { hash := PyData.keyHash P (PySem.Str.ofString "_law_apart"), key := Value.str (PySem.Str.ofString "_law_apart") 774, val := Value.ref 306 }, { hash := PyData.keyHash P (PySem.Str.ofString "_law_plain"), key := Value.str (PySem.Str.ofString "_law_plain") 780, val := Value.ref 311 }, { hash := PyData.keyHash P (PySem.Str.ofString "_law_weight"), key := Value.str (PySem.Str.ofString "_law_weight") 790, val := Value.ref 318 }, { hash := PyData.keyHash P (PySem.Str.ofString "law"), key := Value.str (PySem.Str.ofString "law") 796, val := Value.ref 323 }] 44 }),
  (44, { cls := Value.type "code", data := Data.fields #[Value.str (PySem.Str.ofString "_ellipsis_match") 293, Value.str (PySem.Str.ofString "_ellipsis_match") 294, Value.str (PySem.Str.ofString "/claim/cut.py") 295, Value.int 7 0, Value.int 2 0, Value.int 0 0, Value.int 0 0, Value.int 3 0, Value.ref 39, Value.bool true, Value.int 276 0, Value.ref 40, Value.none, Value.ref 41, Value.ref 42, Value.ref 43, Value.int 302 0, Value.int 7 0, Value.str (PySem.Str.ofString "/claim/cut.py") 303] }),
  (45, fnOf (top 4) .none "_ellipsis_match" "cpy313.doctest" 289 44),
  (51, { cls := Value.type "code", data := Data.fields #[Value.str (PySem.Str.ofString "rgb_to_hls") 319, Value.str (PySem.Str.ofString "rgb_to_hls") 320, Value.str (PySem.Str.ofString "/claim/cut.py") 321, Value.int 39 0, Value.int 3 0, Value.int 0 0, Value.int 0 0, Value.int 3 0, Value.ref 46, Value.bool true, Value.int 276 0, Value.ref 47, Value.none, Value.ref 48, Value.ref 49, Value.ref 50, Value.int 335 0, Value.int 39 0, Value.str (PySem.Str.ofString "/claim/cut.py") 336] }),
  (52, fnOf (top 9) .none "rgb_to_hls" "cpy313.colorsys" 305 51),
  (58, { cls := Value.type "code", data := Data.fields #[Value.str (PySem.Str.ofString "hls_to_rgb") 338, Value.str (PySem.Str.ofString "hls_to_rgb") 339, Value.str (PySem.Str.ofString "/claim/cut.py") 340, Value.int 62 0, Value.int 3 0, Value.int 0 0, Value.int 0 0, Value.int 3 0, Value.ref 53, Value.bool true, Value.int 276 0, Value.ref 54, Value.none, Value.ref 55, Value.ref 56, Value.ref 57, Value.int 346 0, Value.int 62 0, Value.str (PySem.Str.ofString "/claim/cut.py") 347] }),
  (59, fnOf (top 10) .none "hls_to_rgb" "cpy313.colorsys" 305 58),
  (65, { cls := Value.type "code", data := Data.fields #[Value.str (PySem.Str.ofString "_v") 349, Value.str (PySem.Str.ofString "_v") 350, Value.str (PySem.Str.ofString "/claim/cut.py") 351, Value.int 71 0, Value.int 3 0, Value.int 0 0, Value.int 0 0, Value.int 3 0, Value.ref 60, Value.bool true, Value.int 276 0, Value.ref 61, Value.none, Value.ref 62, Value.ref 63, Value.ref 64, Value.int 355 0, Value.int 71 0, Value.str (PySem.Str.ofString "/claim/cut.py") 356] }),
  (66, fnOf (top 11) .none "_v" "cpy313.colorsys" 305 65),
  (72, { cls := Value.type "code", data := Data.fields #[Value.str (PySem.Str.ofString "hsv_to_rgb") 358, Value.str (PySem.Str.ofString "hsv_to_rgb") 359, Value.str (PySem.Str.ofString "/claim/cut.py") 360, Value.int 80 0, Value.int 3 0, Value.int 0 0, Value.int 0 0, Value.int 3 0, Value.ref 67, Value.bool true, Value.int 276 0, Value.ref 68, Value.none, Value.ref 69, Value.ref 70, Value.ref 71, Value.int 369 0, Value.int 80 0, Value.str (PySem.Str.ofString "/claim/cut.py") 370] }),
  (73, fnOf (top 12) .none "hsv_to_rgb" "cpy313.colorsys" 305 72),
  (79, { cls := Value.type "code", data := Data.fields #[Value.str (PySem.Str.ofString "_substitution_cost") 380, Value.str (PySem.Str.ofString "_substitution_cost") 381, Value.str (PySem.Str.ofString "/claim/cut.py") 382, Value.int 105 0, Value.int 2 0, Value.int 0 0, Value.int 0 0, Value.int 3 0, Value.ref 74, Value.bool true, Value.int 276 0, Value.ref 75, Value.none, Value.ref 76, Value.ref 77, Value.ref 78, Value.int 385 0, Value.int 105 0, Value.str (PySem.Str.ofString "/claim/cut.py") 386] }),
  (80, fnOf (top 17) .none "_substitution_cost" "cpy313.traceback" 372 79),
  (86, { cls := Value.type "code", data := Data.fields #[Value.str (PySem.Str.ofString "_levenshtein_distance") 388, Value.str (PySem.Str.ofString "_levenshtein_distance") 389, Value.str (PySem.Str.ofString "/claim/cut.py") 390, Value.int 111 0, Value.int 3 0, Value.int 0 0, Value.int 0 0, Value.int 3 0, Value.ref 81, Value.bool true, Value.int 276 0, Value.ref 82, Value.none, Value.ref 83, Value.ref 84, Value.ref 85, Value.int 405 0, Value.int 111 0, Value.str (PySem.Str.ofString "/claim/cut.py") 406] }),
  (87, fnOf (top 18) .none "_levenshtein_distance" "cpy313.traceback" 372 86),
  (96, { cls := Value.type "tuple", data := Data.seq #[Value.int 14 0, Value.int 10 0, Value.int 4 0, Value.int 1 0, Value.int 1 0, Value.int 22 0, Value.int 0 0, Value.int 31 0, Value.int 16 0, Value.int 127 0, Value.int 0 0, Value.int 13 0, Value.int 7 0, Value.int 22 0, Value.int 0 0, Value.int 31 0, Value.int 16 0, Value.int 127 0, Value.int 0 0, Value.int 1 0] }),
  (97, { cls := Value.type "re.Pattern", data := Data.fields #[Value.str (PySem.Str.ofString "[\\x00-\\x1F\\x7F]") 445, Value.int 32 468, Value.int 0 0, Value.none, Value.none, Value.ref 96, Value.int 0 0] }),
  (101, { cls := Value.type "tuple", data := Data.seq #[Value.int 14 0, Value.int 14 0, Value.int 4 0, Value.int 1 0, Value.int 1 0, Value.int 9 0, Value.int 4294966783 0, Value.int 0 0, Value.int 0 0, Value.int 2147483648 0, Value.int 0 0, Value.int 0 0, Value.int 0 0, Value.int 0 0, Value.int 0 0, Value.int 13 0, Value.int 11 0, Value.int 9 0, Value.int 4294966783 0, Value.int 0 0, Value.int 0 0, Value.int 2147483648 0, Value.int 0 0, Value.int 0 0, Value.int 0 0, Value.int 0 0, Value.int 0 0, Value.int 1 0] }),
  (102, { cls := Value.type "re.Pattern", data := Data.fields #[Value.str (PySem.Str.ofString "[\\x00-\\x08\\x0A-\\x1F\\x7F]") 471, Value.int 32 502, Value.int 0 0, Value.none, Value.none, Value.ref 101, Value.int 0 0] }),
  (118, { cls := Value.type "tuple", data := Data.seq #[Value.none] }),
  (124, { cls := Value.type "code", data := Data.fields #[Value.str (PySem.Str.ofString "__init__") 526, Value.str (PySem.Str.ofString "Headers.__init__") 527, Value.str (PySem.Str.ofString "/claim/cut.py") 528, Value.int 164 0, Value.int 2 0, Value.int 0 0, Value.int 0 0, Value.int 3 0, Value.ref 119, Value.bool true, Value.int 276 0, Value.ref 120, Value.none, Value.ref 121, Value.ref 122, Value.ref 123, Value.int 533 0, Value.int 164 0, Value.str (PySem.Str.ofString "/claim/cut.py") 534] }),
  (125, fnOf (meth 0) (.ref 118) "Headers.__init__" "cpy313.wsgiref.headers" 408 124),
  (131, { cls := Value.type "code", data := Data.fields #[Value.str (PySem.Str.ofString "_convert_string_type") 536, Value.str (PySem.Str.ofString "Headers._convert_string_type") 537, Value.str (PySem.Str.ofString "/claim/cut.py") 538, Value.int 174 0, Value.int 2 0, Value.int 0 0, Value.int 1 0, Value.int 3 0, Value.ref 126, Value.bool true, Value.int 276 0, Value.ref 127, Value.none, Value.ref 128, Value.ref 129, Value.ref 130, Value.int 543 0, Value.int 174 0, Value.str (PySem.Str.ofString "/claim/cut.py") 544] }),
  (132, fnOf (meth 1) .none "Headers._convert_string_type" "cpy313.wsgiref.headers" 408 131),
  (169, { cls := Value.type "code", data := Data.fields #[Value.str (PySem.Str.ofString "get_all") 584, Value.str (PySem.Str.ofString "Headers.get_all") 585, Value.str (PySem.Str.ofString "/claim/cut.py") 586, Value.int 199 0, Value.int 2 0, Value.int 0 0, Value.int 0 0, Value.int 3 0, Value.ref 166, Value.bool true, Value.int 276 0, Value.ref 167, Value.none, Value.none, Value.none, Value.ref 168, Value.int 587 0, Value.int 199 0, Value.str (PySem.Str.ofString "/claim/cut.py") 588] }),
  (170, fnOf (meth 7) .none "Headers.get_all" "cpy313.wsgiref.headers" 408 169),
  (227, { cls := Value.type "code", data := Data.fields #[Value.str (PySem.Str.ofString "add_header") 649, Value.str (PySem.Str.ofString "Headers.add_header") 650, Value.str (PySem.Str.ofString "/claim/cut.py") 651, Value.int 231 0, Value.int 3 0, Value.int 0 0, Value.int 0 0, Value.int 11 0, Value.ref 222, Value.bool true, Value.int 276 0, Value.ref 223, Value.none, Value.ref 224, Value.ref 225, Value.ref 226, Value.int 659 0, Value.int 231 0, Value.str (PySem.Str.ofString "/claim/cut.py") 660] }),
  (228, fnOf (meth 16) .none "Headers.add_header" "cpy313.wsgiref.headers" 408 227),
  (230, { cls := Value.type "dict", data := Data.dict #[{ hash := PyData.keyHash P (PySem.Str.ofString "__module__"), key := Value.str (PySem.Str.ofString "__module__") 521, val := Value.str (PySem.Str.ofString "cpy313.wsgiref.headers") 408 }, { hash := PyData.keyHash P (PySem.Str.ofString "__firstlineno__"), key := Value.str (PySem.Str.ofString "__firstlineno__") 525, val := Value.int 162 524 }, { hash := PyData.keyHash P (PySem.Str.ofString "__init__"), key := Value.str (PySem.Str.ofString "__init__") 535, val := Value.ref 125 }, { hash := PyData.keyHash P (PySem.Str.ofString "_convert_string_type"), key := Value.str (PySem.Str.ofString "_convert_string_type") 545, val := Value.ref 132 }, { hash := PyData.keyHash P (PySem.Str.ofString "__len__"), key := Value.str (PySem.Str.ofString "__len__") 552, val := Value.ref 139 }, { hash := PyData.keyHash P (PySem.Str.ofString "__setitem__"), key := Value.str (PySem.Str.ofString "__setitem__") 561, val := Value.ref 146 }, { hash := PyData.keyHash P (PySem.Str.ofString "__delitem__"), key := Value.str (PySem.Str.ofString "__delitem__") 567, val := Value.ref 151 }, { hash := PyData.keyHash P (PySem.Str.ofString "__getitem__"), key := Value.str (PySem.Str.ofString "__getitem__") 575, val := Value.ref 158 }, { hash := PyData.keyHash P (PySem.Str.ofString "__contains__"), key := Value.str (PySem.Str.ofString "__contains__") 583, val := Value.ref 165 }, { hash := PyData.keyHash P (PySem.Str.ofString "get_all"), key := Value.str (PySem.Str.ofString "get_all") 589, val := Value.ref 170 }, { hash := PyData.keyHash P (PySem.Str.ofString "get"), key := Value.str (PySem.Str.ofString "get") 600, val := Value.ref 178 }, { hash := PyData.keyHash P (PySem.Str.ofString "keys"), key := Value.str (PySem.Str.ofString "keys") 606, val := Value.ref 183 }, { hash := PyData.keyHash P (PySem.Str.ofString "values"), key := Value.str (PySem.Str.ofString "values") 612, val := Value.ref 188 }, { hash := PyData.keyHash P (PySem.Str.ofString "items"), key := Value.str (PySem.Str.ofString "items") 619, val := Value.ref 195 }, { hash := PyData.keyHash P (PySem.Str.ofString "__repr__"), key := Value.str (PySem.Str.ofString "__repr__") 626, val := Value.ref 202 }, { hash := PyData.keyHash P (PySem.Str.ofString "__str__"), key := Value.str (PySem.Str.ofString "__str__") 632, val := Value.ref 207 }, { hash := PyData.keyHash P (PySem.Str.ofString "__bytes__"), key := Value.str (PySem.Str.ofString "__bytes__") 639, val := Value.ref 214 }, { hash := PyData.keyHash P (PySem.Str.ofString "setdefault"), key := Value.str (PySem.Str.ofString "setdefault") 648, val := Value.ref 221 }, { hash := PyData.keyHash P (PySem.Str.ofString "add_header"), key := Value.str (PySem.Str.ofString "add_header") 661, val := Value.ref 228 }, { hash := PyData.keyHash P (PySem.Str.ofString "__static_attributes__"), key := Value.str (PySem.Str.ofString "__static_attributes__") 663, val := Value.ref 229 }, { hash := PyData.keyHash P (PySem.Str.ofString "__dict__"), key := Value.str (PySem.Str.ofString "__dict__") 665, val := Value.ref 232 }, { hash := PyData.keyHash P (PySem.Str.ofString "__weakref__"), key := Value.str (PySem.Str.ofString "__weakref__") 667, val := Value.ref 233 }, { hash := PyData.keyHash P (PySem.Str.ofString "__doc__"), key := Value.str (PySem.Str.ofString "__doc__") 668, val := Value.none }] 4 }),
  (231, { cls := Value.type "type", data := Data.cls { name := PySem.Str.ofString "Headers", bases := [Value.type "object"], mro := [Value.ref 231, Value.type "object"], ns := 230, qualname := PySem.Str.ofString "Headers" }, slots := #[none, none, some (Value.str (PySem.Str.ofString "Headers") 514), some (Value.str (PySem.Str.ofString "Headers") 522), some (Value.builtin "object.__new__"), some (Value.bool true)] }),
  (241, { cls := Value.type "code", data := Data.fields #[Value.str (PySem.Str.ofString "_law_paint") 673, Value.str (PySem.Str.ofString "_law_paint") 674, Value.str (PySem.Str.ofString "/claim/cut.py") 675, Value.int 245 0, Value.int 1 0, Value.int 0 0, Value.int 0 0, Value.int 3 0, Value.ref 236, Value.bool true, Value.int 276 0, Value.ref 237, Value.none, Value.ref 238, Value.ref 239, Value.ref 240, Value.int 677 0, Value.int 245 0, Value.str (PySem.Str.ofString "/claim/cut.py") 678] }),
  (242, fnOf (top 26) .none "_law_paint" "law_uj0010_01" 671 241),
  (248, { cls := Value.type "code", data := Data.fields #[Value.str (PySem.Str.ofString "_law_negative") 680, Value.str (PySem.Str.ofString "_law_negative") 681, Value.str (PySem.Str.ofString "/claim/cut.py") 682, Value.int 249 0, Value.int 1 0, Value.int 0 0, Value.int 0 0, Value.int 3 0, Value.ref 243, Value.bool true, Value.int 276 0, Value.ref 244, Value.none, Value.ref 245, Value.ref 246, Value.ref 247, Value.int 687 0, Value.int 249 0, Value.str (PySem.Str.ofString "/claim/cut.py") 688] }),
  (249, fnOf (top 27) .none "_law_negative" "law_uj0010_01" 671 248),
  (255, { cls := Value.type "code", data := Data.fields #[Value.str (PySem.Str.ofString "_law_word") 690, Value.str (PySem.Str.ofString "_law_word") 691, Value.str (PySem.Str.ofString "/claim/cut.py") 692, Value.int 252 0, Value.int 1 0, Value.int 0 0, Value.int 0 0, Value.int 3 0, Value.ref 250, Value.bool true, Value.int 276 0, Value.ref 251, Value.none, Value.ref 252, Value.ref 253, Value.ref 254, Value.int 697 0, Value.int 252 0, Value.str (PySem.Str.ofString "/claim/cut.py") 698] }),
  (256, fnOf (top 28) .none "_law_word" "law_uj0010_01" 671 255),
  (262, { cls := Value.type "code", data := Data.fields #[Value.str (PySem.Str.ofString "_law_forms") 700, Value.str (PySem.Str.ofString "_law_forms") 701, Value.str (PySem.Str.ofString "/claim/cut.py") 702, Value.int 257 0, Value.int 0 0, Value.int 0 0, Value.int 0 0, Value.int 3 0, Value.ref 257, Value.bool true, Value.int 276 0, Value.ref 258, Value.none, Value.ref 259, Value.ref 260, Value.ref 261, Value.int 709 0, Value.int 257 0, Value.str (PySem.Str.ofString "/claim/cut.py") 710] }),
  (263, fnOf (top 29) .none "_law_forms" "law_uj0010_01" 671 262),
  (269, { cls := Value.type "code", data := Data.fields #[Value.str (PySem.Str.ofString "_law_takes_none") 712, Value.str (PySem.Str.ofString "_law_takes_none") 713, Value.str (PySem.Str.ofString "/claim/cut.py") 714, Value.int 270 0, Value.int 2 0, Value.int 0 0, Value.int 0 0, Value.int 3 0, Value.ref 264, Value.bool true, Value.int 276 0, Value.ref 265, Value.none, Value.ref 266, Value.ref 267, Value.ref 268, Value.int 718 0, Value.int 270 0, Value.str (PySem.Str.ofString "/claim/cut.py") 719] }),
  (270, fnOf (top 30) .none "_law_takes_none" "law_uj0010_01" 671 269),
  (274, { cls := Value.type "code", data := Data.fields #[Value.str (PySem.Str.ofString "_law_grounds") 721, Value.str (PySem.Str.ofString "_law_grounds") 722, Value.str (PySem.Str.ofString "/claim/cut.py") 723, Value.int 275 0, Value.int 2 0, Value.int 0 0, Value.int 0 0, Value.int 3 0, Value.ref 271, Value.bool true, Value.int 276 0, Value.ref 272, Value.none, Value.none, Value.none, Value.ref 273, Value.int 724 0, Value.int 275 0, Value.str (PySem.Str.ofString "/claim/cut.py") 725] }),
  (275, fnOf (top 31) .none "_law_grounds" "law_uj0010_01" 671 274),
  (279, { cls := Value.type "code", data := Data.fields #[Value.str (PySem.Str.ofString "_law_kinds") 727, Value.str (PySem.Str.ofString "_law_kinds") 728, Value.str (PySem.Str.ofString "/claim/cut.py") 729, Value.int 277 0, Value.int 1 0, Value.int 0 0, Value.int 0 0, Value.int 3 0, Value.ref 276, Value.bool true, Value.int 276 0, Value.ref 277, Value.none, Value.none, Value.none, Value.ref 278, Value.int 730 0, Value.int 277 0, Value.str (PySem.Str.ofString "/claim/cut.py") 731] }),
  (280, fnOf (top 32) .none "_law_kinds" "law_uj0010_01" 671 279),
  (286, { cls := Value.type "code", data := Data.fields #[Value.str (PySem.Str.ofString "_law_box") 733, Value.str (PySem.Str.ofString "_law_box") 734, Value.str (PySem.Str.ofString "/claim/cut.py") 735, Value.int 282 0, Value.int 3 0, Value.int 0 0, Value.int 0 0, Value.int 3 0, Value.ref 281, Value.bool true, Value.int 276 0, Value.ref 282, Value.none, Value.ref 283, Value.ref 284, Value.ref 285, Value.int 743 0, Value.int 282 0, Value.str (PySem.Str.ofString "/claim/cut.py") 744] }),
  (287, fnOf (top 33) .none "_law_box" "law_uj0010_01" 671 286),
  (293, { cls := Value.type "code", data := Data.fields #[Value.str (PySem.Str.ofString "_law_facing") 746, Value.str (PySem.Str.ofString "_law_facing") 747, Value.str (PySem.Str.ofString "/claim/cut.py") 748, Value.int 291 0, Value.int 3 0, Value.int 0 0, Value.int 0 0, Value.int 3 0, Value.ref 288, Value.bool true, Value.int 276 0, Value.ref 289, Value.none, Value.ref 290, Value.ref 291, Value.ref 292, Value.int 756 0, Value.int 291 0, Value.str (PySem.Str.ofString "/claim/cut.py") 757] }),
  (294, fnOf (top 34) .none "_law_facing" "law_uj0010_01" 671 293),
  (298, { cls := Value.type "code", data := Data.fields #[Value.str (PySem.Str.ofString "_law_whole") 759, Value.str (PySem.Str.ofString "_law_whole") 760, Value.str (PySem.Str.ofString "/claim/cut.py") 761, Value.int 300 0, Value.int 3 0, Value.int 0 0, Value.int 0 0, Value.int 3 0, Value.ref 295, Value.bool true, Value.int 276 0, Value.ref 296, Value.none, Value.none, Value.none, Value.ref 297, Value.int 762 0, Value.int 300 0, Value.str (PySem.Str.ofString "/claim/cut.py") 763] }),
  (299, fnOf (top 35) .none "_law_whole" "law_uj0010_01" 671 298),
  (305, { cls := Value.type "code", data := Data.fields #[Value.str (PySem.Str.ofString "_law_apart") 765, Value.str (PySem.Str.ofString "_law_apart") 766, Value.str (PySem.Str.ofString "/claim/cut.py") 767, Value.int 303 0, Value.int 3 0, Value.int 0 0, Value.int 0 0, Value.int 3 0, Value.ref 300, Value.bool true, Value.int 276 0, Value.ref 301, Value.none, Value.ref 302, Value.ref 303, Value.ref 304, Value.int 772 0, Value.int 303 0, Value.str (PySem.Str.ofString "/claim/cut.py") 773] }),
  (306, fnOf (top 36) .none "_law_apart" "law_uj0010_01" 671 305),
  (310, { cls := Value.type "code", data := Data.fields #[Value.str (PySem.Str.ofString "_law_plain") 775, Value.str (PySem.Str.ofString "_law_plain") 776, Value.str (PySem.Str.ofString "/claim/cut.py") 777, Value.int 308 0, Value.int 2 0, Value.int 0 0, Value.int 0 0, Value.int 3 0, Value.ref 307, Value.bool true, Value.int 276 0, Value.ref 308, Value.none, Value.none, Value.none, Value.ref 309, Value.int 778 0, Value.int 308 0, Value.str (PySem.Str.ofString "/claim/cut.py") 779] }),
  (311, fnOf (top 37) .none "_law_plain" "law_uj0010_01" 671 310),
  (317, { cls := Value.type "code", data := Data.fields #[Value.str (PySem.Str.ofString "_law_weight") 781, Value.str (PySem.Str.ofString "_law_weight") 782, Value.str (PySem.Str.ofString "/claim/cut.py") 783, Value.int 310 0, Value.int 2 0, Value.int 0 0, Value.int 0 0, Value.int 3 0, Value.ref 312, Value.bool true, Value.int 276 0, Value.ref 313, Value.none, Value.ref 314, Value.ref 315, Value.ref 316, Value.int 788 0, Value.int 310 0, Value.str (PySem.Str.ofString "/claim/cut.py") 789] }),
  (318, fnOf (top 38) .none "_law_weight" "law_uj0010_01" 671 317),
  (322, { cls := Value.type "code", data := Data.fields #[Value.str (PySem.Str.ofString "law") 791, Value.str (PySem.Str.ofString "law") 792, Value.str (PySem.Str.ofString "/claim/cut.py") 793, Value.int 315 0, Value.int 1 0, Value.int 0 0, Value.int 0 0, Value.int 3 0, Value.ref 319, Value.bool true, Value.int 276 0, Value.ref 320, Value.none, Value.none, Value.none, Value.ref 321, Value.int 794 0, Value.int 315 0, Value.str (PySem.Str.ofString "/claim/cut.py") 795] }),
  (323, fnOf (top 39) .none "law" "law_uj0010_01" 671 322)]
noncomputable def addrs0 : List Addr := [3, 44, 45, 51, 52, 58, 59, 65, 66, 72, 73, 79, 80, 86, 87, 96, 97, 101, 102, 118, 124, 125, 131, 132, 169, 170, 227, 228, 230, 231, 241, 242, 248, 249, 255, 256, 262, 263, 269, 270, 274, 275, 279, 280, 286, 287, 293, 294, 298, 299, 305, 306, 310, 311, 317, 318, 322, 323]
noncomputable def hook0 : Hook := kHook heap0 addrs0 (fun _ => by kernel_rfl)
noncomputable def view0 : Program := { PySem.Challenge.pw_uj0010_01 with main := { PySem.Challenge.pw_uj0010_01.main with body := ([0, 39] : List Nat).filterMap (PySem.Challenge.pw_uj0010_01.main.body[·]?) } }
noncomputable def loose0 : List PySem.Str := [PySem.Str.ofString "_wall", PySem.Str.ofString "ELLIPSIS_MARKER", PySem.Str.ofString "_ellipsis_match", PySem.Str.ofString "ONE_THIRD", PySem.Str.ofString "ONE_SIXTH", PySem.Str.ofString "TWO_THIRD", PySem.Str.ofString "rgb_to_hls", PySem.Str.ofString "hls_to_rgb", PySem.Str.ofString "_v", PySem.Str.ofString "hsv_to_rgb", PySem.Str.ofString "_MAX_STRING_SIZE", PySem.Str.ofString "_MOVE_COST", PySem.Str.ofString "_CASE_COST", PySem.Str.ofString "_substitution_cost", PySem.Str.ofString "_levenshtein_distance", PySem.Str.ofString "tspecials", PySem.Str.ofString "_name_disallowed_re", PySem.Str.ofString "_value_disallowed_re", PySem.Str.ofString "_formatparam", PySem.Str.ofString "Headers", PySem.Str.ofString "_law_paint", PySem.Str.ofString "_law_negative", PySem.Str.ofString "_law_word", PySem.Str.ofString "_law_forms", PySem.Str.ofString "_law_takes_none", PySem.Str.ofString "_law_grounds", PySem.Str.ofString "_law_kinds", PySem.Str.ofString "_law_box", PySem.Str.ofString "_law_facing", PySem.Str.ofString "_law_whole", PySem.Str.ofString "_law_apart", PySem.Str.ofString "_law_plain", PySem.Str.ofString "_law_weight"]
namespace Hd
noncomputable def vs (s : String) (n : Nat) : Value := .str (PySem.Str.ofString s) n
noncomputable def vi (i : Int) (n : Nat) : Value := .int i n
noncomputable def vr (a : Nat) : Value := .ref a
noncomputable def de (P : Params) (s : String) (n : Nat) (v : Value) : DictEntry := { hash := PyData.keyHash P (PySem.Str.ofString s), key := .str (PySem.Str.ofString s) n, val := v }
noncomputable def tE : Obj := { cls := .type "tuple", data := .seq #[] }
noncomputable def fE : Obj := { cls := .none, data := .fields #[] }
noncomputable def fn0 (s : Stmt) (qual : String) : Obj := match s with
  | .FunctionDef n ps b _ _ _ sc _ _ _ => { cls := .none, data := .func { name := n, qualname := PySem.Str.ofString qual, params := ps, body := .stmts b, scope := sc, globals := 0, closure := [], defaults := .none, kwdefaults := .none } }
  | _ => { cls := .none }
noncomputable def h0 (P : Params) (a : Nat) : Obj := ((heap0 P).lookup a).getD { cls := .none }
noncomputable def objs0 (P : Params) : List Obj := [
  PySem.W.boot_o_0 P,
  { cls := Value.type "dict", data := Data.dict #[de P "builtins" 162 (vr 4), de P "__main__" 163 (vr 5), de P "_sre" 244 (vr 12)] 3 },
  { cls := Value.none, data := Data.dict #[de P "\x69mport.loaded._sre" 183 (Value.bool true), de P "class._frozen_\x69mportlib.BuiltinImporter" 185 (vr 14), de P "watched.\x69mport" 206 (vr 18), de P "class._frozen_\x69mportlib.ModuleSpec" 216 (vr 22), de P "sys.modules.booked-epoch" 245 (vi 3 0), de P "\x69mport.later-laid._sre" 270 (Value.bool true), de P "watched.library" 272 (vr 27), de P "watched.library-objects" 0 (vs "\x0c" 0), de P "watched.library-deep._sre" 273 (.str ⟨#[4, 0, 0, 11, 4, 0, 0, 11, 4, 0, 0, 3, 4, 0, 0, 11, 8, 4, 100, 105, 99, 116, 2]⟩ 0)] 9 },
  h0 P 3,
  { cls := Value.type "module", dict := some 0 },
  { cls := Value.type "module", dict := some 3 },
  { cls := Value.type "dict", data := Data.dict #[] },
  tE,
  fE,
  { cls := Value.type "code", data := Data.fields #[vs "<module>" 176, vs "<module>" 177, vs "/claim/cut.py" 178, vi 1 0, vi 0 0, vi 0 0, vi 0 0, vi 0 0, vr 7, Value.bool false, vi 175 0, vr 8, Value.none, Value.none, Value.none, Value.none, vi 179 0, vi 1 0, vs "/claim/cut.py" 180] },
  { cls := Value.type "frame", slots := #[some (vr 9), some (vr 3), some (vr 3), none, some (vs "__main__" 164), none, some (vr 0)] },
  { cls := Value.type "dict", data := Data.dict #[de P "__name__" 247 (vs "_sre" 246), de P "__doc__" 248 .none, de P "__package__" 250 (vs "" 249), de P "__loader__" 251 (Value.builtin "off-the-table:_sre.__loader__:shared#\x6fpaque"), de P "__spec__" 252 (Value.builtin "off-the-table:_sre.__spec__:shared#\x6fpaque"), de P "compile" 253 (Value.builtin "_sre.compile"), de P "template" 254 (Value.builtin "off-the-table:_sre.template:shared#\x6fpaque"), de P "getcodesize" 255 (Value.builtin "off-the-table:_sre.getcodesize:shared#\x6fpaque"), de P "ascii_iscased" 256 (Value.builtin "off-the-table:_sre.ascii_iscased:shared#\x6fpaque"), de P "unicode_iscased" 257 (Value.builtin "off-the-table:_sre.unicode_iscased:shared#\x6fpaque"), de P "ascii_tolower" 258 (Value.builtin "off-the-table:_sre.ascii_tolower:shared#\x6fpaque"), de P "unicode_tolower" 259 (Value.builtin "off-the-table:_sre.unicode_tolower:shared#\x6fpaque"), de P "MAGIC" 261 (vi 20230612 260), de P "CODESIZE" 263 (vi 4 262), de P "MAXREPEAT" 265 (vi 4294967295 264), de P "MAXGROUPS" 267 (vi 1073741823 266), de P "copyright" 269 (vs " SRE 2.2.2 Copyright (c) 1997-2002 by Secret Labs AB " 268)] 17 },
  { cls := Value.type "module", dict := some 11 },
  { cls := Value.type "dict", data := Data.dict #[de P "__module__" 189 (vs "_frozen_\x69mportlib" 186), de P "__firstlineno__" 190 (vi 971 187), de P "__doc__" 191 (Value.builtin "_frozen_\x69mportlib.BuiltinImporter.__doc__:str#\x6fpaque"), de P "_ORIGIN" 192 (vs "built-in" 188), de P "find_spec" 193 (Value.builtin "_frozen_\x69mportlib.BuiltinImporter.find_spec#\x6fpaque"), de P "create_module" 194 (Value.builtin "_frozen_\x69mportlib.BuiltinImporter.create_module#\x6fpaque"), de P "exec_module" 195 (Value.builtin "_frozen_\x69mportlib.BuiltinImporter.exec_module#\x6fpaque"), de P "get_code" 196 (Value.builtin "_frozen_\x69mportlib.BuiltinImporter.get_code#\x6fpaque"), de P "get_source" 197 (Value.builtin "_frozen_\x69mportlib.BuiltinImporter.get_source#\x6fpaque"), de P "is_package" 198 (Value.builtin "_frozen_\x69mportlib.BuiltinImporter.is_package#\x6fpaque"), de P "load_module" 199 (Value.builtin "_frozen_\x69mportlib.BuiltinImporter.load_module#\x6fpaque"), de P "__static_attributes__" 200 (vr 15), de P "__dict__" 202 (vr 16), de P "__weakref__" 204 (vr 17)] 14 },
  { cls := Value.type "type", data := Data.cls { name := PySem.Str.ofString "BuiltinImporter", bases := [Value.type "object"], mro := [vr 14, Value.type "object"], ns := 13, qualname := PySem.Str.ofString "BuiltinImporter" } },
  tE,
  { cls := Value.type "getset_descriptor", data := Data.fields #[vs "__dict__" 201, vr 14, Value.builtin "function.__dict__", Value.builtin "function.__dict__#set"] },
  { cls := Value.type "getset_descriptor", data := Data.fields #[vs "__weakref__" 203, vr 14, Value.builtin "ExceptionGroup.__weakref__", Value.none] },
  { cls := Value.none, data := Data.seq #[vi 13 0, .str ⟨#[6, 189, 10, 95, 95, 109, 111, 100, 117, 108, 101, 95, 95, 6, 186, 17, 95, 102, 114, 111, 122, 101, 110, 95, 105, 109, 112, 111, 114, 116, 108, 105, 98, 6, 190, 15, 95, 95, 102, 105, 114, 115, 116, 108, 105, 110, 101, 110, 111, 95, 95, 4, 187, 0, 971, 6, 191, 7, 95, 95, 100, 111, 99, 95, 95, 9, 52, 95, 102, 114, 111, 122, 101, 110, 95, 105, 109, 112, 111, 114, 116, 108, 105, 98, 46, 66, 117, 105, 108, 116, 105, 110, 73, 109, 112, 111, 114, 116, 101, 114, 46, 95, 95, 100, 111, 99, 95, 95, 58, 115, 116, 114, 35, 111, 112, 97, 113, 117, 101, 6, 192, 7, 95, 79, 82, 73, 71, 73, 78, 6, 188, 8, 98, 117, 105, 108, 116, 45, 105, 110, 6, 193, 9, 102, 105, 110, 100, 95, 115, 112, 101, 99, 9, 50, 95, 102, 114, 111, 122, 101, 110, 95, 105, 109, 112, 111, 114, 116, 108, 105, 98, 46, 66, 117, 105, 108, 116, 105, 110, 73, 109, 112, 111, 114, 116, 101, 114, 46, 102, 105, 110, 100, 95, 115, 112, 101, 99, 35, 111, 112, 97, 113, 117, 101, 6, 194, 13, 99, 114, 101, 97, 116, 101, 95, 109, 111, 100, 117, 108, 101, 9, 54, 95, 102, 114, 111, 122, 101, 110, 95, 105, 109, 112, 111, 114, 116, 108, 105, 98, 46, 66, 117, 105, 108, 116, 105, 110, 73, 109, 112, 111, 114, 116, 101, 114, 46, 99, 114, 101, 97, 116, 101, 95, 109, 111, 100, 117, 108, 101, 35, 111, 112, 97, 113, 117, 101, 6, 195, 11, 101, 120, 101, 99, 95, 109, 111, 100, 117, 108, 101, 9, 52, 95, 102, 114, 111, 122, 101, 110, 95, 105, 109, 112, 111, 114, 116, 108, 105, 98, 46, 66, 117, 105, 108, 116, 105, 110, 73, 109, 112, 111, 114, 116, 101, 114, 46, 101, 120, 101, 99, 95, 109, 111, 100, 117, 108, 101, 35, 111, 112, 97, 113, 117, 101, 6, 196, 8, 103, 101, 116, 95, 99, 111, 100, 101, 9, 49, 95, 102, 114, 111, 122, 101, 110, 95, 105, 109, 112, 111, 114, 116, 108, 105, 98, 46, 66, 117, 105, 108, 116, 105, 110, 73, 109, 112, 111, 114, 116, 101, 114, 46, 103, 101, 116, 95, 99, 111, 100, 101, 35, 111, 112, 97, 113, 117, 101, 6, 197, 10, 103, 101, 116, 95, 115, 111, 117, 114, 99, 101, 9, 51, 95, 102, 114, 111, 122, 101, 110, 95, 105, 109, 112, 111, 114, 116, 108, 105, 98, 46, 66, 117, 105, 108, 116, 105, 110, 73, 109, 112, 111, 114, 116, 101, 114, 46, 103, 101, 116, 95, 115, 111, 117, 114, 99, 101, 35, 111, 112, 97, 113, 117, 101, 6, 198, 10, 105, 115, 95, 112, 97, 99, 107, 97, 103, 101, 9, 51, 95, 102, 114, 111, 122, 101, 110, 95, 105, 109, 112, 111, 114, 116, 108, 105, 98, 46, 66, 117, 105, 108, 116, 105, 110, 73, 109, 112, 111, 114, 116, 101, 114, 46, 105, 115, 95, 112, 97, 99, 107, 97, 103, 101, 35, 111, 112, 97, 113, 117, 101, 6, 199, 11, 108, 111, 97, 100, 95, 109, 111, 100, 117, 108, 101, 9, 52, 95, 102, 114, 111, 122, 101, 110, 95, 105, 109, 112, 111, 114, 116, 108, 105, 98, 46, 66, 117, 105, 108, 116, 105, 110, 73, 109, 112, 111, 114, 116, 101, 114, 46, 108, 111, 97, 100, 95, 109, 111, 100, 117, 108, 101, 35, 111, 112, 97, 113, 117, 101, 6, 200, 21, 95, 95, 115, 116, 97, 116, 105, 99, 95, 97, 116, 116, 114, 105, 98, 117, 116, 101, 115, 95, 95, 4, 0, 0, 15, 6, 202, 8, 95, 95, 100, 105, 99, 116, 95, 95, 4, 0, 0, 16, 6, 204, 11, 95, 95, 119, 101, 97, 107, 114, 101, 102, 95, 95, 4, 0, 0, 17]⟩ 0, Value.bool true, Value.bool true, vs "" 205, vi 21 0, .str ⟨#[6, 227, 10, 95, 95, 109, 111, 100, 117, 108, 101, 95, 95, 6, 217, 17, 95, 102, 114, 111, 122, 101, 110, 95, 105, 109, 112, 111, 114, 116, 108, 105, 98, 6, 228, 15, 95, 95, 102, 105, 114, 115, 116, 108, 105, 110, 101, 110, 111, 95, 95, 4, 218, 0, 562, 6, 229, 7, 95, 95, 100, 111, 99, 95, 95, 9, 47, 95, 102, 114, 111, 122, 101, 110, 95, 105, 109, 112, 111, 114, 116, 108, 105, 98, 46, 77, 111, 100, 117, 108, 101, 83, 112, 101, 99, 46, 95, 95, 100, 111, 99, 95, 95, 58, 115, 116, 114, 35, 111, 112, 97, 113, 117, 101, 6, 230, 8, 95, 95, 105, 110, 105, 116, 95, 95, 9, 44, 95, 102, 114, 111, 122, 101, 110, 95, 105, 109, 112, 111, 114, 116, 108, 105, 98, 46, 77, 111, 100, 117, 108, 101, 83, 112, 101, 99, 46, 95, 95, 105, 110, 105, 116, 95, 95, 35, 111, 112, 97, 113, 117, 101, 6, 231, 8, 95, 95, 114, 101, 112, 114, 95, 95, 9, 44, 95, 102, 114, 111, 122, 101, 110, 95, 105, 109, 112, 111, 114, 116, 108, 105, 98, 46, 77, 111, 100, 117, 108, 101, 83, 112, 101, 99, 46, 95, 95, 114, 101, 112, 114, 95, 95, 35, 111, 112, 97, 113, 117, 101, 6, 232, 6, 95, 95, 101, 113, 95, 95, 9, 42, 95, 102, 114, 111, 122, 101, 110, 95, 105, 109, 112, 111, 114, 116, 108, 105, 98, 46, 77, 111, 100, 117, 108, 101, 83, 112, 101, 99, 46, 95, 95, 101, 113, 95, 95, 35, 111, 112, 97, 113, 117, 101, 6, 233, 6, 99, 97, 99, 104, 101, 100, 9, 42, 95, 102, 114, 111, 122, 101, 110, 95, 105, 109, 112, 111, 114, 116, 108, 105, 98, 46, 77, 111, 100, 117, 108, 101, 83, 112, 101, 99, 46, 99, 97, 99, 104, 101, 100, 35, 111, 112, 97, 113, 117, 101, 6, 234, 6, 112, 97, 114, 101, 110, 116, 9, 42, 95, 102, 114, 111, 122, 101, 110, 95, 105, 109, 112, 111, 114, 116, 108, 105, 98, 46, 77, 111, 100, 117, 108, 101, 83, 112, 101, 99, 46, 112, 97, 114, 101, 110, 116, 35, 111, 112, 97, 113, 117, 101, 6, 235, 12, 104, 97, 115, 95, 108, 111, 99, 97, 116, 105, 111, 110, 9, 48, 95, 102, 114, 111, 122, 101, 110, 95, 105, 109, 112, 111, 114, 116, 108, 105, 98, 46, 77, 111, 100, 117, 108, 101, 83, 112, 101, 99, 46, 104, 97, 115, 95, 108, 111, 99, 97, 116, 105, 111, 110, 35, 111, 112, 97, 113, 117, 101, 6, 236, 21, 95, 95, 115, 116, 97, 116, 105, 99, 95, 97, 116, 116, 114, 105, 98, 117, 116, 101, 115, 95, 95, 4, 0, 0, 23, 6, 238, 8, 95, 95, 100, 105, 99, 116, 95, 95, 4, 0, 0, 24, 6, 240, 11, 95, 95, 119, 101, 97, 107, 114, 101, 102, 95, 95, 4, 0, 0, 25, 6, 241, 8, 95, 95, 104, 97, 115, 104, 95, 95, 0]⟩ 0, Value.bool true, Value.bool true, vs "" 242] 1 },
  { cls := Value.type "list", data := Data.seq #[] },
  { cls := Value.type "dict", data := Data.dict #[de P "name" 208 (vs "_sre" 207), de P "loader" 209 (vr 14), de P "origin" 210 (vs "built-in" 184), de P "loader_state" 211 .none, de P "submodule_search_locations" 212 .none, de P "_uninitialized_submodules" 213 (vr 19), de P "_set_fileattr" 214 (Value.bool false), de P "_cached" 215 .none, de P "_initializing" 243 (Value.bool false)] 9 },
  { cls := Value.type "dict", data := Data.dict #[de P "__module__" 227 (vs "_frozen_\x69mportlib" 217), de P "__firstlineno__" 228 (vi 562 218), de P "__doc__" 229 (Value.builtin "_frozen_\x69mportlib.ModuleSpec.__doc__:str#\x6fpaque"), de P "__init__" 230 (Value.builtin "_frozen_\x69mportlib.ModuleSpec.__init__#\x6fpaque"), de P "__repr__" 231 (Value.builtin "_frozen_\x69mportlib.ModuleSpec.__repr__#\x6fpaque"), de P "__eq__" 232 (Value.builtin "_frozen_\x69mportlib.ModuleSpec.__eq__#\x6fpaque"), de P "cached" 233 (Value.builtin "_frozen_\x69mportlib.ModuleSpec.cached#\x6fpaque"), de P "parent" 234 (Value.builtin "_frozen_\x69mportlib.ModuleSpec.parent#\x6fpaque"), de P "has_location" 235 (Value.builtin "_frozen_\x69mportlib.ModuleSpec.has_location#\x6fpaque"), de P "__static_attributes__" 236 (vr 23), de P "__dict__" 238 (vr 24), de P "__weakref__" 240 (vr 25), de P "__hash__" 241 .none] 13 },
  { cls := Value.type "type", data := Data.cls { name := PySem.Str.ofString "ModuleSpec", bases := [Value.type "object"], mro := [vr 22, Value.type "object"], ns := 21, qualname := PySem.Str.ofString "ModuleSpec" } },
  { cls := Value.type "tuple", data := Data.seq #[vs "_cached" 219, vs "_set_fileattr" 220, vs "_uninitialized_submodules" 221, vs "loader" 222, vs "loader_state" 223, vs "name" 224, vs "origin" 225, vs "submodule_search_locations" 226] },
  { cls := Value.type "getset_descriptor", data := Data.fields #[vs "__dict__" 237, vr 22, Value.builtin "function.__dict__", Value.builtin "function.__dict__#set"] },
  { cls := Value.type "getset_descriptor", data := Data.fields #[vs "__weakref__" 239, vr 22, Value.builtin "ExceptionGroup.__weakref__", Value.none] },
  { cls := vr 22, dict := some 20 },
  { cls := Value.none, data := Data.seq #[vi 11 0, Value.str { cps := #[6, 247, 8, 95, 95, 110, 97, 109, 101, 95, 95, 6, 246, 4, 95, 115, 114, 101, 6, 248, 7, 95, 95, 100, 111, 99, 95, 95, 0, 6, 250, 11, 95, 95, 112, 97, 99, 107, 97, 103, 101, 95, 95, 6, 249, 0, 6, 251, 10, 95, 95, 108, 111, 97, 100, 101, 114, 95, 95, 4, 0, 0, 14, 6, 252, 8, 95, 95, 115, 112, 101, 99, 95, 95, 4, 0, 0, 26, 6, 253, 7, 99, 111, 109, 112, 105, 108, 101, 9, 12, 95, 115, 114, 101, 46, 99, 111, 109, 112, 105, 108, 101, 6, 254, 8, 116, 101, 109, 112, 108, 97, 116, 101, 9, 13, 95, 115, 114, 101, 46, 116, 101, 109, 112, 108, 97, 116, 101, 6, 255, 11, 103, 101, 116, 99, 111, 100, 101, 115, 105, 122, 101, 9, 16, 95, 115, 114, 101, 46, 103, 101, 116, 99, 111, 100, 101, 115, 105, 122, 101, 6, 256, 13, 97, 115, 99, 105, 105, 95, 105, 115, 99, 97, 115, 101, 100, 9, 18, 95, 115, 114, 101, 46, 97, 115, 99, 105, 105, 95, 105, 115, 99, 97, 115, 101, 100, 6, 257, 15, 117, 110, 105, 99, 111, 100, 101, 95, 105, 115, 99, 97, 115, 101, 100, 9, 20, 95, 115, 114, 101, 46, 117, 110, 105, 99, 111, 100, 101, 95, 105, 115, 99, 97, 115, 101, 100, 6, 258, 13, 97, 115, 99, 105, 105, 95, 116, 111, 108, 111, 119, 101, 114, 9, 18, 95, 115, 114, 101, 46, 97, 115, 99, 105, 105, 95, 116, 111, 108, 111, 119, 101, 114, 6, 259, 15, 117, 110, 105, 99, 111, 100, 101, 95, 116, 111, 108, 111, 119, 101, 114, 9, 20, 95, 115, 114, 101, 46, 117, 110, 105, 99, 111, 100, 101, 95, 116, 111, 108, 111, 119, 101, 114, 6, 261, 5, 77, 65, 71, 73, 67, 4, 260, 0, 20230612, 6, 263, 8, 67, 79, 68, 69, 83, 73, 90, 69, 4, 262, 0, 4, 6, 265, 9, 77, 65, 88, 82, 69, 80, 69, 65, 84, 4, 264, 0, 4294967295, 6, 267, 9, 77, 65, 88, 71, 82, 79, 85, 80, 83, 4, 266, 0, 1073741823, 6, 269, 9, 99, 111, 112, 121, 114, 105, 103, 104, 116, 6, 268, 53, 32, 83, 82, 69, 32, 50, 46, 50, 46, 50, 32, 67, 111, 112, 121, 114, 105, 103, 104, 116, 32, 40, 99, 41, 32, 49, 57, 57, 55, 45, 50, 48, 48, 50, 32, 98, 121, 32, 83, 101, 99, 114, 101, 116, 32, 76, 97, 98, 115, 32, 65, 66, 32] } 0, Value.bool true, Value.bool false, vs "_sre" 271] }]
noncomputable def objs28 (P : Params) : List Obj := [
  tE,
  { cls := Value.none, data := Data.fields #[vi 2 0, vi 0 0, vr 37, vi 7 0, vi 0 0, vr 44, vi 39 0, vi 0 0, vr 51, vi 62 0, vi 0 0, vr 58, vi 71 0, vi 0 0, vr 65, vi 80 0, vi 0 0, vr 72, vi 105 0, vi 0 0, vr 79, vi 111 0, vi 0 0, vr 86, vi 153 0, vi 0 0, vr 109, vi 162 0, vi 0 0, vr 116, vi 245 0, vi 0 0, vr 241, vi 249 0, vi 0 0, vr 248, vi 252 0, vi 0 0, vr 255, vi 257 0, vi 0 0, vr 262, vi 270 0, vi 0 0, vr 269, vi 275 0, vi 0 0, vr 274, vi 277 0, vi 0 0, vr 279, vi 282 0, vi 0 0, vr 286, vi 291 0, vi 0 0, vr 293, vi 300 0, vi 0 0, vr 298, vi 303 0, vi 0 0, vr 305, vi 308 0, vi 0 0, vr 310, vi 310 0, vi 0 0, vr 317, vi 315 0, vi 0 0, vr 322] },
  { cls := Value.type "code", data := Data.fields #[vs "<module>" 277, vs "<module>" 278, vs "/claim/cut.py" 279, vi 1 0, vi 0 0, vi 0 0, vi 0 0, vi 0 0, vr 28, Value.bool false, vi 276 0, vr 29, Value.none, Value.none, Value.none, Value.none, vi 280 0, vi 1 0, vs "/claim/cut.py" 281] },
  { cls := Value.type "frame", slots := #[some (vr 30), some (vr 3), some (vr 3), none, some (vs "__main__" 164), none, some (vr 0)] },
  tE,
  fE,
  { cls := Value.type "tuple", data := Data.seq #[vs "k" 285] },
  tE,
  fn0 (top 1) "_wall",
  { cls := Value.type "code", data := Data.fields #[vs "_wall" 282, vs "_wall" 283, vs "/claim/cut.py" 284, vi 2 0, vi 1 0, vi 0 0, vi 0 0, vi 3 0, vr 32, Value.bool true, vi 276 0, vr 33, Value.none, vr 34, vr 35, vr 36, vi 286 0, vi 2 0, vs "/claim/cut.py" 287] },
  fnOf (top 1) .none "_wall" "__main__" 164 37,
  tE,
  fE,
  { cls := Value.type "tuple", data := Data.seq #[vs "want" 296, vs "got" 297, vs "ws" 298, vs "startpos" 299, vs "endpos" 300, vs "w" 301] },
  tE,
  fn0 (top 4) "_ellipsis_match",
  h0 P 44,
  h0 P 45,
  tE,
  fE,
  { cls := Value.type "tuple", data := Data.seq #[vs "r" 322, vs "g" 323, vs "b" 324, vs "maxc" 325, vs "minc" 326, vs "sumc" 327, vs "rangec" 328, vs "l" 329, vs "s" 330, vs "rc" 331, vs "gc" 332, vs "bc" 333, vs "h" 334] },
  tE,
  fn0 (top 9) "rgb_to_hls",
  h0 P 51,
  h0 P 52,
  tE,
  fE,
  { cls := Value.type "tuple", data := Data.seq #[vs "h" 341, vs "l" 342, vs "s" 343, vs "m2" 344, vs "m1" 345] },
  tE,
  fn0 (top 10) "hls_to_rgb",
  h0 P 58,
  h0 P 59,
  tE,
  fE,
  { cls := Value.type "tuple", data := Data.seq #[vs "m1" 352, vs "m2" 353, vs "hue" 354] },
  tE,
  fn0 (top 11) "_v",
  h0 P 65,
  h0 P 66,
  tE,
  fE,
  { cls := Value.type "tuple", data := Data.seq #[vs "h" 361, vs "s" 362, vs "v" 363, vs "i" 364, vs "f" 365, vs "p" 366, vs "q" 367, vs "t" 368] },
  tE,
  fn0 (top 12) "hsv_to_rgb",
  h0 P 72,
  h0 P 73,
  tE,
  fE,
  { cls := Value.type "tuple", data := Data.seq #[vs "ch_a" 383, vs "ch_b" 384] },
  tE,
  fn0 (top 17) "_substitution_cost",
  h0 P 79,
  h0 P 80,
  tE,
  fE,
  { cls := Value.type "tuple", data := Data.seq #[vs "a" 391, vs "b" 392, vs "max_cost" 393, vs "pre" 394, vs "post" 395, vs "row" 396, vs "result" 397, vs "bindex" 398, vs "bchar" 399, vs "distance" 400, vs "minimum" 401, vs "index" 402, vs "substitute" 403, vs "insert_delete" 404] },
  tE,
  fn0 (top 18) "_levenshtein_distance",
  h0 P 86,
  h0 P 87,
  { cls := Value.type "list", data := Data.seq #[vi 14 413, vi 14 414, vi 4 415, vi 1 416, vi 1 417, vi 9 418, vi 0 419, vi 4227896069 420, vi 939524097 421, vi 0 422, vi 0 423, vi 0 424, vi 0 425, vi 0 426, vi 0 427, vi 13 428, vi 11 429, vi 9 430, vi 0 431, vi 4227896069 432, vi 939524097 433, vi 0 434, vi 0 435, vi 0 436, vi 0 437, vi 0 438, vi 0 439, vi 1 440] },
  { cls := Value.type "dict", data := Data.dict #[] },
  { cls := Value.type "tuple", data := Data.seq #[Value.none] },
  { cls := Value.type "tuple", data := Data.seq #[vi 14 0, vi 14 0, vi 4 0, vi 1 0, vi 1 0, vi 9 0, vi 0 0, vi 4227896069 0, vi 939524097 0, vi 0 0, vi 0 0, vi 0 0, vi 0 0, vi 0 0, vi 0 0, vi 13 0, vi 11 0, vi 9 0, vi 0 0, vi 4227896069 0, vi 939524097 0, vi 0 0, vi 0 0, vi 0 0, vi 0 0, vi 0 0, vi 0 0, vi 1 0] },
  { cls := Value.type "re.Pattern", data := Data.fields #[vs "[ \\(\\)<>@,;:\\\\\"/\\[\\]\\?=]" 411, vi 32 442, vi 0 0, Value.none, Value.none, vr 91, vi 0 0] },
  { cls := Value.type "list", data := Data.seq #[vi 14 447, vi 10 448, vi 4 449, vi 1 450, vi 1 451, vi 22 452, vi 0 453, vi 31 454, vi 16 455, vi 127 456, vi 0 457, vi 13 458, vi 7 459, vi 22 460, vi 0 461, vi 31 462, vi 16 463, vi 127 464, vi 0 465, vi 1 466] },
  { cls := Value.type "dict", data := Data.dict #[] },
  { cls := Value.type "tuple", data := Data.seq #[Value.none] },
  h0 P 96,
  h0 P 97,
  { cls := Value.type "list", data := Data.seq #[vi 14 473, vi 14 474, vi 4 475, vi 1 476, vi 1 477, vi 9 478, vi 4294966783 479, vi 0 480, vi 0 481, vi 2147483648 482, vi 0 483, vi 0 484, vi 0 485, vi 0 486, vi 0 487, vi 13 488, vi 11 489, vi 9 490, vi 4294966783 491, vi 0 492, vi 0 493, vi 2147483648 494, vi 0 495, vi 0 496, vi 0 497, vi 0 498, vi 0 499, vi 1 500] },
  { cls := Value.type "dict", data := Data.dict #[] },
  { cls := Value.type "tuple", data := Data.seq #[Value.none] },
  h0 P 101,
  h0 P 102,
  { cls := Value.type "tuple", data := Data.seq #[Value.none, vi 1 504] },
  tE,
  fE,
  { cls := Value.type "tuple", data := Data.seq #[vs "param" 508, vs "value" 509, vs "quote" 510] },
  tE,
  fn0 (top 23) "_formatparam",
  { cls := Value.type "code", data := Data.fields #[vs "_formatparam" 505, vs "_formatparam" 506, vs "/claim/cut.py" 507, vi 153 0, vi 3 0, vi 0 0, vi 0 0, vi 3 0, vr 104, Value.bool true, vi 276 0, vr 105, Value.none, vr 106, vr 107, vr 108, vi 511 0, vi 153 0, vs "/claim/cut.py" 512] },
  fnOf (top 23) (.ref 103) "_formatparam" "cpy313.wsgiref.headers" 408 109]
noncomputable def objs111 (P : Params) : List Obj := [
  tE,
  { cls := Value.type "builtin_function_or_method", data := Data.fields #[Value.builtin "type.__prepare__", Value.type "type"] },
  { cls := Value.type "dict", data := Data.dict #[de P "__module__" 521 (vs "cpy313.wsgiref.headers" 408), de P "__qualname__" 523 (vs "Headers" 522), de P "__firstlineno__" 525 (vi 162 524), de P "__init__" 535 (vr 125), de P "_convert_string_type" 545 (vr 132), de P "__len__" 552 (vr 139), de P "__setitem__" 561 (vr 146), de P "__delitem__" 567 (vr 151), de P "__getitem__" 575 (vr 158), de P "__contains__" 583 (vr 165), de P "get_all" 589 (vr 170), de P "get" 600 (vr 178), de P "keys" 606 (vr 183), de P "values" 612 (vr 188), de P "items" 619 (vr 195), de P "__repr__" 626 (vr 202), de P "__str__" 632 (vr 207), de P "__bytes__" 639 (vr 214), de P "setdefault" 648 (vr 221), de P "add_header" 661 (vr 228), de P "__static_attributes__" 663 (vr 229)] 21 },
  tE,
  { cls := Value.none, data := Data.fields #[vi 164 0, vi 4 0, vr 124, vi 174 0, vi 4 0, vr 131, vi 182 0, vi 4 0, vr 138, vi 185 0, vi 4 0, vr 145, vi 189 0, vi 4 0, vr 150, vi 193 0, vi 4 0, vr 157, vi 196 0, vi 4 0, vr 164, vi 199 0, vi 4 0, vr 169, vi 203 0, vi 4 0, vr 177, vi 210 0, vi 4 0, vr 182, vi 213 0, vi 4 0, vr 187, vi 216 0, vi 4 0, vr 194, vi 219 0, vi 4 0, vr 201, vi 222 0, vi 4 0, vr 206, vi 225 0, vi 4 0, vr 213, vi 228 0, vi 4 0, vr 220, vi 231 0, vi 4 0, vr 227] },
  { cls := Value.type "code", data := Data.fields #[vs "Headers" 516, vs "Headers" 517, vs "/claim/cut.py" 518, vi 162 0, vi 0 0, vi 0 0, vi 0 0, vi 0 0, vr 114, Value.bool false, vi 276 0, vr 115, Value.none, Value.none, Value.none, Value.none, vi 519 0, vi 162 0, vs "/claim/cut.py" 520] },
  { cls := Value.type "frame", slots := #[some (vr 116), some (vr 3), some (vr 113), none, some (vs "cpy313.wsgiref.headers" 408), none, some (vr 0)] },
  h0 P 118,
  tE,
  fE,
  { cls := Value.type "tuple", data := Data.seq #[vs "self" 529, vs "headers" 530, vs "k" 531, vs "v" 532] },
  tE,
  fn0 (meth 0) "Headers.__init__",
  h0 P 124,
  h0 P 125,
  tE,
  fE,
  { cls := Value.type "tuple", data := Data.seq #[vs "self" 539, vs "value" 540, vs "name" 541, vs "regex" 542] },
  tE,
  fn0 (meth 1) "Headers._convert_string_type",
  h0 P 131,
  h0 P 132,
  tE,
  fE,
  { cls := Value.type "tuple", data := Data.seq #[vs "self" 549] },
  tE,
  fn0 (meth 2) "Headers.__len__",
  { cls := Value.type "code", data := Data.fields #[vs "__len__" 546, vs "Headers.__len__" 547, vs "/claim/cut.py" 548, vi 182 0, vi 1 0, vi 0 0, vi 0 0, vi 3 0, vr 133, Value.bool true, vi 276 0, vr 134, Value.none, vr 135, vr 136, vr 137, vi 550 0, vi 182 0, vs "/claim/cut.py" 551] },
  fnOf (meth 2) .none "Headers.__len__" "cpy313.wsgiref.headers" 408 138,
  tE,
  fE,
  { cls := Value.type "tuple", data := Data.seq #[vs "self" 556, vs "name" 557, vs "val" 558] },
  tE,
  fn0 (meth 3) "Headers.__setitem__",
  { cls := Value.type "code", data := Data.fields #[vs "__setitem__" 553, vs "Headers.__setitem__" 554, vs "/claim/cut.py" 555, vi 185 0, vi 3 0, vi 0 0, vi 0 0, vi 3 0, vr 140, Value.bool true, vi 276 0, vr 141, Value.none, vr 142, vr 143, vr 144, vi 559 0, vi 185 0, vs "/claim/cut.py" 560] },
  fnOf (meth 3) .none "Headers.__setitem__" "cpy313.wsgiref.headers" 408 145,
  tE,
  fE,
  fn0 (meth 4) "Headers.__delitem__",
  { cls := Value.type "code", data := Data.fields #[vs "__delitem__" 562, vs "Headers.__delitem__" 563, vs "/claim/cut.py" 564, vi 189 0, vi 2 0, vi 0 0, vi 0 0, vi 3 0, vr 147, Value.bool true, vi 276 0, vr 148, Value.none, Value.none, Value.none, vr 149, vi 565 0, vi 189 0, vs "/claim/cut.py" 566] },
  fnOf (meth 4) .none "Headers.__delitem__" "cpy313.wsgiref.headers" 408 150,
  tE,
  fE,
  { cls := Value.type "tuple", data := Data.seq #[vs "self" 571, vs "name" 572] },
  tE,
  fn0 (meth 5) "Headers.__getitem__",
  { cls := Value.type "code", data := Data.fields #[vs "__getitem__" 568, vs "Headers.__getitem__" 569, vs "/claim/cut.py" 570, vi 193 0, vi 2 0, vi 0 0, vi 0 0, vi 3 0, vr 152, Value.bool true, vi 276 0, vr 153, Value.none, vr 154, vr 155, vr 156, vi 573 0, vi 193 0, vs "/claim/cut.py" 574] },
  fnOf (meth 5) .none "Headers.__getitem__" "cpy313.wsgiref.headers" 408 157,
  tE,
  fE,
  { cls := Value.type "tuple", data := Data.seq #[vs "self" 579, vs "name" 580] },
  tE,
  fn0 (meth 6) "Headers.__contains__",
  { cls := Value.type "code", data := Data.fields #[vs "__contains__" 576, vs "Headers.__contains__" 577, vs "/claim/cut.py" 578, vi 196 0, vi 2 0, vi 0 0, vi 0 0, vi 3 0, vr 159, Value.bool true, vi 276 0, vr 160, Value.none, vr 161, vr 162, vr 163, vi 581 0, vi 196 0, vs "/claim/cut.py" 582] },
  fnOf (meth 6) .none "Headers.__contains__" "cpy313.wsgiref.headers" 408 164,
  tE,
  fE,
  fn0 (meth 7) "Headers.get_all",
  h0 P 169,
  h0 P 170,
  { cls := Value.type "tuple", data := Data.seq #[Value.none] },
  tE,
  fE,
  { cls := Value.type "tuple", data := Data.seq #[vs "self" 593, vs "name" 594, vs "default" 595, vs "k" 596, vs "v" 597] },
  tE,
  fn0 (meth 8) "Headers.get",
  { cls := Value.type "code", data := Data.fields #[vs "get" 590, vs "Headers.get" 591, vs "/claim/cut.py" 592, vi 203 0, vi 3 0, vi 0 0, vi 0 0, vi 3 0, vr 172, Value.bool true, vi 276 0, vr 173, Value.none, vr 174, vr 175, vr 176, vi 598 0, vi 203 0, vs "/claim/cut.py" 599] },
  fnOf (meth 8) (.ref 171) "Headers.get" "cpy313.wsgiref.headers" 408 177,
  tE,
  fE,
  fn0 (meth 9) "Headers.keys",
  { cls := Value.type "code", data := Data.fields #[vs "keys" 601, vs "Headers.keys" 602, vs "/claim/cut.py" 603, vi 210 0, vi 1 0, vi 0 0, vi 0 0, vi 3 0, vr 179, Value.bool true, vi 276 0, vr 180, Value.none, Value.none, Value.none, vr 181, vi 604 0, vi 210 0, vs "/claim/cut.py" 605] },
  fnOf (meth 9) .none "Headers.keys" "cpy313.wsgiref.headers" 408 182,
  tE,
  fE,
  fn0 (meth 10) "Headers.values",
  { cls := Value.type "code", data := Data.fields #[vs "values" 607, vs "Headers.values" 608, vs "/claim/cut.py" 609, vi 213 0, vi 1 0, vi 0 0, vi 0 0, vi 3 0, vr 184, Value.bool true, vi 276 0, vr 185, Value.none, Value.none, Value.none, vr 186, vi 610 0, vi 213 0, vs "/claim/cut.py" 611] },
  fnOf (meth 10) .none "Headers.values" "cpy313.wsgiref.headers" 408 187,
  tE,
  fE,
  { cls := Value.type "tuple", data := Data.seq #[vs "self" 616] },
  tE,
  fn0 (meth 11) "Headers.items",
  { cls := Value.type "code", data := Data.fields #[vs "items" 613, vs "Headers.items" 614, vs "/claim/cut.py" 615, vi 216 0, vi 1 0, vi 0 0, vi 0 0, vi 3 0, vr 189, Value.bool true, vi 276 0, vr 190, Value.none, vr 191, vr 192, vr 193, vi 617 0, vi 216 0, vs "/claim/cut.py" 618] },
  fnOf (meth 11) .none "Headers.items" "cpy313.wsgiref.headers" 408 194,
  tE,
  fE,
  { cls := Value.type "tuple", data := Data.seq #[vs "self" 623] },
  tE,
  fn0 (meth 12) "Headers.__repr__",
  { cls := Value.type "code", data := Data.fields #[vs "__repr__" 620, vs "Headers.__repr__" 621, vs "/claim/cut.py" 622, vi 219 0, vi 1 0, vi 0 0, vi 0 0, vi 3 0, vr 196, Value.bool true, vi 276 0, vr 197, Value.none, vr 198, vr 199, vr 200, vi 624 0, vi 219 0, vs "/claim/cut.py" 625] },
  fnOf (meth 12) .none "Headers.__repr__" "cpy313.wsgiref.headers" 408 201,
  tE,
  fE,
  fn0 (meth 13) "Headers.__str__",
  { cls := Value.type "code", data := Data.fields #[vs "__str__" 627, vs "Headers.__str__" 628, vs "/claim/cut.py" 629, vi 222 0, vi 1 0, vi 0 0, vi 0 0, vi 3 0, vr 203, Value.bool true, vi 276 0, vr 204, Value.none, Value.none, Value.none, vr 205, vi 630 0, vi 222 0, vs "/claim/cut.py" 631] },
  fnOf (meth 13) .none "Headers.__str__" "cpy313.wsgiref.headers" 408 206,
  tE,
  fE,
  { cls := Value.type "tuple", data := Data.seq #[vs "self" 636] },
  tE,
  fn0 (meth 14) "Headers.__bytes__",
  { cls := Value.type "code", data := Data.fields #[vs "__bytes__" 633, vs "Headers.__bytes__" 634, vs "/claim/cut.py" 635, vi 225 0, vi 1 0, vi 0 0, vi 0 0, vi 3 0, vr 208, Value.bool true, vi 276 0, vr 209, Value.none, vr 210, vr 211, vr 212, vi 637 0, vi 225 0, vs "/claim/cut.py" 638] },
  fnOf (meth 14) .none "Headers.__bytes__" "cpy313.wsgiref.headers" 408 213,
  tE,
  fE,
  { cls := Value.type "tuple", data := Data.seq #[vs "self" 643, vs "name" 644, vs "value" 645] },
  tE,
  fn0 (meth 15) "Headers.setdefault",
  { cls := Value.type "code", data := Data.fields #[vs "setdefault" 640, vs "Headers.setdefault" 641, vs "/claim/cut.py" 642, vi 228 0, vi 3 0, vi 0 0, vi 0 0, vi 3 0, vr 215, Value.bool true, vi 276 0, vr 216, Value.none, vr 217, vr 218, vr 219, vi 646 0, vi 228 0, vs "/claim/cut.py" 647] },
  fnOf (meth 15) .none "Headers.setdefault" "cpy313.wsgiref.headers" 408 220,
  tE,
  fE,
  { cls := Value.type "tuple", data := Data.seq #[vs "self" 652, vs "_name" 653, vs "_value" 654, vs "_params" 655, vs "parts" 656, vs "k" 657, vs "v" 658] },
  tE,
  fn0 (meth 16) "Headers.add_header",
  h0 P 227,
  h0 P 228,
  { cls := Value.type "tuple", data := Data.seq #[vs "_headers" 662] },
  h0 P 230,
  h0 P 231,
  { cls := Value.type "getset_descriptor", data := Data.fields #[vs "__dict__" 664, vr 231, Value.builtin "function.__dict__", Value.builtin "function.__dict__#set"] },
  { cls := Value.type "getset_descriptor", data := Data.fields #[vs "__weakref__" 666, vr 231, Value.builtin "ExceptionGroup.__weakref__", Value.none] },
  { cls := Value.type "super", data := Data.fields #[vr 231, vr 231, vr 231] },
  { cls := Value.type "builtin_function_or_method", data := Data.fields #[Value.builtin "object.__init_subclass__", vr 231] }]
noncomputable def objs236 (P : Params) : List Obj := [
  tE,
  fE,
  { cls := Value.type "tuple", data := Data.seq #[vs "place" 676] },
  tE,
  fn0 (top 26) "_law_paint",
  h0 P 241,
  h0 P 242,
  tE,
  fE,
  { cls := Value.type "tuple", data := Data.seq #[vs "colour" 683, vs "hue" 684, vs "light" 685, vs "share" 686] },
  tE,
  fn0 (top 27) "_law_negative",
  h0 P 248,
  h0 P 249,
  tE,
  fE,
  { cls := Value.type "tuple", data := Data.seq #[vs "colour" 693, vs "word" 694, vs "part" 695, vs "letter" 696] },
  tE,
  fn0 (top 28) "_law_word",
  h0 P 255,
  h0 P 256,
  tE,
  fE,
  { cls := Value.type "tuple", data := Data.seq #[vs "forms" 703, vs "kept" 704, vs "lamps" 705, vs "form" 706, vs "bit" 707, vs "letter" 708] },
  tE,
  fn0 (top 29) "_law_forms",
  h0 P 262,
  h0 P 263,
  tE,
  fE,
  { cls := Value.type "tuple", data := Data.seq #[vs "form" 715, vs "strangers" 716, vs "word" 717] },
  tE,
  fn0 (top 30) "_law_takes_none",
  h0 P 269,
  h0 P 270,
  tE,
  fE,
  fn0 (top 31) "_law_grounds",
  h0 P 274,
  h0 P 275,
  tE,
  fE,
  fn0 (top 32) "_law_kinds",
  h0 P 279,
  h0 P 280,
  tE,
  fE,
  { cls := Value.type "tuple", data := Data.seq #[vs "forms" 736, vs "mine" 737, vs "yours" 738, vs "box" 739, vs "x" 740, vs "kept" 741, vs "rest" 742] },
  tE,
  fn0 (top 33) "_law_box",
  h0 P 286,
  h0 P 287,
  tE,
  fE,
  { cls := Value.type "tuple", data := Data.seq #[vs "colours" 749, vs "mine" 750, vs "yours" 751, vs "facing" 752, vs "colour" 753, vs "word" 754, vs "other" 755] },
  tE,
  fn0 (top 34) "_law_facing",
  h0 P 293,
  h0 P 294,
  tE,
  fE,
  fn0 (top 35) "_law_whole",
  h0 P 298,
  h0 P 299,
  tE,
  fE,
  { cls := Value.type "tuple", data := Data.seq #[vs "mine" 768, vs "yours" 769, vs "x" 770, vs "kept" 771] },
  tE,
  fn0 (top 36) "_law_apart",
  h0 P 305,
  h0 P 306,
  tE,
  fE,
  fn0 (top 37) "_law_plain",
  h0 P 310,
  h0 P 311,
  tE,
  fE,
  { cls := Value.type "tuple", data := Data.seq #[vs "weights" 784, vs "points" 785, vs "total" 786, vs "x" 787] },
  tE,
  fn0 (top 38) "_law_weight",
  h0 P 317,
  h0 P 318,
  tE,
  fE,
  fn0 (top 39) "law",
  h0 P 322,
  h0 P 323]
noncomputable def g0 (P : Params) : Obj := { cls := Value.type "dict", data := Data.dict #[de P "__name__" 165 (vs "__main__" 164), de P "__doc__" 166 .none, de P "__package__" 167 .none, de P "__loader__" 168 (Value.builtin "__main__.__loader__#\x6fpaque"), de P "__spec__" 169 .none, de P "__annotations__" 170 (vr 6), de P "__builtins__" 171 (vr 4), de P "__file__" 173 (vs "/claim/cut.py" 172), de P "__cached__" 174 .none, de P "_sre" 275 (vr 12)] 10 }
noncomputable def g1 (P : Params) : Obj := { cls := Value.type "dict", data := Data.dict #[de P "__name__" 165 (vs "cpy313.wsgiref.headers" 408), de P "__doc__" 166 .none, de P "__package__" 167 .none, de P "__loader__" 168 (Value.builtin "__main__.__loader__#\x6fpaque"), de P "__spec__" 169 .none, de P "__annotations__" 170 (vr 6), de P "__builtins__" 171 (vr 4), de P "__file__" 173 (vs "/claim/cut.py" 172), de P "__cached__" 174 .none, de P "_sre" 275 (vr 12), de P "_wall" 288 (vr 38), de P "ELLIPSIS_MARKER" 292 (vs "..." 291), de P "_ellipsis_match" 304 (vr 45), de P "ONE_THIRD" 310 (Value.float 4599676419421066581 309), de P "ONE_SIXTH" 314 (Value.float 4595172819793696085 313), de P "TWO_THIRD" 318 (Value.float 4604180019048437077 317), de P "rgb_to_hls" 337 (vr 52), de P "hls_to_rgb" 348 (vr 59), de P "_v" 357 (vr 66), de P "hsv_to_rgb" 371 (vr 73), de P "_MAX_STRING_SIZE" 375 (vi 40 374), de P "_MOVE_COST" 377 (vi 2 376), de P "_CASE_COST" 379 (vi 1 378), de P "_substitution_cost" 387 (vr 80), de P "_levenshtein_distance" 407 (vr 87), de P "tspecials" 443 (vr 92), de P "_name_disallowed_re" 469 (vr 97), de P "_value_disallowed_re" 503 (vr 102), de P "_formatparam" 513 (vr 110)] 29 }
noncomputable def f1 (P : Params) : Obj := { cls := Value.none, data := Data.fields #[vi 2 0, vi 0 0, vr 37, vi 7 0, vi 0 0, vr 44, vi 39 0, vi 0 0, vr 51, vi 62 0, vi 0 0, vr 58, vi 71 0, vi 0 0, vr 65, vi 80 0, vi 0 0, vr 72, vi 105 0, vi 0 0, vr 79, vi 111 0, vi 0 0, vr 86, vi 153 0, vi 0 0, vr 109] }
noncomputable def g2 (P : Params) : Obj := { cls := Value.type "dict", data := Data.dict #[de P "__name__" 165 (vs "cpy313.wsgiref.headers" 408), de P "__doc__" 166 .none, de P "__package__" 167 .none, de P "__loader__" 168 (Value.builtin "__main__.__loader__#\x6fpaque"), de P "__spec__" 169 .none, de P "__annotations__" 170 (vr 6), de P "__builtins__" 171 (vr 4), de P "__file__" 173 (vs "/claim/cut.py" 172), de P "__cached__" 174 .none, de P "_sre" 275 (vr 12), de P "_wall" 288 (vr 38), de P "ELLIPSIS_MARKER" 292 (vs "..." 291), de P "_ellipsis_match" 304 (vr 45), de P "ONE_THIRD" 310 (Value.float 4599676419421066581 309), de P "ONE_SIXTH" 314 (Value.float 4595172819793696085 313), de P "TWO_THIRD" 318 (Value.float 4604180019048437077 317), de P "rgb_to_hls" 337 (vr 52), de P "hls_to_rgb" 348 (vr 59), de P "_v" 357 (vr 66), de P "hsv_to_rgb" 371 (vr 73), de P "_MAX_STRING_SIZE" 375 (vi 40 374), de P "_MOVE_COST" 377 (vi 2 376), de P "_CASE_COST" 379 (vi 1 378), de P "_substitution_cost" 387 (vr 80), de P "_levenshtein_distance" 407 (vr 87), de P "tspecials" 443 (vr 92), de P "_name_disallowed_re" 469 (vr 97), de P "_value_disallowed_re" 503 (vr 102), de P "_formatparam" 513 (vr 110), de P "Headers" 670 (vr 231)] 30 }
noncomputable def f2 (P : Params) : Obj := { cls := Value.none, data := Data.fields #[vi 2 0, vi 0 0, vr 37, vi 7 0, vi 0 0, vr 44, vi 39 0, vi 0 0, vr 51, vi 62 0, vi 0 0, vr 58, vi 71 0, vi 0 0, vr 65, vi 80 0, vi 0 0, vr 72, vi 105 0, vi 0 0, vr 79, vi 111 0, vi 0 0, vr 86, vi 153 0, vi 0 0, vr 109, vi 162 0, vi 0 0, vr 116] }
noncomputable def hp (l : List Obj) : Heap := ⟨⟨l⟩, {}⟩
noncomputable def H0 (P : Params) : Heap := hp ((objs0 P).set 3 (g0 P))
noncomputable def Ha (P : Params) : Heap := hp ((objs0 P).set 3 (g0 P) ++ ((objs28 P).take 4).set 1 fE)
noncomputable def H1 (P : Params) : Heap := hp ((objs0 P).set 3 (g1 P) ++ (objs28 P).set 1 (f1 P))
noncomputable def H2 (P : Params) : Heap := hp ((objs0 P).set 3 (g2 P) ++ ((objs28 P).set 1 (f2 P) ++ objs111 P))
noncomputable def H3 (P : Params) : Heap := hp (objs0 P ++ (objs28 P ++ (objs111 P ++ objs236 P)))
noncomputable def pr : Program := PySem.Challenge.rw_uj0010_01.row.prog
noncomputable def env0 : Env := { scope := PySem.Challenge.rw_uj0010_01.row.prog.main.scope, locals := mainNs, globals := mainNs, cells := [], code := .ref 30, frame := some 31 }
noncomputable def body0 : List Stmt := behindTheImports PySem.Challenge.rw_uj0010_01.row.prog
noncomputable def code0 : Code := .body body0 env0
noncomputable def q0 : Pos := ⟨0, 0, 0, 0⟩
noncomputable def ann0 : Option Value := some (.ref 6)
noncomputable def sts1 : List Stmt := body0.take 23
noncomputable def sts2 : List Stmt := (body0.drop 23).take 1
noncomputable def sts3 : List Stmt := body0.drop 24
theorem body_cut : sts1 ++ (sts2 ++ (sts3 ++ [])) = body0 := by
  unfold sts1 sts2 sts3
  rw [List.append_nil, show body0.drop 24 = (body0.drop 23).drop 1 from by rw [List.drop_drop], List.take_append_drop, List.take_append_drop]
noncomputable def at0 (H : Heap) (tk : Nat) (os : OsState) : Shared := ⟨H, #[], {}, tk, os⟩
theorem opening0 (w : World) : (fencedOpening treeTable PySem.Challenge.rw_uj0010_01.row.prog w 3738).map (fun s => (s.heap, s.gens, s.drawn, s.toks)) = some (H0 w.params, #[], {}, 276) := by kernel_rfl
theorem size0 (w : World) : ((H0 w.params).isNs mainGlobals && (#[] : Array GenState).size == 0, (H0 w.params).objs.size, (H0 w.params).nsMap mainGlobals "__annotations__") = (true, 28, ann0) := by kernel_rfl
theorem pre0 (w : World) (os : OsState) : topGo treeTable PySem.Challenge.rw_uj0010_01.row.prog w 28 ann0 12 (at0 (H0 w.params) 276 os) (topStub PySem.Challenge.rw_uj0010_01.row.prog) = some (at0 (Ha w.params) 282 os, ⟨denote treeTable code0, code0, q0, [topFrame q0]⟩) := by kernel_rfl
theorem block0 (w : World) (os : OsState) : segRun treeTable PySem.Challenge.rw_uj0010_01.row.prog w 28 ann0 1 1 (at0 (Ha w.params) 282 os) (blockOf body0 env0 code0 q0 [topFrame q0]) = some (.next, at0 (Ha w.params) 282 os, code0, q0) := by kernel_rfl
theorem piece1 (w : World) (os : OsState) : segRun treeTable PySem.Challenge.rw_uj0010_01.row.prog w 28 ann0 1 700 (at0 (Ha w.params) 282 os) (piecesOf sts1 env0 code0 q0 [topFrame q0]) = some (.next, at0 (H1 w.params) 514 os, code0, ⟨153, 0, 161, 20⟩) := by kernel_rfl
theorem piece2 (w : World) (os : OsState) : segRun treeTable PySem.Challenge.rw_uj0010_01.row.prog w 28 ann0 1 750 (at0 (H1 w.params) 514 os) (piecesOf sts2 env0 code0 ⟨153, 0, 161, 20⟩ [topFrame q0]) = some (.next, at0 (H2 w.params) 671 os, code0, ⟨162, 0, 243, 93⟩) := by kernel_rfl
theorem piece3 (w : World) (os : OsState) : segRun treeTable PySem.Challenge.rw_uj0010_01.row.prog w 28 ann0 1 480 (at0 (H2 w.params) 671 os) (piecesOf sts3 env0 code0 ⟨162, 0, 243, 93⟩ [topFrame q0]) = some (.next, at0 (H3 w.params) 797 os, code0, ⟨315, 0, 355, 122⟩) := by kernel_rfl
theorem fin0 (w : World) (os : OsState) : topRun treeTable PySem.Challenge.rw_uj0010_01.row.prog w 28 ann0 2 (at0 (H3 w.params) 797 os) ⟨doneF .next, code0, ⟨315, 0, 355, 122⟩, [topFrame q0]⟩ = some (at0 (H3 w.params) 797 os) := by kernel_rfl
theorem run0 (w : World) (os : OsState) : topRun treeTable PySem.Challenge.rw_uj0010_01.row.prog w 28 ann0 (12 + (1 + (700 + (750 + (480 + 2))))) ⟨H0 w.params, #[], {}, 276, os⟩ (topStub PySem.Challenge.rw_uj0010_01.row.prog) = some ⟨H3 w.params, #[], {}, 797, os⟩ := by
  refine go_top (pre0 w os) (piece_block (block0 w os) ?_)
  have k := piece_app (piece1 w os) (piece_app (piece2 w os) (piece_app (piece3 w os) (piece_nil (fin0 w os))))
  rw [body_cut] at k
  exact k
theorem looks0 (w : World) : (fun os => ((staticsOk (importedModules PySem.Challenge.rw_uj0010_01.row.prog.main.body) (H0 w.params) (H3 w.params) && namesBound PySem.Challenge.rw_uj0010_01.row.prog (H3 w.params) && gensDone ⟨H3 w.params, #[], {}, 797, os⟩ && laidKept (H0 w.params) (H3 w.params)),
    openSeen view0 loose0 (importedModules PySem.Challenge.rw_uj0010_01.row.prog.main.body) (fun s => xlAt view0 [] s && recOk (RowW.records PySem.Challenge.rw_uj0010_01.row.toRowW) s) true ⟨H3 w.params, #[], {}, 797, os⟩, hook0.obs ⟨H3 w.params, #[], {}, 797, os⟩)) = fun _ => (true, openGood view0 loose0, hook0.val w) := by kernel_rfl
end Hd
theorem left0 : LeftO PySem.Challenge.rw_uj0010_01.row.prog view0 loose0 (fun s => xlAt view0 [] s && recOk (RowW.records PySem.Challenge.rw_uj0010_01.row.toRowW) s) hook0.obs hook0.val 3738 :=
  LeftO.of_pieces Hd.opening0 Hd.size0 Hd.run0 (by decide) Hd.looks0
end Mine

/-! UHdrF -/
namespace Mine
theorem plainAttrs_pat : PlainAttrs "re.Pattern" :=
  ⟨⟨"object.__getattribute__", by rw [typeLookup_type, builtinLookup_eq_fast]; kernel_rfl, by decide +kernel⟩, by rw [typeLookup_type, builtinLookup_eq_fast]; kernel_rfl⟩
theorem slot_pat_search : Slot "re.Pattern" "search" "re.Pattern.search" :=
  .of (owner := "re.Pattern") (n := "search") (by rw [typeLookup_type, builtinLookup_eq_fast]; kernel_rfl) (by decide +kernel) (by decide +kernel) (by decide +kernel)
    (by first | exact .inl (by decide +kernel) | exact .inr (by decide +kernel)) (by rw [isSubtype_type]; kernel_rfl)
theorem type_pat_search : typeOf (.builtin "re.Pattern.search") = pure (.type "method_descriptor") := by show builtinType _ = _; rw [builtinType_eq_fast]; kernel_rfl
theorem entry_pat_search : entryFor table "re.Pattern.search" = some Builtin.«re.Pattern.search» := entryFor_of_tree (by kernel_rfl)
theorem args_pat_search (a b : Value) : argsOk "re.Pattern.search" ⟨[a, b], []⟩ := by unfold argsOk; kernel_rfl
end Mine

/-! UCore -/
namespace Mine

noncomputable abbrev Gh := Addr → Option Obj

inductive D where
  | undef
  | none
  | bool (b : Bool)
  | int (i : Int)
  | flt (x : UInt64)
  | str (s : Str)
  | tup (l : List D)
  | lst (l : List D)
  | rng (n : Nat)
  | dct (l : List (Int × D))
  | slc (lo hi st : Option Int)
  | obj (a : Addr)
  | ins (d : D)

noncomputable def isData (o : Obj) : Prop := o.cls = .type "tuple" ∨ o.cls = .type "list" ∨ o.cls = .type "dict" ∨ o.cls = .type "range" ∨ o.cls = .type "slice" ∨ ∃ C, o.cls = .ref C

inductive PartIs : Value → Option Int → Prop
  | none : PartIs .none none
  | int (i : Int) (t : Tok) : PartIs (.int i t) (some i)
theorem PartIs.isPart {v : Value} {k : Option Int} (h : PartIs v k) : IsPart v k := by cases h <;> first | exact .none | exact .int _ _

noncomputable abbrev rngObj (n : Nat) (t u v : Tok) : Obj := { cls := .type "range", dict := none, data := .fields #[.int 0 t, .int n u, .int 1 v], slots := #[] }

mutual
inductive Rep (g : Gh) : Value → D → Prop
  | none : Rep g .none .none
  | bool (b : Bool) : Rep g (.bool b) (.bool b)
  | int (i : Int) (t : Tok) : Rep g (.int i t) (.int i)
  | flt (x : UInt64) (t : Tok) : Rep g (.float x t) (.flt x)
  | str (x : Str) (t : Tok) : Rep g (.str x t) (.str x)
  | tup {a : Addr} {o : Obj} {vs : List Value} {n : Nat} {ds : List D} : g a = some o → o.cls = .type "tuple" → o.data = .seq vs.toArray n → RepL g vs ds → Rep g (.ref a) (.tup ds)
  | lst {a : Addr} {vs : List Value} {n : Nat} {ds : List D} : g a = some { cls := .type "list", dict := none, data := .seq vs.toArray n, slots := #[] } → RepL g vs ds → Rep g (.ref a) (.lst ds)
  | rng {a : Addr} {n : Nat} {t u v : Tok} : g a = some (rngObj n t u v) → n ≤ 1000 → Rep g (.ref a) (.rng n)
  | slc {a : Addr} {vl vu vs : Value} {lo hi st : Option Int} : g a = some { cls := .type "slice", data := .fields #[vl, vu, vs] } → PartIs vl lo → PartIs vu hi → PartIs vs st → Rep g (.ref a) (.slc lo hi st)
  | obj (a : Addr) : Rep g (.ref a) (.obj a)
  | ins {x dx : Addr} {hh : Int} {tk : Tok} {m : Nat} {v : Value} {d : D} : g x = some (instObj 231 dx) → g dx = some { cls := .type "dict", data := .dict #[⟨hh, .str "_headers" tk, v⟩] m } → Rep g v d → Rep g (.ref x) (.ins d)
  | dct {a : Addr} {o : Obj} {es : List DictEntry} {n : Nat} {ks : List (Int × D)} : a ≠ sysModules → g a = some o → o.ExactDict → o.data = .dict es.toArray n → RepE g es ks → (ks.map (·.1)).Nodup → Rep g (.ref a) (.dct ks)
inductive RepL (g : Gh) : List Value → List D → Prop
  | nil : RepL g [] []
  | cons {v : Value} {vs : List Value} {d : D} {ds : List D} : Rep g v d → RepL g vs ds → RepL g (v :: vs) (d :: ds)
inductive RepE (g : Gh) : List DictEntry → List (Int × D) → Prop
  | nil : RepE g [] []
  | cons {e : DictEntry} {es : List DictEntry} {k : Int} {t : Tok} {d : D} {ks : List (Int × D)} : e.key = .int k t → e.hash = hashInt k → Rep g e.val d → RepE g es ks → RepE g (e :: es) ((k, d) :: ks)
end

/-- what stands for a datum, told without a split -/
noncomputable def InvD (g : Gh) (v : Value) : D → Prop
  | .undef => False
  | .none => ∃ _ : Unit, v = .none
  | .bool b => ∃ _ : Unit, v = .bool b
  | .int i => ∃ t, v = .int i t
  | .flt x => ∃ t, v = .float x t
  | .str x => ∃ t, v = .str x t
  | .tup ds => ∃ a o vs n, v = .ref a ∧ g a = some o ∧ o.cls = .type "tuple" ∧ o.data = .seq vs.toArray n ∧ RepL g vs ds
  | .lst ds => ∃ a vs n, v = .ref a ∧ g a = some { cls := .type "list", dict := none, data := .seq vs.toArray n, slots := #[] } ∧ RepL g vs ds
  | .rng n => ∃ a t u w, v = .ref a ∧ g a = some (rngObj n t u w) ∧ n ≤ 1000
  | .slc lo hi st => ∃ a vl vu vs, v = .ref a ∧ g a = some { cls := .type "slice", data := .fields #[vl, vu, vs] } ∧ PartIs vl lo ∧ PartIs vu hi ∧ PartIs vs st
  | .obj a => ∃ _ : Unit, v = .ref a
  | .ins d => ∃ x dx hh tk m w, v = .ref x ∧ g x = some (instObj 231 dx) ∧ g dx = some { cls := .type "dict", data := .dict #[⟨hh, .str "_headers" tk, w⟩] m } ∧ Rep g w d
  | .dct ks => ∃ a o es n, v = .ref a ∧ a ≠ sysModules ∧ g a = some o ∧ o.ExactDict ∧ o.data = .dict es.toArray n ∧ RepE g es ks ∧ (ks.map (·.1)).Nodup
theorem Rep.inv {g : Gh} {v : Value} {d : D} (r : Rep g v d) : InvD g v d := by
  cases r with
  | none => exact ⟨(), rfl⟩
  | bool b => exact ⟨(), rfl⟩
  | int i t => exact ⟨t, rfl⟩
  | flt x t => exact ⟨t, rfl⟩
  | str x t => exact ⟨t, rfl⟩
  | tup h1 h2 h3 h4 => exact ⟨_, _, _, _, rfl, h1, h2, h3, h4⟩
  | lst h1 h2 => exact ⟨_, _, _, rfl, h1, h2⟩
  | rng h1 h2 => exact ⟨_, _, _, _, rfl, h1, h2⟩
  | slc h1 h2 h3 h4 => exact ⟨_, _, _, _, rfl, h1, h2, h3, h4⟩
  | obj a => exact ⟨(), rfl⟩
  | ins h1 h2 h3 => exact ⟨_, _, _, _, _, _, rfl, h1, h2, h3⟩
  | dct h1 h2 h3 h4 h5 h6 => exact ⟨_, _, _, _, rfl, h1, h2, h3, h4, h5, h6⟩

mutual
theorem Rep.mono {g g' : Gh} (hg : ∀ a o, g a = some o → isData o → g' a = some o) : ∀ {v : Value} {d : D}, Rep g v d → Rep g' v d
  | _, _, .none => .none
  | _, _, .bool b => .bool b
  | _, _, .int i t => .int i t
  | _, _, .flt i t => .flt i t
  | _, _, .str x t => .str x t
  | _, _, .tup h c e r => .tup (hg _ _ h (.inl c)) c e (RepL.mono hg r)
  | _, _, .lst h r => .lst (hg _ _ h (.inr (.inl rfl))) (RepL.mono hg r)
  | _, _, .rng h hn => .rng (hg _ _ h (.inr (.inr (.inr (.inl rfl))))) hn
  | _, _, .slc h a b c => .slc (hg _ _ h (.inr (.inr (.inr (.inr (.inl rfl)))))) a b c
  | _, _, .obj a => .obj a
  | _, _, .ins h1 h2 r => .ins (hg _ _ h1 (.inr (.inr (.inr (.inr (.inr ⟨_, rfl⟩)))))) (hg _ _ h2 (.inr (.inr (.inl rfl)))) (Rep.mono hg r)
  | _, _, .dct hs h c e r hn => .dct hs (hg _ _ h (.inr (.inr (.inl c.1)))) c e (RepE.mono hg r) hn
theorem RepL.mono {g g' : Gh} (hg : ∀ a o, g a = some o → isData o → g' a = some o) : ∀ {vs : List Value} {ds : List D}, RepL g vs ds → RepL g' vs ds
  | _, _, .nil => .nil
  | _, _, .cons h r => .cons (Rep.mono hg h) (RepL.mono hg r)
theorem RepE.mono {g g' : Gh} (hg : ∀ a o, g a = some o → isData o → g' a = some o) : ∀ {vs : List DictEntry} {ds : List (Int × D)}, RepE g vs ds → RepE g' vs ds
  | _, _, .nil => .nil
  | _, _, .cons a b h r => .cons a b (Rep.mono hg h) (RepE.mono hg r)
end

theorem RepL.nilInv {g : Gh} {vs : List Value} (r : RepL g vs []) : vs = [] := by cases r; rfl
theorem RepL.consInv {g : Gh} {vs : List Value} {d : D} {ds : List D} (r : RepL g vs (d :: ds)) : ∃ v vs', vs = v :: vs' ∧ Rep g v d ∧ RepL g vs' ds := by
  cases r with
  | cons a b => exact ⟨_, _, rfl, a, b⟩
theorem RepL.length {g : Gh} : ∀ {vs : List Value} {ds : List D}, RepL g vs ds → vs.length = ds.length
  | _, _, .nil => rfl
  | _, _, .cons _ r => by rw [List.length_cons, List.length_cons, r.length]
theorem RepL.append {g : Gh} {ws : List Value} {es : List D} : ∀ {vs : List Value} {ds : List D}, RepL g vs ds → RepL g ws es → RepL g (vs ++ ws) (ds ++ es)
  | _, _, .nil, k => k
  | _, _, .cons h r, k => .cons h (RepL.append r k)
theorem RepL.get {g : Gh} : ∀ {vs : List Value} {ds : List D}, RepL g vs ds → ∀ {i : Nat} {d : D}, ds[i]? = some d → ∃ v, vs[i]? = some v ∧ Rep g v d
  | _, _, .nil, i, d, h => by simp at h
  | _, _, .cons (v := v) h r, 0, d, hd => by simp at hd; subst hd; exact ⟨v, rfl, h⟩
  | _, _, .cons h r, i + 1, d, hd => by simpa using r.get (i := i) (by simpa using hd)
theorem RepL.getV {g : Gh} : ∀ {vs : List Value} {ds : List D}, RepL g vs ds → ∀ {i : Nat} {v : Value}, vs[i]? = some v → ∃ d, ds[i]? = some d ∧ Rep g v d
  | _, _, .nil, i, d, h => by simp at h
  | _, _, .cons (d := d) h r, 0, v, hd => by simp at hd; subst hd; exact ⟨d, rfl, h⟩
  | _, _, .cons h r, i + 1, v, hd => by simpa using r.getV (i := i) (by simpa using hd)
theorem RepL.pick {g : Gh} {vs : List Value} {ds : List D} (r : RepL g vs ds) : ∀ l : List Nat, RepL g (l.filterMap (vs[·]?)) (l.filterMap (ds[·]?))
  | [] => .nil
  | i :: l => by
    rw [List.filterMap_cons, List.filterMap_cons]
    cases h : ds[i]? with
    | some d => obtain ⟨v, hv, hr⟩ := r.get h; rw [hv]; exact .cons hr (r.pick l)
    | none =>
      have : vs[i]? = none := by
        rw [List.getElem?_eq_none_iff] at h ⊢
        rw [r.length]; exact h
      rw [this]; exact r.pick l
theorem RepL.drop {g : Gh} : ∀ (n : Nat) {vs : List Value} {ds : List D}, RepL g vs ds → RepL g (vs.drop n) (ds.drop n)
  | 0, _, _, h => h
  | _ + 1, _, _, .nil => .nil
  | n + 1, _, _, .cons _ r => r.drop n
theorem RepL.take {g : Gh} : ∀ (n : Nat) {vs : List Value} {ds : List D}, RepL g vs ds → RepL g (vs.take n) (ds.take n)
  | 0, _, _, _ => .nil
  | _ + 1, _, _, .nil => .nil
  | n + 1, _, _, .cons h r => .cons h (r.take n)

noncomputable def Sub (g : Gh) (h : Heap) : Prop := ∀ a o, g a = some o → h.get? a = some o

structure Ext (h : Heap) (g : Gh) (h' : Heap) (g' : Gh) : Prop where
  le : ∀ a o, g a = some o → g' a = some o
  sub : Sub g' h'
  keep : ∀ a o, h.get? a = some o → h'.get? a = some o
  fresh : ∀ a o, g' a = some o → g a = some o ∨ h.get? a = none

theorem get_none_of_keep {h h' : Heap} {a : Addr} (k : ∀ a o, h.get? a = some o → h'.get? a = some o) (e : h'.get? a = none) : h.get? a = none := by
  cases q : h.get? a with
  | none => rfl
  | some o => rw [k _ _ q] at e; cases e
theorem Ext.refl {h : Heap} {g : Gh} (s : Sub g h) : Ext h g h g := ⟨fun _ _ e => e, s, fun _ _ e => e, fun _ _ e => .inl e⟩
theorem Ext.trans {h h1 h2 : Heap} {g g1 g2 : Gh} (x : Ext h g h1 g1) (y : Ext h1 g1 h2 g2) : Ext h g h2 g2 :=
  ⟨fun a o e => y.le a o (x.le a o e), y.sub, fun a o e => y.keep a o (x.keep a o e), fun a o e => (y.fresh a o e).elim (fun q => x.fresh a o q) fun q => .inr (get_none_of_keep x.keep q)⟩
theorem Ext.keeps {h h' : Heap} {g : Gh} (s : Sub g h) (k : ∀ a o, h.get? a = some o → h'.get? a = some o) : Ext h g h' g := ⟨fun _ _ e => e, fun a o e => k a o (s a o e), k, fun _ _ e => .inl e⟩
theorem Ext.rep {h h' : Heap} {g g' : Gh} (x : Ext h g h' g') {v : Value} {d : D} (r : Rep g v d) : Rep g' v d := r.mono fun a o e _ => x.le a o e
theorem Ext.repL {h h' : Heap} {g g' : Gh} (x : Ext h g h' g') {v : List Value} {d : List D} (r : RepL g v d) : RepL g' v d := r.mono fun a o e _ => x.le a o e

noncomputable def gput (g : Gh) (a : Addr) (o : Obj) : Gh := fun b => if b = a then some o else g b
theorem gput_self (g : Gh) (a : Addr) (o : Obj) : gput g a o a = some o := if_pos rfl
theorem none_at_size (h : Heap) {a : Addr} (ha : h.objs.size ≤ a) : h.get? a = none := by
  cases e : h.get? a with
  | none => rfl
  | some o' => exact absurd (Heap.lt_size e) (Nat.not_lt.mpr ha)
theorem Sub.none {g : Gh} {h : Heap} (s : Sub g h) {a : Addr} (e : h.get? a = none) : g a = none := by
  cases q : g a with
  | none => rfl
  | some o => rw [s _ _ q] at e; cases e

theorem Ext.put {h h' : Heap} {g : Gh} {a : Addr} {o : Obj} (s : Sub g h) (k : ∀ b x, h.get? b = some x → h'.get? b = some x) (ha : h.get? a = none) (ho : h'.get? a = some o) : Ext h g h' (gput g a o) := by
  refine ⟨fun b x e => ?_, fun b x e => ?_, k, fun b x e => ?_⟩
  · unfold gput
    rw [if_neg (fun q => by rw [q, s.none ha] at e; cases e)]
    exact e
  · unfold gput at e
    split at e
    · rename_i q; cases e; rw [q]; exact ho
    · exact k _ _ (s _ _ e)
  · unfold gput at e
    split at e
    · rename_i q; rw [q]; exact .inr ha
    · exact .inl e
theorem Ext.push {h : Heap} {g : Gh} (s : Sub g h) (o : Obj) (hf : o.isFreed = false := by rfl) : Ext h g (h.push o) (gput g h.objs.size o) :=
  Ext.put s (fun _ _ e => Heap.get?_push_of_some o e) (none_at_size h (Nat.le_refl _)) (Heap.get?_push_size h hf)

end Mine

/-! UEv -/
namespace Mine

structure Ok (A : Around) (n : Nat) : Prop where
  h : A.handled = none
  d : A.depth + n ≤ 500
  u : A.units + 10 * n ≤ 5000
theorem Ok.low {A : Around} {n m : Nat} (o : Ok A n) (h : m ≤ n) : Ok A m := ⟨o.h, Nat.le_trans (Nat.add_le_add_left h _) o.d, Nat.le_trans (by omega) o.u⟩
theorem Ok.room {A : Around} {n : Nat} (o : Ok A n) : A.depth < recursionLimit := by have := o.d; show A.depth < 1000; omega
theorem Ok.line {A : Around} {n : Nat} (o : Ok A n) (k : Nat) (hk : k ≤ 4000) : A.units + k < cLine := by have := o.u; show A.units + k < 9900; omega
theorem Ok.line0 {A : Around} {n : Nat} (o : Ok A n) : A.units < cLine := o.line 0 (by omega)
theorem Ok.deeper {A : Around} {n : Nat} {env : Env} (o : Ok A (n + 1)) : Ok (A.deeper env) n := ⟨o.h, by have := o.d; show A.depth + 1 + n ≤ 500; omega, by have := o.u; show A.units + 3 + 10 * n ≤ 5000; omega⟩

structure Gd (K : Frag) (mg mb : Str → Option Value) (h : Heap) : Prop where
  k : K.In h
  g : h.Ns mainGlobals mg
  b : h.Ns builtinsNs mb
  nl : h.NoLimit
  bi : ∀ x : Str, x ≠ "__name__" → mb x = bootBuiltins x
theorem Gd.keeps {K : Frag} {mg mb : Str → Option Value} {h h' : Heap} (x : Gd K mg mb h) (k : ∀ b o, h.get? b = some o → h'.get? b = some o) : Gd K mg mb h' :=
  ⟨x.k.keeps k, x.g.keeps k, x.b.keeps k, x.nl.keeps k, x.bi⟩

noncomputable def D.isSet : D → Bool
  | .undef => false
  | _ => true

structure View (sc : Scope) (env : Env) (vars : List Str) (ρ : List D) (g : Gh) (h : Heap) : Prop where
  es : env.scope = sc
  fn : sc.kind = .function
  gl : env.globals = mainGlobals
  bn : env.builtins = builtinsNs
  ns : ∃ m, h.Ns env.locals m ∧ ∀ (i : Nat) (x : Str) (d : D), vars[i]? = some x → ρ[i]? = some d → d.isSet = true → sc.names.lookup x = some .local → ∃ v, m x = some v ∧ Rep g v d
  cl : ∀ (i : Nat) (x : Str) (d : D), vars[i]? = some x → ρ[i]? = some d → d.isSet = true → (sc.names.lookup x = some .cell ∨ sc.names.lookup x = some .free) → ∃ c v, env.cells.lookup x = some c ∧ h.IsCell c (some v) ∧ Rep g v d

theorem View.ext {sc : Scope} {env : Env} {vars : List Str} {ρ : List D} {g g' : Gh} {h h' : Heap} (V : View sc env vars ρ g h) (x : Ext h g h' g') : View sc env vars ρ g' h' :=
  ⟨V.es, V.fn, V.gl, V.bn, let ⟨m, hn, hv⟩ := V.ns; ⟨m, hn.keeps x.keep, fun i y d a b c e => let ⟨v, p, q⟩ := hv i y d a b c e; ⟨v, p, x.rep q⟩⟩,
    fun i y d a b c e => let ⟨k, v, p, q, r⟩ := V.cl i y d a b c e; ⟨k, v, p, q.keeps x.keep, x.rep r⟩⟩

noncomputable abbrev Post (s : Shared) (g : Gh) (d : D) (Q : Value → Shared → Prop) : Prop :=
  ∀ v h' g' tk', Ext s.heap g h' g' → Rep g' v d → Q v { s with heap := h', toks := tk' }
noncomputable abbrev PostB (s : Shared) (g : Gh) (b : Bool) (Q : Bool → Shared → Prop) : Prop :=
  ∀ h' g' tk', Ext s.heap g h' g' → Q b { s with heap := h', toks := tk' }
noncomputable abbrev PostT (s : Shared) (g : Gh) (d : D) (Q : Value → Shared → Prop) : Prop :=
  ∀ v h' g' tk', Ext s.heap g h' g' → Rep g' v d → 0 < tk' → Q v { s with heap := h', toks := tk' }
noncomputable abbrev PostBT (s : Shared) (g : Gh) (b : Bool) (Q : Bool → Shared → Prop) : Prop :=
  ∀ h' g' tk', Ext s.heap g h' g' → 0 < tk' → Q b { s with heap := h', toks := tk' }
noncomputable abbrev PostLT (s : Shared) (g : Gh) (ds : List D) (Q : List Value → Shared → Prop) : Prop :=
  ∀ vs h' g' tk', Ext s.heap g h' g' → RepL g' vs ds → 0 < tk' → Q vs { s with heap := h', toks := tk' }
theorem toksT {α : Type} {M : Model} {A : Around} {s : Shared} {t : Sem α} {Q : α → Shared → Prop} {E : Value → Shared → Prop} (hp : 0 < s.toks)
    (h : wpAny M A t (fun a s' => 0 < s'.toks → Q a s') E s) : wpAny M A t Q E s :=
  wpAny_with_toks (n := 1) hp (wpAny_mono h (fun _ _ q h => q h) fun _ _ q _ => q)

structure Cx where
  prog : Program
  w : World
  K : Frag
  mg : Str → Option Value
  mb : Str → Option Value

noncomputable def Ev (c : Cx) (n : Nat) (sc : Scope) (vars : List Str) (e : Expr) (f : List D → Option D) : Prop :=
  ∀ (env : Env) (A : Around) (s : Shared) (g : Gh) (ρ : List D) (d : D) (Q : Value → Shared → Prop) (E : Value → Shared → Prop),
    Ok A n → Gd c.K c.mg c.mb s.heap → Sub g s.heap → View sc env vars ρ g s.heap → 0 < s.toks → f ρ = some d → PostT s g d Q → wpAny (model c.prog c.w) A (eval e env) Q E s

noncomputable def Te (c : Cx) (n : Nat) (sc : Scope) (vars : List Str) (e : Expr) (f : List D → Option Bool) : Prop :=
  ∀ (env : Env) (A : Around) (s : Shared) (g : Gh) (ρ : List D) (b : Bool) (Q : Bool → Shared → Prop) (E : Value → Shared → Prop),
    Ok A n → Gd c.K c.mg c.mb s.heap → Sub g s.heap → View sc env vars ρ g s.heap → 0 < s.toks → f ρ = some b → PostBT s g b Q → wpAny (model c.prog c.w) A (isTrue e env (eval e env)) Q E s

section
variable {c : Cx} {n : Nat} {sc : Scope} {vars : List Str}

/-- what an operation on values asks -/
noncomputable def OpOk (c : Cx) (n : Nat) (t : Value → Value → Sem Value) (f : D → D → Option D) : Prop :=
  ∀ (A : Around) (s : Shared) (g : Gh) (a b d : D) (u v : Value) (Q : Value → Shared → Prop) (E : Value → Shared → Prop),
    Ok A n → Sub g s.heap → Rep g u a → Rep g v b → f a b = some d → Post s g d Q → wpAny (model c.prog c.w) A (t u v) Q E s

theorem post_here {s : Shared} {g : Gh} {d : D} {Q : Value → Shared → Prop} (hs : Sub g s.heap) (k : Post s g d Q) {v : Value} (r : Rep g v d) (tk : Nat) : Q v { s with toks := tk } :=
  k v s.heap g tk (Ext.refl hs) r

theorem postT_here {s : Shared} {g : Gh} {d : D} {Q : Value → Shared → Prop} (hs : Sub g s.heap) (k : PostT s g d Q) {v : Value} (r : Rep g v d) {tk : Nat} (hp : 0 < tk) : Q v { s with toks := tk } :=
  k v s.heap g tk (Ext.refl hs) r hp
theorem Ev.int {i : Int} {k : Nat} {p : Pos} : Ev c n sc vars (.Constant (.int i) k p) (fun _ => some (.int i)) :=
  fun _ _ _ _ _ _ _ _ _ _ hs _ _ e k => by cases e; exact wpAny_Constant_int (postT_here hs k (.int _ _) (Nat.succ_pos _))
theorem Ev.strc {x : Str} {k : Nat} {p : Pos} : Ev c n sc vars (.Constant (.str x) k p) (fun _ => some (.str x)) :=
  fun _ _ _ _ _ _ _ _ _ _ hs _ _ e k => by cases e; exact wpAny_Constant_str (postT_here hs k (.str _ _) (Nat.succ_pos _))
theorem Ev.fltc {x : UInt64} {k : Nat} {p : Pos} : Ev c n sc vars (.Constant (.float x) k p) (fun _ => some (.flt x)) :=
  fun _ _ _ _ _ _ _ _ _ _ hs _ _ e k => by cases e; exact AutoFloatOps.wpAny_Constant_float (postT_here hs k (.flt _ _) (Nat.succ_pos _))
theorem Ev.nonec {k : Nat} {p : Pos} : Ev c n sc vars (.Constant .none k p) (fun _ => some .none) :=
  fun _ _ _ _ _ _ _ _ _ _ hs _ hp e k => by cases e; exact wpAny_Constant_none (postT_here hs k .none hp)
theorem Ev.boolc {b : Bool} {k : Nat} {p : Pos} : Ev c n sc vars (.Constant (.bool b) k p) (fun _ => some (.bool b)) :=
  fun _ _ _ _ _ _ _ _ _ _ hs _ hp e k => by cases e; exact wpAny_Constant_bool (postT_here hs k (.bool _) hp)

noncomputable def getv (i : Nat) (ρ : List D) : Option D := match ρ[i]? with
  | some .undef => none
  | r => r
theorem getv_some {i : Nat} {ρ : List D} {d : D} (e : getv i ρ = some d) : ρ[i]? = some d ∧ d.isSet = true := by
  unfold getv at e
  split at e
  · cases e
  · rename_i h
    refine ⟨e, ?_⟩
    cases d <;> first | rfl | exact absurd e h

theorem Ev.var {i : Nat} {x : Str} {p : Pos} (hx : vars[i]? = some x) (hl : sc.names.lookup x = some .local) (hd : (x == ("__debug__" : Str)) = false) : Ev c n sc vars (.Name x p) (getv i) := by
  intro env A s g ρ d Q E _ _ hs V hp e k
  obtain ⟨h1, h2⟩ := getv_some e
  obtain ⟨m, hn, hv⟩ := V.ns
  obtain ⟨v, hm, r⟩ := hv i x d hx h1 h2 hl
  exact wpAny_Name (wpAny_loadName_local (by rw [V.es]; exact V.fn) (by show env.scope.names.lookup x = _; rw [V.es]; exact hl) hn hm (postT_here hs k r hp)) hd
theorem Ev.cell {i : Nat} {x : Str} {p : Pos} (hx : vars[i]? = some x) (hl : sc.names.lookup x = some .cell) (hd : (x == ("__debug__" : Str)) = false) : Ev c n sc vars (.Name x p) (getv i) := by
  intro env A s g ρ d Q E _ _ hs V hp e k
  obtain ⟨h1, h2⟩ := getv_some e
  obtain ⟨a, v, hc, hk, r⟩ := V.cl i x d hx h1 h2 (.inl hl)
  exact wpAny_Name (wpAny_loadName_cell (by rw [V.es]; exact V.fn) (by show env.scope.names.lookup x = _; rw [V.es]; exact hl) hc hk (postT_here hs k r hp)) hd

/-- a name of the module's -/
theorem Ev.glob {x : Str} {p : Pos} {v : Value} {d : D} (hx : sc.names.lookup x = some .globalImplicit) (hv : nsIn c.K mainGlobals x = some (some v)) (r : ∀ g, Rep g v d) (hd : (x == ("__debug__" : Str)) = false) :
    Ev c n sc vars (.Name x p) (fun _ => some d) := by
  intro env A s g ρ d' Q E _ G hs V hp e k
  cases e
  exact Calls.Name_function_global (by rw [V.es]; exact V.fn) (by show env.scope.names.lookup x = _; rw [V.es]; exact hx) (Calls.loadGlobal_global (by rw [V.gl]; exact G.g) (mg_of G.k G.g hv) (postT_here hs k (r g) hp)) hd

noncomputable def bin2 (op : D → D → Option D) (f g : List D → Option D) : List D → Option D := fun ρ => match f ρ with
  | none => none
  | some a => match g ρ with
    | none => none
    | some b => op a b
theorem bin2_some {op : D → D → Option D} {f g : List D → Option D} {ρ : List D} {d : D} (e : bin2 op f g ρ = some d) : ∃ a b, f ρ = some a ∧ g ρ = some b ∧ op a b = some d := by
  unfold bin2 at e
  split at e
  · cases e
  · split at e
    · cases e
    · exact ⟨_, _, by assumption, by assumption, e⟩

theorem Ev.two {l r : Expr} {f g : List D → Option D} {op : D → D → Option D} {t : Value → Value → Sem Value} (hl : Ev c n sc vars l f) (hr : Ev c n sc vars r g) (ho : OpOk c n t op)
    {env : Env} {A : Around} {s : Shared} {gh : Gh} {ρ : List D} {d : D} {Q : Value → Shared → Prop} {E : Value → Shared → Prop}
    (o : Ok A n) (G : Gd c.K c.mg c.mb s.heap) (hs : Sub gh s.heap) (V : View sc env vars ρ gh s.heap) (hp : 0 < s.toks) (e : bin2 op f g ρ = some d) (k : PostT s gh d Q) :
    wpAny (model c.prog c.w) A (eval l env) (fun a s₁ => wpAny (model c.prog c.w) A (eval r env) (fun b s₂ => wpAny (model c.prog c.w) A (t a b) Q E s₂) E s₁) E s := by
  obtain ⟨a, b, e1, e2, e3⟩ := bin2_some e
  refine hl env A s gh ρ a _ E o G hs V hp e1 fun u h1 g1 t1 x1 r1 p1 => ?_
  refine hr env A _ g1 ρ b _ E o (G.keeps x1.keep) x1.sub (V.ext x1) p1 e2 fun v h2 g2 t2 x2 r2 p2 => ?_
  exact toksT p2 (ho A _ g2 a b d u v _ E o x2.sub (x2.rep r1) r2 e3 fun w h3 g3 t3 x3 r3 p3 => k w h3 g3 t3 ((x1.trans x2).trans x3) r3 p3)

theorem Ev.bin {l r : Expr} {op : Operator} {p : Pos} {f g : List D → Option D} {o : D → D → Option D} (hl : Ev c n sc vars l f) (hr : Ev c n sc vars r g) (ho : OpOk c n (binaryOp op) o) :
    Ev c n sc vars (.BinOp l op r p) (bin2 o f g) := fun _ _ _ _ _ _ _ _ o G hs V hp e k => wpAny_BinOp (Ev.two hl hr ho o G hs V hp e k)
theorem Ev.cmp {l r : Expr} {op : CmpOp} {p : Pos} {f g : List D → Option D} {o : D → D → Option D} (hl : Ev c n sc vars l f) (hr : Ev c n sc vars r g) (ho : OpOk c n (compareOp op) o) (hm : behindInMarks op r = false) :
    Ev c n sc vars (.Compare l [op] [r] p) (bin2 o f g) := fun _ _ _ _ _ _ _ _ o G hs V hp e k => wpAny_Compare1 (Ev.two hl hr ho o G hs V hp e k) hm

noncomputable def toB : Option D → Option Bool
  | some (.bool b) => some b
  | _ => none
theorem toB_some {o : Option D} {b : Bool} (e : toB o = some b) : o = some (.bool b) := by
  unfold toB at e
  split at e
  · cases e; rfl
  · cases e
theorem rep_bool {g : Gh} {v : Value} {b : Bool} (r : Rep g v (.bool b)) : v = .bool b := by cases r; rfl

theorem Te.cmp {l r : Expr} {op : CmpOp} {p : Pos} {f g : List D → Option D} {o : D → D → Option D} (hl : Ev c n sc vars l f) (hr : Ev c n sc vars r g) (ho : OpOk c n (compareOp op) o) (hm : behindInMarks op r = false) :
    Te c n sc vars (.Compare l [op] [r] p) (fun ρ => toB (bin2 o f g ρ)) := by
  intro env A s gh ρ b Q E ok G hs V hp e k
  refine wpAny_isTrue_Compare1 ?_ hm
  have key := Ev.two hl hr ho (Q := fun v s' => wpAny (model c.prog c.w) A (truthy v) Q E s') (E := E) ok G hs V hp (toB_some e) fun v h' g' t' x r p => by
    rw [rep_bool r]
    exact wpAny_truthy_bool (k h' g' t' x p)
  exact key

/-- truth of a value -/
noncomputable def TrOk (c : Cx) (n : Nat) (f : D → Option Bool) : Prop :=
  ∀ (A : Around) (s : Shared) (g : Gh) (a : D) (b : Bool) (u : Value) (Q : Bool → Shared → Prop) (E : Value → Shared → Prop),
    Ok A n → Sub g s.heap → Rep g u a → f a = some b → PostB s g b Q → wpAny (model c.prog c.w) A (truthy u) Q E s
noncomputable def un1 {α : Type} (op : D → Option α) (f : List D → Option D) : List D → Option α := fun ρ => match f ρ with
  | none => none
  | some a => op a
theorem un1_some {α : Type} {op : D → Option α} {f : List D → Option D} {ρ : List D} {d : α} (e : un1 op f ρ = some d) : ∃ a, f ρ = some a ∧ op a = some d := by
  unfold un1 at e
  split at e
  · cases e
  · exact ⟨_, by assumption, e⟩
theorem Te.val {e : Expr} {f : List D → Option D} {tr : D → Option Bool} (h : Ev c n sc vars e f) (ht : TrOk c n tr) (he : ∀ env whole, isTrue e env whole = (do let v ← whole; standAt e.pos; holding [v] (truthy v))) :
    Te c n sc vars e (un1 tr f) := by
  intro env A s gh ρ b Q E ok G hs V hp e' k
  obtain ⟨a, e1, e2⟩ := un1_some e'
  refine wpAny_isTrue_value ?_ (he _ _)
  exact h env A s gh ρ a _ E ok G hs V hp e1 fun v h' g' t' x r p => toksT p (ht A _ g' a b v _ E ok x.sub r e2 fun h2 g2 t2 x2 p2 => k h2 g2 t2 (x.trans x2) p2)

theorem Te.not {e : Expr} {p : Pos} {f : List D → Option Bool} (h : Te c n sc vars e f) : Te c n sc vars (.UnaryOp .Not e p) (fun ρ => (f ρ).map (!·)) := by
  intro env A s gh ρ b Q E ok G hs V hp e' k
  refine wpAny_isTrue_Not ?_
  obtain ⟨b', e1, rfl⟩ := Option.map_eq_some_iff.mp e'
  exact h env A s gh ρ b' _ E ok G hs V hp e1 fun h' g' t' x p => k h' g' t' x p

noncomputable def andT (f g : List D → Option Bool) : List D → Option Bool := fun ρ => match f ρ with
  | none => none
  | some false => some false
  | some true => g ρ
noncomputable def orT (f g : List D → Option Bool) : List D → Option Bool := fun ρ => match f ρ with
  | none => none
  | some true => some true
  | some false => g ρ

noncomputable def TeAll (c : Cx) (n : Nat) (sc : Scope) (vars : List Str) (op : BoolOp) (es : List Expr) (f : List D → Option Bool) : Prop :=
  ∀ (env : Env) (A : Around) (s : Shared) (g : Gh) (ρ : List D) (b : Bool) (Q : Bool → Shared → Prop) (E : Value → Shared → Prop),
    Ok A n → Gd c.K c.mg c.mb s.heap → Sub g s.heap → View sc env vars ρ g s.heap → 0 < s.toks → f ρ = some b → PostBT s g b Q → wpAny (model c.prog c.w) A (allTrue op es env) Q E s
theorem Te.bool {op : BoolOp} {es : List Expr} {p : Pos} {f : List D → Option Bool} (h : TeAll c n sc vars op es f) : Te c n sc vars (.BoolOp op es p) f :=
  fun env A s gh ρ b Q E ok G hs V hp e k => wpAny_isTrue_BoolOp (h env A s gh ρ b Q E ok G hs V hp e k)
theorem TeAll.and_nil : TeAll c n sc vars .And [] (fun _ => some true) :=
  fun _ _ s _ _ _ _ _ _ _ hs _ hp e k => by cases e; exact wpAny_allTrue_And_nil (k s.heap _ s.toks (Ext.refl hs) hp)
theorem TeAll.or_nil : TeAll c n sc vars .Or [] (fun _ => some false) :=
  fun _ _ s _ _ _ _ _ _ _ hs _ hp e k => by cases e; exact wpAny_allTrue_Or_nil (k s.heap _ s.toks (Ext.refl hs) hp)
theorem TeAll.and_cons {e : Expr} {es : List Expr} {f g : List D → Option Bool} (h : Te c n sc vars e f) (r : TeAll c n sc vars .And es g) : TeAll c n sc vars .And (e :: es) (andT f g) := by
  intro env A s gh ρ b Q E ok G hs V hp e' k
  refine wpAny_allTrue_And_cons ?_
  unfold andT at e'
  split at e'
  · cases e'
  · cases e'
    exact h env A s gh ρ false _ E ok G hs V hp (by assumption) fun h' g' t' x p => k h' g' t' x p
  · exact h env A s gh ρ true _ E ok G hs V hp (by assumption) fun h' g' t' x p => r env A _ g' ρ b Q E ok (G.keeps x.keep) x.sub (V.ext x) p e' fun h2 g2 t2 x2 p2 => k h2 g2 t2 (x.trans x2) p2
theorem TeAll.or_cons {e : Expr} {es : List Expr} {f g : List D → Option Bool} (h : Te c n sc vars e f) (r : TeAll c n sc vars .Or es g) : TeAll c n sc vars .Or (e :: es) (orT f g) := by
  intro env A s gh ρ b Q E ok G hs V hp e' k
  refine wpAny_allTrue_Or_cons ?_
  unfold orT at e'
  split at e'
  · cases e'
  · cases e'
    exact h env A s gh ρ true _ E ok G hs V hp (by assumption) fun h' g' t' x p => k h' g' t' x p
  · exact h env A s gh ρ false _ E ok G hs V hp (by assumption) fun h' g' t' x p => r env A _ g' ρ b Q E ok (G.keeps x.keep) x.sub (V.ext x) p e' fun h2 g2 t2 x2 p2 => k h2 g2 t2 (x.trans x2) p2

noncomputable def iteE (t : List D → Option Bool) (f g : List D → Option D) : List D → Option D := fun ρ => match t ρ with
  | none => none
  | some true => f ρ
  | some false => g ρ
theorem Ev.ite {t a b : Expr} {p : Pos} {ft : List D → Option Bool} {f g : List D → Option D} (ht : Te c n sc vars t ft) (ha : Ev c n sc vars a f) (hb : Ev c n sc vars b g) : Ev c n sc vars (.IfExp t a b p) (iteE ft f g) := by
  intro env A s gh ρ d Q E ok G hs V hp e' k
  refine wpAny_IfExp ?_
  unfold iteE at e'
  split at e'
  · cases e'
  · exact ht env A s gh ρ true _ E ok G hs V hp (by assumption) fun h' g' t' x p => ha env A _ g' ρ d Q E ok (G.keeps x.keep) x.sub (V.ext x) p e' fun v h2 g2 t2 x2 r p2 => k v h2 g2 t2 (x.trans x2) r p2
  · exact ht env A s gh ρ false _ E ok G hs V hp (by assumption) fun h' g' t' x p => hb env A _ g' ρ d Q E ok (G.keeps x.keep) x.sub (V.ext x) p e' fun v h2 g2 t2 x2 r p2 => k v h2 g2 t2 (x.trans x2) r p2

/-- several expressions, from the left -/
noncomputable def EvL (c : Cx) (n : Nat) (sc : Scope) (vars : List Str) (es : List Expr) (f : List D → Option (List D)) : Prop :=
  ∀ (env : Env) (A : Around) (s : Shared) (g : Gh) (ρ : List D) (ds : List D) (p : Pos) (Q : List Value → Shared → Prop) (E : Value → Shared → Prop),
    Ok A n → Gd c.K c.mg c.mb s.heap → Sub g s.heap → View sc env vars ρ g s.heap → 0 < s.toks → f ρ = some ds → PostLT s g ds Q → wpAny (model c.prog c.w) A (spliced (backTo p (starEach es env))) Q E s
noncomputable def consE (f : List D → Option D) (g : List D → Option (List D)) : List D → Option (List D) := fun ρ => match f ρ with
  | none => none
  | some a => match g ρ with
    | none => none
    | some l => some (a :: l)
theorem EvL.nil : EvL c n sc vars [] (fun _ => some []) :=
  fun _ _ s _ _ _ _ _ _ _ _ hs _ hp e k => by cases e; exact wpAny_items_nil (k [] s.heap _ s.toks (Ext.refl hs) .nil hp)
theorem EvL.cons {e : Expr} {es : List Expr} {f : List D → Option D} {g : List D → Option (List D)} (h : Ev c n sc vars e f) (r : EvL c n sc vars es g) (hst : ∀ env, starEach (e :: es) env = (false, eval e env) :: starEach es env) :
    EvL c n sc vars (e :: es) (consE f g) := by
  intro env A s gh ρ ds p Q E ok G hs V hp e' k
  refine wpAny_items_cons ?_ (hst env)
  unfold consE at e'
  split at e'
  · cases e'
  · split at e'
    · cases e'
    · cases e'
      exact h env A s gh ρ _ _ E ok G hs V hp (by assumption) fun v h1 g1 t1 x1 r1 p1 => r env A _ g1 ρ _ p _ E ok (G.keeps x1.keep) x1.sub (V.ext x1) p1 (by assumption) fun vs h2 g2 t2 x2 r2 p2 => k _ h2 g2 t2 (x1.trans x2) (.cons (x2.rep r1) r2) p2

theorem EvL.len {vs : List Value} {ds : List D} {g : Gh} (r : RepL g vs ds) (h : ds.length ≤ 1000) : vs.length ≤ sizeLine := by
  rw [r.length, sizeLine_eq]; omega
noncomputable def tupE (f : List D → Option (List D)) : List D → Option D := fun ρ => match f ρ with
  | none => none
  | some l => if l.length ≤ 1000 then some (.tup l) else none
noncomputable def lstE (f : List D → Option (List D)) : List D → Option D := fun ρ => match f ρ with
  | none => none
  | some l => if l.length ≤ 1000 then some (.lst l) else none
theorem Ev.tup {es : List Expr} {m : Nat} {p : Pos} {f : List D → Option (List D)} (h : EvL c n sc vars es f) : Ev c n sc vars (.Tuple es m p) (tupE f) := by
  intro env A s gh ρ d Q E ok G hs V hp e' k
  refine wpAny_Tuple ?_
  unfold tupE at e'
  split at e'
  · cases e'
  · split at e'
    · rename_i hl
      cases e'
      exact h env A s gh ρ _ p _ E ok G hs V hp (by assumption) fun vs h1 g1 t1 x1 r1 p1 => ⟨EvL.len r1 hl, k _ _ _ _ (x1.trans (Ext.push x1.sub _)) (.tup (gput_self ..) rfl rfl ((Ext.push x1.sub _).repL r1)) p1⟩
    · cases e'
theorem Ev.lst {es : List Expr} {p : Pos} {f : List D → Option (List D)} (h : EvL c n sc vars es f) : Ev c n sc vars (.List es p) (lstE f) := by
  intro env A s gh ρ d Q E ok G hs V hp e' k
  refine wpAny_List ?_
  unfold lstE at e'
  split at e'
  · cases e'
  · split at e'
    · rename_i hl
      cases e'
      exact h env A s gh ρ _ p _ E ok G hs V hp (by assumption) fun vs h1 g1 t1 x1 r1 p1 => ⟨EvL.len r1 hl, k _ _ _ _ (x1.trans (Ext.push x1.sub _)) (.lst (gput_self ..) ((Ext.push x1.sub _).repL r1)) p1⟩
    · cases e'
end
end Mine

/-! UOps -/
namespace Mine

noncomputable def toPys (f : D → Option PyData) : List D → Option (List PyData)
  | [] => some []
  | d :: ds => match f d with
    | none => none
    | some p => match toPys f ds with
      | none => none
      | some ps => some (p :: ps)
noncomputable def toPy : Nat → D → Option PyData
  | _, .none => some .none
  | _, .bool b => some (.bool b)
  | _, .int i => some (.int i)
  | _, .str s => some (.str s)
  | n + 1, .lst l => (toPys (toPy n) l).map .list
  | n + 1, .tup l => (toPys (toPy n) l).map .tuple
  | _, _ => none

theorem toPys_reads {g : Gh} {h : Heap} {n : Nat} (ih : ∀ {d : D} {p : PyData} {v : Value}, toPy n d = some p → Rep g v d → ∃ as, Reads h v p as ∧ p.depth ≤ n) :
    ∀ {ds : List D} {ps : List PyData} {vs : List Value}, toPys (toPy n) ds = some ps → RepL g vs ds → ∃ as, ReadsAll h vs ps as ∧ PyData.depthAll ps ≤ n
  | [], ps, vs, e, r => by cases e; obtain rfl := r.nilInv; exact ⟨[], .nil, Nat.zero_le _⟩
  | d :: ds, ps, vs, e, r => by
    unfold toPys at e
    split at e
    · cases e
    · split at e
      · cases e
      · cases e
        obtain ⟨_, _, rfl, r1, r2⟩ := r.consInv
        ·
          obtain ⟨a1, h1, d1⟩ := ih (by assumption) r1
          obtain ⟨a2, h2, d2⟩ := toPys_reads ih (by assumption) r2
          exact ⟨_, .cons h1 h2, Nat.max_le.mpr ⟨d1, d2⟩⟩
theorem toPy_reads {g : Gh} {h : Heap} (hs : Sub g h) : ∀ (n : Nat) {d : D} {p : PyData} {v : Value}, toPy n d = some p → Rep g v d → ∃ as, Reads h v p as ∧ p.depth ≤ n
  | 0, d, p, v, e, r => by
    cases d <;> first | (cases e; done) | (cases e; obtain ⟨_, rfl⟩ := r.inv; exact ⟨_, .none, Nat.zero_le _⟩) | (cases e; obtain ⟨_, rfl⟩ := r.inv; exact ⟨_, .bool _, Nat.zero_le _⟩) | (cases e; obtain ⟨_, rfl⟩ := r.inv; exact ⟨_, .int _ _, Nat.zero_le _⟩) | (cases e; obtain ⟨_, rfl⟩ := r.inv; exact ⟨_, .str _ _, Nat.zero_le _⟩)
  | n + 1, d, p, v, e, r => by
    cases d with
    | lst l =>
      obtain ⟨ps, e1, rfl⟩ := Option.map_eq_some_iff.mp e
      obtain ⟨_, _, _, rfl, h1, r⟩ := r.inv
      ·
        obtain ⟨as, ra, hd⟩ := toPys_reads (toPy_reads hs n) e1 r
        exact ⟨_, .list (hs _ _ h1) rfl rfl ra, Nat.succ_le_succ hd⟩
    | tup l =>
      obtain ⟨ps, e1, rfl⟩ := Option.map_eq_some_iff.mp e
      obtain ⟨_, _, _, _, rfl, h1, h2, h3, r⟩ := r.inv
      ·
        obtain ⟨as, ra, hd⟩ := toPys_reads (toPy_reads hs n) e1 r
        exact ⟨_, .tuple (hs _ _ h1) h2 h3 ra, Nat.succ_le_succ hd⟩
    | _ => first | (cases e; done) | (cases e; obtain ⟨_, rfl⟩ := r.inv; exact ⟨_, .none, Nat.zero_le _⟩) | (cases e; obtain ⟨_, rfl⟩ := r.inv; exact ⟨_, .bool _, Nat.zero_le _⟩) | (cases e; obtain ⟨_, rfl⟩ := r.inv; exact ⟨_, .int _ _, Nat.zero_le _⟩) | (cases e; obtain ⟨_, rfl⟩ := r.inv; exact ⟨_, .str _ _, Nat.zero_le _⟩)

noncomputable def bnd (i : Int) : Bool := decide (-(2 ^ 64) < i) && decide (i < 2 ^ 64)
theorem bnd_le {i : Int} (h : bnd i = true) : Builtin.Int.intBits i ≤ 64 := by
  obtain ⟨a, b⟩ := Bool.and_eq_true_iff.mp h
  exact intBits_le_64 (of_decide_eq_true a) (of_decide_eq_true b)

noncomputable def addF : D → D → Option D
  | .int a, .int b => some (.int (a + b))
  | .flt a, .flt b => some (.flt (Float64.add a b))
  | .str a, .str b => if a.length + b.length ≤ 1000 then some (.str (a ++ b)) else none
  | .lst a, .lst b => if a.length + b.length ≤ 1000 then some (.lst (a ++ b)) else none
  | _, _ => none
noncomputable def subF : D → D → Option D
  | .int a, .int b => some (.int (a - b))
  | .flt a, .flt b => some (.flt (Float64.sub a b))
  | .flt a, .int b => if Float64.isInf (Float64.ofInt b) then none else some (.flt (Float64.sub a (Float64.ofInt b)))
  | _, _ => none
noncomputable def mulF : D → D → Option D
  | .int a, .int b => if bnd a || bnd b then some (.int (a * b)) else none
  | .flt a, .flt b => some (.flt (Float64.mul a b))
  | .lst [a], .int b => if decide (0 ≤ b) && decide (b ≤ 1000) then some (.lst (List.replicate b.toNat a)) else none
  | _, _ => none
noncomputable def divF : D → D → Option D
  | .flt a, .flt b => if Float64.isZero b then none else some (.flt (Float64.div a b))
  | .int a, .flt b => if Float64.isInf (Float64.ofInt a) || Float64.isZero b then none else some (.flt (Float64.div (Float64.ofInt a) b))
  | _, _ => none
noncomputable def modF : D → D → Option D
  | .int a, .int b => if b = 0 then none else some (.int (a.fmod b))
  | .flt a, .flt b => if Float64.isZero b then none else some (.flt (Float64.divmod a b).snd)
  | _, _ => none
noncomputable def andF : D → D → Option D
  | .int a, .int b => some (.int (Builtin.bitAnd a b))
  | _, _ => none
noncomputable def xorF : D → D → Option D
  | .int a, .int b => some (.int (Builtin.bitXor a b))
  | _, _ => none
noncomputable def shrF : D → D → Option D
  | .int a, .int b => if 0 ≤ b then some (.int (a.fdiv (2 ^ b.toNat))) else none
  | _, _ => none

section
variable {c : Cx} {n : Nat}

theorem size_ok {k : Nat} (h : k ≤ 1000) : k ≤ sizeLine := by rw [sizeLine_eq]; omega

theorem foldl_rep (items : List Value) : ∀ (k : Nat) (acc : Array Value), (List.foldl (fun x1 x2 => x1 ++ x2) acc (List.replicate k items.toArray)) = acc ++ (List.replicate k items).flatten.toArray
  | 0, acc => by simp
  | k + 1, acc => by rw [List.replicate_succ, List.foldl_cons, foldl_rep items k, List.replicate_succ, List.flatten_cons]; simp
theorem flatten_one (v : Value) : ∀ k : Nat, (List.replicate k [v]).flatten = List.replicate k v
  | 0 => rfl
  | k + 1 => by rw [List.replicate_succ, List.flatten_cons, flatten_one v k]; rfl
theorem RepL.replicate {g : Gh} {v : Value} {d : D} (r : Rep g v d) : ∀ k : Nat, RepL g (List.replicate k v) (List.replicate k d)
  | 0 => .nil
  | k + 1 => .cons r (RepL.replicate r k)

theorem addOk : OpOk c n (binaryOp .Add) addF := by
  intro A s g a b d u v Q E o hs ra rb e k
  unfold addF at e
  split at e
  · cases e; obtain ⟨_, rfl⟩ := ra.inv; obtain ⟨_, rfl⟩ := rb.inv; exact PyProof.Rows.add_int (post_here hs k (.int _ _) _)
  · cases e; obtain ⟨_, rfl⟩ := ra.inv; obtain ⟨_, rfl⟩ := rb.inv; exact PyProof.Rows.add_float (post_here hs k (.flt _ _) _)
  · split at e
    · rename_i hl; cases e; obtain ⟨_, rfl⟩ := ra.inv; obtain ⟨_, rfl⟩ := rb.inv
      exact PyProof.Rows.add_str (fun t tk => post_here hs k (.str _ _) _) (size_ok hl)
    · cases e
  · split at e
    · rename_i hl; cases e; obtain ⟨a1, vs1, n1, rfl, h1, r1⟩ := ra.inv; obtain ⟨a2, vs2, n2, rfl, h2, r2⟩ := rb.inv
      ·
          refine P.add_list (hs _ _ h1) (hs _ _ h2) ?_ (by simp only [List.size_toArray]; rw [r1.length, r2.length]; exact size_ok hl)
          rw [List.append_toArray]
          have x := Ext.push hs { cls := .type "list", data := .seq (vs1 ++ vs2 : List Value).toArray } (hf := rfl)
          exact k _ _ _ s.toks x (.lst (gput_self ..) (x.repL (r1.append r2)))
    · cases e
  · cases e
theorem subOk : OpOk c n (binaryOp .Sub) subF := by
  intro A s g a b d u v Q E o hs ra rb e k
  unfold subF at e
  split at e
  · cases e; obtain ⟨_, rfl⟩ := ra.inv; obtain ⟨_, rfl⟩ := rb.inv; exact PyProof.Rows.sub_int (post_here hs k (.int _ _) _)
  · cases e; obtain ⟨_, rfl⟩ := ra.inv; obtain ⟨_, rfl⟩ := rb.inv; exact PyProof.Rows.sub_float (post_here hs k (.flt _ _) _)
  · split at e
    · cases e
    · rename_i hl; cases e; obtain ⟨_, rfl⟩ := ra.inv; obtain ⟨_, rfl⟩ := rb.inv
      exact AutoFloatOps.sub_fi_1 hl (post_here hs k (.flt _ _) _)
  · cases e
theorem mulOk : OpOk c n (binaryOp .Mult) mulF := by
  intro A s g a b d u v Q E o hs ra rb e k
  unfold mulF at e
  split at e
  · split at e
    · rename_i hl; cases e; obtain ⟨_, rfl⟩ := ra.inv; obtain ⟨_, rfl⟩ := rb.inv
      refine PyProof.Rows.mul_int (post_here hs k (.int _ _) _) ?_
      rcases Bool.or_eq_true_iff.mp hl with q | q
      · exact IntMulOk.of_left (bnd_le q)
      · exact IntMulOk.of_right (bnd_le q)
    · cases e
  · cases e; obtain ⟨_, rfl⟩ := ra.inv; obtain ⟨_, rfl⟩ := rb.inv; exact PyProof.Rows.mul_float (post_here hs k (.flt _ _) _)
  · rename_i a0 b
    split at e
    · rename_i hl
      cases e
      obtain ⟨h0, h1⟩ := Bool.and_eq_true_iff.mp hl
      replace h0 := of_decide_eq_true h0
      replace h1 := of_decide_eq_true h1
      obtain ⟨a1, vs1, n1, rfl, ha, r⟩ := ra.inv
      ·
        obtain ⟨t, rfl⟩ := rb.inv
        obtain ⟨v, vs, rfl, r1, r2⟩ := r.consInv
        ·
          obtain rfl := r2.nilInv
          refine wpAny_binaryOp_repeat_ref (T := "list") (U := "int") (by decide) ⟨_, hs _ _ ha, rfl⟩ (fun s' => typeIs_int s' b t) noFill_list_mul F.fills_int_mul F.slot_int_rmul repeat_list F.slot_int_index.lookup
            (call_meets F.slot_int_rmul (typeIs_int s b t) F.entry_int_rmul (F.args_int_rmul_2 _ _) (int___rmul___int_list b t _ _ n1)
              ⟨hs _ _ ha, rfl, ⟨_, hs _ _ ha, rfl⟩, call_meets F.slot_list_mul ⟨_, hs _ _ ha, rfl⟩ F.entry_list_mul (F.args_list_mul_2 _ _)
                (AutoListH.list___mul___list_int_3 _ _ n1 b t (by simp [Builtin.List.listFitsIndex]; omega) (by simp; omega) (by simp [Builtin.List.listTooLong, sizeLine]; omega))
                ⟨hs _ _ ha, ?_⟩⟩)
          have e : (List.foldl (fun x1 x2 => x1 ++ x2) #[] (List.replicate (if ([v] : List Value).toArray.isEmpty = true then 0 else b.toNat) ([v] : List Value).toArray)) = (List.replicate b.toNat v).toArray := by
            rw [foldl_rep, if_neg (by simp), flatten_one]; simp
          rw [e]
          have x := Ext.push hs { cls := .type "list", data := .seq (List.replicate b.toNat v).toArray } (hf := rfl)
          exact k _ _ _ s.toks x (.lst (gput_self ..) (RepL.replicate (x.rep r1) _))
    · cases e
  · cases e
theorem divOk : OpOk c n (binaryOp .Div) divF := by
  intro A s g a b d u v Q E o hs ra rb e k
  unfold divF at e
  split at e
  · split at e
    · cases e
    · rename_i hl; cases e; obtain ⟨_, rfl⟩ := ra.inv; obtain ⟨_, rfl⟩ := rb.inv; exact AutoFloatOps.truediv_1 hl (post_here hs k (.flt _ _) _)
  · split at e
    · cases e
    · rename_i hl; cases e; obtain ⟨_, rfl⟩ := ra.inv; obtain ⟨_, rfl⟩ := rb.inv
      rw [Bool.or_eq_true, not_or] at hl
      exact AutoFloatOps.truediv_if_2 hl.1 hl.2 (post_here hs k (.flt _ _) _)
  · cases e
theorem modOk : OpOk c n (binaryOp .Mod) modF := by
  intro A s g a b d u v Q E o hs ra rb e k
  unfold modF at e
  split at e
  · split at e
    · cases e
    · rename_i hl; cases e; obtain ⟨_, rfl⟩ := ra.inv; obtain ⟨_, rfl⟩ := rb.inv; exact PyProof.Rows.mod_int hl (post_here hs k (.int _ _) _)
  · split at e
    · cases e
    · rename_i hl; cases e; obtain ⟨_, rfl⟩ := ra.inv; obtain ⟨_, rfl⟩ := rb.inv
      exact AutoFloatOps.mod_1 hl (post_here hs k (.flt _ _) _)
  · cases e
theorem andOk : OpOk c n (binaryOp .BitAnd) andF := by
  intro A s g a b d u v Q E o hs ra rb e k
  unfold andF at e
  split at e
  · cases e; obtain ⟨_, rfl⟩ := ra.inv; obtain ⟨_, rfl⟩ := rb.inv; exact PyProof.Rows.and_int (post_here hs k (.int _ _) _)
  · cases e
theorem xorOk : OpOk c n (binaryOp .BitXor) xorF := by
  intro A s g a b d u v Q E o hs ra rb e k
  unfold xorF at e
  split at e
  · cases e; obtain ⟨_, rfl⟩ := ra.inv; obtain ⟨_, rfl⟩ := rb.inv; exact PyProof.Rows.xor_int (post_here hs k (.int _ _) _)
  · cases e
theorem shrOk : OpOk c n (binaryOp .RShift) shrF := by
  intro A s g a b d u v Q E o hs ra rb e k
  unfold shrF at e
  split at e
  · split at e
    · rename_i hl; cases e; obtain ⟨_, rfl⟩ := ra.inv; obtain ⟨_, rfl⟩ := rb.inv; exact PyProof.Rows.rshift_int hl (post_here hs k (.int _ _) _)
    · cases e
  · cases e

/-- equality: of data without floats, or of two floats -/
noncomputable def eqB : D → D → Option Bool
  | .flt a, .flt b => some (Float64.cmp a b == some Ordering.eq)
  | a, b => match toPy 4 a, toPy 4 b with
    | some p, some q => if p.canLay0 && q.canLay0 then some (PyData.eqv p q) else none
    | _, _ => none
noncomputable def eqF (a b : D) : Option D := (eqB a b).map .bool
noncomputable def neF (a b : D) : Option D := (eqB a b).map fun x => .bool (!x)
theorem min_le4 {p q : PyData} (h : p.depth ≤ 4) : min p.depth q.depth ≤ 4000 := by have := Nat.min_le_left p.depth q.depth; omega
theorem eqB_cases {a b : D} {k : Bool} (e : eqB a b = some k) : (∃ x y, a = .flt x ∧ b = .flt y ∧ k = (Float64.cmp x y == some Ordering.eq)) ∨
    ∃ p q, toPy 4 a = some p ∧ toPy 4 b = some q ∧ p.canLay0 = true ∧ q.canLay0 = true ∧ k = PyData.eqv p q := by
  unfold eqB at e
  split at e
  · exact .inl ⟨_, _, rfl, rfl, (Option.some.inj e).symm⟩
  · split at e
    · split at e
      · rename_i h
        obtain ⟨h1, h2⟩ := Bool.and_eq_true_iff.mp h
        exact .inr ⟨_, _, by assumption, by assumption, h1, h2, (Option.some.inj e).symm⟩
      · cases e
    · cases e
theorem eqOk : OpOk c n (compareOp .Eq) eqF := by
  intro A s g a b d u v Q E o hs ra rb e k
  obtain ⟨x, e1, rfl⟩ := Option.map_eq_some_iff.mp e
  rcases eqB_cases e1 with ⟨x, y, rfl, rfl, rfl⟩ | ⟨p, q, h1, h2, h3, h4, rfl⟩
  · obtain ⟨_, rfl⟩ := ra.inv; obtain ⟨_, rfl⟩ := rb.inv; exact AutoFloatOps.eq_0 (post_here hs k (.bool _) s.toks)
  · obtain ⟨as, ra', hd⟩ := toPy_reads hs 4 h1 ra
    obtain ⟨bs, rb', _⟩ := toPy_reads hs 4 h2 rb
    exact SeqAt.compareEq_reads ra' rb' h3 h4 (o.line _ (min_le4 hd)) (post_here hs k (.bool _) s.toks)
theorem neOk : OpOk c n (compareOp .NotEq) neF := by
  intro A s g a b d u v Q E o hs ra rb e k
  obtain ⟨x, e1, rfl⟩ := Option.map_eq_some_iff.mp e
  rcases eqB_cases e1 with ⟨x, y, rfl, rfl, rfl⟩ | ⟨p, q, h1, h2, h3, h4, rfl⟩
  · obtain ⟨_, rfl⟩ := ra.inv; obtain ⟨_, rfl⟩ := rb.inv; exact AutoFloatOps.ne_0 (post_here hs k (.bool _) s.toks)
  · obtain ⟨as, ra', hd⟩ := toPy_reads hs 4 h1 ra
    obtain ⟨bs, rb', _⟩ := toPy_reads hs 4 h2 rb
    exact SeqAt.compareNe_reads ra' rb' h3 h4 (o.line _ (min_le4 hd)) (post_here hs k (.bool _) s.toks)

noncomputable def ltF : D → D → Option D
  | .int a, .int b => some (.bool (decide (a < b)))
  | .flt a, .flt b => some (.bool (Float64.cmp a b == some Ordering.lt))
  | _, _ => none
noncomputable def leF : D → D → Option D
  | .int a, .int b => some (.bool (decide (a ≤ b)))
  | .flt a, .flt b => some (.bool (Float64.cmp a b == some Ordering.lt || Float64.cmp a b == some Ordering.eq))
  | _, _ => none
noncomputable def gtF : D → D → Option D
  | .int a, .int b => some (.bool (decide (b < a)))
  | .flt a, .flt b => some (.bool (Float64.cmp a b == some Ordering.gt))
  | _, _ => none
noncomputable def geF : D → D → Option D
  | .int a, .int b => some (.bool (decide (b ≤ a)))
  | _, _ => none
theorem ltOk : OpOk c n (compareOp .Lt) ltF := by
  intro A s g a b d u v Q E o hs ra rb e k
  unfold ltF at e
  split at e
  · cases e; obtain ⟨_, rfl⟩ := ra.inv; obtain ⟨_, rfl⟩ := rb.inv; exact PyProof.Rows.lt_int (post_here hs k (.bool _) s.toks)
  · cases e; obtain ⟨_, rfl⟩ := ra.inv; obtain ⟨_, rfl⟩ := rb.inv; exact AutoFloatOps.lt_0 (post_here hs k (.bool _) s.toks)
  · cases e
theorem leOk : OpOk c n (compareOp .LtE) leF := by
  intro A s g a b d u v Q E o hs ra rb e k
  unfold leF at e
  split at e
  · cases e; obtain ⟨_, rfl⟩ := ra.inv; obtain ⟨_, rfl⟩ := rb.inv; exact PyProof.Rows.le_int (post_here hs k (.bool _) s.toks)
  · cases e; obtain ⟨_, rfl⟩ := ra.inv; obtain ⟨_, rfl⟩ := rb.inv; exact AutoFloatOps.le_0 (post_here hs k (.bool _) s.toks)
  · cases e
theorem gtOk : OpOk c n (compareOp .Gt) gtF := by
  intro A s g a b d u v Q E o hs ra rb e k
  unfold gtF at e
  split at e
  · cases e; obtain ⟨_, rfl⟩ := ra.inv; obtain ⟨_, rfl⟩ := rb.inv; exact PyProof.Rows.gt_int (post_here hs k (.bool _) s.toks)
  · cases e; obtain ⟨_, rfl⟩ := ra.inv; obtain ⟨_, rfl⟩ := rb.inv; exact AutoFloatOps.gt_0 (post_here hs k (.bool _) s.toks)
  · cases e
theorem geOk : OpOk c n (compareOp .GtE) geF := by
  intro A s g a b d u v Q E o hs ra rb e k
  unfold geF at e
  split at e
  · cases e; obtain ⟨_, rfl⟩ := ra.inv; obtain ⟨_, rfl⟩ := rb.inv; exact PyProof.Rows.ge_int (post_here hs k (.bool _) s.toks)
  · cases e

noncomputable def inB : D → D → Option Bool
  | .str a, .str b => some (!(Builtin.Str.occurrences b a 0 b.length 1).isEmpty)
  | a, .lst l => match toPy 4 a, toPys (toPy 4) l with
    | some p, some qs => if p.canLay0 && PyData.canLayAll0 qs then some (qs.any fun y => PyData.eqv y p) else none
    | _, _ => none
  | _, _ => none
noncomputable def inF (a b : D) : Option D := (inB a b).map .bool
noncomputable def ninF (a b : D) : Option D := (inB a b).map fun x => .bool (!x)
theorem min_le4' {xs : List PyData} {q : PyData} (h : q.depth ≤ 4) : 1 + min (PyData.depthAll xs) q.depth ≤ 4000 := by have := Nat.min_le_right (PyData.depthAll xs) q.depth; omega
theorem inOk : OpOk c n (compareOp .In) inF := by
  intro A s g a b d u v Q E o hs ra rb e k
  obtain ⟨x, e1, rfl⟩ := Option.map_eq_some_iff.mp e
  unfold inB at e1
  split at e1
  · cases e1; obtain ⟨_, rfl⟩ := ra.inv; obtain ⟨_, rfl⟩ := rb.inv; exact P.in_str (post_here hs k (.bool _) s.toks)
  · split at e1
    · split at e1
      · rename_i h1 h2 h
        obtain ⟨h3, h4⟩ := Bool.and_eq_true_iff.mp h
        cases e1
        obtain ⟨as, ra', hd⟩ := toPy_reads hs 4 h1 ra
        obtain ⟨_, _, _, rfl, h5, r⟩ := rb.inv
        ·
          obtain ⟨bs, rb', _⟩ := toPys_reads (toPy_reads hs 4) h2 r
          exact SeqAt.in_list_reads (.list (hs _ _ h5) rfl rfl rb') ra' h4 h3 (by rw [Nat.add_assoc]; exact o.line _ (min_le4' hd)) (post_here hs k (.bool _) s.toks)
      · cases e1
    · cases e1
  · cases e1
theorem ninOk : OpOk c n (compareOp .NotIn) ninF := by
  intro A s g a b d u v Q E o hs ra rb e k
  obtain ⟨x, e1, rfl⟩ := Option.map_eq_some_iff.mp e
  unfold inB at e1
  split at e1
  · cases e1; obtain ⟨_, rfl⟩ := ra.inv; obtain ⟨_, rfl⟩ := rb.inv; exact P.notIn_str (post_here hs k (.bool _) s.toks)
  · split at e1
    · split at e1
      · rename_i h1 h2 h
        obtain ⟨h3, h4⟩ := Bool.and_eq_true_iff.mp h
        cases e1
        obtain ⟨as, ra', hd⟩ := toPy_reads hs 4 h1 ra
        obtain ⟨_, _, _, rfl, h5, r⟩ := rb.inv
        ·
          obtain ⟨bs, rb', _⟩ := toPys_reads (toPy_reads hs 4) h2 r
          exact SeqAt.notIn_list_reads (.list (hs _ _ h5) rfl rfl rb') ra' h4 h3 (by rw [Nat.add_assoc]; exact o.line _ (min_le4' hd)) (post_here hs k (.bool _) s.toks)
      · cases e1
    · cases e1
  · cases e1

noncomputable def trB : D → Option Bool
  | .bool b => some b
  | .int i => some (i != 0)
  | .str s => if s.length ≤ 1000 then some ((s.length : Int) != 0) else none
  | .none => some false
  | _ => none
theorem trOk : TrOk c n trB := by
  intro A s g a b u Q E o hs ra e k
  unfold trB at e
  split at e
  · cases e; obtain ⟨_, rfl⟩ := ra.inv; exact wpAny_truthy_bool (k s.heap _ s.toks (Ext.refl hs))
  · cases e; obtain ⟨_, rfl⟩ := ra.inv; exact PyProof.Rows.truthy_int (k s.heap _ s.toks (Ext.refl hs))
  · split at e
    · rename_i hl; cases e; obtain ⟨_, rfl⟩ := ra.inv; exact P.truthy_str (by omega) (k s.heap _ _ (Ext.refl hs))
    · cases e
  · cases e; obtain ⟨_, rfl⟩ := ra.inv; exact fun _ _ _ => k s.heap _ s.toks (Ext.refl hs)
  · cases e
end
end Mine

/-! UCalls -/
namespace Mine

/-! items and slices -/
noncomputable def sbs (lo hi st : Option Int) (n : Nat) : List Nat := sliceRange (sliceBounds lo hi st n).1 (sliceBounds lo hi st n).2.1 (sliceBounds lo hi st n).2.2
noncomputable def strSlc (x : Str) (lo hi : Option Int) : Str :=
  if ((strSliceIndicesOf lo hi x).length == x.length) = true then x else ⟨((strSliceIndicesOf lo hi x).filterMap (x.cps[·]?)).toArray⟩
where strSliceIndicesOf (lo hi : Option Int) (x : Str) : List Nat := Builtin.Str.strSliceIndices lo hi 1 x.length

noncomputable def dget : List (Int × D) → Int → Option D
  | [], _ => none
  | (k, d) :: r, i => if k = i then some d else dget r i

noncomputable def itmF : D → D → Option D
  | .lst l, .int i => if decide (-(2 ^ 62) < i) && decide (i < 2 ^ 62) then (seqIndex? i l.length).bind (l[·]?) else none
  | .tup l, .int i => if decide (-(2 ^ 62) < i) && decide (i < 2 ^ 62) then (seqIndex? i l.length).bind (l[·]?) else none
  | .str s, .int i => if decide (-(2 ^ 62) < i) && decide (i < 2 ^ 62) then ((seqIndex? i s.length).bind (s.cps[·]?)).map fun c => .str ⟨#[c]⟩ else none
  | .dct l, .int i => dget l i
  | .lst l, .slc lo hi st => if st ≠ some 0 ∧ l.length ≤ 1000 then some (.lst ((sbs lo hi st l.length).filterMap (l[·]?))) else none
  | .str s, .slc lo hi none => if s.length ≤ 1000 then some (.str (strSlc s lo hi)) else none
  | _, _ => none

section
variable {c : Cx} {n : Nat}

theorem RepE.keys {g : Gh} {prog : Program} {w : World} : ∀ {es : List DictEntry} {ks : List (Int × D)}, RepE g es ks → ∀ e ∈ es, ∃ k, (intKind prog w).is k e.key = true ∧ e.hash = (intKind prog w).hash k
  | [], _, _, e, he => by cases he
  | _ :: es, _, h, e, he => by
    cases h with
    | @cons _ _ k t _ _ h1 h2 h3 r =>
      rcases List.mem_cons.mp he with rfl | he
      · exact ⟨k, by rw [h1]; exact intKind_is prog w k t, h2⟩
      · exact RepE.keys r e he
theorem RepE.find {g : Gh} : ∀ {es : List DictEntry} {ks : List (Int × D)}, RepE g es ks → ∀ {i : Int} {d : D}, dget ks i = some d → ∃ v, (es.find? fun e => Value.isInt i e.key).map (·.val) = some v ∧ Rep g v d
  | [], _, r, i, d, h => by cases r; cases h
  | _ :: es, _, r, i, d, h => by
    cases r with
    | @cons e _ k t _ _ h1 h2 h3 r =>
      unfold dget at h
      rw [List.find?_cons, h1]
      split at h
      · rename_i q
        cases h; subst q
        rw [show Value.isInt k (Value.int k t) = true from by simp [Value.isInt]]
        exact ⟨_, rfl, h3⟩
      · rename_i q
        rw [show Value.isInt i (Value.int k t) = false from by simp [Value.isInt]; exact q]
        exact RepE.find r h
theorem rep_mapOf {prog : Program} {w : World} {g : Gh} {h : Heap} {a : Addr} {o : Obj} {es : List DictEntry} {m : Nat} {ks : List (Int × D)} (hs : Sub g h) (ho : g a = some o) (hx : o.ExactDict) (hd : o.data = .dict es.toArray m) (r : RepE g es ks) :
    h.MapOf (intKind prog w) a (fun k => findBy (intKind prog w).is es.toArray k) :=
  ⟨o, _, _, hs _ _ ho, hx, hd, fun e he => r.keys e (by simpa using he), fun _ => rfl⟩

theorem seqIndex_lt {i : Int} {n j : Nat} (h : seqIndex? i n = some j) : j < n ∧ (if i < 0 then i + n else i) = j := by
  unfold seqIndex? at h
  dsimp only at h
  generalize (if i < 0 then i + n else i) = q at h ⊢
  by_cases c : (decide (0 ≤ q) && decide (q < n)) = true
  · rw [if_pos c] at h
    have h2 := Option.some.inj h
    simp only [Bool.and_eq_true, decide_eq_true_eq] at c
    omega
  · rw [if_neg c] at h; cases h

theorem getList {A : Around} {s : Shared} {E : Value → Shared → Prop} {Q : Value → Shared → Prop} {l : Addr} {vs : List Value} {i : Int} {t : Tok} {j : Nat} {v : Value} (hl : s.heap.IsList l vs.toArray) (h1 : -(2 ^ 62) < i) (h2 : i < 2 ^ 62)
    (hj : seqIndex? i vs.length = some j) (hv : vs[j]? = some v) (h : Q v s) : wpAny (model c.prog c.w) A (getItem (.ref l) (.int i t)) Q E s := by
  obtain ⟨q1, q2⟩ := seqIndex_lt hj
  by_cases hi : i < 0
  · rw [if_pos hi] at q2
    refine wpAny_getItem_list_neg hl hi (by simp; omega) (by omega) ?_ h
    have : (i + (vs.toArray.size : Int)).toNat = j := by simp; omega
    rw [this]; simpa using hv
  · rw [if_neg hi] at q2
    refine wpAny_getItem_list hl (by omega) (by omega) ?_ h
    have : i.toNat = j := by omega
    rw [this]; simpa using hv

theorem itmTail {value slice : Expr} (hsl : ∀ o i, ∃ ops, subscripted slice false o i = operate ops (getItem o i)) : OpOk c n (subscriptTail value slice) itmF := by
  intro A s g a b d u v Q E o hs ra rb e k
  unfold itmF at e
  split at e
  · rename_i l0 i0
    split at e
    · rename_i hb
      obtain ⟨h1, h2⟩ := Bool.and_eq_true_iff.mp hb
      obtain ⟨j, hj, hd⟩ := Option.bind_eq_some_iff.mp e
      obtain ⟨a1, vs1, n1, rfl, ha, r⟩ := ra.inv
      ·
        obtain ⟨t, rfl⟩ := rb.inv
        obtain ⟨x, hx, hr⟩ := r.get hd
        have hl : s.heap.IsList a1 vs1.toArray := ⟨_, hs _ _ ha, rfl, n1, rfl⟩
        obtain ⟨ops, ho⟩ := hsl (.ref a1) (.int _ t)
        exact tail_any hl.typeIs slot_list_getitem.lookup (getList hl (of_decide_eq_true h1) (of_decide_eq_true h2) (by rw [r.length]; exact hj) hx (post_here hs k hr s.toks)) ho
    · cases e
  · split at e
    · rename_i hb
      obtain ⟨h1, h2⟩ := Bool.and_eq_true_iff.mp hb
      obtain ⟨j, hj, hd⟩ := Option.bind_eq_some_iff.mp e
      obtain ⟨a1, o1, vs1, n1, rfl, ha, hc, hdd, r⟩ := ra.inv
      ·
        obtain ⟨t, rfl⟩ := rb.inv
        obtain ⟨x, hx, hr⟩ := r.get hd
        have hl : IsTup s.heap a1 vs1.toArray := ⟨o1, hs _ _ ha, hc, n1, hdd⟩
        obtain ⟨ops, ho⟩ := hsl (.ref a1) (.int _ t)
        exact tail_any hl.typeIs slot_tuple_getitem.lookup (PyProof.Rows.getItem_tuple hl (by have := of_decide_eq_true h1; omega) (by have := of_decide_eq_true h2; omega) (by simp only [List.size_toArray]; rw [r.length]; exact hj) (by simpa using hx) (post_here hs k hr s.toks)) ho
    · cases e
  · rename_i x i
    split at e
    · rename_i hb
      obtain ⟨h1, h2⟩ := Bool.and_eq_true_iff.mp hb
      obtain ⟨ch, hc, rfl⟩ := Option.map_eq_some_iff.mp e
      obtain ⟨t, rfl⟩ := ra.inv
      obtain ⟨u, rfl⟩ := rb.inv
      obtain ⟨ops, ho⟩ := hsl (.str x t) (.int i u)
      have h1' := of_decide_eq_true h1
      have h2' := of_decide_eq_true h2
      exact tail_any (typeIs_str s x t) F.slot_str_getitem.lookup (P.getItem_str (by simp; omega) hc (post_here hs k (.str _ _) _)) ho
    · cases e
  · rename_i kl i
    obtain ⟨a1, o1, es1, n1, rfl, hne, ha, hx, hd, r, hnd⟩ := ra.inv
    ·
      obtain ⟨t, rfl⟩ := rb.inv
      obtain ⟨x, hx', hr⟩ := r.find e
      have hm := rep_mapOf (prog := c.prog) (w := c.w) hs ha hx hd r
      obtain ⟨ops, ho⟩ := hsl (.ref a1) (.int i t)
      refine tail_any hm.typeIs slot_dict_getitem.lookup (wpAny_getItem_of (intKind_is c.prog c.w i t) hm (v := x) ?_ (post_here hs k hr _)) ho
      unfold findBy
      rw [List.find?_toArray]
      exact hx'
  · rename_i l0 lo hi st
    split at e
    · rename_i hz
      cases e
      obtain ⟨a1, vs1, n1, rfl, ha, r⟩ := ra.inv
      ·
        obtain ⟨a2, vl, vu, vs, rfl, h2, p1, p2, p3⟩ := rb.inv
        ·
          have hl : s.heap.IsList a1 vs1.toArray := ⟨_, hs _ _ ha, rfl, n1, rfl⟩
          obtain ⟨ops, ho⟩ := hsl (.ref a1) (.ref a2)
          refine tail_any hl.typeIs slot_list_getitem.lookup (wpAny_getItem_list_slice hl ⟨_, hs _ _ h2, rfl, rfl⟩ p1.isPart p2.isPart p3.isPart hz.1 ?_ (by simp only [List.size_toArray]; rw [r.length]; exact size_ok hz.2)) ho
          have e1 : slicePick vs1.toArray lo hi st = ((sbs lo hi st vs1.length).filterMap (vs1[·]?)).toArray := by
            unfold slicePick sbs; simp
          rw [e1]
          have x := Ext.push hs { cls := .type "list", data := .seq ((sbs lo hi st vs1.length).filterMap (vs1[·]?)).toArray } (hf := rfl)
          have hpk := (x.repL r).pick (sbs lo hi st vs1.length)
          rw [r.length] at hpk x ⊢
          exact k _ _ _ s.toks x (.lst (gput_self ..) hpk)
    · cases e
  · rename_i x lo hi
    split at e
    · rename_i hz
      cases e
      obtain ⟨t, rfl⟩ := ra.inv
      obtain ⟨a2, vl, vu, vs, rfl, h2, p1, p2, p3⟩ := rb.inv
      ·
        cases p3
        obtain ⟨ops, ho⟩ := hsl (.str x t) (.ref a2)
        have hp : ∀ {v : Value} {k : Option Int}, PartIs v k → ∃ q : Option (Int × Tok), v = partValue q ∧ q.map (·.1) = k := fun h => by
          cases h with
          | none => exact ⟨none, rfl, rfl⟩
          | int i t => exact ⟨some (i, t), rfl, rfl⟩
        obtain ⟨l, hl1, hl2⟩ := hp p1
        obtain ⟨u, hu1, hu2⟩ := hp p2
        subst hl1 hu1
        refine tail_any (typeIs_str s x t) F.slot_str_getitem.lookup (wpAny_getItem_str_slice (l := l) (u := u) (st := none) ⟨_, hs _ _ h2, rfl, rfl⟩ rfl ?_) ho
        unfold sliceMade slicePicked
        subst hl2 hu2
        have e2 : strSlc x (l.map (·.1)) (u.map (·.1)) = if ((Builtin.Str.strSliceIndices (l.map (·.1)) (u.map (·.1)) 1 x.length).length == x.length) = true then x else ⟨((Builtin.Str.strSliceIndices (l.map (·.1)) (u.map (·.1)) 1 x.length).filterMap (x.cps[·]?)).toArray⟩ := rfl
        have hlen : (Builtin.Str.strSliceIndices (l.map (·.1)) (u.map (·.1)) 1 x.length).length ≤ x.length := by
          unfold Builtin.Str.strSliceIndices
          refine sliceRange_length_le _ _ _ _ (fun _ => ?_) (fun hh => absurd (by decide) hh)
          constructor
          · dsimp only
            split
            · simp
            · split <;> omega
          · dsimp only
            split
            · simp
            · split <;> omega
        show (if ((1 : Int) == 1 && (Builtin.Str.strSliceIndices (l.map (·.1)) (u.map (·.1)) 1 x.length).length == x.length) = true then Made.val (.str x t) else Made.str _).post Q s
        rw [show ((1 : Int) == 1) = true from rfl, Bool.true_and]
        by_cases q : ((Builtin.Str.strSliceIndices (l.map (·.1)) (u.map (·.1)) 1 x.length).length == x.length) = true
        · rw [if_pos q]
          rw [if_pos q] at e2
          exact post_here hs k (by rw [e2]; exact .str _ _) s.toks
        · rw [if_neg q]
          rw [if_neg q] at e2
          refine ⟨?_, post_here hs k (by rw [e2]; exact .str _ _) _⟩
          show (List.toArray _).size ≤ sizeLine
          rw [List.size_toArray]
          exact Nat.le_trans (List.length_filterMap_le _ _) (Nat.le_trans hlen (size_ok hz))
    · cases e
  · cases e
end

section
variable {c : Cx} {n : Nat} {sc : Scope} {vars : List Str}

theorem Ev.item {v i : Expr} {p : Pos} {f g : List D → Option D} (hv : Ev c n sc vars v f) (hi : Ev c n sc vars i g) (hsl : ∀ o k, ∃ ops, subscripted i false o k = operate ops (getItem o k)) :
    Ev c n sc vars (.Subscript v i p) (bin2 itmF f g) := fun _ _ _ _ _ _ _ _ o G hs V hp e k => Subscript_ (Ev.two hv hi (itmTail hsl) o G hs V hp e k)

noncomputable def EvO (c : Cx) (n : Nat) (sc : Scope) (vars : List Str) (e : Option Expr) (f : List D → Option (Option Int)) : Prop :=
  ∀ (env : Env) (A : Around) (s : Shared) (g : Gh) (ρ : List D) (d : Option Int) (Q : Value → Shared → Prop) (E : Value → Shared → Prop),
    Ok A n → Gd c.K c.mg c.mb s.heap → Sub g s.heap → View sc env vars ρ g s.heap → 0 < s.toks → f ρ = some d →
    (∀ v h' g' tk', Ext s.heap g h' g' → PartIs v d → 0 < tk' → Q v { s with heap := h', toks := tk' }) → wpAny (model c.prog c.w) A (evalPart e env) Q E s
noncomputable def partF : D → Option (Option Int)
  | .none => some none
  | .int i => some (some i)
  | _ => none
theorem EvO.none : EvO c n sc vars none (fun _ => some none) :=
  fun _ _ s _ _ _ _ _ _ _ hs _ hp e k => by cases e; exact wpAny_pure (k _ s.heap _ s.toks (Ext.refl hs) .none hp)
theorem EvO.some {e : Expr} {f : List D → Option D} (h : Ev c n sc vars e f) : EvO c n sc vars (some e) (un1 partF f) := by
  intro env A s g ρ d Q E ok G hs V hp e' k
  obtain ⟨a, e1, e2⟩ := un1_some e'
  refine h env A s g ρ a Q E ok G hs V hp e1 fun v h' g' t' x r p => k v h' g' t' x ?_ p
  unfold partF at e2
  split at e2
  · cases e2; cases r; exact .none
  · cases e2; cases r; exact .int _ _
  · cases e2
noncomputable def slcE (a b s : List D → Option (Option Int)) : List D → Option D := fun ρ => match a ρ with
  | none => none
  | some x => match b ρ with
    | none => none
    | some y => match s ρ with
      | none => none
      | some z => some (.slc x y z)
theorem Ev.slice {a b s : Option Expr} {p : Pos} {f g h : List D → Option (Option Int)} (ha : EvO c n sc vars a f) (hb : EvO c n sc vars b g) (hc : EvO c n sc vars s h) :
    Ev c n sc vars (.Slice a b s p) (slcE f g h) := by
  intro env A s g0 ρ d Q E ok G hs V hp e' k
  unfold slcE at e'
  split at e'
  · cases e'
  · split at e'
    · cases e'
    · split at e'
      · cases e'
      · cases e'
        refine wpAny_Slice ?_
        refine ha env A s g0 ρ _ _ E ok G hs V hp (by assumption) fun v1 h1 g1 t1 x1 q1 p1 => ?_
        refine hb env A _ g1 ρ _ _ E ok (G.keeps x1.keep) x1.sub (V.ext x1) p1 (by assumption) fun v2 h2 g2 t2 x2 q2 p2 => ?_
        have x12 := x1.trans x2
        refine hc env A _ g2 ρ _ _ E ok (G.keeps x12.keep) x12.sub (V.ext x12) p2 (by assumption) fun v3 h3 g3 t3 x3 q3 p3 => ?_
        exact k _ _ _ _ ((x12.trans x3).trans (Ext.push x3.sub _)) (.slc (gput_self ..) q1 q2 q3) p3

noncomputable def negF : D → Option D
  | .int i => some (.int (-i))
  | _ => none
theorem Ev.neg {e : Expr} {p : Pos} {f : List D → Option D} (h : Ev c n sc vars e f) : Ev c n sc vars (.UnaryOp .USub e p) (un1 negF f) := by
  intro env A s g ρ d Q E ok G hs V hp e' k
  obtain ⟨a, e1, e2⟩ := un1_some e'
  refine wpAny_UnaryOp (h env A s g ρ a _ E ok G hs V hp e1 fun v h' g' t' x r p => ?_)
  unfold negF at e2
  split at e2
  · cases e2; cases r
    exact PyProof.Rows.neg_int (k _ _ _ _ x (.int _ _) (Nat.succ_pos _))
  · cases e2
theorem Ev.or2 {a b : Expr} {p : Pos} {f g : List D → Option D} {tr : D → Option Bool} (ha : Ev c n sc vars a f) (hb : Ev c n sc vars b g) (ht : TrOk c n tr) :
    Ev c n sc vars (.BoolOp .Or [a, b] p) (fun ρ => match f ρ with
      | none => none
      | some x => match tr x with
        | none => none
        | some true => some x
        | some false => g ρ) := by
  intro env A s g0 ρ d Q E ok G hs V hp e' k
  refine wpAny_Or2 ?_
  dsimp only at e'
  split at e'
  · cases e'
  · rename_i x hx
    refine ha env A s g0 ρ x _ E ok G hs V hp hx fun v1 h1 g1 t1 x1 q1 p1 => ?_
    split at e'
    · cases e'
    · cases e'
      exact toksT p1 (ht A _ g1 _ true v1 _ E ok x1.sub q1 (by assumption) fun h2 g2 t2 x2 p2 => k _ _ _ _ (x1.trans x2) (x2.rep q1) p2)
    · exact toksT p1 (ht A _ g1 _ false v1 _ E ok x1.sub q1 (by assumption) fun h2 g2 t2 x2 p2 => hb env A _ g2 ρ d Q E ok (G.keeps (x1.trans x2).keep) x2.sub (V.ext (x1.trans x2)) p2 e' fun v3 h3 g3 t3 x3 r3 p3 => k _ _ _ _ ((x1.trans x2).trans x3) r3 p3)
end
end Mine

/-! UCall2 -/
namespace Mine

/-- what a call asks -/
noncomputable def CallOk (c : Cx) (n : Nat) (fv : Value) (F : List D → Option D) : Prop :=
  ∀ (A : Around) (s : Shared) (g : Gh) (vs : List Value) (ds : List D) (d : D) (Q : Value → Shared → Prop) (E : Value → Shared → Prop),
    Ok A n → Gd c.K c.mg c.mb s.heap → Sub g s.heap → RepL g vs ds → 0 < s.toks → F ds = some d → Post s g d Q → wpAny (model c.prog c.w) A (call fv vs) Q E s

inductive Callee (c : Cx) : Value → Prop
  | builtin (id : String) : Callee c (.builtin id)
  | type (T : String) : Callee c (.type T)
  | kept {fv : Value} : keepIn c.K fv = true → Callee c fv

inductive NameV (c : Cx) (sc : Scope) (x : Str) (fv : Value) : Prop
  | glob : sc.names.lookup x = some .globalImplicit → nsIn c.K mainGlobals x = some (some fv) → NameV c sc x fv
  | boot : sc.names.lookup x = some .globalImplicit → nsIn c.K mainGlobals x = some none → bootBuiltins x = some fv → x ≠ "__name__" → NameV c sc x fv

section
variable {c : Cx} {n : Nat} {sc : Scope} {vars : List Str}

theorem evalName {x : Str} {p : Pos} {fv : Value} (hx : NameV c sc x fv) (hd : (x == ("__debug__" : Str)) = false) {env : Env} {A : Around} {s : Shared} {ρ : List D} {g : Gh} {Q : Value → Shared → Prop} {E : Value → Shared → Prop}
    (G : Gd c.K c.mg c.mb s.heap) (V : View sc env vars ρ g s.heap) (k : Q fv s) : wpAny (model c.prog c.w) A (eval (.Name x p) env) Q E s := by
  cases hx with
  | glob h1 h2 => exact Calls.Name_function_global (by rw [V.es]; exact V.fn) (by show env.scope.names.lookup x = _; rw [V.es]; exact h1) (Calls.loadGlobal_global (by rw [V.gl]; exact G.g) (mg_of G.k G.g h2) k) hd
  | boot h1 h2 h3 h4 => exact Calls.Name_function_global (by rw [V.es]; exact V.fn) (by show env.scope.names.lookup x = _; rw [V.es]; exact h1) (Calls.loadGlobal_builtin (by rw [V.gl]; exact G.g) (mg_none_of G.k G.g h2) (by rw [V.bn]; exact G.b) ((G.bi x h4).trans h3) k) hd

theorem evalArgs_all {M : Model} {A : Around} {E : Value → Shared → Prop} {s : Shared} {f : Value} {trees : List (Bool × Sem Value)} {Q : Args → Shared → Prop} (hplain : trees.any (·.1) = false)
    (h : wpAny M A (spliced trees) (fun vs s' => Q ⟨vs, []⟩ s') E s) : wpAny M A (evalArgs f true trees []) Q E s := by
  cases trees with
  | nil =>
    unfold evalArgs
    show wpAny M A (spliced [] >>= _) Q E s
    refine wpAny_bind (wpAny_mono h (fun vs s' h' => ?_) fun _ _ x => x)
    refine wpAny_bind (wpAny_pure ?_)
    refine wpAny_holding ?_
    exact wpAny_bind (wpAny_pure (wpAny_bind (wpAny_pure (wpAny_pure h'))))
  | cons t r =>
    obtain ⟨b, x⟩ := t
    have : b = false := by
      rw [List.any_cons] at hplain
      exact (Bool.or_eq_false_iff.mp hplain).1
    subst this
    exact Calls.evalArgs_plain h

theorem callWith_callee {fv : Value} {A : Around} {E : Value → Shared → Prop} {s : Shared} {p : Pos} {first : List Value} {trees : List (Bool × Sem Value)} {Q : Value → Shared → Prop} (hk : Callee c fv)
    (hplain : trees.any (·.1) = false)
    (h : wpAny (model c.prog c.w) A (spliced trees) (fun vs s₁ => c.K.In s₁.heap ∧ wpAny (model c.prog c.w) A (call fv (first ++ vs)) Q E s₁) E s) :
    wpAny (model c.prog c.w) A (callWith p fv first trees []) Q E s := by
  cases hk with
  | builtin id => exact Calls.callWith_builtin hplain (evalArgs_all hplain (wpAny_mono h (fun _ _ q => q.2) fun _ _ q => q))
  | type T => exact PySem.callWith_type hplain (evalArgs_all hplain (wpAny_mono h (fun _ _ q => q.2) fun _ _ q => q))
  | kept hk => exact callWith_of (P := c.K.In) (by rw [hplain]; rfl) (keeps_K hk) (evalArgs_all hplain h)

noncomputable def callE (F : List D → Option D) (f : List D → Option (List D)) : List D → Option D := fun ρ => match f ρ with
  | none => none
  | some ds => F ds

theorem Ev.call {x : Str} {p pos : Pos} {es : List Expr} {fv : Value} {f : List D → Option (List D)} {F : List D → Option D} (hx : NameV c sc x fv) (hd : (x == ("__debug__" : Str)) = false) (hargs : EvL c n sc vars es f) (hk : Callee c fv) (hc : CallOk c n fv F)
    (hplain : ∀ env, (backTo pos (starEach es env)).any (·.1) = false) : Ev c n sc vars (.Call (.Name x p) es [] pos) (callE F f) := by
  intro env A s g ρ d Q E ok G hs V hp e k
  unfold callE at e
  split at e
  · cases e
  · refine wpAny_Call_Name_kw (evalName hx hd G V ?_)
    refine callWith_callee hk (hplain env) ?_
    refine hargs env A s g ρ _ _ _ E ok G hs V hp (by assumption) fun vs h1 g1 t1 x1 r1 p1 => ?_
    exact ⟨(G.keeps x1.keep).k, toksT p1 (hc A _ g1 vs _ d _ E ok (G.keeps x1.keep) x1.sub r1 p1 e fun v h2 g2 t2 x2 r2 p2 => k v h2 g2 t2 (x1.trans x2) r2 p2)⟩

/-! the builtins -/
theorem RepL.one {g : Gh} {vs : List Value} {d : D} (r : RepL g vs [d]) : ∃ v, vs = [v] ∧ Rep g v d := by
  obtain ⟨_, _, rfl, a, b⟩ := r.consInv; obtain rfl := b.nilInv; exact ⟨_, rfl, a⟩
theorem RepL.two {g : Gh} {vs : List Value} {d e : D} (r : RepL g vs [d, e]) : ∃ v w, vs = [v, w] ∧ Rep g v d ∧ Rep g w e := by
  obtain ⟨_, _, rfl, a, b⟩ := r.consInv; obtain ⟨w, rfl, q⟩ := RepL.one b; exact ⟨_, _, rfl, a, q⟩
theorem RepL.three {g : Gh} {vs : List Value} {d e f : D} (r : RepL g vs [d, e, f]) : ∃ u v w, vs = [u, v, w] ∧ Rep g u d ∧ Rep g v e ∧ Rep g w f := by
  obtain ⟨_, _, rfl, a, b⟩ := r.consInv; obtain ⟨v, w, rfl, q⟩ := RepL.two b; exact ⟨_, _, _, rfl, a, q⟩

noncomputable def lenF : List D → Option D
  | [.str s] => if s.length ≤ 1000 then some (.int s.length) else none
  | [.lst l] => if l.length ≤ 1000 then some (.int l.length) else none
  | _ => none
theorem lenOk : CallOk c n (.builtin "len") lenF := by
  intro A s g vs ds d Q E o G hs r hp e k
  unfold lenF at e
  split at e
  · split at e
    · rename_i hl
      cases e
      obtain ⟨v, rfl, rr⟩ := r.one
      obtain ⟨_, rfl⟩ := rr.inv
      exact P.len_str (by omega) (post_here hs k (.int _ _) _)
    · cases e
  · split at e
    · rename_i hl
      cases e
      obtain ⟨v, rfl, rr⟩ := r.one
      obtain ⟨a1, vs1, n1, rfl, ha, r⟩ := rr.inv
      ·
        refine Calls.call_len_list ⟨_, hs _ _ ha, rfl, n1, rfl⟩ (by simp only [List.size_toArray]; rw [r.length]; omega) ?_
        rw [List.size_toArray, r.length]
        exact post_here hs k (.int _ _) _
    · cases e
  · cases e

noncomputable def intF : List D → Option D
  | [.flt x] => match Float64.decode x with
    | .fin sg m e => some (.int (Float64.truncOf sg m e))
    | _ => none
  | _ => none
theorem intOk : CallOk c n (.type "int") intF := by
  intro A s g vs ds d Q E o G hs r hp e k
  unfold intF at e
  split at e
  · split at e
    · rename_i hd
      cases e
      obtain ⟨v, rfl, rr⟩ := r.one
      obtain ⟨_, rfl⟩ := rr.inv
      exact call_int_float hd (post_here hs k (.int _ _) _)
    · cases e
  · cases e

noncomputable def rngF : List D → Option D
  | [.int i] => if decide (0 ≤ i) && decide (i ≤ 1000) then some (.rng i.toNat) else none
  | _ => none
theorem rngOk : CallOk c n (.type "range") rngF := by
  intro A s g vs ds d Q E o G hs r hp e k
  unfold rngF at e
  split at e
  · rename_i i
    split at e
    · rename_i hl
      cases e
      obtain ⟨h0, h1⟩ := Bool.and_eq_true_iff.mp hl
      replace h0 := of_decide_eq_true h0
      replace h1 := of_decide_eq_true h1
      obtain ⟨v, rfl, rr⟩ := r.one
      obtain ⟨t, rfl⟩ := rr.inv
      refine call_range_1 ?_
      have e1 : ((i.toNat : Nat) : Int) = i := Int.toNat_of_nonneg h0
      have x := Ext.push hs { cls := .type "range", data := .fields #[.int 0 s.toks, .int i t, .int 1 (s.toks + 1)] } (hf := rfl)
      exact k _ _ _ _ x (.rng (t := s.toks) (u := t) (v := s.toks + 1) (by rw [gput_self]; simp only [rngObj]; rw [e1]) (by omega))
    · cases e
  · cases e

noncomputable def minF : List D → Option D
  | [.int a, .int b] => some (.int (if b < a then b else a))
  | [.flt a, .flt b, .flt d] =>
    let m := if (Float64.cmp b a == some Ordering.lt) = true then b else a
    some (.flt (if (Float64.cmp d m == some Ordering.lt) = true then d else m))
  | _ => none
noncomputable def maxF : List D → Option D
  | [.flt a, .flt b, .flt d] =>
    let m := if (Float64.cmp b a == some Ordering.gt) = true then b else a
    some (.flt (if (Float64.cmp d m == some Ordering.gt) = true then d else m))
  | _ => none

noncomputable def fAt (a b d : UInt64) : Nat → UInt64
  | 0 => a
  | 1 => b
  | _ => d
theorem three_at {a b d : UInt64} {t u x : Tok} {i : Nat} {v : Value} (h : (#[Value.float a t, .float b u, .float d x] : Array Value)[i]? = some v) : ∃ t, v = .float (fAt a b d i) t := by
  match i with
  | 0 => simp at h; exact ⟨_, h.symm⟩
  | 1 => simp at h; exact ⟨_, h.symm⟩
  | 2 => simp at h; exact ⟨_, h.symm⟩
  | i + 3 => simp at h
theorem cmp_three_gt {prog : Program} {w : World} {A : Around} {a b d : UInt64} {t u x : Tok} :
    CmpOf prog w A .Gt (fun i v => (#[Value.float a t, .float b u, .float d x] : Array Value)[i]? = some v) (fun i j => Float64.cmp (fAt a b d i) (fAt a b d j) == some Ordering.gt) := by
  intro i j vi vj s Q E hi hj h
  obtain ⟨_, rfl⟩ := three_at hi
  obtain ⟨_, rfl⟩ := three_at hj
  exact AutoFloatOps.gt_0 h
theorem cmp_three_lt {prog : Program} {w : World} {A : Around} {a b d : UInt64} {t u x : Tok} :
    CmpOf prog w A .Lt (fun i v => (#[Value.float a t, .float b u, .float d x] : Array Value)[i]? = some v) (fun i j => Float64.cmp (fAt a b d i) (fAt a b d j) == some Ordering.lt) := by
  intro i j vi vj s Q E hi hj h
  obtain ⟨_, rfl⟩ := three_at hi
  obtain ⟨_, rfl⟩ := three_at hj
  exact AutoFloatOps.lt_0 h
theorem old_three {h h' : Heap} {o p : Obj} (hk : ∀ b x, b ∉ [(h.push o).objs.size] → ((h.push o).push p).get? b = some x → h'.get? b = some x) : ∀ b x, h.get? b = some x → h'.get? b = some x := by
  intro b x e
  refine hk b x (fun hm => ?_) (Heap.get?_push_of_some _ (Heap.get?_push_of_some _ e))
  rcases List.mem_cons.mp hm with e1 | hm
  · have := Heap.lt_size e; rw [e1, Heap.size_push] at this; exact Nat.lt_irrefl _ (Nat.lt_of_succ_lt this)
  · cases hm

theorem maxOk : CallOk c n (.builtin "max") maxF := by
  intro A s g vs ds d Q E o G hs r hp e k
  unfold maxF at e
  split at e
  · rename_i a b d'
    cases e
    obtain ⟨v1, v2, v3, rfl, r1, r2, r3⟩ := r.three
    obtain ⟨t, rfl⟩ := r1.inv
    obtain ⟨u, rfl⟩ := r2.inv
    obtain ⟨x, rfl⟩ := r3.inv
    have hT : (s.heap.push { cls := .type "tuple", data := .seq #[.float a t, .float b u, .float d' x] }).IsTuple s.heap.objs.size #[.float a t, .float b u, .float d' x] := ⟨_, Heap.get?_push_size _ rfl, rfl, 0, rfl⟩
    refine call_max_three (wpAny_pyIter_tuple hT ?_)
    have hsz : (s.heap.push { cls := .type "tuple", data := .seq #[.float a t, .float b u, .float d' x] }).objs.size = s.heap.objs.size + 1 := Heap.size_push ..
    refine ⟨_, [_, s.heap.objs.size], [_], _, _, _, _, rfl, Walks.tuple (A := A.in1) o.h _ s.heap.objs.size (by rw [hsz]; exact Nat.ne_of_lt (Nat.lt_succ_self _)) #[.float a t, .float b u, .float d' x],
      ⟨⟨_, Heap.get?_push_size _ rfl, rfl, rfl⟩, hT.push _⟩, fun q hq => ?_, by simp, cmp_three_gt, fun v h' tk hP hk => ?_⟩
    · show q < ((s.heap.push _).push _).objs.size
      rw [Heap.size_push, hsz]
      rcases List.mem_cons.mp hq with rfl | hq
      · rw [hsz]; exact Nat.lt_succ_self _
      · rcases List.mem_cons.mp hq with rfl | hq
        · exact Nat.lt_succ_of_lt (Nat.lt_succ_self _)
        · cases hq
    · obtain ⟨t', rfl⟩ := three_at hP
      have xx := Ext.keeps hs (old_three hk)
      refine k _ _ _ _ xx ?_
      have : fAt a b d' (argBest (fun i j => Float64.cmp (fAt a b d' i) (fAt a b d' j) == some Ordering.gt) ((#[Value.float a t, .float b u, .float d' x] : Array Value).size - 1)) =
          (if (Float64.cmp d' (if (Float64.cmp b a == some Ordering.gt) = true then b else a) == some Ordering.gt) = true then d' else (if (Float64.cmp b a == some Ordering.gt) = true then b else a)) := by
        show fAt a b d' (argBest _ 2) = _
        by_cases h1 : (Float64.cmp b a == some Ordering.gt) = true
        · by_cases h2 : (Float64.cmp d' b == some Ordering.gt) = true
          · simp [argBest, fAt, h1, h2]
          · simp [argBest, fAt, h1, h2]
        · by_cases h2 : (Float64.cmp d' a == some Ordering.gt) = true
          · simp [argBest, fAt, h1, h2]
          · simp [argBest, fAt, h1, h2]
      rw [this]
      exact .flt _ _
  · cases e

theorem minOk : CallOk c n (.builtin "min") minF := by
  intro A s g vs ds d Q E o G hs r hp e k
  unfold minF at e
  split at e
  · cases e
    obtain ⟨v1, v2, rfl, r1, r2⟩ := r.two
    obtain ⟨_, rfl⟩ := r1.inv; obtain ⟨_, rfl⟩ := r2.inv
    refine min_two_ints o.h fun h' tk hk => ?_
    have x := Ext.keeps hs hk
    refine k _ _ _ _ x ?_
    split <;> exact .int _ _
  · rename_i a b d'
    cases e
    obtain ⟨v1, v2, v3, rfl, r1, r2, r3⟩ := r.three
    obtain ⟨t, rfl⟩ := r1.inv
    obtain ⟨u, rfl⟩ := r2.inv
    obtain ⟨x, rfl⟩ := r3.inv
    have hT : (s.heap.push { cls := .type "tuple", data := .seq #[.float a t, .float b u, .float d' x] }).IsTuple s.heap.objs.size #[.float a t, .float b u, .float d' x] := ⟨_, Heap.get?_push_size _ rfl, rfl, 0, rfl⟩
    refine call_min_three (wpAny_pyIter_tuple hT ?_)
    have hsz : (s.heap.push { cls := .type "tuple", data := .seq #[.float a t, .float b u, .float d' x] }).objs.size = s.heap.objs.size + 1 := Heap.size_push ..
    refine ⟨_, [_, s.heap.objs.size], [_], _, _, _, _, rfl, Walks.tuple (A := A.in1) o.h _ s.heap.objs.size (by rw [hsz]; exact Nat.ne_of_lt (Nat.lt_succ_self _)) #[.float a t, .float b u, .float d' x],
      ⟨⟨_, Heap.get?_push_size _ rfl, rfl, rfl⟩, hT.push _⟩, fun q hq => ?_, by simp, cmp_three_lt, fun v h' tk hP hk => ?_⟩
    · show q < ((s.heap.push _).push _).objs.size
      rw [Heap.size_push, hsz]
      rcases List.mem_cons.mp hq with rfl | hq
      · rw [hsz]; exact Nat.lt_succ_self _
      · rcases List.mem_cons.mp hq with rfl | hq
        · exact Nat.lt_succ_of_lt (Nat.lt_succ_self _)
        · cases hq
    · obtain ⟨t', rfl⟩ := three_at hP
      have xx := Ext.keeps hs (old_three hk)
      refine k _ _ _ _ xx ?_
      have : fAt a b d' (argBest (fun i j => Float64.cmp (fAt a b d' i) (fAt a b d' j) == some Ordering.lt) ((#[Value.float a t, .float b u, .float d' x] : Array Value).size - 1)) =
          (if (Float64.cmp d' (if (Float64.cmp b a == some Ordering.lt) = true then b else a) == some Ordering.lt) = true then d' else (if (Float64.cmp b a == some Ordering.lt) = true then b else a)) := by
        show fAt a b d' (argBest _ 2) = _
        by_cases h1 : (Float64.cmp b a == some Ordering.lt) = true
        · by_cases h2 : (Float64.cmp d' b == some Ordering.lt) = true
          · simp [argBest, fAt, h1, h2]
          · simp [argBest, fAt, h1, h2]
        · by_cases h2 : (Float64.cmp d' a == some Ordering.lt) = true
          · simp [argBest, fAt, h1, h2]
          · simp [argBest, fAt, h1, h2]
      rw [this]
      exact .flt _ _
  · cases e

/-! the sum of a list of whole numbers -/
noncomputable def intsOf : List D → Option (List Int)
  | [] => some []
  | .int i :: r => (intsOf r).map (i :: ·)
  | _ => none
noncomputable def sumL : List Int → Int
  | [] => 0
  | i :: r => i + sumL r
noncomputable def sumF : List D → Option D
  | [.lst l] => (intsOf l).map fun xs => .int (sumL xs)
  | _ => none
theorem intsOf_get {g : Gh} : ∀ {l : List D} {xs : List Int} {vs : List Value}, intsOf l = some xs → RepL g vs l → ∀ {i : Nat} {v : Value}, vs[i]? = some v → ∃ t, v = .int (xs.getD i 0) t
  | [], xs, vs, e, r, i, v, h => by cases e; cases r; simp at h
  | d :: l, xs, vs, e, r, i, v, h => by
    unfold intsOf at e
    split at e
    · rename_i heq; cases heq
    · rename_i heq
      cases heq
      obtain ⟨ys, e1, rfl⟩ := Option.map_eq_some_iff.mp e
      obtain ⟨_, _, rfl, r1, r2⟩ := r.consInv
      ·
        match i with
        | 0 => simp at h; subst h; obtain ⟨t, rfl⟩ := r1.inv; exact ⟨t, by simp⟩
        | i + 1 => simpa using intsOf_get e1 r2 (i := i) (by simpa using h)
    · cases e
theorem intsOf_len : ∀ {l : List D} {xs : List Int}, intsOf l = some xs → xs.length = l.length
  | [], xs, e => by cases e; rfl
  | d :: l, xs, e => by
    unfold intsOf at e
    split at e
    · rename_i heq; cases heq
    · rename_i heq
      cases heq
      obtain ⟨ys, e1, rfl⟩ := Option.map_eq_some_iff.mp e
      rw [List.length_cons, List.length_cons, intsOf_len e1]
    · cases e
theorem preSum_take (xs : List Int) : ∀ k, k ≤ xs.length → preSum (fun i => xs.getD i 0) k = sumL (xs.take k)
  | 0, _ => by simp [preSum, sumL]
  | k + 1, h => by
    have ih := preSum_take xs k (by omega)
    unfold preSum
    rw [ih]
    have : xs.take (k + 1) = xs.take k ++ [xs.getD k 0] := by
      rw [List.take_add_one]
      have : xs[k]? = some (xs.getD k 0) := by rw [List.getD_eq_getElem?_getD]; rw [List.getElem?_eq_getElem (by omega)]; rfl
      rw [this]; rfl
    rw [this]
    have app : ∀ (a b : List Int), sumL (a ++ b) = sumL a + sumL b := by
      intro a b
      induction a with
      | nil => simp [sumL]
      | cons x a ih => simp only [List.cons_append, sumL, ih]; omega
    rw [app]; simp [sumL]
theorem sumOk : CallOk c n (.builtin "sum") sumF := by
  intro A s g vs ds d Q E o G hs r hp e k
  unfold sumF at e
  split at e
  · obtain ⟨xs, e1, rfl⟩ := Option.map_eq_some_iff.mp e
    obtain ⟨v, rfl, rr⟩ := r.one
    obtain ⟨a1, vs1, n1, rfl, ha, r⟩ := rr.inv
    ·
      have hl : s.heap.IsList a1 vs1.toArray := ⟨_, hs _ _ ha, rfl, n1, rfl⟩
      have ha' := Heap.lt_size (hs _ _ ha)
      refine call_sum_walkG (PySem.Flt.iter_list_ hl fun s₂ e st hfp hlI => ?_)
      subst e
      refine ⟨_, _, _, _, _, _, fun i => xs.getD i 0, rfl, Walks.list (A := A.in1) o.h _ a1 hlI vs1.toArray, st, hfp, fun i v hv => intsOf_get e1 r (by simpa using hv), fun h' tk t' hk => ?_⟩
      have hkk : ∀ b o', s.heap.get? b = some o' → h'.get? b = some o' := fun b o' e => by
        refine hk b o' (fun hm => ?_) (Heap.get?_push_of_some _ e)
        rcases List.mem_cons.mp hm with e2 | hm
        · have := Heap.lt_size e; rw [e2] at this; exact Nat.lt_irrefl _ this
        · cases hm
      have x := Ext.keeps hs hkk
      have e3 : preSum (fun i => xs.getD i 0) vs1.toArray.size = sumL xs := by
        rw [List.size_toArray, r.length, ← intsOf_len e1, preSum_take xs _ (Nat.le_refl _), List.take_length]
      rw [e3]
      exact k _ _ _ _ x (.int _ _)
  · cases e
end
end Mine

/-! UMeth -/
open Builtin.Str
namespace Mine

/-- getting the method off what it is called on -/
noncomputable def MethV (name : Str) (id : String) (okd : D → Bool) : Prop :=
  ∀ (M : Model) (A : Around) (s : Shared) (g : Gh) (v : Value) (d : D) (pl : Sem Bool) (Q : Value × List Value → Shared → Prop) (E : Value → Shared → Prop),
    Sub g s.heap → Rep g v d → okd d = true → Q (.builtin id, [v]) s → wpAny M A (getMethod v name pl) Q E s

noncomputable def isStr : D → Bool
  | .str _ => true
  | _ => false
theorem meth_str {name : Str} {id : String} (h : ∀ (M : Model) (A : Around) (s : Shared) (x : Str) (t : Tok) (pl : Sem Bool) (Q : Value × List Value → Shared → Prop) (E : Value → Shared → Prop),
    Q (.builtin id, [.str x t]) s → wpAny M A (getMethod (.str x t) name pl) Q E s) : MethV name id isStr := by
  intro M A s g v d pl Q E hs r ho k
  cases d <;> first | (cases ho; done) | (cases r; exact h M A s _ _ pl Q E k)
theorem m_upper : MethV "upper" "str.upper" isStr := meth_str fun _ _ _ _ _ _ _ _ k => GM.upper k
theorem m_lower : MethV "lower" "str.lower" isStr := meth_str fun _ _ _ _ _ _ _ _ k => GM.lower k
theorem m_startswith : MethV "startswith" "str.startswith" isStr := meth_str fun _ _ _ _ _ _ _ _ k => GM.startswith k
theorem m_endswith : MethV "endswith" "str.endswith" isStr := meth_str fun _ _ _ _ _ _ _ _ k => GM.endswith k
theorem m_find : MethV "find" "str.find" isStr := meth_str fun _ _ _ _ _ _ _ _ k => GM.find k
theorem m_split : MethV "split" "str.split" isStr := meth_str fun _ _ _ _ _ _ _ _ k => GM.split k
theorem m_replace : MethV "replace" "str.replace" isStr := meth_str fun _ _ _ _ _ _ _ _ k => GM.replace k

section
variable {c : Cx} {n : Nat} {sc : Scope} {vars : List Str}

theorem tooLong_no {k : Nat} (h : k ≤ 1000) : tooLong k = false := by
  have := size_ok h
  unfold tooLong
  exact decide_eq_false (by omega)

noncomputable def upperF : List D → Option D
  | [.str x] => if (Txt.upper x).length ≤ 1000 then some (.str (Txt.upper x)) else none
  | _ => none
noncomputable def lowerF : List D → Option D
  | [.str x] => if (Txt.lower x).length ≤ 1000 then some (.str (Txt.lower x)) else none
  | _ => none
noncomputable def startsF : List D → Option D
  | [.str x, .str y] => some (.bool (Txt.startswith x y))
  | _ => none
noncomputable def endsF : List D → Option D
  | [.str x, .str y] => some (.bool (Txt.endswith x y))
  | _ => none
noncomputable def findF : List D → Option D
  | [.str x, .str y, .int i, .int j] => some (.int (match occurrences x y (fromIndex x.length i) (min (fromIndex x.length j) x.length) 1 with | k :: _ => (k : Int) | [] => -1))
  | _ => none
theorem upperOk : CallOk c n (.builtin "str.upper") upperF := by
  intro A s g vs ds d Q E o G hs r hp e k
  unfold upperF at e
  split at e
  · split at e
    · rename_i hl
      cases e
      obtain ⟨v, rfl, rr⟩ := r.one
      obtain ⟨_, rfl⟩ := rr.inv
      exact SC.upper (tooLong_no hl) (post_here hs k (.str _ _) _)
    · cases e
  · cases e
theorem lowerOk : CallOk c n (.builtin "str.lower") lowerF := by
  intro A s g vs ds d Q E o G hs r hp e k
  unfold lowerF at e
  split at e
  · split at e
    · rename_i hl
      cases e
      obtain ⟨v, rfl, rr⟩ := r.one
      obtain ⟨_, rfl⟩ := rr.inv
      exact SC.lower (tooLong_no hl) (post_here hs k (.str _ _) _)
    · cases e
  · cases e
theorem startsOk : CallOk c n (.builtin "str.startswith") startsF := by
  intro A s g vs ds d Q E o G hs r hp e k
  unfold startsF at e
  split at e
  · cases e
    obtain ⟨v, w, rfl, r1, r2⟩ := r.two
    obtain ⟨_, rfl⟩ := r1.inv; obtain ⟨_, rfl⟩ := r2.inv
    exact SC.startswith (post_here hs k (.bool _) s.toks)
  · cases e
theorem endsOk : CallOk c n (.builtin "str.endswith") endsF := by
  intro A s g vs ds d Q E o G hs r hp e k
  unfold endsF at e
  split at e
  · cases e
    obtain ⟨v, w, rfl, r1, r2⟩ := r.two
    obtain ⟨_, rfl⟩ := r1.inv; obtain ⟨_, rfl⟩ := r2.inv
    exact SC.endswith (post_here hs k (.bool _) s.toks)
  · cases e
theorem gives_find4 (x y : Str) (i j : Int) (t u v w : Tok) : Gives (Builtin.«str.find» ⟨[.str x t, .str y u, .int i v, .int j w], []⟩)
    (.int (match occurrences x y (fromIndex x.length i) (min (fromIndex x.length j) x.length) 1 with | k :: _ => (k : Int) | [] => -1)) := by
  show Gives (match occurrences x y (fromIndex x.length i) (min (fromIndex x.length j) x.length) 1 with | k :: _ => retInt k | [] => (do rule "str.find.not-found"; retInt (-1))) _
  cases occurrences x y (fromIndex x.length i) (min (fromIndex x.length j) x.length) 1 with
  | nil => exact .rule (.of_eq rfl)
  | cons k _ => exact .of_eq rfl
theorem findOk : CallOk c n (.builtin "str.find") findF := by
  intro A s g vs ds d Q E o G hs r hp e k
  unfold findF at e
  split at e
  · cases e
    obtain ⟨_, _, rfl, r0, r⟩ := r.consInv
    obtain ⟨v, w, u, rfl, r1, r2, r3⟩ := r.three
    obtain ⟨_, rfl⟩ := r0.inv; obtain ⟨_, rfl⟩ := r1.inv; obtain ⟨_, rfl⟩ := r2.inv; obtain ⟨_, rfl⟩ := r3.inv
    exact call_gives F.slot_str_find (typeIs_str _ _ _) F.entry_str_find (F.args_str_find_4 _ _ _ _) (gives_find4 _ _ _ _ _ _ _ _) (post_here hs k (.int _ _) _)
  · cases e

noncomputable def methE (F : List D → Option D) (f : List D → Option D) (g : List D → Option (List D)) : List D → Option D := fun ρ => match f ρ with
  | none => none
  | some d => match g ρ with
    | none => none
    | some ds => F (d :: ds)
noncomputable def guardE (okd : D → Bool) (f : List D → Option D) : List D → Option D := fun ρ => match f ρ with
  | none => none
  | some d => if okd d then some d else none

theorem Ev.meth {o : Expr} {name : Str} {id : String} {okd : D → Bool} {apos pos : Pos} {es : List Expr} {f : List D → Option D} {g : List D → Option (List D)} {F : List D → Option D}
    (hm : MethV name id okd) (hc : CallOk c n (.builtin id) F) (hF : ∀ d ds e, F (d :: ds) = some e → okd d = true) (ho : Ev c n sc vars o f) (hargs : EvL c n sc vars es g)
    (hplain : ∀ env, (backTo pos (starEach es env)).any (·.1) = false)
    (he : ∀ env, ∃ pl, eval (.Call (.Attribute o name apos) es [] pos) env = (do
      let ov ← eval o env
      standAt apos.atName
      let (f, first) ← holding [ov] (getMethod ov name pl)
      callWith pos f first (backTo pos (starEach es env)) [])) :
    Ev c n sc vars (.Call (.Attribute o name apos) es [] pos) (methE F f g) := by
  intro env A s gh ρ d Q E ok G hs V hp e k
  unfold methE at e
  split at e
  · cases e
  · split at e
    · cases e
    · obtain ⟨pl, he⟩ := he env
      refine MethodCall_ (pl := pl) ?_ he
      refine ho env A s gh ρ _ _ E ok G hs V hp (by assumption) fun v h1 g1 t1 x1 r1 p1 => ?_
      refine hm _ A _ g1 v _ pl _ E x1.sub r1 (hF _ _ _ e) ?_
      refine callWith_callee (c := c) (.builtin id) (hplain env) ?_
      refine hargs env A _ g1 ρ _ _ _ E ok (G.keeps x1.keep) x1.sub (V.ext x1) p1 (by assumption) fun vs h2 g2 t2 x2 r2 p2 => ?_
      exact ⟨(G.keeps (x1.trans x2).keep).k, toksT p2 (hc A _ g2 _ _ d _ E ok (G.keeps (x1.trans x2).keep) x2.sub (.cons (x2.rep r1) r2) p2 e fun w h3 g3 t3 x3 r3 p3 => k w h3 g3 t3 ((x1.trans x2).trans x3) r3 p3)⟩

noncomputable def replB (x y z : Str) : Option D := if (y == z) = false ∧ x.length + (x.length + 1) * z.length ≤ 1000 then some (.str (Txt.replace x y z)) else none
noncomputable def replF (y z : Str) : D → Option D
  | .str x => replB x y z
  | _ => none
theorem Ev.repl {o : Expr} {apos pos : Pos} {y z : Str} {k1 k2 : Nat} {p1 p2 : Pos} {f : List D → Option D} (ho : Ev c n sc vars o f)
    (he : ∀ env, ∃ pl, eval (.Call (.Attribute o "replace" apos) [.Constant (.str y) k1 p1, .Constant (.str z) k2 p2] [] pos) env = (do
      let ov ← eval o env
      standAt apos.atName
      let (f, first) ← holding [ov] (getMethod ov "replace" pl)
      callWith pos f first (backTo pos (starEach [.Constant (.str y) k1 p1, .Constant (.str z) k2 p2] env)) [])) :
    Ev c n sc vars (.Call (.Attribute o "replace" apos) [.Constant (.str y) k1 p1, .Constant (.str z) k2 p2] [] pos) (un1 (replF y z) f) := by
  intro env A s gh ρ d Q E ok G hs V hp e k
  obtain ⟨a, e1, e2⟩ := un1_some e
  obtain ⟨pl, he⟩ := he env
  refine MethodCall_ (pl := pl) ?_ he
  refine ho env A s gh ρ _ _ E ok G hs V hp e1 fun v h1 g1 t1 x1 r1 p1 => ?_
  unfold replF at e2
  split at e2
  · unfold replB at e2
    split at e2
    · rename_i hb
      cases e2
      obtain ⟨_, rfl⟩ := r1.inv
      refine GM.replace ?_
      refine callWith_callee (c := c) (.builtin _) rfl ?_
      refine args_cons (Calls.Constant_str ?_)
      refine args_cons (Calls.Constant_str ?_)
      refine args_nil ?_
      refine ⟨(G.keeps x1.keep).k, ?_⟩
      refine toksT (Nat.succ_pos _) (SC.replace ?_ ?_ ?_ hb.1 (by omega) fun t' k' q => ?_)
      · exact Nat.pos_iff_ne_zero.mp p1
      · exact Nat.succ_ne_zero _
      · exact Nat.ne_of_lt (Nat.lt_succ_self _)
      · exact k _ _ _ _ x1 (.str _ _) q
    · cases e2
  · cases e2

/-! a list just made, that nothing else holds -/
noncomputable def EvF (c : Cx) (n : Nat) (sc : Scope) (vars : List Str) (e : Expr) (f : List D → Option (List D)) : Prop :=
  ∀ (env : Env) (A : Around) (s : Shared) (g : Gh) (ρ : List D) (ds : List D) (Q : Value → Shared → Prop) (E : Value → Shared → Prop),
    Ok A n → Gd c.K c.mg c.mb s.heap → Sub g s.heap → View sc env vars ρ g s.heap → 0 < s.toks → f ρ = some ds →
    (∀ a vs m h' g' tk', Ext s.heap g h' g' → s.heap.get? a = none → g' a = none → h'.get? a = some { cls := .type "list", dict := none, data := .seq vs.toArray m, slots := #[] } → RepL g' vs ds → 0 < tk' → Q (.ref a) { s with heap := h', toks := tk' }) →
    wpAny (model c.prog c.w) A (eval e env) Q E s

theorem Ext.pushBare {h : Heap} {g : Gh} (hs : Sub g h) (o : Obj) : Ext h g (h.push o) g := Ext.keeps hs fun _ _ e => Heap.get?_push_of_some o e
theorem Ext.gnone {h h' : Heap} {g g' : Gh} (x : Ext h g h' g') (s : Sub g h) : g' h'.objs.size = none := by
  cases e : g' h'.objs.size with
  | none => rfl
  | some o => exact absurd (Heap.lt_size (x.sub _ _ e)) (Nat.lt_irrefl _)
theorem Sub.gnone {h : Heap} {g : Gh} (s : Sub g h) {a : Addr} (ha : h.objs.size ≤ a) : g a = Option.none := s.none (none_at_size h ha)

theorem EvF.nil {p : Pos} : EvF c n sc vars (.List [] p) (fun _ => some []) := by
  intro env A s g ρ ds Q E ok G hs V hp e k
  cases e
  refine wpAny_List (wpAny_items_nil ⟨Nat.zero_le _, ?_⟩)
  exact k _ [] 0 _ g _ (Ext.pushBare hs _) (none_at_size _ (Nat.le_refl _)) (hs.gnone (Nat.le_refl _)) (Heap.get?_push_size _ rfl) .nil hp

theorem repL_strValues {g : Gh} : ∀ l : List (Str × Tok), RepL g (strValues l) (l.map fun p => .str p.1)
  | [] => .nil
  | (x, t) :: r => .cons (.str x t) (repL_strValues r)
theorem repL_numbered {g : Gh} (tk : Nat) (xs : List Str) : RepL g (strValues (numbered tk xs)) (xs.map .str) := by
  have := repL_strValues (g := g) (numbered tk xs)
  have e : (numbered tk xs).map (fun p => D.str p.1) = xs.map .str := by
    rw [show (fun p : Str × Tok => D.str p.1) = D.str ∘ (·.1) from rfl, ← List.map_map, numbered_texts]
  rw [e] at this; exact this

theorem call_split {prog : Program} {w : World} {A : Around} {E : Value → Shared → Prop} {s : Shared} {x : Str} {t : Tok} {Q : Value → Shared → Prop} {y : Str} {u : Tok} {g : Gh} (hy : (y.length == 0) = false)
    (hq : ∀ vs tk, RepL g vs ((Txt.split x y).map .str) → Q (.ref s.heap.objs.size) { s with heap := s.heap.push { cls := .type "list", data := .seq vs.toArray }, toks := tk })
    (hx : x.length ≤ 1000) (hx2 : (partsBetween x (occurrences x y 0 x.length (x.length + 1)) y.length).length ≤ 1000) :
    wpAny (model prog w) A (call (.builtin "str.split") [.str x t, .str y u]) Q E s := by
  cases h1 : (decide (x.length < y.length) || decide (strKind x < strKind y))
  · cases hf : (occurrences x y 0 x.length (x.length + 1)).isEmpty
    · refine call_meets F.slot_str_split (typeIs_str _ _ _) F.entry_str_split (F.args_str_split_2 _ _) (meets_str_split_sep x y t u h1 hy hf (size_ok hx) (size_ok hx2)) ?_
      show wants Q E _ { s with toks := _, heap := s.heap.push { cls := .type "list", data := .seq (strsFrom s.toks (partsBetween x (occurrences x y 0 x.length (x.length + 1)) y.length)).toArray } }
      rw [strsFrom_eq]
      have e : Txt.split x y = partsBetween x (occurrences x y 0 x.length (x.length + 1)) y.length := ((if_neg (ne_true_of_eq_false h1)).trans (if_neg (ne_true_of_eq_false hf)))
      exact hq _ _ (by rw [e]; exact repL_numbered _ _)
    · have e : Txt.split x y = [x] := (if_neg (ne_true_of_eq_false h1)).trans (if_pos hf)
      exact call_meets F.slot_str_split (typeIs_str _ _ _) F.entry_str_split (F.args_str_split_2 _ _) (meets_str_split_not_found x y t u h1 hy hf)
        (hq [.str x t] s.toks (by rw [e]; exact .cons (.str x t) .nil))
  · have e : Txt.split x y = [x] := (if_pos h1)
    exact call_meets F.slot_str_split (typeIs_str _ _ _) F.entry_str_split (F.args_str_split_2 _ _) (meets_str_split_cannot_occur x y t u h1)
      (hq [.str x t] s.toks (by rw [e]; exact .cons (.str x t) .nil))

noncomputable def splitB (x y : Str) : Option (List D) :=
  if (y.length == 0) = false ∧ x.length ≤ 1000 ∧ (partsBetween x (occurrences x y 0 x.length (x.length + 1)) y.length).length ≤ 1000 then some ((Txt.split x y).map .str) else none
noncomputable def splitF : D → D → Option (List D)
  | .str x, .str y => splitB x y
  | _, _ => none
theorem EvF.split {o a : Expr} {apos pos : Pos} {f g : List D → Option D} (ho : Ev c n sc vars o f) (ha : Ev c n sc vars a g)
    (hst : ∀ env, starEach [a] env = (false, eval a env) :: starEach [] env)
    (he : ∀ env, ∃ pl, eval (.Call (.Attribute o "split" apos) [a] [] pos) env = (do
      let ov ← eval o env
      standAt apos.atName
      let (f, first) ← holding [ov] (getMethod ov "split" pl)
      callWith pos f first (backTo pos (starEach [a] env)) [])) :
    EvF c n sc vars (.Call (.Attribute o "split" apos) [a] [] pos) (fun ρ => match f ρ with
      | none => none
      | some x => match g ρ with
        | none => none
        | some y => splitF x y) := by
  intro env A s gh ρ d Q E ok G hs V hp e k
  dsimp only at e
  split at e
  · cases e
  · split at e
    · cases e
    · obtain ⟨pl, he⟩ := he env
      refine MethodCall_ (pl := pl) ?_ he
      refine ho env A s gh ρ _ _ E ok G hs V hp (by assumption) fun v h1 g1 t1 x1 r1 p1 => ?_
      unfold splitF at e
      split at e
      · obtain ⟨_, rfl⟩ := r1.inv
        refine GM.split ?_
        refine callWith_callee (c := c) (.builtin _) (by rw [hst]; rfl) ?_
        refine args_cons ?_ (hst env)
        refine ha env A _ g1 ρ _ _ E ok (G.keeps x1.keep) x1.sub (V.ext x1) p1 (by assumption) fun w h2 g2 t2 x2 r2 p2 => ?_
        obtain ⟨_, rfl⟩ := r2.inv
        refine args_nil ⟨(G.keeps (x1.trans x2).keep).k, ?_⟩
        unfold splitB at e
        split at e
        · rename_i hb
          cases e
          refine toksT p2 (call_split (g := g2) hb.1 (fun vs tk hr q => ?_) hb.2.1 hb.2.2)
          have xx := (x1.trans x2).trans (Ext.pushBare x2.sub { cls := .type "list", data := .seq vs.toArray })
          exact k _ vs 0 _ g2 _ xx (get_none_of_keep (x1.trans x2).keep (none_at_size _ (Nat.le_refl _))) (x2.sub.gnone (Nat.le_refl _)) (Heap.get?_push_size _ rfl) hr q
        · cases e
      · cases e
end
end Mine

/-! UStm -/
namespace Mine

/-! the frame of a running function: `P` is what was there before and stays; `own` is the one local whose list or dict is still being changed -/
inductive ObjRep (g : Gh) (h : Heap) (a : Addr) : D → Prop
  | lst {vs : List Value} {n : Nat} {ds : List D} : h.get? a = some { cls := .type "list", dict := none, data := .seq vs.toArray n, slots := #[] } → RepL g vs ds → ObjRep g h a (.lst ds)
  | dct {o : Obj} {es : List DictEntry} {n : Nat} {ks : List (Int × D)} : a ≠ sysModules → h.get? a = some o → o.ExactDict → o.data = .dict es.toArray n → RepE g es ks → (ks.map (·.1)).Nodup → ObjRep g h a (.dct ks)

theorem gput_le {g : Gh} {a : Addr} {o : Obj} (ha : g a = none) : ∀ b x, g b = some x → gput g a o b = some x := fun b x e => by
  unfold gput
  rw [if_neg (fun q => by rw [q, ha] at e; cases e)]
  exact e
theorem ObjRep.frozen {g : Gh} {h : Heap} {a : Addr} {d : D} (r : ObjRep g h a d) (ha : g a = none) : ∃ o, h.get? a = some o ∧ Rep (gput g a o) (.ref a) d := by
  cases r with
  | lst h1 h2 => exact ⟨_, h1, .lst (gput_self ..) (h2.mono fun b x e _ => gput_le ha b x e)⟩
  | dct h1 h2 h3 h4 h5 h6 => exact ⟨_, h2, .dct h1 (gput_self ..) h3 h4 (h5.mono fun b x e _ => gput_le ha b x e) h6⟩
theorem ObjRep.moved {g g' : Gh} {h h' : Heap} {a : Addr} {d : D} (r : ObjRep g h a d) (hg : ∀ b x, g b = some x → g' b = some x) (hh : ∀ x, h.get? a = some x → h'.get? a = some x) : ObjRep g' h' a d := by
  cases r with
  | lst h1 h2 => exact .lst (hh _ h1) (h2.mono fun b x e _ => hg b x e)
  | dct h1 h2 h3 h4 h5 h6 => exact .dct h1 (hh _ h2) h3 h4 (h5.mono fun b x e _ => hg b x e) h6
theorem ObjRep.live {g : Gh} {h : Heap} {a : Addr} {d : D} (r : ObjRep g h a d) : ∃ o, h.get? a = some o := by
  cases r with
  | lst h1 _ => exact ⟨_, h1⟩
  | dct _ h2 _ _ _ _ => exact ⟨_, h2⟩

structure OwnAt (env : Env) (R : Addr → Prop) (P g : Gh) (h : Heap) (m : Str → Option Value) (x : Str) (d : D) (a : Addr) : Prop where
  ra : ¬ R a
  mx : m x = some (.ref a)
  ob : ObjRep g h a d
  ga : g a = none
  pa : P a = none
  la : a ≠ env.locals
  ca : ∀ y c, env.cells.lookup y = some c → c ≠ a

structure CellAt (env : Env) (R : Addr → Prop) (P g : Gh) (h : Heap) (c : Addr) : Prop where
  rc : ¬ R c
  gc : g c = none
  pc : P c = none
  lc : c ≠ env.locals
  is : ∃ ov, h.IsCell c ov

structure Fm (sc : Scope) (env : Env) (vars : List Str) (R : Addr → Prop) (P g0 : Gh) (own : Option Nat) (ρ : List D) (g : Gh) (h : Heap) : Prop where
  es : env.scope = sc
  fn : sc.kind = .function
  gl : env.globals = mainGlobals
  bn : env.builtins = builtinsNs
  nd : vars.Nodup
  len : ρ.length = vars.length
  le : ∀ a o, g0 a = some o → g a = some o
  sub : Sub g h
  keep : ∀ b o, P b = some o → h.get? b = some o
  fresh : ∀ b o, g b = some o → g0 b = some o ∨ P b = none
  pL : P env.locals = none
  gL : g env.locals = none
  rL : ¬ R env.locals
  rg : ∀ b, R b → g b = none
  rl : ∀ b, R b → ∃ o, h.get? b = some o
  ns : ∃ m, h.Ns env.locals m ∧
    (∀ (i : Nat) (x : Str) (d : D), vars[i]? = some x → ρ[i]? = some d → d.isSet = true → sc.names.lookup x = some .local → own ≠ some i → ∃ v, m x = some v ∧ Rep g v d) ∧
    (∀ i, own = some i → ∃ x d a, vars[i]? = some x ∧ ρ[i]? = some d ∧ d.isSet = true ∧ sc.names.lookup x = some .local ∧ OwnAt env R P g h m x d a)
  ch : ∀ x, sc.names.lookup x = some .cell → ∃ c, env.cells.lookup x = some c
  ca : ∀ x c, env.cells.lookup x = some c → CellAt env R P g h c
  cd : ∀ x y c, env.cells.lookup x = some c → env.cells.lookup y = some c → x = y
  cl : ∀ (i : Nat) (x : Str) (d : D), vars[i]? = some x → ρ[i]? = some d → d.isSet = true → sc.names.lookup x = some .cell → ∃ c v, env.cells.lookup x = some c ∧ h.IsCell c (some v) ∧ Rep g v d
  nf : ∀ x, sc.names.lookup x ≠ some .free

noncomputable def hid : Option Nat → List D → List D
  | none, ρ => ρ
  | some i, ρ => ρ.set i .undef

section
variable {sc : Scope} {env : Env} {vars : List Str} {R : Addr → Prop} {P g0 g : Gh} {own : Option Nat} {ρ : List D} {h : Heap}

theorem hid_get {own : Option Nat} {ρ : List D} {j : Nat} {d : D} (e : (hid own ρ)[j]? = some d) (hd : d.isSet = true) : ρ[j]? = some d ∧ own ≠ some j := by
  cases own with
  | none => exact ⟨e, by simp⟩
  | some i =>
    unfold hid at e
    rw [List.getElem?_set] at e
    split at e
    · split at e
      · cases e; cases hd
      · cases e
    · rename_i hij
      exact ⟨e, fun q => hij (Option.some.inj q)⟩

theorem Fm.view (F : Fm sc env vars R P g0 own ρ g h) : View sc env vars (hid own ρ) g h :=
  ⟨F.es, F.fn, F.gl, F.bn, by
    obtain ⟨m, hn, hv, _⟩ := F.ns
    exact ⟨m, hn, fun i x d a b c e => let ⟨b1, b2⟩ := hid_get b c; hv i x d a b1 c e b2⟩,
    fun i x d a b c e => by
      obtain ⟨b1, b2⟩ := hid_get b c
      rcases e with e | e
      · exact F.cl i x d a b1 c e
      · exact absurd e (F.nf x)⟩

theorem Fm.viewVis {i : Nat} (F : Fm sc env vars R P g0 (some i) ρ g h) : ∃ a o, h.get? a = some o ∧ ¬ R a ∧ g a = none ∧ P a = none ∧ a ≠ env.locals ∧ (∀ y c, env.cells.lookup y = some c → c ≠ a) ∧ Sub (gput g a o) h ∧ View sc env vars ρ (gput g a o) h := by
  obtain ⟨m, hn, hv, ho⟩ := F.ns
  obtain ⟨x, d, a, hx, hd, hset, hl, O⟩ := ho i rfl
  obtain ⟨o, h1, h2⟩ := O.ob.frozen O.ga
  have hle := gput_le (o := o) O.ga
  refine ⟨a, o, h1, O.ra, O.ga, O.pa, O.la, O.ca, fun b y e => ?_, F.es, F.fn, F.gl, F.bn, ⟨m, hn, fun j y d' a1 b1 c1 e1 => ?_⟩, fun j y d' a1 b1 c1 e1 => ?_⟩
  · unfold gput at e
    split at e
    · rename_i q; cases e; rw [q]; exact h1
    · exact F.sub _ _ e
  · by_cases q : i = j
    · subst q
      rw [hx] at a1; cases a1
      rw [hd] at b1; cases b1
      exact ⟨_, O.mx, h2⟩
    · obtain ⟨v, p1, p2⟩ := hv j y d' a1 b1 c1 e1 (by simpa using q)
      exact ⟨v, p1, p2.mono fun b y e _ => hle b y e⟩
  · rcases e1 with e1 | e1
    · obtain ⟨c, v, p1, p2, p3⟩ := F.cl j y d' a1 b1 c1 e1
      exact ⟨c, v, p1, p2, p3.mono fun b y e _ => hle b y e⟩
    · exact absurd e1 (F.nf y)

/-- an expression has run: everything is still there, and what is frozen has grown by new things -/
theorem Fm.grow {g' : Gh} {h' : Heap} (F : Fm sc env vars R P g0 own ρ g h) (hk : ∀ b o, h.get? b = some o → h'.get? b = some o) (hg : ∀ b o, g b = some o → g' b = some o) (hs : Sub g' h')
    (hf : ∀ b o, g' b = some o → g b = some o ∨ h.get? b = none) : Fm sc env vars R P g0 own ρ g' h' := by
  have stay : ∀ b o, h.get? b = some o → g b = none → g' b = none := fun b o e q => by
    cases r : g' b with
    | none => rfl
    | some y =>
      rcases hf b y r with u | u
      · rw [q] at u; cases u
      · rw [e] at u; cases u
  obtain ⟨m, hn, hv, ho⟩ := F.ns
  refine ⟨F.es, F.fn, F.gl, F.bn, F.nd, F.len, fun a o e => hg _ _ (F.le _ _ e), hs, fun b o e => hk _ _ (F.keep _ _ e), fun b o e => ?_, F.pL, ?_, F.rL, fun b hb => ?_, fun b hb => (F.rl b hb).imp fun o e => hk _ _ e, ⟨m, hn.keeps hk, fun i x d a b c e u => ?_, fun i e => ?_⟩, F.ch, fun x c e => ?_, F.cd, fun i x d a b c e => ?_, F.nf⟩
  · rcases hf b o e with u | u
    · exact F.fresh _ _ u
    · right
      cases r : P b with
      | none => rfl
      | some y => rw [F.keep _ _ r] at u; cases u
  · obtain ⟨o, _, _, e, _⟩ := hn
    exact stay _ _ e F.gL
  · obtain ⟨o, e⟩ := F.rl b hb
    exact stay _ _ e (F.rg b hb)
  · obtain ⟨v, p, q⟩ := hv i x d a b c e u
    exact ⟨v, p, q.mono fun b y e _ => hg b y e⟩
  · obtain ⟨x, d, a, hx, hd, hset, hl, O⟩ := ho i e
    obtain ⟨o, ho⟩ := O.ob.live
    exact ⟨x, d, a, hx, hd, hset, hl, O.ra, O.mx, O.ob.moved hg fun y e => hk _ _ e, stay _ _ ho O.ga, O.pa, O.la, O.ca⟩
  · have C := F.ca x c e
    obtain ⟨ov, hi⟩ := C.is
    obtain ⟨o, ho, _⟩ := id hi
    exact ⟨C.rc, stay _ _ ho C.gc, C.pc, C.lc, ov, hi.keeps hk⟩
  · obtain ⟨k, v, p, q, r⟩ := F.cl i x d a b c e
    exact ⟨k, v, p, q.keeps hk, r.mono fun b y e _ => hg b y e⟩
theorem Fm.ext {g' : Gh} {h' : Heap} (F : Fm sc env vars R P g0 own ρ g h) (x : Ext h g h' g') : Fm sc env vars R P g0 own ρ g' h' := F.grow x.keep x.le x.sub x.fresh
theorem Fm.keeps {h' : Heap} (F : Fm sc env vars R P g0 own ρ g h) (hk : ∀ b o, h.get? b = some o → h'.get? b = some o) : Fm sc env vars R P g0 own ρ g h' :=
  F.grow hk (fun _ _ e => e) (fun b o e => hk _ _ (F.sub _ _ e)) fun _ _ e => .inl e
theorem Fm.freeze {i : Nat} (F : Fm sc env vars R P g0 (some i) ρ g h) : ∃ g', (∀ b o, g b = some o → g' b = some o) ∧ Fm sc env vars R P g0 none ρ g' h := by
  obtain ⟨a, o, h1, ra, ga, pa, la, ca, hs, V⟩ := F.viewVis
  obtain ⟨m', hn', hv'⟩ := V.ns
  have stay : ∀ b, b ≠ a → g b = none → gput g a o b = none := fun b q e => by unfold gput; rw [if_neg q]; exact e
  refine ⟨gput g a o, gput_le ga, F.es, F.fn, F.gl, F.bn, F.nd, F.len, fun b y e => gput_le ga _ _ (F.le _ _ e), hs, F.keep, fun b y e => ?_, F.pL, stay _ (Ne.symm la) F.gL, F.rL, fun b hb => stay _ (fun q => ra (q ▸ hb)) (F.rg b hb), F.rl, ⟨m', hn', fun j x d a b c e _ => hv' j x d a b c e, fun _ e => nomatch e⟩, F.ch, fun x c e => ?_, F.cd, fun j x d a b c e => V.cl j x d a b c (.inl e), F.nf⟩
  · unfold gput at e
    split at e
    · rename_i q; rw [q]; exact .inr pa
    · exact F.fresh _ _ e
  · have C := F.ca x c e
    exact ⟨C.rc, stay _ (ca x c e) C.gc, C.pc, C.lc, C.is⟩

/-- only things that the frame does not look at have changed -/
theorem Fm.but {h' : Heap} {wr : List Addr} (F : Fm sc env vars R P g0 own ρ g h) (hw : ∀ b ∈ wr, R b) (hP : ∀ b ∈ wr, P b = none) (hk : ∀ b o, b ∉ wr → h.get? b = some o → h'.get? b = some o)
    (hl : ∀ b ∈ wr, ∃ o, h'.get? b = some o) : Fm sc env vars R P g0 own ρ g h' := by
  obtain ⟨m, hn, hv, ho⟩ := F.ns
  have nw : ∀ b, ¬ R b → b ∉ wr := fun b q e => q (hw b e)
  refine ⟨F.es, F.fn, F.gl, F.bn, F.nd, F.len, F.le, fun b o e => hk _ _ (fun q => ?_) (F.sub _ _ e), fun b o e => hk _ _ (fun q => ?_) (F.keep _ _ e), F.fresh, F.pL, F.gL, F.rL, F.rg, fun b hb => ?_, ⟨m, ?_, hv, fun i e => ?_⟩, F.ch, fun x c e => ?_, F.cd,
    fun i x d a b c e => ?_, F.nf⟩
  · rw [F.rg b (hw b q)] at e; cases e
  · rw [hP b q] at e; cases e
  · by_cases q : b ∈ wr
    · exact hl b q
    · obtain ⟨o, e⟩ := F.rl b hb
      exact ⟨o, hk _ _ q e⟩
  · obtain ⟨o, es, ep, e, r⟩ := hn
    exact ⟨o, es, ep, hk _ _ (nw _ F.rL) e, r⟩
  · obtain ⟨x, d, a, hx, hd, hset, hl, O⟩ := ho i e
    exact ⟨x, d, a, hx, hd, hset, hl, O.ra, O.mx, O.ob.moved (fun _ _ e => e) fun y e => hk _ _ (nw _ O.ra) e, O.ga, O.pa, O.la, O.ca⟩
  · have C := F.ca x c e
    obtain ⟨ov, o, ho, hd⟩ := C.is
    exact ⟨C.rc, C.gc, C.pc, C.lc, ov, o, hk _ _ (nw _ C.rc) ho, hd⟩
  · obtain ⟨k, v, p, ⟨o, q1, q2⟩, r⟩ := F.cl i x d a b c e
    exact ⟨k, v, p, ⟨o, hk _ _ (nw _ (F.ca _ _ p).rc) q1, q2⟩, r⟩

theorem Fm.less {R' : Addr → Prop} {P' : Gh} (F : Fm sc env vars R P g0 own ρ g h) (hR : ∀ b, R' b → R b) (hP : ∀ b o, P' b = some o → P b = some o) : Fm sc env vars R' P' g0 own ρ g h := by
  have pn : ∀ b, P b = none → P' b = none := fun b e => by
    cases q : P' b with
    | none => rfl
    | some o => rw [hP _ _ q] at e; cases e
  obtain ⟨m, hn, hv, ho⟩ := F.ns
  refine ⟨F.es, F.fn, F.gl, F.bn, F.nd, F.len, F.le, F.sub, fun b o e => F.keep _ _ (hP _ _ e), fun b o e => (F.fresh b o e).imp id (pn b), pn _ F.pL, F.gL, fun q => F.rL (hR _ q), fun b q => F.rg b (hR _ q), fun b q => F.rl b (hR _ q),
    ⟨m, hn, hv, fun i e => ?_⟩, F.ch, fun x c e => ?_, F.cd, F.cl, F.nf⟩
  · obtain ⟨x, d, a, hx, hd, hset, hl, O⟩ := ho i e
    exact ⟨x, d, a, hx, hd, hset, hl, fun q => O.ra (hR _ q), O.mx, O.ob, O.ga, pn _ O.pa, O.la, O.ca⟩
  · have C := F.ca x c e
    exact ⟨fun q => C.rc (hR _ q), C.gc, pn _ C.pc, C.lc, C.is⟩

noncomputable def padd (P : Gh) (wr : List Addr) (h : Heap) : Gh := fun b => if b ∈ wr then h.get? b else P b
/-- what the frame does not look at may be kept, too -/
theorem Fm.hold {wr : List Addr} (F : Fm sc env vars R P g0 own ρ g h) (hw : ∀ b ∈ wr, R b) : Fm sc env vars R (padd P wr h) g0 own ρ g h := by
  have pn : ∀ b, ¬ R b → P b = none → padd P wr h b = none := fun b q e => by
    unfold padd
    rw [if_neg (fun u => q (hw b u))]; exact e
  obtain ⟨m, hn, hv, ho⟩ := F.ns
  refine ⟨F.es, F.fn, F.gl, F.bn, F.nd, F.len, F.le, F.sub, fun b o e => ?_, fun b o e => ?_, pn _ F.rL F.pL, F.gL, F.rL, F.rg, F.rl, ⟨m, hn, hv, fun i e => ?_⟩, F.ch, fun x c e => ?_, F.cd, F.cl, F.nf⟩
  · unfold padd at e
    split at e
    · exact e
    · exact F.keep _ _ e
  · rcases F.fresh b o e with u | u
    · exact .inl u
    · exact .inr (pn b (fun q => by rw [F.rg b q] at e; cases e) u)
  · obtain ⟨x, d, a, hx, hd, hset, hl, O⟩ := ho i e
    exact ⟨x, d, a, hx, hd, hset, hl, O.ra, O.mx, O.ob, O.ga, pn _ O.ra O.pa, O.la, O.ca⟩
  · have C := F.ca x c e
    exact ⟨C.rc, C.gc, pn _ C.rc C.pc, C.lc, C.is⟩

/-- new things are kept away from, as long as they live -/
theorem Fm.away {wr : List Addr} (F : Fm sc env vars R P g0 own ρ g h) (hg : ∀ b ∈ wr, g b = none) (hl : ∀ b ∈ wr, ∃ o, h.get? b = some o) (hP : env.locals ∉ wr) (hc : ∀ x c, env.cells.lookup x = some c → c ∉ wr)
    (hown : ∀ i x d a m, own = some i → h.Ns env.locals m → OwnAt env R P g h m x d a → a ∉ wr) : Fm sc env vars (fun b => R b ∨ b ∈ wr) P g0 own ρ g h := by
  obtain ⟨m, hn, hv, ho⟩ := F.ns
  refine ⟨F.es, F.fn, F.gl, F.bn, F.nd, F.len, F.le, F.sub, F.keep, F.fresh, F.pL, F.gL, fun q => q.elim F.rL hP, fun b q => q.elim (F.rg b) (hg b), fun b q => q.elim (F.rl b) (hl b), ⟨m, hn, hv, fun i e => ?_⟩, F.ch, fun x c e => ?_, F.cd, F.cl, F.nf⟩
  · obtain ⟨x, d, a, hx, hd, hset, hl, O⟩ := ho i e
    exact ⟨x, d, a, hx, hd, hset, hl, fun q => q.elim O.ra (hown i x d a m e hn O), O.mx, O.ob, O.ga, O.pa, O.la, O.ca⟩
  · have C := F.ca x c e
    exact ⟨fun q => q.elim C.rc (hc x c e), C.gc, C.pc, C.lc, C.is⟩

/-- an expression has run and has left new things that are to be kept away from -/
theorem Fm.growAway {g' : Gh} {h' : Heap} {wr : List Addr} (F : Fm sc env vars R P g0 own ρ g h) (x : Ext h g h' g') (hn : ∀ b ∈ wr, h.get? b = none) (hg : ∀ b ∈ wr, g' b = none) (hl : ∀ b ∈ wr, ∃ o, h'.get? b = some o) :
    Fm sc env vars (fun b => R b ∨ b ∈ wr) P g0 own ρ g' h' := by
  have F' := F.ext x
  have alive : ∀ b o, h.get? b = some o → b ∉ wr := fun b o e q => by rw [hn b q] at e; cases e
  obtain ⟨m, hm, hv, ho⟩ := F.ns
  obtain ⟨m', hm', hv', ho'⟩ := F'.ns
  refine ⟨F'.es, F'.fn, F'.gl, F'.bn, F'.nd, F'.len, F'.le, F'.sub, F'.keep, F'.fresh, F'.pL, F'.gL, fun q => q.elim F'.rL ?_, fun b q => q.elim (F'.rg b) (hg b), fun b q => q.elim (F'.rl b) (hl b), ⟨m, hm.keeps x.keep, fun i y d a b c e u => ?_, fun i e => ?_⟩, F'.ch, fun y c e => ?_, F'.cd, F'.cl, F'.nf⟩
  · obtain ⟨o, _, _, e, _⟩ := hm
    exact alive _ _ e
  · obtain ⟨v, p, q⟩ := hv i y d a b c e u
    exact ⟨v, p, x.rep q⟩
  · obtain ⟨y, d, a, hx, hd, hset, hl, O⟩ := ho i e
    obtain ⟨o, hoo⟩ := O.ob.live
    refine ⟨y, d, a, hx, hd, hset, hl, fun q => q.elim O.ra (alive _ _ hoo), O.mx, O.ob.moved x.le fun y e => x.keep _ _ e, ?_, O.pa, O.la, O.ca⟩
    cases r : g' a with
    | none => rfl
    | some z =>
      rcases x.fresh a z r with u | u
      · rw [O.ga] at u; cases u
      · rw [hoo] at u; cases u
  · have C := F'.ca y c e
    obtain ⟨ov, o, ho, _⟩ := (F.ca y c e).is
    exact ⟨fun q => q.elim C.rc (alive _ _ ho), C.gc, C.pc, C.lc, C.is⟩
end
end Mine

/-! UEx -/
namespace Mine

inductive Out where
  | nxt (ρ : List D)
  | brk (ρ : List D)
  | cnt (ρ : List D)
  | ret (d : D)

noncomputable def GdP (c : Cx) (P : Gh) : Prop := ∀ h : Heap, (∀ b o, P b = some o → h.get? b = some o) → Gd c.K c.mg c.mb h
theorem GdP.mono {c : Cx} {P P' : Gh} (G : GdP c P) (h : ∀ b o, P b = some o → P' b = some o) : GdP c P' := fun H k => G H fun b o e => k b o (h b o e)

noncomputable def imm : D → Bool
  | .none => true
  | .bool _ => true
  | .int _ => true
  | .flt _ => true
  | .str _ => true
  | _ => false
theorem imm_rep {d : D} (hd : imm d = true) {g g' : Gh} {v : Value} (r : Rep g v d) : Rep g' v d := by
  cases d <;> first | (cases hd; done) | (cases r; constructor)

noncomputable def evS (own : Option Nat) (f : List D → Option D) (ρ : List D) : Option D := match own with
  | none => f ρ
  | some i => match f ρ with
    | some d => if imm d then some d else f (ρ.set i .undef)
    | none => f (ρ.set i .undef)

section
variable {c : Cx} {n : Nat} {sc : Scope} {vars : List Str} {R : Addr → Prop} {P g0 g : Gh} {own : Option Nat} {ρ : List D} {env : Env} {A : Around} {s : Shared} {E : Value → Shared → Prop}

theorem Fm.run {e : Expr} {f : List D → Option D} {d : D} {Q : Value → Shared → Prop} (F : Fm sc env vars R P g0 own ρ g s.heap) (o : Ok A n) (G : GdP c P) (hp : 0 < s.toks) (h : Ev c n sc vars e f) (he : evS own f ρ = some d)
    (k : ∀ v g' h' tk', Fm sc env vars R P g0 own ρ g' h' → (∀ b o, s.heap.get? b = some o → h'.get? b = some o) → (∀ b o, g b = some o → g' b = some o) → Rep g' v d → 0 < tk' → Q v { s with heap := h', toks := tk' }) :
    wpAny (model c.prog c.w) A (eval e env) Q E s := by
  have hidden : f (hid own ρ) = some d → wpAny (model c.prog c.w) A (eval e env) Q E s := fun he =>
    h env A s g _ d Q E o (G _ F.keep) F.sub F.view hp he fun v h' g' t' x r p => k v g' h' t' (F.ext x) x.keep x.le r p
  cases own with
  | none => exact hidden he
  | some i =>
    unfold evS at he
    dsimp only at he
    have vis : ∀ d', f ρ = some d' → imm d' = true → some d' = some d → wpAny (model c.prog c.w) A (eval e env) Q E s := by
      intro d' h1 h2 h3
      cases h3
      obtain ⟨a, ob, q1, _, qg, _, _, _, hs, V⟩ := F.viewVis
      exact h env A s _ ρ d Q E o (G _ F.keep) hs V hp h1 fun v h' g' t' x r p => k v g h' t' (F.keeps x.keep) x.keep (fun _ _ e => e) (imm_rep h2 r) p
    split at he
    · split at he
      · exact vis _ (by assumption) (by assumption) he
      · exact hidden he
    · exact hidden he

noncomputable def teS (own : Option Nat) (f : List D → Option Bool) (ρ : List D) : Option Bool := match own with
  | none => f ρ
  | some _ => f ρ
theorem Fm.ask {e : Expr} {f : List D → Option Bool} {b : Bool} {Q : Bool → Shared → Prop} (F : Fm sc env vars R P g0 own ρ g s.heap) (o : Ok A n) (G : GdP c P) (hp : 0 < s.toks) (h : Te c n sc vars e f) (he : f ρ = some b)
    (k : ∀ g' h' tk', Fm sc env vars R P g0 own ρ g' h' → (∀ b o, s.heap.get? b = some o → h'.get? b = some o) → (∀ b o, g b = some o → g' b = some o) → 0 < tk' → Q b { s with heap := h', toks := tk' }) :
    wpAny (model c.prog c.w) A (isTrue e env (eval e env)) Q E s := by
  cases own with
  | none => exact h env A s g ρ b Q E o (G _ F.keep) F.sub F.view hp he fun h' g' t' x p => k g' h' t' (F.ext x) x.keep x.le p
  | some i =>
    obtain ⟨a, ob, q1, _, qg, _, _, _, hs, V⟩ := F.viewVis
    exact h env A s _ ρ b Q E o (G _ F.keep) hs V hp he fun h' g' t' x p => k g h' t' (F.keeps x.keep) x.keep (fun _ _ e => e) p

theorem Fm.set_get {ρ : List D} {i j : Nat} {d d' : D} (e : (ρ.set j d)[i]? = some d') : (i = j ∧ d' = d) ∨ (i ≠ j ∧ ρ[i]? = some d') := by
  rw [List.getElem?_set] at e
  split at e
  · rename_i q
    split at e
    · cases e; exact .inl ⟨q.symm, rfl⟩
    · cases e
  · rename_i q
    exact .inr ⟨fun u => q u.symm, e⟩

/-- a local or a cell is given a value -/
theorem Fm.store {j : Nat} {x : Str} {d : D} {v : Value} {Q : Unit → Shared → Prop} (F : Fm sc env vars R P g0 own ρ g s.heap) (hp : 0 < s.toks) (hx : vars[j]? = some x)
    (hk : sc.names.lookup x = some .local ∨ sc.names.lookup x = some .cell) (ho : own ≠ some j) (r : Rep g v d)
    (k : ∀ h' tk', Fm sc env vars R P g0 own (ρ.set j d) g h' → (∀ b o, R b → s.heap.get? b = some o → h'.get? b = some o) → 0 < tk' → Q () { s with heap := h', toks := tk' }) :
    wpAny (model c.prog c.w) A (storeName env x v) Q E s := by
  obtain ⟨m, hn, hv, hoo⟩ := F.ns
  have uniq : ∀ i, vars[i]? = some x → i = j := fun i e => (List.getElem?_inj (List.getElem?_eq_some_iff.mp e).1 F.nd).mp (e.trans hx.symm)
  rcases hk with hk | hk
  · refine wpAny_storeName_local (by show env.scope.names.lookup x = _; rw [F.es]; exact hk) hn (fun h' hn' hs' => ?_) (by rw [F.es, F.fn]; rfl)
    have stay : ∀ b o, b ≠ env.locals → s.heap.get? b = some o → h'.get? b = some o := fun b o q e => (hs'.2 b q).trans e
    refine k h' _ ⟨F.es, F.fn, F.gl, F.bn, F.nd, by rw [List.length_set]; exact F.len, F.le, fun b o e => stay b o (fun q => by rw [q, F.gL] at e; cases e) (F.sub _ _ e), fun b o e => stay b o (fun q => by rw [q, F.pL] at e; cases e) (F.keep _ _ e),
      F.fresh, F.pL, F.gL, F.rL, F.rg, fun b q => ?_, ⟨_, hn', fun i y d' a1 b1 c1 e1 u1 => ?_, fun i e => ?_⟩, F.ch, fun y c' e => ?_, F.cd, fun i y d' a1 b1 c1 e1 => ?_, F.nf⟩ (fun b o hb e => stay b o (fun q => F.rL (q ▸ hb)) e) (Nat.succ_pos _)
    · obtain ⟨o, e⟩ := F.rl b q
      exact ⟨o, stay b o (fun u => F.rL (u ▸ q)) e⟩
    · rcases set_get b1 with ⟨q1, q2⟩ | ⟨q1, q2⟩
      · subst q1 q2
        rw [hx] at a1; cases a1
        exact ⟨v, if_pos rfl, r⟩
      · have : y ≠ x := fun q => q1 (uniq i (q ▸ a1))
        obtain ⟨w, p1, p2⟩ := hv i y d' a1 q2 c1 e1 u1
        exact ⟨w, by simpa [this] using p1, p2⟩
    · obtain ⟨y, d', a, hx1, hd1, hset, hl, O⟩ := hoo i e
      have hij : i ≠ j := fun q => ho (q ▸ e)
      have : y ≠ x := fun q => hij (uniq i (q ▸ hx1))
      refine ⟨y, d', a, hx1, by rw [List.getElem?_set_ne (Ne.symm hij)]; exact hd1, hset, hl, O.ra, by simpa [this] using O.mx, O.ob.moved (fun _ _ e => e) fun z e => stay _ _ O.la e, O.ga, O.pa, O.la, O.ca⟩
    · have C := F.ca y c' e
      obtain ⟨ov, o, q1, q2⟩ := C.is
      exact ⟨C.rc, C.gc, C.pc, C.lc, ov, o, stay _ _ C.lc q1, q2⟩
    · rcases set_get b1 with ⟨q1, q2⟩ | ⟨q1, q2⟩
      · subst q1 q2
        rw [hx] at a1; cases a1
        rw [hk] at e1; cases e1
      · obtain ⟨c', w, p1, ⟨o, p2, p3⟩, p4⟩ := F.cl i y d' a1 q2 c1 e1
        exact ⟨c', w, p1, ⟨o, stay _ _ (F.ca _ _ p1).lc p2, p3⟩, p4⟩
  · obtain ⟨c', hc⟩ := F.ch x hk
    obtain ⟨ov, hcell⟩ := (F.ca x c' hc).is
    have C0 := F.ca x c' hc
    refine wpAny_storeName_cell (by rw [F.es]; exact F.fn) (by show env.scope.names.lookup x = _; rw [F.es]; exact hk) hc hcell fun h' hcell' hs' => ?_
    have stay : ∀ b o, b ≠ c' → s.heap.get? b = some o → h'.get? b = some o := fun b o q e => (hs'.2 b q).trans e
    refine k h' _ ⟨F.es, F.fn, F.gl, F.bn, F.nd, by rw [List.length_set]; exact F.len, F.le, fun b o e => stay b o (fun q => by rw [q, C0.gc] at e; cases e) (F.sub _ _ e), fun b o e => stay b o (fun q => by rw [q, C0.pc] at e; cases e) (F.keep _ _ e),
      F.fresh, F.pL, F.gL, F.rL, F.rg, fun b q => ?_, ⟨m, ?_, fun i y d' a1 b1 c1 e1 u1 => ?_, fun i e => ?_⟩, F.ch, fun y c2 e => ?_, F.cd, fun i y d' a1 b1 c1 e1 => ?_, F.nf⟩ (fun b o hb e => stay b o (fun q => C0.rc (q ▸ hb)) e) hp
    · obtain ⟨o, e⟩ := F.rl b q
      exact ⟨o, stay b o (fun u => C0.rc (u ▸ q)) e⟩
    · obtain ⟨o, es, ep, e, rr⟩ := hn
      exact ⟨o, es, ep, stay _ _ (Ne.symm C0.lc) e, rr⟩
    · rcases set_get b1 with ⟨q1, q2⟩ | ⟨q1, q2⟩
      · subst q1 q2
        rw [hx] at a1; cases a1
        rw [hk] at e1; cases e1
      · exact hv i y d' a1 q2 c1 e1 u1
    · obtain ⟨y, d', a, hx1, hd1, hset, hl, O⟩ := hoo i e
      have hij : i ≠ j := fun q => ho (q ▸ e)
      exact ⟨y, d', a, hx1, by rw [List.getElem?_set_ne (Ne.symm hij)]; exact hd1, hset, hl, O.ra, O.mx, O.ob.moved (fun _ _ e => e) fun z e => stay _ _ (fun q => O.ca _ _ hc q.symm) e, O.ga, O.pa, O.la, O.ca⟩
    · have C := F.ca y c2 e
      by_cases q : c2 = c'
      · exact ⟨C.rc, C.gc, C.pc, C.lc, some v, q ▸ hcell'⟩
      · obtain ⟨ov, o, q1, q2⟩ := C.is
        exact ⟨C.rc, C.gc, C.pc, C.lc, ov, o, stay _ _ q q1, q2⟩
    · rcases set_get b1 with ⟨q1, q2⟩ | ⟨q1, q2⟩
      · subst q1 q2
        rw [hx] at a1; cases a1
        exact ⟨c', v, hc, hcell', r⟩
      · obtain ⟨c2, w, p1, ⟨o, p2, p3⟩, p4⟩ := F.cl i y d' a1 q2 c1 e1
        have : c2 ≠ c' := fun q => q1 (uniq i (by rw [← F.cd y x c2 p1 (q ▸ hc)]; exact a1))
        exact ⟨c2, w, p1, ⟨o, stay _ _ this p2, p3⟩, p4⟩
end
end Mine

/-! UEx2 -/
namespace Mine

structure FinG (P g0 g : Gh) (h : Heap) : Prop where
  le : ∀ a o, g0 a = some o → g a = some o
  sub : Sub g h
  keep : ∀ b o, P b = some o → h.get? b = some o
  fresh : ∀ b o, g b = some o → g0 b = some o ∨ P b = none
theorem FinG.less {P P' g0 g : Gh} {h : Heap} (F : FinG P g0 g h) (hP : ∀ b o, P' b = some o → P b = some o) : FinG P' g0 g h :=
  ⟨F.le, F.sub, fun b o e => F.keep _ _ (hP _ _ e), fun b o e => (F.fresh b o e).imp id fun e => by
    cases q : P' b with
    | none => rfl
    | some o => rw [hP _ _ q] at e; cases e⟩

noncomputable def PostX (sc : Scope) (env : Env) (vars : List Str) (R : Addr → Prop) (P g0 : Gh) (s : Shared) (ob o' : Option Nat) (out : Out) (Q : Flow → Shared → Prop) : Prop :=
  match out with
  | .nxt ρ => ∀ g h tk, Fm sc env vars R P g0 o' ρ g h → 0 < tk → Q .next { s with heap := h, toks := tk }
  | .brk ρ => ∀ g h tk, Fm sc env vars R P g0 ob ρ g h → 0 < tk → Q .brk { s with heap := h, toks := tk }
  | .cnt ρ => ∀ g h tk, Fm sc env vars R P g0 ob ρ g h → 0 < tk → Q .cont { s with heap := h, toks := tk }
  | .ret d => ∀ v g h tk, FinG P g0 g h → Rep g v d → 0 < tk → Q (.ret v) { s with heap := h, toks := tk }

noncomputable def Does (c : Cx) (n : Nat) (sc : Scope) (vars : List Str) (ob o o' : Option Nat) (t : Env → Sem Flow) (f : List D → Option Out) : Prop :=
  ∀ (env : Env) (A : Around) (s : Shared) (R : Addr → Prop) (P g0 g : Gh) (ρ : List D) (out : Out) (Q : Flow → Shared → Prop) (E : Value → Shared → Prop),
    Ok A n → GdP c P → Fm sc env vars R P g0 o ρ g s.heap → 0 < s.toks → f ρ = some out → PostX sc env vars R P g0 s ob o' out Q → wpAny (model c.prog c.w) A (t env) Q E s
noncomputable def St (c : Cx) (n : Nat) (sc : Scope) (vars : List Str) (ob o o' : Option Nat) (st : Stmt) (f : List D → Option Out) : Prop := Does c n sc vars ob o o' (exec st) f
noncomputable def Ex (c : Cx) (n : Nat) (sc : Scope) (vars : List Str) (ob o o' : Option Nat) (ss : List Stmt) (f : List D → Option Out) : Prop := Does c n sc vars ob o o' (execs ss) f

section
variable {c : Cx} {n : Nat} {sc : Scope} {vars : List Str} {ob o o' o1 : Option Nat}

theorem Ex.nil : Ex c n sc vars ob o o [] (fun ρ => some (.nxt ρ)) := by
  intro env A s R P g0 g ρ out Q E ok G F hp e k
  cases e
  exact wpAny_execs_nil (k g s.heap s.toks F hp)
noncomputable def seqX (f g : List D → Option Out) : List D → Option Out := fun ρ => match f ρ with
  | some (.nxt ρ') => g ρ'
  | r => r
theorem Ex.cons {st : Stmt} {rest : List Stmt} {f g : List D → Option Out} (h : St c n sc vars ob o o1 st f) (r : Ex c n sc vars ob o1 o' rest g) : Ex c n sc vars ob o o' (st :: rest) (seqX f g) := by
  intro env A s R P g0 gh ρ out Q E ok G F hp e k
  refine wpAny_execs_cons ?_
  unfold seqX at e
  split at e
  · rename_i ρ' e1
    refine h env A s R P g0 gh ρ _ _ E ok G F hp e1 fun g' h' tk' F' hp' => ?_
    exact r env A _ R P g0 g' ρ' out Q E ok G F' hp' e k
  · rename_i hno
    refine h env A s R P g0 gh ρ _ _ E ok G F hp e ?_
    cases out with
    | nxt ρ' => exact absurd e (hno ρ')
    | brk ρ' => exact k
    | cnt ρ' => exact k
    | ret d => exact k

theorem Does.freeze {i : Nat} {t : Env → Sem Flow} {f : List D → Option Out} (h : Does c n sc vars ob none o' t f) : Does c n sc vars ob (some i) o' t f := by
  intro env A s R P g0 g ρ out Q E ok G F hp e k
  obtain ⟨g', _, F'⟩ := F.freeze
  exact h env A s R P g0 g' ρ out Q E ok G F' hp e k

theorem St.pass {p : Pos} : St c n sc vars ob o o (.Pass p) (fun ρ => some (.nxt ρ)) := by
  intro env A s R P g0 g ρ out Q E ok G F hp e k
  cases e
  exact wpAny_Pass (k g s.heap s.toks F hp)
theorem St.brk {p : Pos} : St c n sc vars o o o' (.Break p) (fun ρ => some (.brk ρ)) := by
  intro env A s R P g0 g ρ out Q E ok G F hp e k
  cases e
  exact wpAny_Break (k g s.heap s.toks F hp)
noncomputable def retX (own : Option Nat) (f : List D → Option D) : List D → Option Out := fun ρ => (evS own f ρ).map .ret
theorem St.ret {e : Expr} {p : Pos} {f : List D → Option D} (h : Ev c n sc vars e f) : St c n sc vars ob o o' (.Return (some e) p) (retX o f) := by
  intro env A s R P g0 g ρ out Q E ok G F hp e' k
  obtain ⟨d, e1, rfl⟩ := Option.map_eq_some_iff.mp e'
  exact wpAny_Return_some (F.run ok G hp h e1 fun v g' h' tk' F' _ _ r p => k v g' h' tk' ⟨F'.le, F'.sub, F'.keep, F'.fresh⟩ r p)

noncomputable def iteX (t : List D → Option Bool) (f g : List D → Option Out) : List D → Option Out := fun ρ => match t ρ with
  | none => none
  | some true => f ρ
  | some false => g ρ
theorem St.ite {t : Expr} {a b : List Stmt} {p : Pos} {ft : List D → Option Bool} {f g : List D → Option Out} (ht : Te c n sc vars t ft) (ha : Ex c n sc vars ob o o' a f) (hb : Ex c n sc vars ob o o' b g) :
    St c n sc vars ob o o' (.If t a b p) (iteX ft f g) := by
  intro env A s R P g0 gh ρ out Q E ok G F hp e k
  refine wpAny_If ?_
  unfold iteX at e
  split at e
  · cases e
  · exact F.ask (b := true) ok G hp ht (by assumption) fun g' h' tk' F' _ _ p => by
      rw [if_pos rfl]
      exact ha env A _ R P g0 g' ρ out Q E ok G F' p e k
  · exact F.ask (b := false) ok G hp ht (by assumption) fun g' h' tk' F' _ _ p => by
      rw [if_neg Bool.false_ne_true]
      exact hb env A _ R P g0 g' ρ out Q E ok G F' p e k
theorem St.assert {t : Expr} {m : Option Expr} {p : Pos} {ft : List D → Option Bool} (ht : Te c n sc vars t ft) :
    St c n sc vars ob o o (.Assert t m p) (fun ρ => if ft ρ = some true then some (.nxt ρ) else none) := by
  intro env A s R P g0 gh ρ out Q E ok G F hp e k
  dsimp only at e
  split at e
  · cases e
    exact wpAny_Assert_holds (F.ask ok G hp ht (by assumption) fun g' h' tk' F' _ _ p => ⟨rfl, k g' h' tk' F' p⟩)
  · cases e

/-- where a value may be stored -/
structure Var (sc : Scope) (vars : List Str) (own : Option Nat) (x : Str) (j : Nat) : Prop where
  hx : vars[j]? = some x
  hk : sc.names.lookup x = some .local ∨ sc.names.lookup x = some .cell
  ho : own ≠ some j

noncomputable def asgX (own : Option Nat) (j : Nat) (f : List D → Option D) : List D → Option Out := fun ρ => (evS own f ρ).map fun d => .nxt (ρ.set j d)
theorem St.asg {x : Str} {j : Nat} {e : Expr} {p q : Pos} {f : List D → Option D} (hv : Var sc vars o x j) (h : Ev c n sc vars e f) (hs : ∀ env : Env, env.scope = sc → swapsWith e (some (.Name x q)) p.line env = pure false) :
    St c n sc vars ob o o (.Assign [.Name x q] e p) (asgX o j f) := by
  intro env A s R P g0 g ρ out Q E ok G F hp e' k
  obtain ⟨d, e1, rfl⟩ := Option.map_eq_some_iff.mp e'
  refine wpAny_Assign_Name ?_ (hs env F.es)
  refine F.run ok G hp h e1 fun v g' h' tk' F' _ _ r p => ?_
  exact F'.store p hv.hx hv.hk hv.ho r fun h2 t2 F2 _ p2 => k g' h2 t2 F2 p2
noncomputable def asg2X (own : Option Nat) (j1 j2 : Nat) (f : List D → Option D) : List D → Option Out := fun ρ => (evS own f ρ).map fun d => .nxt ((ρ.set j1 d).set j2 d)
theorem St.asg2 {x y : Str} {j1 j2 : Nat} {e : Expr} {p q1 q2 : Pos} {f : List D → Option D} (hv : Var sc vars o x j1) (hw : Var sc vars o y j2) (h : Ev c n sc vars e f) (hsw : ∀ env, swappedStores [.Name x q1, .Name y q2] e env = pure none) :
    St c n sc vars ob o o (.Assign [.Name x q1, .Name y q2] e p) (asg2X o j1 j2 f) := by
  intro env A s R P g0 g ρ out Q E ok G F hp e' k
  obtain ⟨d, e1, rfl⟩ := Option.map_eq_some_iff.mp e'
  refine wpAny_Assign_two ?_ rfl (hsw env)
  refine F.run ok G hp h e1 fun v g' h' tk' F' _ _ r p => ?_
  refine wpAny_assign_Name (F'.store p hv.hx hv.hk hv.ho r fun h2 t2 F2 _ p2 => ?_)
  exact wpAny_assign_Name (F2.store p2 hw.hx hw.hk hw.ho r fun h3 t3 F3 _ p3 => k g' h3 t3 F3 p3)

/-- an operation in place on whole numbers or texts -/
noncomputable def augX (own : Option Nat) (j : Nat) (op : D → D → Option D) (f : List D → Option D) : List D → Option Out := fun ρ => match getv j ρ with
  | none => none
  | some a => match evS own f ρ with
    | none => none
    | some b => (op a b).map fun d => .nxt (ρ.set j d)
noncomputable def iaddF : D → D → Option D
  | .int a, .int b => some (.int (a + b))
  | .str a, .str b => if a.length + b.length ≤ 1000 then some (.str (a ++ b)) else none
  | _, _ => none
noncomputable def isubF : D → D → Option D
  | .int a, .int b => some (.int (a - b))
  | _, _ => none
theorem iaddOk : OpOk c n (inplaceOp .Add) iaddF := by
  intro A s g a b d u v Q E o hs ra rb e k
  unfold iaddF at e
  split at e
  · cases e; obtain ⟨_, rfl⟩ := ra.inv; obtain ⟨_, rfl⟩ := rb.inv; exact PySem.P.iadd_int (post_here hs k (.int _ _) _)
  · split at e
    · rename_i hl
      cases e; obtain ⟨_, rfl⟩ := ra.inv; obtain ⟨_, rfl⟩ := rb.inv
      exact PySem.SB.iadd (fun t' q => post_here hs k (.str _ _) _) (size_ok hl)
    · cases e
  · cases e
theorem isubOk : OpOk c n (inplaceOp .Sub) isubF := by
  intro A s g a b d u v Q E o hs ra rb e k
  unfold isubF at e
  split at e
  · cases e; obtain ⟨_, rfl⟩ := ra.inv; obtain ⟨_, rfl⟩ := rb.inv; exact PySem.P.isub_int (post_here hs k (.int _ _) _)
  · cases e
theorem Fm.load {env : Env} {R : Addr → Prop} {P g0 g : Gh} {ρ : List D} {A : Around} {s : Shared} {E : Value → Shared → Prop} {x : Str} {j : Nat} {d : D} {Q : Value → Shared → Prop} (F : Fm sc env vars R P g0 o ρ g s.heap)
    (hv : Var sc vars o x j) (hl : sc.names.lookup x = some .local) (e : getv j ρ = some d) (k : ∀ v, Rep g v d → Q v s) : wpAny (model c.prog c.w) A (loadName env x) Q E s := by
  obtain ⟨m, hn, hvv, _⟩ := F.ns
  obtain ⟨e1, e2⟩ := getv_some e
  obtain ⟨v, hm, r⟩ := hvv j x d hv.hx e1 e2 hl hv.ho
  exact wpAny_loadName_local (by rw [F.es]; exact F.fn) (by show env.scope.names.lookup x = _; rw [F.es]; exact hl) hn hm (k v r)
theorem St.aug {x : Str} {j : Nat} {e : Expr} {op : Operator} {p q : Pos} {f : List D → Option D} {t : D → D → Option D} (hv : Var sc vars o x j) (hl : sc.names.lookup x = some .local) (h : Ev c n sc vars e f) (ht : OpOk c n (inplaceOp op) t) :
    St c n sc vars ob o o (.AugAssign (.Name x q) op e p) (augX o j t f) := by
  intro env A s R P g0 g ρ out Q E ok G F hp e' k
  unfold augX at e'
  split at e'
  · cases e'
  · split at e'
    · cases e'
    · obtain ⟨d, e1, rfl⟩ := Option.map_eq_some_iff.mp e'
      refine wpAny_AugAssign_Name (F.load hv hl (by assumption) fun u ru => ?_)
      refine F.run ok G hp h (by assumption) fun v g' h' tk' F' _ hg r p => ?_
      refine toksT p (ht A _ g' _ _ d u v _ E ok F'.sub (ru.mono fun b y e _ => hg b y e) r e1 fun w h2 g2 t2 x2 r2 p2 => ?_)
      exact (F'.ext x2).store p2 hv.hx hv.hk hv.ho r2 fun h3 t3 F3 _ p3 => k g2 h3 t3 F3 p3
end
end Mine

/-! UOwn -/
namespace Mine

section
variable {c : Cx} {n : Nat} {sc : Scope} {vars : List Str} {R : Addr → Prop} {P g0 g : Gh} {own : Option Nat} {ρ : List D} {env : Env} {A : Around} {h : Heap}

theorem Fm.owned {j : Nat} (F : Fm sc env vars R P g0 (some j) ρ g h) : ∃ x d a, vars[j]? = some x ∧ ρ[j]? = some d ∧ d.isSet = true ∧ sc.names.lookup x = some .local ∧ h.Ns env.locals (h.nsMap env.locals) ∧ OwnAt env R P g h (h.nsMap env.locals) x d a := by
  obtain ⟨m, hn, _, ho⟩ := F.ns
  obtain ⟨x, d, a, h1, h2, h3, h4, O⟩ := ho j rfl
  have e := hn.eq_nsMap
  subst e
  exact ⟨x, d, a, h1, h2, h3, h4, hn, O⟩

/-- the owned thing has changed, and nothing else -/
theorem Fm.mutate {j : Nat} {h' : Heap} {x : Str} {d d' : D} {a : Addr} (F : Fm sc env vars R P g0 (some j) ρ g h) (O : OwnAt env R P g h (h.nsMap env.locals) x d a) (hx : vars[j]? = some x) (hl : sc.names.lookup x = some .local)
    (hk : ∀ b o, b ≠ a → h.get? b = some o → h'.get? b = some o) (hd : d'.isSet = true) (r : ObjRep g h' a d') : Fm sc env vars R P g0 (some j) (ρ.set j d') g h' := by
  obtain ⟨m, hn, hv, _⟩ := F.ns
  have e := hn.eq_nsMap
  subst e
  refine ⟨F.es, F.fn, F.gl, F.bn, F.nd, by rw [List.length_set]; exact F.len, F.le, fun b o e => hk b o (fun q => by rw [q, O.ga] at e; cases e) (F.sub _ _ e), fun b o e => hk b o (fun q => by rw [q, O.pa] at e; cases e) (F.keep _ _ e),
    F.fresh, F.pL, F.gL, F.rL, F.rg, fun b q => ?_, ⟨h.nsMap env.locals, ?_, fun i y d2 a1 b1 c1 e1 u1 => ?_, fun i e => ?_⟩, F.ch, fun y c' e => ?_, F.cd, fun i y d2 a1 b1 c1 e1 => ?_, F.nf⟩
  · obtain ⟨o, e⟩ := F.rl b q
    exact ⟨o, hk b o (fun u => O.ra (u ▸ q)) e⟩
  · obtain ⟨o, es, ep, e, rr⟩ := hn
    exact ⟨o, es, ep, hk _ _ (Ne.symm O.la) e, rr⟩
  · rcases Fm.set_get b1 with ⟨q1, q2⟩ | ⟨q1, q2⟩
    · exact absurd (congrArg some q1.symm) u1
    · exact hv i y d2 a1 q2 c1 e1 u1
  · cases e
    have hj : j < ρ.length := by rw [F.len]; exact (List.getElem?_eq_some_iff.mp hx).1
    exact ⟨x, d', a, hx, List.getElem?_set_self hj, hd, hl, O.ra, O.mx, r, O.ga, O.pa, O.la, O.ca⟩
  · have C := F.ca y c' e
    obtain ⟨ov, o, q1, q2⟩ := C.is
    exact ⟨C.rc, C.gc, C.pc, C.lc, ov, o, hk _ _ (O.ca _ _ e) q1, q2⟩
  · rcases Fm.set_get b1 with ⟨q1, q2⟩ | ⟨q1, q2⟩
    · subst q1
      rw [hx] at a1; cases a1
      rw [hl] at e1; cases e1
    · obtain ⟨c2, w, p1, ⟨o, p2, p3⟩, p4⟩ := F.cl i y d2 a1 q2 c1 e1
      exact ⟨c2, w, p1, ⟨o, hk _ _ (O.ca _ _ p1) p2, p3⟩, p4⟩

theorem Fm.adopt {j : Nat} {x : Str} {d : D} {a : Addr} (F : Fm sc env vars R P g0 none ρ g h) (hx : vars[j]? = some x) (hl : sc.names.lookup x = some .local) (hd : d.isSet = true) (O : OwnAt env R P g h (h.nsMap env.locals) x d a) :
    Fm sc env vars R P g0 (some j) (ρ.set j d) g h := by
  obtain ⟨m, hn, hv, _⟩ := F.ns
  have e := hn.eq_nsMap
  subst e
  refine ⟨F.es, F.fn, F.gl, F.bn, F.nd, by rw [List.length_set]; exact F.len, F.le, F.sub, F.keep, F.fresh, F.pL, F.gL, F.rL, F.rg, F.rl, ⟨h.nsMap env.locals, hn, fun i y d2 a1 b1 c1 e1 u1 => ?_, fun i e => ?_⟩, F.ch, F.ca, F.cd, fun i y d2 a1 b1 c1 e1 => ?_, F.nf⟩
  · rcases Fm.set_get b1 with ⟨q1, q2⟩ | ⟨q1, q2⟩
    · exact absurd (congrArg some q1.symm) u1
    · exact hv i y d2 a1 q2 c1 e1 (by simp)
  · cases e
    have hj : j < ρ.length := by rw [F.len]; exact (List.getElem?_eq_some_iff.mp hx).1
    exact ⟨x, d, a, hx, List.getElem?_set_self hj, hd, hl, O⟩
  · rcases Fm.set_get b1 with ⟨q1, q2⟩ | ⟨q1, q2⟩
    · subst q1
      rw [hx] at a1; cases a1
      rw [hl] at e1; cases e1
    · exact F.cl i y d2 a1 q2 c1 e1

/-- a local is given a thing that nothing else holds -/
theorem Fm.storeOwn {s : Shared} {E : Value → Shared → Prop} {j : Nat} {x : Str} {d : D} {a : Addr} {Q : Unit → Shared → Prop} (F : Fm sc env vars R P g0 none ρ g s.heap) (hx : vars[j]? = some x) (hl : sc.names.lookup x = some .local) (hd : d.isSet = true)
    (r : ObjRep g s.heap a d) (ga : g a = none) (pa : P a = none) (ra : ¬ R a) (la : a ≠ env.locals) (ca : ∀ y c, env.cells.lookup y = some c → c ≠ a)
    (k : ∀ h' tk', Fm sc env vars R P g0 (some j) (ρ.set j d) g h' → 0 < tk' → Q () { s with heap := h', toks := tk' }) : wpAny (model c.prog c.w) A (storeName env x (.ref a)) Q E s := by
  obtain ⟨m, hn, hv, hoo⟩ := F.ns
  refine wpAny_storeName_local (by show env.scope.names.lookup x = _; rw [F.es]; exact hl) hn (fun h' hn' hs' => ?_) (by rw [F.es, F.fn]; rfl)
  have stay : ∀ b o, b ≠ env.locals → s.heap.get? b = some o → h'.get? b = some o := fun b o q e => (hs'.2 b q).trans e
  have uniq : ∀ i, vars[i]? = some x → i = j := fun i e => (List.getElem?_inj (List.getElem?_eq_some_iff.mp e).1 F.nd).mp (e.trans hx.symm)
  have F' : Fm sc env vars R P g0 none (ρ.set j .undef) g h' := by
    refine ⟨F.es, F.fn, F.gl, F.bn, F.nd, by rw [List.length_set]; exact F.len, F.le, fun b o e => stay b o (fun q => by rw [q, F.gL] at e; cases e) (F.sub _ _ e), fun b o e => stay b o (fun q => by rw [q, F.pL] at e; cases e) (F.keep _ _ e),
      F.fresh, F.pL, F.gL, F.rL, F.rg, fun b q => ?_, ⟨_, hn', fun i y d' a1 b1 c1 e1 u1 => ?_, fun i e => nomatch e⟩, F.ch, fun y c' e => ?_, F.cd, fun i y d' a1 b1 c1 e1 => ?_, F.nf⟩
    · obtain ⟨o, e⟩ := F.rl b q
      exact ⟨o, stay b o (fun u => F.rL (u ▸ q)) e⟩
    · rcases Fm.set_get b1 with ⟨q1, q2⟩ | ⟨q1, q2⟩
      · subst q2; cases c1
      · have : y ≠ x := fun q => q1 (uniq i (q ▸ a1))
        obtain ⟨w, p1, p2⟩ := hv i y d' a1 q2 c1 e1 u1
        exact ⟨w, by simpa [this] using p1, p2⟩
    · have C := F.ca y c' e
      obtain ⟨ov, o, q1, q2⟩ := C.is
      exact ⟨C.rc, C.gc, C.pc, C.lc, ov, o, stay _ _ C.lc q1, q2⟩
    · rcases Fm.set_get b1 with ⟨q1, q2⟩ | ⟨q1, q2⟩
      · subst q2; cases c1
      · obtain ⟨c', w, p1, ⟨o, p2, p3⟩, p4⟩ := F.cl i y d' a1 q2 c1 e1
        exact ⟨c', w, p1, ⟨o, stay _ _ (F.ca _ _ p1).lc p2, p3⟩, p4⟩
  have e := hn'.eq_nsMap
  have := F'.adopt (d := d) (a := a) hx hl hd ⟨ra, by rw [← e]; exact if_pos rfl, r.moved (fun _ _ e => e) fun z e => stay _ _ la e, ga, pa, la, ca⟩
  rw [List.set_set] at this
  exact k h' _ this (Nat.succ_pos _)

variable {ob o : Option Nat}
noncomputable def ownX (j : Nat) (f : List D → Option (List D)) : List D → Option Out := fun ρ => (f ρ).map fun ds => .nxt (ρ.set j (.lst ds))
theorem St.fresh {x : Str} {j : Nat} {e : Expr} {p q : Pos} {f : List D → Option (List D)} (hv : Var sc vars none x j) (hl : sc.names.lookup x = some .local) (h : EvF c n sc vars e f)
    (hs : ∀ env : Env, env.scope = sc → swapsWith e (some (.Name x q)) p.line env = pure false) : St c n sc vars ob none (some j) (.Assign [.Name x q] e p) (ownX j f) := by
  intro env A s R P g0 g ρ out Q E ok G F hp e' k
  obtain ⟨ds, e1, rfl⟩ := Option.map_eq_some_iff.mp e'
  refine wpAny_Assign_Name ?_ (hs env F.es)
  refine h env A s g ρ ds _ E ok (G _ F.keep) F.sub F.view hp e1 fun a vs m h' g' t' x ha ga ho r p => ?_
  have F' := F.ext x
  refine F'.storeOwn hv.hx hl rfl (.lst ho r) ga ?_ (fun q => ?_) (fun q => ?_) (fun y c' e q => ?_) fun h2 t2 F2 p2 => k g' h2 t2 F2 p2
  · cases q : P a with
    | none => rfl
    | some o => rw [F.keep _ _ q] at ha; cases ha
  · obtain ⟨o, e⟩ := F.rl a q
    rw [ha] at e; cases e
  · obtain ⟨m, ⟨o, _, _, e, _⟩, _⟩ := F.ns
    rw [← q, ha] at e; cases e
  · obtain ⟨ov, o, e, _⟩ := (F.ca y c' e).is
    rw [q, ha] at e; cases e

theorem St.ownDict {x : Str} {j : Nat} {p q r : Pos} (hv : Var sc vars none x j) (hl : sc.names.lookup x = some .local) (hsys : sysModules < mainGlobals := by decide) :
    St c n sc vars ob none (some j) (.Assign [.Name x q] (.Dict [] [] r) p) (fun ρ => some (.nxt (ρ.set j (.dct [])))) := by
  intro env A s R P g0 g ρ out Q E ok G F hp e' k
  cases e'
  refine wpAny_Assign_Name ?_ rfl
  refine wpAny_Dict_empty ?_
  have x := Ext.pushBare F.sub { cls := .type "dict", data := .dict #[] }
  have ha := none_at_size s.heap (Nat.le_refl _)
  have F' := F.ext x
  refine F'.storeOwn hv.hx hl rfl (.dct (o := { cls := .type "dict", data := .dict #[] }) (es := []) (n := 0) ?_ (Heap.get?_push_size _ rfl) ⟨rfl, rfl, rfl⟩ rfl .nil List.nodup_nil) (F.sub.gnone (Nat.le_refl _)) ?_ (fun q => ?_) (fun q => ?_) (fun y c' e q => ?_) fun h2 t2 F2 p2 => k g h2 t2 F2 p2
  · intro q
    obtain ⟨o, _, _, e, _⟩ := (G _ F.keep).g
    have := Heap.lt_size e
    rw [q] at this
    exact absurd (Nat.lt_trans hsys this) (Nat.lt_irrefl _)
  · cases q : P s.heap.objs.size with
    | none => rfl
    | some o => rw [F.keep _ _ q] at ha; cases ha
  · obtain ⟨o, e⟩ := F.rl _ q
    rw [ha] at e; cases e
  · obtain ⟨m, ⟨o, _, _, e, _⟩, _⟩ := F.ns
    rw [← q, ha] at e; cases e
  · obtain ⟨ov, o, e, _⟩ := (F.ca y c' e).is
    rw [q, ha] at e; cases e

/-- the owned name is read -/
theorem Fm.nameOwn {s : Shared} {E : Value → Shared → Prop} {x : Str} {a : Addr} {p : Pos} {d : D} {Q : Value → Shared → Prop} (F : Fm sc env vars R P g0 own ρ g s.heap) (hl : sc.names.lookup x = some .local) (hd : (x == ("__debug__" : Str)) = false)
    (hn : s.heap.Ns env.locals (s.heap.nsMap env.locals)) (O : OwnAt env R P g s.heap (s.heap.nsMap env.locals) x d a) (k : Q (.ref a) s) : wpAny (model c.prog c.w) A (eval (.Name x p) env) Q E s :=
  wpAny_Name (wpAny_loadName_local (by rw [F.es]; exact F.fn) (by show env.scope.names.lookup x = _; rw [F.es]; exact hl) hn O.mx k) hd

theorem OwnAt.later {h' : Heap} {x : Str} {d : D} {a : Addr} {j : Nat} {g' : Gh} (O : OwnAt env R P g h (h.nsMap env.locals) x d a) (F' : Fm sc env vars R P g0 (some j) ρ g' h') (hn : h.Ns env.locals (h.nsMap env.locals)) (hk : ∀ b o, h.get? b = some o → h'.get? b = some o)
    (hx : vars[j]? = some x) (hd : ρ[j]? = some d) : OwnAt env R P g' h' (h'.nsMap env.locals) x d a ∧ h'.Ns env.locals (h'.nsMap env.locals) := by
  obtain ⟨x', d', a', h1, h2, h3, h4, hn', O'⟩ := F'.owned
  rw [hx] at h1; cases h1
  rw [hd] at h2; cases h2
  have e := (hn.keeps hk).eq_nsMap
  have e1 := O.mx
  rw [e, O'.mx] at e1
  cases e1
  exact ⟨O', hn'⟩

noncomputable def lstOf : D → Option (List D)
  | .lst l => some l
  | _ => none
noncomputable def pushX (j : Nat) (f : List D → Option D) : List D → Option Out := fun ρ => match getv j ρ with
  | some (.lst l) => if l.length ≤ 1000 then (evS (some j) f ρ).map fun d => .nxt (ρ.set j (.lst (l ++ [d]))) else none
  | _ => none
theorem St.append {x : Str} {j : Nat} {e : Expr} {p q apos cpos : Pos} {f : List D → Option D} (hx : vars[j]? = some x) (hl : sc.names.lookup x = some .local) (hdb : (x == ("__debug__" : Str)) = false) (h : Ev c n sc vars e f)
    (hst : ∀ env, starEach [e] env = (false, eval e env) :: starEach [] env)
    (he : ∀ env, ∃ pl, eval (.Call (.Attribute (.Name x q) "append" apos) [e] [] cpos) env = (do
      let ov ← eval (.Name x q) env
      standAt apos.atName
      let (f, first) ← holding [ov] (getMethod ov "append" pl)
      callWith cpos f first (backTo cpos (starEach [e] env)) []))
    (hi : ∀ env : Env, env.scope = sc → interactive env = false) (hsw : ∀ env, swapsWith (.Call (.Attribute (.Name x q) "append" apos) [e] [] cpos) none p.line env = pure false) :
    St c n sc vars ob (some j) (some j) (.Expr (.Call (.Attribute (.Name x q) "append" apos) [e] [] cpos) p) (pushX j f) := by
  intro env A s R P g0 g ρ out Q E ok G F hp e' k
  unfold pushX at e'
  split at e'
  · rename_i l hl1
    split at e'
    · rename_i hlen
      obtain ⟨d, e1, rfl⟩ := Option.map_eq_some_iff.mp e'
      obtain ⟨x', d0, a, h1, h2, h3, h4, hn, O⟩ := F.owned
      rw [hx] at h1; cases h1
      obtain ⟨e2, _⟩ := getv_some hl1
      rw [e2] at h2; cases h2
      refine wpAny_Expr ?_ (hi env F.es) (hsw env)
      obtain ⟨pl, he⟩ := he env
      refine MethodCall_ (pl := pl) ?_ he
      refine F.nameOwn hl hdb hn O ?_
      have hob := O.ob
      cases hob with
      | @lst vs m ds ho hr =>
        refine Calls.getMethod_list_append ho rfl rfl ?_
        refine callWith_callee (c := c) (.builtin _) (by rw [hst]; rfl) ?_
        refine args_cons ?_ (hst env)
        refine F.run ok G hp h e1 fun v g' h' tk' F' hk hg r p => ?_
        refine args_nil ⟨((G _ F'.keep)).k, ?_⟩
        obtain ⟨O', hn'⟩ := O.later F' hn hk hx e2
        refine toksT p (wpAny_list_append_plain (items := vs.toArray) ⟨m, hk _ _ ho⟩ (fun h2 ⟨m2, hp2⟩ hs2 q => ?_) (by simp only [List.size_toArray]; rw [hr.length]; exact size_ok hlen))
        refine k g' h2 tk' (F'.mutate O' hx hl (fun b o hb e => (hs2.2 b hb).trans e) rfl (.lst (vs := vs ++ [v]) (n := m2) ?_ ((hr.mono fun b o e _ => hg b o e).append (.cons r .nil)))) q
        rw [hp2]; simp
    · cases e'
  · cases e'

theorem setItem_plain {prog : Program} {w : World} {s : Shared} {E : Value → Shared → Prop} {l : Addr} {items : Array Value} {m : Nat} {k : Int} {t : Tok} {v : Value} {Q : Unit → Shared → Prop} (hl : IsL s.heap l items m)
    (h0 : 0 ≤ k) (hfit : k < 2 ^ 63) (hn : k < items.size)
    (hQ : ∀ h', IsL h' l (items.setIfInBounds k.toNat v) m → Heap.SameBut l s.heap h' → Q () { s with heap := h' }) :
    wpAny (model prog w) A (setItem (.ref l) (.int k t) v) Q E s := by
  have hT : s.TypeIs (.ref l) "list" := ⟨_, hl, rfl⟩
  unfold setItem
  try with_reducible refine wpAny_holding ?_
  first | refine wpAny_bind (wpAny_pure ?_) | skip
  refine wpAny_bind (wpAny_sequenceKey hT (by decide) ?_)
  refine wpAny_bind (wpAny_callSpecial?_slot (name := Str.ofString "__setitem__") hT slot_list_setitem
    (wpAny_call_entry slot_list_setitem hT entry_list_setitem ?_ (args_list_setitem _ _ _)))
  show wpAny _ _ (Builtin.List.listSubscript? (.int k t) >>= _) _ _ s
  refine wpAny_bind (wpAny_listSubscript_int (fitsIndex_of h0 hfit) ?_)
  clear hfit
  obtain ⟨j, rfl⟩ := Int.eq_ofNat_of_zero_le h0
  have hj : j < items.size := by omega
  have hx' : items[j]? = some items[j] := Array.getElem?_eq_getElem hj
  show wpAny _ _ ((seqItemAt l j >>= fun r => pure (r.map (j, ·))) >>= _) _ _ s
  refine wpAny_bind (wpAny_bind (wpAny_seqItemAt hl rfl (wpAny_pure ?_)))
  rw [hx']
  show wpAny _ _ (setSeqItemAt l j v >>= _) _ _ s
  have hfin := IsL.update hl (·.setIfInBounds j v)
  rw [if_pos (by simp)] at hfin
  refine wpAny_bind (wpAny_setSeqItemAt hl rfl ?_)
  first
    | exact wpAny_bind (wpAny_pure (wpAny_pure ⟨.none, rfl, wpAny_pure (hQ _ hfin (Heap.SameBut.update ..))⟩))
    | exact wpAny_pure ⟨.none, rfl, wpAny_pure (hQ _ hfin (Heap.SameBut.update ..))⟩

theorem RepL.setAt {g : Gh} {v : Value} {d : D} (r : Rep g v d) : ∀ {vs : List Value} {ds : List D}, RepL g vs ds → ∀ i, RepL g (vs.set i v) (ds.set i d)
  | _, _, .nil, _ => .nil
  | _, _, .cons _ q, 0 => .cons r q
  | _, _, .cons p q, i + 1 => .cons p (RepL.setAt r q i)

/-- `row[i] = e`, `d[i] = e` -/
noncomputable def dset (ks : List (Int × D)) (i : Int) (d : D) : List (Int × D) := if ks.any (fun q => q.1 == i) then ks.map (fun q => if q.1 = i then (q.1, d) else q) else ks ++ [(i, d)]
noncomputable def putB (l : D) (i v : D) : Option D := match l, i with
  | .lst l, .int i => if decide (0 ≤ i) && decide (i < l.length) && decide (l.length ≤ 1000) then some (.lst (l.set i.toNat v)) else none
  | .dct l, .int i => if l.length ≤ 1000 then some (.dct (dset l i v)) else none
  | _, _ => none
noncomputable def putX (j : Nat) (fi fv : List D → Option D) : List D → Option Out := fun ρ => match getv j ρ, evS (some j) fv ρ, evS (some j) fi ρ with
  | some l, some v, some i => (putB l i v).map fun l' => .nxt (ρ.set j l')
  | _, _, _ => none

theorem RepE.pairs {g : Gh} {prog : Program} {w : World} : ∀ {es : List DictEntry} {ks : List (Int × D)}, RepE g es ks → ∃ kvs : List (Int × Value), Pairs (intKind prog w) es kvs ∧ kvs.map (·.1) = ks.map (·.1) ∧ RepL g (kvs.map (·.2)) (ks.map (·.2))
  | _, _, .nil => ⟨[], .nil, rfl, .nil⟩
  | _, _, .cons (e := e) (k := k) (t := t) h1 h2 h3 r => by
    obtain ⟨kvs, p, q1, q2⟩ := r.pairs (prog := prog) (w := w)
    exact ⟨(k, e.val) :: kvs, .cons (by rw [h1]; exact intKind_is prog w k t) rfl p, by simp [q1], .cons h3 q2⟩
theorem RepE.ofPairs {g : Gh} {prog : Program} {w : World} {es : List DictEntry} {kvs : List (Int × Value)} (p : Pairs (intKind prog w) es kvs) : ∀ {ks : List (Int × D)}, (∀ e ∈ es, ∃ k, (intKind prog w).is k e.key = true ∧ e.hash = (intKind prog w).hash k) →
    kvs.map (·.1) = ks.map (·.1) → RepL g (kvs.map (·.2)) (ks.map (·.2)) → RepE g es ks := by
  induction p with
  | nil =>
    intro ks _ e1 _
    cases ks with
    | nil => exact .nil
    | cons a b => simp at e1
  | @cons e kv es kvs h1 h2 _ ih =>
    intro ks hk e1 r
    cases ks with
    | nil => simp at e1
    | cons kd ks =>
      obtain ⟨k, d⟩ := kd
      simp only [List.map_cons, List.cons.injEq] at e1
      simp only [List.map_cons] at r
      cases r with
      | cons r1 r2 =>
        have hh : Value.isInt kv.1 e.key = true := h1
        obtain ⟨t, ht⟩ := Value.isInt_shape hh
        obtain ⟨k', hk', hh'⟩ := hk e (List.mem_cons_self)
        have : k' = kv.1 := Value.isInt_inj _ _ _ hk' h1
        subst this
        exact .cons (t := t) (by rw [ht, e1.1]) (by rw [hh', ← e1.1]; rfl) (by rw [h2]; exact r1) (ih (fun e he => hk e (List.mem_cons_of_mem _ he)) e1.2 r2)

theorem stored_keys {kvs : List (Int × Value)} {ks : List (Int × D)} {i : Int} {v : Value} {d : D} (h : kvs.map (·.1) = ks.map (·.1)) : (stored kvs i v).map (·.1) = (dset ks i d).map (·.1) := by
  have any_eq : kvs.any (fun kv => decide (kv.1 = i)) = ks.any (fun q => q.1 == i) := by
    have e1 : kvs.any (fun kv => decide (kv.1 = i)) = (kvs.map (·.1)).any (fun x => decide (x = i)) := by rw [List.any_map]; rfl
    have e2 : ks.any (fun q => q.1 == i) = (ks.map (·.1)).any (fun x => decide (x = i)) := by
      rw [List.any_map]
      congr 1
    rw [e1, e2, h]
  unfold stored dset
  rw [any_eq]
  split
  · rw [List.map_map, List.map_map]
    have f1 : (kvs.map ((fun q : Int × Value => q.1) ∘ fun kv => if kv.1 = i then (kv.1, v) else kv)) = kvs.map (·.1) := by
      apply List.map_congr_left; intro x _; dsimp only [Function.comp]; split <;> rfl
    have f2 : (ks.map ((fun q : Int × D => q.1) ∘ fun q => if q.1 = i then (q.1, d) else q)) = ks.map (·.1) := by
      apply List.map_congr_left; intro x _; dsimp only [Function.comp]; split <;> rfl
    rw [f1, f2, h]
  · rw [List.map_append, List.map_append, h]; rfl
theorem stored_vals {g : Gh} {i : Int} {v : Value} {d : D} (r : Rep g v d) {kvs : List (Int × Value)} {ks : List (Int × D)} (h : kvs.map (·.1) = ks.map (·.1)) (q : RepL g (kvs.map (·.2)) (ks.map (·.2))) :
    RepL g ((stored kvs i v).map (·.2)) ((dset ks i d).map (·.2)) := by
  have any_eq : kvs.any (fun kv => decide (kv.1 = i)) = ks.any (fun q => q.1 == i) := by
    have e1 : kvs.any (fun kv => decide (kv.1 = i)) = (kvs.map (·.1)).any (fun x => decide (x = i)) := by rw [List.any_map]; rfl
    have e2 : ks.any (fun q => q.1 == i) = (ks.map (·.1)).any (fun x => decide (x = i)) := by
      rw [List.any_map]
      congr 1
    rw [e1, e2, h]
  unfold stored dset
  rw [any_eq]
  split
  · clear any_eq
    rename_i hh
    clear hh
    induction kvs generalizing ks with
    | nil => cases ks with
      | nil => exact .nil
      | cons a b => simp at h
    | cons kv kvs ih => cases ks with
      | nil => simp at h
      | cons k ks =>
        simp only [List.map_cons, List.cons.injEq] at h
        cases q with
        | cons q1 q2 =>
          simp only [List.map_cons]
          refine .cons ?_ (ih h.2 q2)
          rw [h.1]
          split
          · exact r
          · exact q1
  · rw [List.map_append, List.map_append]
    exact q.append (.cons r .nil)

theorem St.put {x : Str} {j : Nat} {e i : Expr} {p q spos : Pos} {fi fv : List D → Option D} (hx : vars[j]? = some x) (hl : sc.names.lookup x = some .local) (hdb : (x == ("__debug__" : Str)) = false) (hv : Ev c n sc vars e fv) (hi : Ev c n sc vars i fi)
    (hsw : ∀ env, swapsWith e (some (.Subscript (.Name x q) i spos)) p.line env = pure false) :
    St c n sc vars ob (some j) (some j) (.Assign [.Subscript (.Name x q) i spos] e p) (putX j fi fv) := by
  intro env A s R P g0 g ρ out Q E ok G F hp e' k
  unfold putX at e'
  split at e'
  · rename_i l v0 i0 h1 h2 h3
    obtain ⟨l', e1, rfl⟩ := Option.map_eq_some_iff.mp e'
    obtain ⟨e2, _⟩ := getv_some h1
    refine wpAny_Assign_Subscript ?_ (hsw env)
    refine F.run ok G hp hv h2 fun v g1 h1' t1 F1 hk1 hg1 r1 p1 => ?_
    obtain ⟨x', d0, a, q1, q2, q3, q4, hn, O⟩ := F1.owned
    rw [hx] at q1; cases q1
    rw [e2] at q2; cases q2
    refine F1.nameOwn hl hdb hn O ?_
    refine F1.run ok G p1 hi h3 fun iv g2 h2' t2 F2 hk2 hg2 r2 p2 => ?_
    obtain ⟨O', hn'⟩ := O.later F2 hn hk2 hx e2
    have r1' : Rep g2 v v0 := r1.mono fun b o e _ => hg2 b o e
    have hob := O'.ob
    unfold putB at e1
    split at e1
    · split at e1
      · rename_i hb
        cases e1
        simp only [Bool.and_eq_true, decide_eq_true_eq] at hb
        obtain ⟨_, rfl⟩ := r2.inv
        cases hob with
        | @lst vs m ds ho hr =>
          refine toksT p2 (setItem_plain (m := m) ho hb.1.1 (by have := hb.1.2; have := hb.2; omega) (by simp only [List.size_toArray]; rw [hr.length]; exact hb.1.2) fun h3 hp3 hs3 q => ?_)
          refine k g2 h3 t2 (F2.mutate O' hx hl (fun b o hb e => (hs3.2 b hb).trans e) rfl (.lst (n := m) (vs := vs.set _ v) ?_ (hr.setAt r1' _))) q
          rw [hp3]; simp
      · cases e1
    · split at e1
      · rename_i hb
        cases e1
        obtain ⟨_, rfl⟩ := r2.inv
        cases hob with
        | @dct oo es m ks hsy ho hx' hd' hr hnd =>
          obtain ⟨kvs, hp1, hp2, hp3⟩ := hr.pairs (prog := c.prog) (w := c.w)
          have hm : h2'.DictOf (intKind c.prog c.w) a kvs := ⟨oo, es.toArray, m, ho, hx', hd', fun e he => hr.keys e (by simpa using he), by simpa using hp1, by rw [hp2]; exact hnd⟩
          refine toksT p2 (wpAny_setItem_pairs (intKind_is c.prog c.w _ _) hm (fun h3 hm3 hs3 q => ?_) (by rw [← List.length_map (f := (·.1)), hp2, List.length_map]; exact size_ok hb))
          obtain ⟨o3, es3, ep3, ho3, hc3, hd3, hk3, hpp3, hn3⟩ := hm3
          refine k g2 h3 _ (F2.mutate O' hx hl (fun b o hb e => (hs3.2 b hb).trans e) rfl (.dct (es := es3.toList) (n := ep3) hsy ho3 hc3 (by rw [hd3]) (RepE.ofPairs hpp3 (fun e he => hk3 e (by simpa using he)) (stored_keys hp2) (stored_vals r1' hp2 hp3)) ?_)) (Nat.succ_pos _)
          rw [← stored_keys (v := v) hp2]; exact hn3
      · cases e1
    · cases e1
  · cases e'

noncomputable def delB : D → Int → Option D
  | .lst l, i => if decide (-(2 ^ 62) < i) && decide (i < 2 ^ 62) && decide (l.length ≤ 1000) then (seqIndex? i l.length).map fun k => .lst (l.eraseIdx k) else none
  | _, _ => none
noncomputable def delX (j : Nat) (fi : List D → Option D) : List D → Option Out := fun ρ => match getv j ρ, evS (some j) fi ρ with
  | some l, some (.int i) => (delB l i).map fun l' => .nxt (ρ.set j l')
  | _, _ => none
theorem RepL.erase {g : Gh} : ∀ {vs : List Value} {ds : List D}, RepL g vs ds → ∀ i, RepL g (vs.eraseIdx i) (ds.eraseIdx i)
  | _, _, .nil, _ => .nil
  | _, _, .cons _ q, 0 => q
  | _, _, .cons p q, i + 1 => .cons p (RepL.erase q i)
theorem St.del {x : Str} {j : Nat} {i : Expr} {p q spos : Pos} {fi : List D → Option D} (hx : vars[j]? = some x) (hl : sc.names.lookup x = some .local) (hdb : (x == ("__debug__" : Str)) = false) (hi : Ev c n sc vars i fi)
    (he : ∀ env, exec (.Delete [.Subscript (.Name x q) i spos] p) env = (do standAt p; deleteEach [.Subscript (.Name x q) i spos] env; pure .next))
    (he2 : ∀ env, deleteEach [.Subscript (.Name x q) i spos] env = (do delete (.Subscript (.Name x q) i spos) env; deleteEach [] env)) (he3 : ∀ env, deleteEach [] env = pure ()) :
    St c n sc vars ob (some j) (some j) (.Delete [.Subscript (.Name x q) i spos] p) (delX j fi) := by
  intro env A s R P g0 g ρ out Q E ok G F hp e' k
  unfold delX at e'
  split at e'
  · rename_i l i0 h1 h3
    obtain ⟨l', e1, rfl⟩ := Option.map_eq_some_iff.mp e'
    obtain ⟨e2, _⟩ := getv_some h1
    rw [he, he2, he3]
    refine wpAny_bind (wpAny_standAt (wpAny_bind (wpAny_bind (wpAny_delete_Subscript ?_))))
    obtain ⟨x', d0, a, q1, q2, q3, q4, hn, O⟩ := F.owned
    rw [hx] at q1; cases q1
    rw [e2] at q2; cases q2
    refine F.nameOwn hl hdb hn O ?_
    refine F.run ok G hp hi h3 fun iv g2 h2' t2 F2 hk2 hg2 r2 p2 => ?_
    obtain ⟨O', hn'⟩ := O.later F2 hn hk2 hx e2
    have hob := O'.ob
    unfold delB at e1
    split at e1
    · split at e1
      · rename_i hb
        obtain ⟨kk, hkk, rfl⟩ := Option.map_eq_some_iff.mp e1
        simp only [Bool.and_eq_true, decide_eq_true_eq] at hb
        obtain ⟨_, rfl⟩ := r2.inv
        cases hob with
        | @lst vs m ds ho hr =>
          refine toksT p2 (wpAny_delItem_plain (items := vs.toArray) (k := kk) ⟨m, ho⟩ (by simp [Builtin.List.listFitsIndex]; omega) (by simp only [List.size_toArray]; rw [hr.length]; exact hkk) (fun h3 ⟨m3, hp3⟩ hs3 q => ?_) (by simp only [List.size_toArray]; rw [hr.length]; exact size_ok hb.2))
          refine wpAny_pure (wpAny_pure (k g2 h3 t2 (F2.mutate O' hx hl (fun b o hb e => (hs3.2 b hb).trans e) rfl (.lst (n := m3) (vs := vs.eraseIdx kk) ?_ (hr.erase kk))) q))
          rw [hp3]; simp
      · cases e1
    · cases e1
  · cases e'
end
end Mine

/-! ULoop -/
namespace Mine

inductive Tg where
  | one (j : Nat)
  | many (js : List Nat)
noncomputable def setAll : List Nat → List D → List D → Option (List D)
  | [], [], ρ => some ρ
  | j :: js, d :: ds, ρ => setAll js ds (ρ.set j d)
  | _, _, _ => none
noncomputable def setT : Tg → D → List D → Option (List D)
  | .one j, d, ρ => some (ρ.set j d)
  | .many js, .tup ds, ρ => setAll js ds ρ
  | _, _, _ => none

inductive NL (sc : Scope) (vars : List Str) (own : Option Nat) : List Expr → List Nat → Prop
  | nil : NL sc vars own [] []
  | cons {x : Str} {p : Pos} {es : List Expr} {j : Nat} {js : List Nat} : Var sc vars own x j → NL sc vars own es js → NL sc vars own (.Name x p :: es) (j :: js)
inductive TgtOk (sc : Scope) (vars : List Str) (own : Option Nat) : Expr → Tg → Prop
  | one {x : Str} {p : Pos} {j : Nat} : Var sc vars own x j → TgtOk sc vars own (.Name x p) (.one j)
  | many {es : List Expr} {k : Nat} {p : Pos} {js : List Nat} : NL sc vars own es js → TgtOk sc vars own (.Tuple es k p) (.many js)

/-- what a walk gives to a target -/
noncomputable def ValAs (tgt : Expr) (g : Gh) (h : Heap) (v : Value) (d : D) : Prop := match tgt with
  | .Tuple .. => ∃ T vs ds, v = .ref T ∧ d = .tup ds ∧ IsTup h T vs.toArray ∧ RepL g vs ds
  | _ => Rep g v d

structure Wk (c : Cx) (A : Around) (tgt : Expr) (I : Addr) (wr : List Addr) (ds : List D) (g : Gh) (S : Nat → Heap → Prop) (M : Nat → Value → Heap → Prop) : Prop where
  live : ∀ i h, S i h → ∀ b ∈ wr, ∃ o, h.get? b = some o
  frame : ∀ i h h', S i h → (∀ b ∈ wr, ∀ o, h.get? b = some o → h'.get? b = some o) → Sub g h' → S i h'
  item : ∀ i d (s : Shared) (Q : Option Value → Shared → Prop) (E : Value → Shared → Prop), ds[i]? = some d → S i s.heap → Sub g s.heap → 0 < s.toks →
    (∀ v h' tk', M i v h' → (∀ b o, b ∉ wr → s.heap.get? b = some o → h'.get? b = some o) → 0 < tk' → Q (some v) { s with heap := h', toks := tk' }) → wpAny (model c.prog c.w) A (pyNext (.ref I)) Q E s
  go : ∀ i d v (s : Shared) (Q : Unit → Shared → Prop) (E : Value → Shared → Prop), ds[i]? = some d → M i v s.heap → Sub g s.heap →
    (∀ h', ValAs tgt g h' v d → S (i + 1) h' → (∀ b o, b ∉ wr → s.heap.get? b = some o → h'.get? b = some o) → Q () { s with heap := h' }) → wpAny (model c.prog c.w) A (letOwnedTupleGo tgt (.ref I) v) Q E s
  done : ∀ (s : Shared) (Q : Option Value → Shared → Prop) (E : Value → Shared → Prop), S ds.length s.heap → Sub g s.heap → 0 < s.toks →
    (∀ h' tk', (∀ b o, b ∉ wr → s.heap.get? b = some o → h'.get? b = some o) → 0 < tk' → Q none { s with heap := h', toks := tk' }) → wpAny (model c.prog c.w) A (pyNext (.ref I)) Q E s
  self : ∀ i (s : Shared) (Q : Value → Shared → Prop) (E : Value → Shared → Prop), S i s.heap → Q (.ref I) s → wpAny (model c.prog c.w) A (pyIter (.ref I)) Q E s

noncomputable def ItE (c : Cx) (n : Nat) (sc : Scope) (vars : List Str) (tgt e : Expr) (f : List D → Option (List D)) : Prop :=
  ∀ (env : Env) (A : Around) (s : Shared) (g : Gh) (ρ : List D) (ds : List D) (Q : Value → Shared → Prop) (E : Value → Shared → Prop),
    Ok A n → Gd c.K c.mg c.mb s.heap → Sub g s.heap → View sc env vars ρ g s.heap → 0 < s.toks → f ρ = some ds →
    (∀ I wr S M h' g' tk', Ext s.heap g h' g' → Wk c A tgt I wr ds g' S M → S 0 h' → (∀ b ∈ wr, s.heap.get? b = none) → (∀ b ∈ wr, g' b = none) → 0 < tk' → Q (.ref I) { s with heap := h', toks := tk' }) →
    wpAny (model c.prog c.w) A (eval e env) (fun x s₁ => wpAny (model c.prog c.w) A (pyIter x) Q E s₁) E s

noncomputable def forL (tg : Tg) (fb : List D → Option Out) : List D → List D → Option Out
  | [], ρ => some (.nxt ρ)
  | d :: ds, ρ => match setT tg d ρ with
    | none => none
    | some ρ1 => match fb ρ1 with
      | some (.nxt ρ') => forL tg fb ds ρ'
      | some (.cnt ρ') => forL tg fb ds ρ'
      | some (.brk ρ') => some (.nxt ρ')
      | r => r
noncomputable def forX (o : Option Nat) (tg : Tg) (fi : List D → Option (List D)) (fb : List D → Option Out) : List D → Option Out := fun ρ => match fi (hid o ρ) with
  | none => none
  | some ds => forL tg fb ds ρ
noncomputable def whileX (ft : List D → Option Bool) (fb : List D → Option Out) : Nat → List D → Option Out
  | 0, _ => none
  | k + 1, ρ => match ft ρ with
    | none => none
    | some false => some (.nxt ρ)
    | some true => match fb ρ with
      | some (.nxt ρ') => whileX ft fb k ρ'
      | some (.cnt ρ') => whileX ft fb k ρ'
      | some (.brk ρ') => some (.nxt ρ')
      | r => r

section
variable {c : Cx} {n : Nat} {sc : Scope} {vars : List Str} {R : Addr → Prop} {P g0 g : Gh} {own : Option Nat} {ρ : List D} {env : Env} {A : Around} {h : Heap} {ob o : Option Nat}

theorem Fm.base (F : Fm sc env vars R P g0 own ρ g h) : Fm sc env vars R P g own ρ g h :=
  { F with le := fun _ _ e => e, fresh := fun _ _ e => .inl e }
theorem Fm.unbase {g1 : Gh} (F : Fm sc env vars R P g1 own ρ g h) (h1 : ∀ a o, g0 a = some o → g1 a = some o) (h2 : ∀ b o, g1 b = some o → g0 b = some o ∨ P b = none) : Fm sc env vars R P g0 own ρ g h :=
  { F with le := fun a o e => F.le _ _ (h1 _ _ e), fresh := fun b o e => (F.fresh b o e).elim (h2 b o) .inr }
theorem FinG.unbase {g1 : Gh} (F : FinG P g1 g h) (h1 : ∀ a o, g0 a = some o → g1 a = some o) (h2 : ∀ b o, g1 b = some o → g0 b = some o ∨ P b = none) : FinG P g0 g h :=
  { F with le := fun a o e => F.le _ _ (h1 _ _ e), fresh := fun b o e => (F.fresh b o e).elim (h2 b o) .inr }

theorem NL.each {own : Option Nat} {es : List Expr} {js : List Nat} (h : NL sc vars own es js) (env : Env) : assignEach es env = es.map fun e => (false, assign e env) := by
  induction h with
  | nil => rfl
  | cons _ _ ih => rw [List.map_cons, ← ih]; rfl
theorem NL.len {own : Option Nat} {es : List Expr} {js : List Nat} (h : NL sc vars own es js) : es.length = js.length := by
  induction h with
  | nil => rfl
  | cons _ _ ih => rw [List.length_cons, List.length_cons, ih]
theorem setAll_len : ∀ {js : List Nat} {ds ρ ρ' : List D}, setAll js ds ρ = some ρ' → js.length = ds.length
  | [], [], _, _, _ => rfl
  | _ :: js, _ :: ds, _, _, e => by unfold setAll at e; rw [List.length_cons, List.length_cons, setAll_len e]
  | [], _ :: _, _, _, e => by cases e
  | _ :: _, [], _, _, e => by cases e

theorem Fm.assignAll {s : Shared} {E : Value → Shared → Prop} {es : List Expr} {js : List Nat} (hn : NL sc vars own es js) : ∀ {ds : List D} {vs : List Value} {ρ ρ' : List D} {s : Shared} {Q : Unit → Shared → Prop}, Fm sc env vars R P g0 own ρ g s.heap → 0 < s.toks → RepL g vs ds →
    setAll js ds ρ = some ρ' →
    (∀ h' tk', Fm sc env vars R P g0 own ρ' g h' → (∀ b o, R b → s.heap.get? b = some o → h'.get? b = some o) → 0 < tk' → Q () { s with heap := h', toks := tk' }) →
    wpAny (model c.prog c.w) A (assignInOrder (es.map fun e => assign e env) vs) Q E s := by
  induction hn with
  | nil =>
    intro ds vs ρ ρ' s Q F hp r e k
    cases r with
    | nil => cases e; exact wpAny_pure (k s.heap s.toks F (fun _ _ _ e => e) hp)
    | cons _ _ => cases e
  | @cons x p es j js hv hn ih =>
    intro ds vs ρ ρ' s Q F hp r e k
    cases r with
    | nil => cases e
    | @cons v vs d ds r1 r2 =>
      unfold setAll at e
      show wpAny _ A (assignInOrder (assign (.Name x p) env :: es.map fun e => assign e env) (v :: vs)) Q E s
      have hrest : ∀ h' tk', Fm sc env vars R P g0 own (ρ.set j d) g h' → (∀ b o, R b → s.heap.get? b = some o → h'.get? b = some o) → 0 < tk' → wpAny (model c.prog c.w) A (assignInOrder (es.map fun e => assign e env) vs) Q E { s with heap := h', toks := tk' } :=
        fun h' tk' F' hR p' => ih F' p' r2 e fun h2 t2 F2 hR2 p2 => k h2 t2 F2 (fun b o hb e => hR2 b o hb (hR b o hb e)) p2
      unfold assignInOrder
      first
        | exact wpAny_bind (wpAny_holding (wpAny_assign_Name (F.store hp hv.hx hv.hk hv.ho r1 hrest)))
        | exact wpAny_bind (wpAny_assign_Name (F.store hp hv.hx hv.hk hv.ho r1 hrest))

theorem Fm.assignT {s : Shared} {E : Value → Shared → Prop} {tgt : Expr} {tg : Tg} {v : Value} {d : D} {ρ' : List D} {Q : Unit → Shared → Prop} (ok : Ok A n) (ht : TgtOk sc vars own tgt tg) (F : Fm sc env vars R P g0 own ρ g s.heap) (hp : 0 < s.toks)
    (hv : ValAs tgt g s.heap v d) (e : setT tg d ρ = some ρ')
    (k : ∀ h' tk', Fm sc env vars R P g0 own ρ' g h' → (∀ b o, R b → s.heap.get? b = some o → h'.get? b = some o) → 0 < tk' → Q () { s with heap := h', toks := tk' }) :
    wpAny (model c.prog c.w) A (assign tgt env v) Q E s := by
  cases ht with
  | one hx => cases e; exact wpAny_assign_Name (F.store hp hx.hx hx.hk hx.ho hv k)
  | @many es kk pp js hn =>
    obtain ⟨T, vs, ds, rfl, rfl, hT, r⟩ := hv
    unfold setT at e
    dsimp only at e
    have hl := hn.each env
    have hl1 : (assignEach es env).length = vs.toArray.size := by rw [hl, List.length_map, List.size_toArray, hn.len, r.length, setAll_len e]
    have hst : (assignEach es env).findIdx? (·.1) = none := by rw [hl, List.findIdx?_map]; simp
    refine assign_Tuple_tuple ok.h hT hl1 hst fun h' hx => ?_
    have keep : ∀ b o, s.heap.get? b = some o → h'.get? b = some o := fun b o e => hx b o (Nat.ne_of_lt (Heap.lt_size e)) e
    rw [hl, List.map_map]
    exact (F.keeps keep).assignAll (s := { s with heap := h' }) hn hp r e fun h2 t2 F2 hR p2 => k h2 t2 F2 (fun b o hb e => hR b o hb (keep _ _ e)) p2

theorem Fm.drop {h' : Heap} {wr : List Addr} (F : Fm sc env vars (fun b => R b ∨ b ∈ wr) P g0 own ρ g h) (hP : ∀ b ∈ wr, P b = none) (nR : ∀ b ∈ wr, ¬ R b) (hk : ∀ b o, b ∉ wr → h.get? b = some o → h'.get? b = some o) :
    Fm sc env vars R P g0 own ρ g h' := by
  obtain ⟨m, hn, hv, ho⟩ := F.ns
  have nw : ∀ b, ¬ (R b ∨ b ∈ wr) → b ∉ wr := fun b q e => q (.inr e)
  refine ⟨F.es, F.fn, F.gl, F.bn, F.nd, F.len, F.le, fun b o e => hk _ _ (fun q => ?_) (F.sub _ _ e), fun b o e => hk _ _ (fun q => ?_) (F.keep _ _ e), F.fresh, F.pL, F.gL, fun q => F.rL (.inl q), fun b q => F.rg b (.inl q), fun b hb => ?_, ⟨m, ?_, hv, fun i e => ?_⟩, F.ch, fun x c e => ?_, F.cd,
    fun i x d a b c e => ?_, F.nf⟩
  · rw [F.rg b (.inr q)] at e; cases e
  · rw [hP b q] at e; cases e
  · obtain ⟨o, e⟩ := F.rl b (.inl hb)
    exact ⟨o, hk _ _ (fun q => nR b q hb) e⟩
  · obtain ⟨o, es, ep, e, r⟩ := hn
    exact ⟨o, es, ep, hk _ _ (nw _ F.rL) e, r⟩
  · obtain ⟨x, d, a, hx, hd, hset, hl, O⟩ := ho i e
    exact ⟨x, d, a, hx, hd, hset, hl, fun q => O.ra (.inl q), O.mx, O.ob.moved (fun _ _ e => e) fun y e => hk _ _ (nw _ O.ra) e, O.ga, O.pa, O.la, O.ca⟩
  · have C := F.ca x c e
    obtain ⟨ov, o, ho, hd⟩ := C.is
    exact ⟨fun q => C.rc (.inl q), C.gc, C.pc, C.lc, ov, o, hk _ _ (nw _ C.rc) ho, hd⟩
  · obtain ⟨k, v, p, ⟨o, q1, q2⟩, r⟩ := F.cl i x d a b c e
    exact ⟨k, v, p, ⟨o, hk _ _ (nw _ (F.ca _ _ p).rc) q1, q2⟩, r⟩

theorem padd_le {wr : List Addr} (F : Fm sc env vars R P g0 own ρ g h) : ∀ b o, P b = some o → padd P wr h b = some o := fun b o e => by
  unfold padd
  split
  · exact F.keep _ _ e
  · exact e

/-- where a loop stands after some of its items -/
inductive ForI (sc : Scope) (env : Env) (vars : List Str) (R : Addr → Prop) (P g0 : Gh) (o : Option Nat) (wr : List Addr) (g' : Gh) (S : Nat → Heap → Prop) (ds : List D) (tg : Tg) (fb : List D → Option Out) (out : Out) (s : Shared) : Nat → Shared → Prop
  | mk (i : Nat) (ρ' : List D) (g2 : Gh) (h2 : Heap) (tk2 : Nat) (F2 : Fm sc env vars (fun b => R b ∨ b ∈ wr) P g0 o ρ' g2 h2) (hg2 : ∀ a o, g' a = some o → g2 a = some o) (hst2 : S i h2) (hp2 : 0 < tk2) (hle : i ≤ ds.length) (hf : forL tg fb (ds.drop i) ρ' = some out) :
      ForI sc env vars R P g0 o wr g' S ds tg fb out s (ds.length - i) { s with heap := h2, toks := tk2 }
theorem St.for {tgt iter : Expr} {tg : Tg} {body : List Stmt} {p : Pos} {fi : List D → Option (List D)} {fb : List D → Option Out} (ht : TgtOk sc vars o tgt tg) (hi : ItE c n sc vars tgt iter fi) (hb : Ex c n sc vars o o o body fb)
    (hs : ∀ env x, foldedSetIterable iter env x = pure x) : St c n sc vars ob o o (.For tgt iter body [] p) (forX o tg fi fb) := by
  intro env A s R P g0 g ρ out Q E ok G F hp e k
  unfold forX at e
  split at e
  · cases e
  · rename_i ds e1
    refine wpAny_For (hi env A s g _ ds _ E ok (G _ F.keep) F.sub F.view hp e1 fun I wr S M h' g' tk' x W hst hn hg hp' => ?_) (hs env)
    have hP : ∀ b ∈ wr, P b = none := fun b hb => by
      cases q : P b with
      | none => rfl
      | some o => have := hn b hb; rw [F.keep _ _ q] at this; cases this
    have F1 := F.growAway x hn hg (W.live 0 _ hst)
    refine codeAny_forLoop_any (ForI sc env vars R P g0 o wr g' S ds tg fb out s) ?_ ds.length (.mk 0 ρ g' h' tk' F1 (fun _ _ e => e) hst hp' (Nat.zero_le _) e)
    rintro kk s' ⟨i, ρ', g2, h2, tk2, F2, hg2, hst2, hp2, hle, hf⟩
    have hsub2 : Sub g' h2 := fun a o e => F2.sub _ _ (hg2 _ _ e)
    by_cases hlt : i < ds.length
    · rw [List.drop_eq_getElem_cons hlt] at hf
      refine W.item i ds[i] { s with heap := h2, toks := tk2 } _ _ (List.getElem?_eq_getElem hlt) hst2 hsub2 hp2 fun v hm tk3 hmid hkm hp3 => ?_
      have hsubm : Sub g' hm := fun a o e => hkm a o (fun q => by have := hg a q; rw [e] at this; cases this) (hsub2 a o e)
      refine W.go i ds[i] v { s with heap := hm, toks := tk3 } _ _ (List.getElem?_eq_getElem hlt) hmid hsubm fun h3 hva hst3 hkg => ?_
      · have hk3 : ∀ b o, b ∉ wr → h2.get? b = some o → h3.get? b = some o := fun b o q e => hkg b o q (hkm b o q e)
        have F3 := F2.but (wr := wr) (fun b hb => .inr hb) hP hk3 (W.live _ _ hst3)
        unfold forL at hf
        split at hf
        · cases hf
        · rename_i ρ1 hset
          have hva' : ValAs tgt g2 h3 v ds[i] := by
            unfold ValAs at hva ⊢
            split
            · obtain ⟨T, vs, dd, q1, q2, q3, q4⟩ := hva
              exact ⟨T, vs, dd, q1, q2, q3, q4.mono fun b o e _ => hg2 _ _ e⟩
            · rename_i hno
              split at hva
              · exact absurd rfl (hno _ _ _)
              · exact hva.mono fun b o e _ => hg2 _ _ e
          refine F3.assignT ok ht hp3 hva' hset fun h4 tk4 F4 hR4 hp4 => ?_
          have hst4 : S (i + 1) h4 := W.frame _ _ _ hst3 (fun b hb o e => hR4 b o (.inr hb) e) fun a o e => F4.sub _ _ (hg2 _ _ e)
          have F5 := (F4.hold (wr := wr) fun b hb => .inr hb).base
          have fr4 := F4.fresh
          have le4 := F4.le
          have lep := padd_le (wr := wr) F4
          have back : ∀ {ρ5 g5 h5}, Fm sc env vars (fun b => R b ∨ b ∈ wr) (padd P wr h4) g2 o ρ5 g5 h5 → Fm sc env vars (fun b => R b ∨ b ∈ wr) P g0 o ρ5 g5 h5 := fun F6 => (F6.less (fun _ q => q) lep).unbase le4 fr4
          have next : ∀ {ρ5 g5 h5 tk5}, Fm sc env vars (fun b => R b ∨ b ∈ wr) (padd P wr h4) g2 o ρ5 g5 h5 → 0 < tk5 → forL tg fb (ds.drop (i + 1)) ρ5 = some out → ∃ m, m < ds.length - i ∧ ForI sc env vars R P g0 o wr g' S ds tg fb out s m { s with heap := h5, toks := tk5 } := by
            intro ρ5 g5 h5 tk5 F6 hp6 hf6
            refine ⟨ds.length - (i + 1), by omega, .mk (i + 1) ρ5 g5 h5 tk5 (back F6) (fun a o e => F6.le _ _ (hg2 _ _ e)) (W.frame _ _ _ hst4 (fun b hb o e => F6.keep _ _ ?_) (fun a o e => F6.sub _ _ (F6.le _ _ (hg2 _ _ e)))) hp6 hlt hf6⟩
            unfold padd; rw [if_pos hb]; exact e
          refine hb env A { s with heap := h4, toks := tk4 } _ (padd P wr h4) g2 g2 ρ1 ?_ _ _ ok (G.mono lep) F5 hp4 ?_ ?_
          · exact (fb ρ1).getD (.nxt [])
          · split at hf
            · rename_i q; rw [q]; rfl
            · rename_i q; rw [q]; rfl
            · rename_i q; rw [q]; rfl
            · rw [hf]; rfl
          · split at hf
            · rename_i ρ5 q
              rw [q]
              intro g6 h6 tk6 F6 hp6
              exact next F6 hp6 hf
            · rename_i ρ5 q
              rw [q]
              intro g6 h6 tk6 F6 hp6
              exact next F6 hp6 hf
            · rename_i ρ5 q
              rw [q]
              cases hf
              intro g6 h6 tk6 F6 hp6
              exact k g6 h6 tk6 ((back F6).less (fun _ q => .inl q) fun _ _ e => e) hp6
            · rename_i r hn1 hn2 hn3
              rw [hf]
              cases out with
              | nxt ρ5 => exact absurd hf (hn1 _)
              | cnt ρ5 => exact absurd hf (hn2 _)
              | brk ρ5 => exact absurd hf (hn3 _)
              | ret d5 =>
                intro v6 g6 h6 tk6 F6 r6 hp6
                exact k v6 g6 h6 tk6 ((F6.less lep).unbase le4 fr4) r6 hp6
    · have hi' : i = ds.length := Nat.le_antisymm hle (Nat.le_of_not_lt hlt)
      subst hi'
      rw [List.drop_length] at hf
      cases hf
      refine W.done { s with heap := h2, toks := tk2 } _ _ hst2 hsub2 hp2 fun h3 tk3 hk3 hp3 => ?_
      have nR : ∀ b ∈ wr, ¬ R b := fun b hb q => by
        obtain ⟨o, e⟩ := F.rl b q
        rw [hn b hb] at e; cases e
      exact wpAny_execs_nil (k g2 h3 tk3 (F2.drop hP nR hk3) hp3)

theorem St.while {t : Expr} {body : List Stmt} {p : Pos} {ft : List D → Option Bool} {fb : List D → Option Out} (fuel : Nat) (ht : Te c n sc vars t ft) (hb : Ex c n sc vars o o o body fb) : St c n sc vars ob o o (.While t body [] p) (whileX ft fb fuel) := by
  intro env A s R P g0 g ρ out Q E ok G F hp e k
  refine wpAny_While (codeAny_whileLoop (fun k s' => ∃ ρ' g'' h'' tk'', s' = { s with heap := h'', toks := tk'' } ∧ Fm sc env vars R P g0 o ρ' g'' h'' ∧ 0 < tk'' ∧ whileX ft fb k ρ' = some out) ?_ fuel ⟨ρ, g, s.heap, s.toks, rfl, F, hp, e⟩)
  rintro kk s' ⟨ρ', g2, h2, tk2, rfl, F2, hp2, hf⟩
  cases kk with
  | zero => cases hf
  | succ kk =>
    unfold whileX at hf
    split at hf
    · cases hf
    · rename_i htt
      cases hf
      refine F2.ask (s := { s with heap := h2, toks := tk2 }) (b := false) ok G hp2 ht htt fun g3 h3 tk3 F3 _ _ hp3 => ?_
      rw [if_neg Bool.false_ne_true]
      exact wpAny_execs_nil (k g3 h3 tk3 F3 hp3)
    · rename_i htt
      refine F2.ask (s := { s with heap := h2, toks := tk2 }) (b := true) ok G hp2 ht htt fun g3 h3 tk3 F3 _ _ hp3 => ?_
      rw [if_pos rfl]
      refine hb env A { s with heap := h3, toks := tk3 } R P g0 g3 ρ' ((fb ρ').getD (.nxt [])) _ _ ok G F3 hp3 ?_ ?_
      · split at hf
        · rename_i q; rw [q]; rfl
        · rename_i q; rw [q]; rfl
        · rename_i q; rw [q]; rfl
        · rw [hf]; rfl
      · split at hf
        · rename_i ρ5 q
          rw [q]
          intro g6 h6 tk6 F6 hp6
          exact ⟨kk, Nat.lt_succ_self _, ρ5, g6, h6, tk6, rfl, F6, hp6, hf⟩
        · rename_i ρ5 q
          rw [q]
          intro g6 h6 tk6 F6 hp6
          exact ⟨kk, Nat.lt_succ_self _, ρ5, g6, h6, tk6, rfl, F6, hp6, hf⟩
        · rename_i ρ5 q
          rw [q]
          cases hf
          intro g6 h6 tk6 F6 hp6
          exact k g6 h6 tk6 F6 hp6
        · rename_i r hn1 hn2 hn3
          rw [hf]
          cases out with
          | nxt ρ5 => exact absurd hf (hn1 _)
          | cnt ρ5 => exact absurd hf (hn2 _)
          | brk ρ5 => exact absurd hf (hn3 _)
          | ret d5 =>
            intro v6 g6 h6 tk6 F6 r6 hp6
            exact k v6 g6 h6 tk6 F6 r6 hp6
end
end Mine

/-! UIter -/
namespace Mine

section
variable {c : Cx} {n : Nat} {sc : Scope} {vars : List Str} {A : Around}

theorem frame_of {g : Gh} {h h' : Heap} {fp wr : List Addr} (hfp : ∀ b ∈ fp, b ∈ wr ∨ ∃ o, g b = some o) (hs : Sub g h) (hs' : Sub g h') (hk : ∀ b ∈ wr, ∀ o, h.get? b = some o → h'.get? b = some o) :
    ∀ b ∈ fp, ∀ o, h.get? b = some o → h'.get? b = some o := fun b hb o e => by
  rcases hfp b hb with q | ⟨o', q⟩
  · exact hk b q o e
  · have := hs _ _ q
    rw [e] at this; cases this
    exact hs' _ _ q

theorem Wk.ofWalks {x : Str} {p : Pos} {I : Addr} {fp wr : List Addr} {k : Nat} {Pv : Nat → Value → Prop} {S : Nat → Heap → Prop} {ds : List D} {g : Gh} (W : Walks c.prog c.w A I fp wr k Pv S) (hfp : ∀ b ∈ fp, b ∈ wr ∨ ∃ o, g b = some o)
    (hlive : ∀ i h, S i h → ∀ b ∈ wr, ∃ o, h.get? b = some o) (hg : ∀ b ∈ wr, g b = none) (hP : ∀ i v d, Pv i v → ds[i]? = some d → Rep g v d) (hlen : k = ds.length) :
    Wk c A (.Name x p) I wr ds g (fun i h => S i h ∧ Sub g h) (fun i v h => (∀ d, ds[i]? = some d → Rep g v d) ∧ S (i + 1) h ∧ Sub g h) where
  live := fun i h st => hlive i h st.1
  frame := fun i h h' st hk hs => ⟨W.frame i h h' st.1 (frame_of hfp st.2 hs hk), hs⟩
  item := fun i d s Q E hd st hs hp hQ => by
    have hlt : i < k := by rw [hlen]; exact (List.getElem?_eq_some_iff.mp hd).1
    refine toksT hp (W.item i s _ E hlt st.1 fun v h' tk hPv hst hk q => ?_)
    refine hQ v h' tk ⟨fun d' e => hP i v d' hPv e, hst, fun a o e => hk a o (fun q => by rw [hg a q] at e; cases e) (hs _ _ e)⟩ hk q
  go := fun i d v s Q E hd hm hs hQ => by
    exact wpAny_of_eq (show letOwnedTupleGo (.Name x p) (.ref I) v = pure () from rfl) (hQ s.heap (hm.1 d hd) hm.2 fun _ _ _ e => e)
  done := fun s Q E st hs hp hQ => by
    subst hlen
    exact toksT hp (W.done s _ E st.1 fun h' tk hk q => hQ h' tk hk q)
  self := fun i s Q E st hQ => W.self i s Q E st.1 hQ

theorem Wk.ofT {es : List Expr} {kk : Nat} {p : Pos} {I : Addr} {fp wr : List Addr} {k : Nat} {Pt : Nat → Array Value → Prop} {S : Nat → Heap → Prop} {Mid : Nat → Addr → Heap → Prop} {ds : List D} {g : Gh} (W : WalksT c.prog c.w A I fp wr k Pt S Mid)
    (hfp : ∀ b ∈ fp, b ∈ wr ∨ ∃ o, g b = some o)
    (hlive : ∀ i h, S i h → ∀ b ∈ wr, ∃ o, h.get? b = some o) (hg : ∀ b ∈ wr, g b = none) (hP : ∀ i vals d, Pt i vals → ds[i]? = some d → ∃ dd, d = .tup dd ∧ RepL g vals.toList dd) (hlen : k = ds.length) :
    Wk c A (.Tuple es kk p) I wr ds g (fun i h => S i h ∧ Sub g h) (fun i v h => ∃ T vals, v = .ref T ∧ Pt i vals ∧ h.IsTuple T vals ∧ Mid i T h ∧ Sub g h) where
  live := fun i h st => hlive i h st.1
  frame := fun i h h' st hk hs => ⟨W.frame i h h' st.1 (frame_of hfp st.2 hs hk), hs⟩
  item := fun i d s Q E hd st hs hp hQ => by
    have hlt : i < k := by rw [hlen]; exact (List.getElem?_eq_some_iff.mp hd).1
    refine toksT hp (W.item i s _ E hlt st.1 fun T vals h' tk hPt _ hT hM hk q => ?_)
    exact hQ _ h' tk ⟨T, vals, rfl, hPt, hT, hM, fun a o e => hk a o (fun q => by rw [hg a q] at e; cases e) (hs _ _ e)⟩ hk q
  go := fun i d v s Q E hd hm hs hQ => by
    obtain ⟨T, vals, rfl, hPt, hT, hM, hs2⟩ := hm
    refine W.go es kk p i T s Q E hM fun h' hst hk => ?_
    obtain ⟨dd, rfl, r⟩ := hP i vals d hPt hd
    have hs' : Sub g h' := fun a o e => hk a o (fun q => by rw [hg a q] at e; cases e) (hs _ _ e)
    refine hQ h' ⟨T, vals.toList, dd, rfl, rfl, ?_, r⟩ ⟨hst, hs'⟩ hk
    obtain ⟨o, ho, hc, m, hd⟩ := hT
    exact ⟨o, hk _ _ (W.apart i T _ hM) ho, hc, m, by simpa using hd⟩
  done := fun s Q E st hs hp hQ => by
    subst hlen
    exact toksT hp (W.done s _ E st.1 fun h' tk hk q => hQ h' tk hk q)
  self := fun i s Q E st hQ => W.self i s Q E st.1 hQ

theorem go_plain {I : Addr} {T : String} {fs : Array Value} {tgt : Expr} {v : Value} {s : Shared} {o : Obj} {Q : Unit → Shared → Prop} {E : Value → Shared → Prop} (ho : s.heap.get? I = some o) (hc : o.cls = .type T) (hd : o.data = .fields fs)
    (hT : (["enumerate", "zip", "dict_itemiterator", "dict_reverseitemiterator", "odict_iterator", "itertools.zip_longest", "itertools.pairwise"].contains T) = false) (hQ : Q () s) :
    wpAny (model c.prog c.w) A (letOwnedTupleGo tgt (.ref I) v) Q E s := by
  unfold letOwnedTupleGo
  split
  all_goals first
    | exact wpAny_pure hQ
    | (
      cases v with
      | ref a =>
        dsimp only
        refine wpAny_bind (wpAny_load ho ?_)
        rw [hc, hd]
        dsimp only
        rw [hT, Bool.false_and, if_neg Bool.false_ne_true]
        exact wpAny_pure hQ
      | _ => exact wpAny_pure hQ)

theorem Wk.ofWalksT {es : List Expr} {kk : Nat} {p : Pos} {I : Addr} {fp wr : List Addr} {k : Nat} {Pv : Nat → Value → Prop} {S : Nat → Heap → Prop} {ds : List D} {g : Gh} (W : Walks c.prog c.w A I fp wr k Pv S) (hfp : ∀ b ∈ fp, b ∈ wr ∨ ∃ o, g b = some o)
    (hlive : ∀ i h, S i h → ∀ b ∈ wr, ∃ o, h.get? b = some o) (hg : ∀ b ∈ wr, g b = none) (hP : ∀ i v d, Pv i v → ds[i]? = some d → Rep g v d ∧ ∃ dd, d = .tup dd) (hlen : k = ds.length)
    (hcls : ∀ i h, S i h → ∃ o T fs, h.get? I = some o ∧ o.cls = .type T ∧ o.data = .fields fs ∧ (["enumerate", "zip", "dict_itemiterator", "dict_reverseitemiterator", "odict_iterator", "itertools.zip_longest", "itertools.pairwise"].contains T) = false) :
    Wk c A (.Tuple es kk p) I wr ds g (fun i h => S i h ∧ Sub g h) (fun i v h => (∀ d, ds[i]? = some d → Rep g v d ∧ ∃ dd, d = .tup dd) ∧ S (i + 1) h ∧ Sub g h) where
  live := fun i h st => hlive i h st.1
  frame := fun i h h' st hk hs => ⟨W.frame i h h' st.1 (frame_of hfp st.2 hs hk), hs⟩
  item := fun i d s Q E hd st hs hp hQ => by
    have hlt : i < k := by rw [hlen]; exact (List.getElem?_eq_some_iff.mp hd).1
    refine toksT hp (W.item i s _ E hlt st.1 fun v h' tk hPv hst hk q => ?_)
    refine hQ v h' tk ⟨fun d' e => hP i v d' hPv e, hst, fun a o e => hk a o (fun q => by rw [hg a q] at e; cases e) (hs _ _ e)⟩ hk q
  go := fun i d v s Q E hd hm hs hQ => by
    obtain ⟨o, T, fs, h1, h2, h3, h4⟩ := hcls _ _ hm.2.1
    refine go_plain h1 h2 h3 h4 (hQ s.heap ?_ hm.2 fun _ _ _ e => e)
    obtain ⟨r, dd, rfl⟩ := hm.1 d hd
    cases r with
    | @tup a o vs m ds q1 q2 q3 q4 => exact ⟨a, vs, _, rfl, rfl, ⟨o, hs _ _ q1, q2, m, q3⟩, q4⟩
  done := fun s Q E st hs hp hQ => by
    subst hlen
    exact toksT hp (W.done s _ E st.1 fun h' tk hk q => hQ h' tk hk q)
  self := fun i s Q E st hQ => W.self i s Q E st.1 hQ

noncomputable def isTup : D → Bool
  | .tup _ => true
  | _ => false
theorem isTup_of {d : D} (h : isTup d = true) : ∃ dd, d = .tup dd := by cases d <;> first | (cases h; done) | exact ⟨_, rfl⟩
noncomputable def itemsOf : D → Option (List D)
  | .lst l => some l
  | .tup l => some l
  | .rng k => some ((List.range k).map fun (i : Nat) => D.int (Int.ofNat i))
  | _ => none
noncomputable def itemsTup : D → Option (List D)
  | .lst l => if l.all isTup then some l else none
  | .tup l => if l.all isTup then some l else none
  | _ => none

theorem repL_at {g : Gh} {vs : List Value} {ds : List D} (r : RepL g vs ds) {i : Nat} {v : Value} {d : D} (hv : vs.toArray[i]? = some v) (hd : ds[i]? = some d) : Rep g v d := by
  obtain ⟨d', h1, h2⟩ := r.getV (i := i) (v := v) (by simpa using hv)
  rw [hd] at h1; cases h1; exact h2

theorem one_live {T : Addr} {h : Heap} (hl : ∃ o, h.get? T = some o) : ∀ b ∈ [T], ∃ o, h.get? b = some o := fun b hb => by
  rcases List.mem_cons.mp hb with rfl | hb
  · exact hl
  · cases hb
theorem one_none {T : Addr} {g : Gh} (hl : g T = none) : ∀ b ∈ [T], g b = none := fun b hb => by
  rcases List.mem_cons.mp hb with rfl | hb
  · exact hl
  · cases hb
theorem one_heap {T : Addr} {h : Heap} (hl : h.get? T = none) : ∀ b ∈ [T], h.get? b = none := fun b hb => by
  rcases List.mem_cons.mp hb with rfl | hb
  · exact hl
  · cases hb
theorem two_fp {I a : Addr} {g : Gh} {o : Obj} (h : g a = some o) : ∀ b ∈ [I, a], b ∈ [I] ∨ ∃ o, g b = some o := fun b hb => by
  rcases List.mem_cons.mp hb with rfl | hb
  · exact .inl (List.mem_cons_self)
  · rcases List.mem_cons.mp hb with rfl | hb
    · exact .inr ⟨_, h⟩
    · cases hb
theorem one_fp {I : Addr} {g : Gh} : ∀ b ∈ [I], b ∈ [I] ∨ ∃ o, g b = some o := fun b hb => .inl hb

theorem rng_small {k : Nat} (h : k ≤ 1000) : Builtin.Range.small 0 k 1 = true := small_one (by decide) (by decide) (by omega) (by omega)

theorem listiter_live {I l : Addr} {i : Nat} {h : Heap} {items : Array Value} (st : h.IsListIter I l i ∧ h.IsList l items) : ∀ b ∈ [I], ∃ o, h.get? b = some o := one_live (let ⟨o, e, _⟩ := st.1; ⟨o, e⟩)
theorem tupiter_live {I l : Addr} {i : Nat} {h : Heap} {items : Array Value} (st : h.IsTupleIter I l i ∧ h.IsTuple l items) : ∀ b ∈ [I], ∃ o, h.get? b = some o := one_live (let ⟨o, e, _⟩ := st.1; ⟨o, e⟩)

theorem ItE.name {x : Str} {p : Pos} {e : Expr} {f : List D → Option D} (h : Ev c n sc vars e f) : ItE c n sc vars (.Name x p) e (un1 itemsOf f) := by
  intro env A s g ρ ds Q E ok G hs V hp e' k
  obtain ⟨d, e1, e2⟩ := un1_some e'
  refine h env A s g ρ d _ E ok G hs V hp e1 fun v h1 g1 t1 x1 r1 p1 => ?_
  have hnew := none_at_size h1 (Nat.le_refl _)
  have gnew := x1.sub.gnone (Nat.le_refl _)
  have snew := get_none_of_keep x1.keep hnew
  unfold itemsOf at e2
  split at e2
  · cases e2
    obtain ⟨a, vs, m, rfl, ha, r⟩ := r1.inv
    ·
      have hl : h1.IsList a vs.toArray := ⟨_, x1.sub _ _ ha, rfl, m, rfl⟩
      have hne : a ≠ h1.objs.size := Nat.ne_of_lt (Heap.lt_size (x1.sub _ _ ha))
      refine wpAny_pyIter_list (s := { s with heap := h1, toks := t1 }) hl ?_
      have x2 := x1.trans (Ext.pushBare x1.sub { cls := .type "list_iterator", data := .fields #[.ref a, .int 0 0] })
      refine k _ [h1.objs.size] _ _ _ g1 t1 x2 (Wk.ofWalks (Walks.list ok.h h1.objs.size a hne vs.toArray) (two_fp ha) (fun i h st => listiter_live st) (one_none gnew)
        (fun i v d hv hd => repL_at r hv hd) (by simp only [List.size_toArray]; exact r.length)) ⟨⟨⟨_, Heap.get?_push_size _ rfl, rfl, rfl⟩, hl.push _⟩, x2.sub⟩ (one_heap snew) (one_none gnew) p1
  · cases e2
    obtain ⟨a, o, vs, m, rfl, ha, hc, hd, r⟩ := r1.inv
    ·
      have hl : h1.IsTuple a vs.toArray := ⟨_, x1.sub _ _ ha, hc, m, hd⟩
      have hne : a ≠ h1.objs.size := Nat.ne_of_lt (Heap.lt_size (x1.sub _ _ ha))
      refine wpAny_pyIter_tuple (s := { s with heap := h1, toks := t1 }) hl ?_
      have x2 := x1.trans (Ext.pushBare x1.sub { cls := .type "tuple_iterator", data := .fields #[.ref a, .int 0 0] })
      refine k _ [h1.objs.size] _ _ _ g1 t1 x2 (Wk.ofWalks (Walks.tuple ok.h h1.objs.size a hne vs.toArray) (two_fp ha) (fun i h st => tupiter_live st) (one_none gnew)
        (fun i v d hv hd => repL_at r hv hd) (by simp only [List.size_toArray]; exact r.length)) ⟨⟨⟨_, Heap.get?_push_size _ rfl, rfl, rfl⟩, hl.push _⟩, x2.sub⟩ (one_heap snew) (one_none gnew) p1
  · rename_i kk
    cases e2
    cases r1 with
    | @rng a m t u v ha hm =>
      refine wpAny_pyIter_range (s := { s with heap := h1, toks := t1 }) (x1.sub _ _ ha) (rng_small hm) ?_
      have x2 := x1.trans (Ext.pushBare x1.sub { cls := .type "range_iterator", data := .fields #[rawInt 0, rawInt (Builtin.Range.rangeSize 0 kk 1), rawInt 1] })
      have hsz : Builtin.Range.rangeSize 0 (kk : Int) 1 = kk := by
        rw [rangeSize_one]; split <;> omega
      refine k _ [h1.objs.size] _ _ _ g1 t1 x2 (Wk.ofWalks (Walks.range ok.h h1.objs.size 0 1 kk) one_fp (fun i h st => one_live ⟨_, st⟩) (one_none gnew)
        (fun i v d hv hd => ?_) (by simp)) ⟨?_, x2.sub⟩ (one_heap snew) (one_none gnew) p1
      · obtain ⟨t, rfl⟩ := hv
        simp only [List.getElem?_map, Option.map_eq_some_iff] at hd
        obtain ⟨j, hj, rfl⟩ := hd
        obtain ⟨hlt, rfl⟩ := List.getElem?_eq_some_iff.mp hj
        simp only [List.getElem_range]
        have : (0 : Int) + (i : Int) * 1 = i := by omega
        rw [this]; exact .int _ _
      · show _ = _
        have := Heap.get?_push_size h1 (o := { cls := .type "range_iterator", data := .fields #[rawInt 0, rawInt (Builtin.Range.rangeSize 0 kk 1), rawInt 1] }) rfl
        rw [hsz] at this ⊢
        simpa using this
  · cases e2

theorem ItE.pair {es : List Expr} {kk : Nat} {p : Pos} {e : Expr} {f : List D → Option D} (h : Ev c n sc vars e f) : ItE c n sc vars (.Tuple es kk p) e (un1 itemsTup f) := by
  intro env A s g ρ ds Q E ok G hs V hp e' k
  obtain ⟨d, e1, e2⟩ := un1_some e'
  refine h env A s g ρ d _ E ok G hs V hp e1 fun v h1 g1 t1 x1 r1 p1 => ?_
  have hnew := none_at_size h1 (Nat.le_refl _)
  have gnew := x1.sub.gnone (Nat.le_refl _)
  have snew := get_none_of_keep x1.keep hnew
  unfold itemsTup at e2
  split at e2
  · split at e2
    · rename_i hall
      cases e2
      obtain ⟨a, vs, m, rfl, ha, r⟩ := r1.inv
      ·
        have hl : h1.IsList a vs.toArray := ⟨_, x1.sub _ _ ha, rfl, m, rfl⟩
        have hne : a ≠ h1.objs.size := Nat.ne_of_lt (Heap.lt_size (x1.sub _ _ ha))
        refine wpAny_pyIter_list (s := { s with heap := h1, toks := t1 }) hl ?_
        have x2 := x1.trans (Ext.pushBare x1.sub { cls := .type "list_iterator", data := .fields #[.ref a, .int 0 0] })
        refine k _ [h1.objs.size] _ _ _ g1 t1 x2 (Wk.ofWalksT (Walks.list ok.h h1.objs.size a hne vs.toArray) (two_fp ha) (fun i h st => listiter_live st) (one_none gnew)
          (fun i v d hv hd => ⟨repL_at r hv hd, isTup_of (List.all_eq_true.mp hall d (List.mem_of_getElem? hd))⟩) (by simp only [List.size_toArray]; exact r.length) (fun i h st => ?_)) ⟨⟨⟨_, Heap.get?_push_size _ rfl, rfl, rfl⟩, hl.push _⟩, x2.sub⟩ (one_heap snew) (one_none gnew) p1
        obtain ⟨⟨o, q1, q2, q3⟩, _⟩ := st
        exact ⟨o, _, _, q1, q2, q3, by decide⟩
    · cases e2
  · split at e2
    · rename_i hall
      cases e2
      obtain ⟨a, o, vs, m, rfl, ha, hc, hd, r⟩ := r1.inv
      ·
        have hl : h1.IsTuple a vs.toArray := ⟨_, x1.sub _ _ ha, hc, m, hd⟩
        have hne : a ≠ h1.objs.size := Nat.ne_of_lt (Heap.lt_size (x1.sub _ _ ha))
        refine wpAny_pyIter_tuple (s := { s with heap := h1, toks := t1 }) hl ?_
        have x2 := x1.trans (Ext.pushBare x1.sub { cls := .type "tuple_iterator", data := .fields #[.ref a, .int 0 0] })
        refine k _ [h1.objs.size] _ _ _ g1 t1 x2 (Wk.ofWalksT (Walks.tuple ok.h h1.objs.size a hne vs.toArray) (two_fp ha) (fun i h st => tupiter_live st) (one_none gnew)
          (fun i v d hv hd => ⟨repL_at r hv hd, isTup_of (List.all_eq_true.mp hall d (List.mem_of_getElem? hd))⟩) (by simp only [List.size_toArray]; exact r.length) (fun i h st => ?_)) ⟨⟨⟨_, Heap.get?_push_size _ rfl, rfl, rfl⟩, hl.push _⟩, x2.sub⟩ (one_heap snew) (one_none gnew) p1
        obtain ⟨⟨o, q1, q2, q3⟩, _⟩ := st
        exact ⟨o, _, _, q1, q2, q3, by decide⟩
    · cases e2
  · cases e2
end
end Mine

/-! UFn -/
namespace Mine

noncomputable def fdOf (K : Frag) (a : Addr) : Option FuncData := match K.lookup a with
  | some ⟨_, _, .func fd, _⟩ => some fd
  | _ => none
noncomputable def outD : Option Out → Option D
  | some (.ret d) => some d
  | _ => none
noncomputable def fnF (k m : Nat) (f : List D → Option Out) : List D → Option D := fun ds => if ds.length = k then outD (f (ds ++ List.replicate m .undef)) else none

theorem bindL_get {kd : Str → Option NameKind} : ∀ (ns : List Str) (vs : List Value) (m : Str → Option Value), ns.Nodup → (∀ x, x ∈ ns → kd x = some .local ∨ kd x = some .cell) → ∀ (i : Nat) (x : Str) (v : Value), ns[i]? = some x → vs[i]? = some v → kd x = some .local → ns.length = vs.length → bindL kd (ns.zip vs) m x = some v
  | [], _, _, _, _, i, x, v, h, _, _, _ => by simp at h
  | _ :: _, [], _, _, _, _, _, _, _, _, _, hl => by simp at hl
  | y :: ns, w :: vs, m, hn, hk, i, x, v, h1, h2, h3, hl => by
    have stay : ∀ (ns : List Str) (vs : List Value) (m : Str → Option Value), x ∉ ns → bindL kd (ns.zip vs) m x = m x := by
      intro ns
      induction ns with
      | nil => intro vs m _; rfl
      | cons z ns ih =>
        intro vs m hx
        cases vs with
        | nil => rfl
        | cons u vs =>
          show bindL kd (ns.zip vs) _ x = m x
          rw [ih vs _ (fun q => hx (List.mem_cons_of_mem _ q))]
          split
          · exact if_neg (fun q : x = z => hx (by rw [q]; exact List.mem_cons_self))
          · rfl
    rw [List.nodup_cons] at hn
    show bindL kd (ns.zip vs) _ x = some v
    cases i with
    | zero =>
      simp at h1 h2
      subst h1 h2
      rw [stay ns vs _ hn.1, if_pos h3]
      exact if_pos rfl
    | succ i =>
      exact bindL_get ns vs _ hn.2 (fun z hz => hk z (List.mem_cons_of_mem _ hz)) i x v (by simpa using h1) (by simpa using h2) h3 (by simpa using hl)
theorem bindC_get {kd : Str → Option NameKind} : ∀ (ns : List Str) (vs : List Value) (m : Str → Option Value), ns.Nodup → ∀ (i : Nat) (x : Str) (v : Value), ns[i]? = some x → vs[i]? = some v → kd x = some .cell → ns.length = vs.length → bindC kd (ns.zip vs) m x = some v
  | [], _, _, _, i, x, v, h, _, _, _ => by simp at h
  | _ :: _, [], _, _, _, _, _, _, _, _, hl => by simp at hl
  | y :: ns, w :: vs, m, hn, i, x, v, h1, h2, h3, hl => by
    have stay : ∀ (ns : List Str) (vs : List Value) (m : Str → Option Value), x ∉ ns → bindC kd (ns.zip vs) m x = m x := by
      intro ns
      induction ns with
      | nil => intro vs m _; rfl
      | cons z ns ih =>
        intro vs m hx
        cases vs with
        | nil => rfl
        | cons u vs =>
          show bindC kd (ns.zip vs) _ x = m x
          rw [ih vs _ (fun q => hx (List.mem_cons_of_mem _ q))]
          split
          · rfl
          · exact if_neg (fun q : x = z => hx (by rw [q]; exact List.mem_cons_self))
    rw [List.nodup_cons] at hn
    show bindC kd (ns.zip vs) _ x = some v
    cases i with
    | zero =>
      simp at h1 h2
      subst h1 h2
      rw [stay ns vs _ hn.1, if_neg (by rw [h3]; decide)]
      exact if_pos rfl
    | succ i =>
      exact bindC_get ns vs _ hn.2 i x v (by simpa using h1) (by simpa using h2) h3 (by simpa using hl)

theorem cellsFrom_has (x : Str) : ∀ (names : List (Str × NameKind)) (k : Nat) (acc : List (Str × Addr)), (names.lookup x = some .cell ∨ (acc.lookup x).isSome = true) → ((cellsFrom k names acc).lookup x).isSome = true
  | [], _, _, h => by
    rcases h with h | h
    · cases h
    · exact h
  | (y, kd) :: r, k, acc, h => by
    unfold cellsFrom
    have key : ∀ k' acc', (r.lookup x = some .cell ∨ (acc'.lookup x).isSome = true) → ((cellsFrom k' r acc').lookup x).isSome = true := fun k' acc' => cellsFrom_has x r k' acc'
    cases hxy : x == y with
    | true =>
      rw [List.lookup_cons, hxy] at h
      rcases h with h | h
      · cases h
        rw [if_pos (by rfl)]
        exact key _ _ (.inr (by rw [List.lookup_cons, hxy]; rfl))
      · split
        · exact key _ _ (.inr (by rw [List.lookup_cons, hxy]; rfl))
        · exact key _ _ (.inr h)
    | false =>
      rw [List.lookup_cons, hxy] at h
      split
      · refine key _ _ (h.imp id fun h => ?_)
        rw [List.lookup_cons, hxy]; exact h
      · exact key _ _ h

theorem pairwise_cells {cs : List (Str × Addr)} (hp : cs.Pairwise fun x y => x.2 ≠ y.2) {x y : Str} {c : Addr} (hx : cs.lookup x = some c) (hy : cs.lookup y = some c) : x = y := by
  have h1 := mem_of_lookup hx
  have h2 := mem_of_lookup hy
  exact (name_of_addr hp h1 h2)

section
variable {c : Cx} {n : Nat}

noncomputable def CallK (c : Cx) (n : Nat) (fv : Value) (args : List Value → Args) (F : List D → Option D) : Prop :=
  ∀ (A : Around) (s : Shared) (g : Gh) (vs : List Value) (ds : List D) (d : D) (Q : Value → Shared → Prop) (E : Value → Shared → Prop),
    Ok A n → Gd c.K c.mg c.mb s.heap → Sub g s.heap → RepL g vs ds → 0 < s.toks → F ds = some d → Post s g d Q → wpAny (model c.prog c.w) A (call fv (args vs).pos (args vs).kw) Q E s

theorem fn_core {a : Addr} {fd : FuncData} {sc : Scope} {vars ns : List Str} {body : List Stmt} {o' : Option Nat} {f : List D → Option Out} {args : List Value → Args} (k m : Nat)
    (hfd : fdOf c.K a = some fd) (hbody : fd.body = .stmts body) (hcl : fd.closure = []) (hgl : fd.globals = mainGlobals) (hbn : fd.builtins = builtinsNs) (hsc : fd.scope = sc) (hcode : codeIn c.K fd.code fd.qualname = true)
    (hb : Ex c n sc vars none none o' body f) (hbind : ∀ vs : List Value, vs.length = k → bindArgs fd (args vs) = pure (ns.zip vs)) (hvars : ∃ rest, vars = ns ++ rest) (hk : ns.length = k) (hlen : vars.length = k + m) (hnd : vars.Nodup)
    (hns : ∀ x ∈ ns, sc.names.lookup x = some .local ∨ sc.names.lookup x = some .cell) (hnf : ∀ x, sc.names.lookup x ≠ some .free)
    (hco : sc.isCoroutine = false) (hgen : sc.isGenerator = false) (hkd : sc.kind = .function) : CallK c (n + 1) (.ref a) args (fnF k m f) := by
  intro A s g vs ds d Q E ok G hs r hp e post
  unfold fnF at e
  split at e
  · rename_i hdl
    have hvl : vs.length = k := by rw [r.length]; exact hdl
    obtain ⟨rest, hvars⟩ := hvars
    subst hsc
    unfold fdOf at hfd
    split at hfd
    · rename_i oc od fd' osl hlook
      cases hfd
      have hO := G.k _ _ hlook
      have hns' : ∀ x ∈ ns.zip vs, fd.scope.names.lookup x.1 = some .local ∨ (fd.scope.names.lookup x.1 = some .cell ∧ ((cellsFrom (s.heap.objs.size + 1) fd.scope.names []).lookup x.1).isSome = true) := fun x hx => by
        have := hns x.1 (List.of_mem_zip hx).1
        exact this.imp id fun h => ⟨h, cellsFrom_has _ _ _ _ (.inl h)⟩
      refine wpAny_call (codeAny_call_function ok.room hO rfl hco hgen hbody (codeRec_of G.k hcode) ?_)
      rw [hbind vs hvl, hcl]
      refine wpAny_pure (toksT hp (wpAny_newFunctionEnv_cells hkd hns' fun env he s' x hp' => ?_))
      have hnl : s'.heap.NoLimit := G.nl.keeps x.toInCall.keep
      refine ⟨hnl, codeAny_func ?_⟩
      obtain ⟨h1, tk1, rfl⟩ := x.toInCall.same
      have hes : env.scope = fd.scope := by rw [he]; rfl
      have hL : s.heap.objs.size ≤ env.locals := x.toInCall.fresh
      have hLn : s.heap.get? env.locals = none := none_at_size _ hL
      have above : ∀ y c', env.cells.lookup y = some c' → env.locals < c' := fun y c' e => x.above y c' (mem_of_lookup e)
      have sub1 : Sub g h1 := fun b o e => x.toInCall.keep _ _ (hs _ _ e)
      have hcells : env.cells = cellsFrom (s.heap.objs.size + 1) fd.scope.names [] := by rw [he]; rfl
      have F : Fm fd.scope env vars (fun _ => False) s.heap.get? g none (ds ++ List.replicate m .undef) g h1 := by
        refine ⟨hes, hkd, by rw [he]; exact hgl, by rw [he]; exact hbn, hnd, by rw [List.length_append, List.length_replicate, hdl, hlen], fun _ _ e => e, sub1, x.toInCall.keep, fun _ _ e => .inl e, hLn, hs.none hLn, fun q => q, fun _ q => q.elim, fun _ q => q.elim,
          ⟨_, x.toInCall.ns, fun i y d' a1 b1 c1 e1 _ => ?_, fun _ e => nomatch e⟩, fun y hy => ?_, fun y c' e => ?_, fun y z c' e1 e2 => pairwise_cells x.apart e1 e2, fun i y d' a1 b1 c1 e1 => ?_, hnf⟩
        · by_cases hi : i < ds.length
          · rw [List.getElem?_append_left hi] at b1
            obtain ⟨v, hv, hr⟩ := r.get b1
            rw [hvars, List.getElem?_append_left (by rw [hk, ← hdl]; exact hi)] at a1
            exact ⟨v, bindL_get ns vs _ (by rw [hvars] at hnd; exact (List.nodup_append.mp hnd).1) (fun z hz => by show env.scope.names.lookup z = _ ∨ env.scope.names.lookup z = _; rw [hes]; exact hns z hz) i y v a1 hv (by show env.scope.names.lookup y = _; rw [hes]; exact e1) (by rw [hk, hvl]), hr⟩
          · rw [List.getElem?_append_right (Nat.le_of_not_lt hi), List.getElem?_replicate] at b1
            split at b1
            · cases b1; cases c1
            · cases b1
        · obtain ⟨c', hc'⟩ := Option.isSome_iff_exists.mp (cellsFrom_has y fd.scope.names (s.heap.objs.size + 1) [] (.inl hy))
          exact ⟨c', by rw [hcells]; exact hc'⟩
        · have habove := above y c' e
          have hn' : s.heap.get? c' = none := none_at_size _ (Nat.le_trans hL (Nat.le_of_lt habove))
          exact ⟨fun q => q, hs.none hn', hn', Nat.ne_of_gt habove, _, x.cell y c' e⟩
        · by_cases hi : i < ds.length
          · rw [List.getElem?_append_left hi] at b1
            obtain ⟨v, hv, hr⟩ := r.get b1
            rw [hvars, List.getElem?_append_left (by rw [hk, ← hdl]; exact hi)] at a1
            obtain ⟨c', hc'⟩ := Option.isSome_iff_exists.mp (cellsFrom_has y fd.scope.names (s.heap.objs.size + 1) [] (.inl e1))
            rw [← hcells] at hc'
            have := x.cell y c' hc'
            rw [bindC_get ns vs _ (by rw [hvars] at hnd; exact (List.nodup_append.mp hnd).1) i y v a1 hv (by show env.scope.names.lookup y = _; rw [hes]; exact e1) (by rw [hk, hvl])] at this
            exact ⟨c', v, hc', this, hr⟩
          · rw [List.getElem?_append_right (Nat.le_of_not_lt hi), List.getElem?_replicate] at b1
            split at b1
            · cases b1; cases c1
            · cases b1
      have GP : GdP c s.heap.get? := fun h hk => G.keeps hk
      cases hout : f (ds ++ List.replicate m .undef) with
      | none => rw [hout] at e; cases e
      | some out =>
        rw [hout] at e
        refine hb env (A.deeper env) { s with heap := h1, toks := tk1 } _ _ g g _ out _ _ ok.deeper GP F hp' hout ?_
        cases out with
        | ret d' =>
          cases e
          intro v g2 h2 tk2 Fg r2 hp2
          exact post v h2 g2 tk2 ⟨Fg.le, Fg.sub, Fg.keep, Fg.fresh⟩ r2
        | _ => cases e
    · cases hfd
  · cases e

theorem fn_ok {a : Addr} {fd : FuncData} {sc : Scope} {vars ns : List Str} {body : List Stmt} {o' : Option Nat} {f : List D → Option Out} (k m : Nat)
    (hfd : fdOf c.K a = some fd) (hbody : fd.body = .stmts body) (hcl : fd.closure = []) (hgl : fd.globals = mainGlobals) (hbn : fd.builtins = builtinsNs) (hsc : fd.scope = sc) (hcode : codeIn c.K fd.code fd.qualname = true)
    (hb : Ex c n sc vars none none o' body f) (hbind : ∀ vs : List Value, vs.length = k → bindArgs fd ⟨vs, []⟩ = pure (ns.zip vs)) (hvars : ∃ rest, vars = ns ++ rest) (hk : ns.length = k) (hlen : vars.length = k + m) (hnd : vars.Nodup)
    (hns : ∀ x ∈ ns, sc.names.lookup x = some .local ∨ sc.names.lookup x = some .cell) (hnf : ∀ x, sc.names.lookup x ≠ some .free)
    (hco : sc.isCoroutine = false) (hgen : sc.isGenerator = false) (hkd : sc.kind = .function) : CallOk c (n + 1) (.ref a) (fnF k m f) :=
  fn_core (args := fun vs => ⟨vs, []⟩) k m hfd hbody hcl hgl hbn hsc hcode hb hbind hvars hk hlen hnd hns hnf hco hgen hkd
end
end Mine

/-! UPre -/
namespace Mine

@[reducible] noncomputable def cx (w : World) (mg mb : Str → Option Value) : Cx := ⟨PySem.Challenge.rw_uj0010_01.row.prog, w, Mine.heap0 w.params, mg, mb⟩

noncomputable def cmpT (o : D → D → Option D) (f g : List D → Option D) : List D → Option Bool := fun ρ => toB (bin2 o f g ρ)
noncomputable def notT (f : List D → Option Bool) : List D → Option Bool := fun ρ => (f ρ).map (!·)
noncomputable def assertX (ft : List D → Option Bool) : List D → Option Out := fun ρ => if ft ρ = some true then some (.nxt ρ) else none
noncomputable def orE (tr : D → Option Bool) (f g : List D → Option D) : List D → Option D := fun ρ => match f ρ with
  | none => none
  | some x => match tr x with
    | none => none
    | some true => some x
    | some false => g ρ
noncomputable def dictX (j : Nat) : List D → Option Out := fun ρ => some (.nxt (ρ.set j (.dct [])))
noncomputable def splitE (f g : List D → Option D) : List D → Option (List D) := fun ρ => match f ρ with
  | none => none
  | some x => match g ρ with
    | none => none
    | some y => splitF x y

theorem bindsLen0 {fd : FuncData} {ns : List Str} (h : bindArgs fd ⟨[], []⟩ = pure (ns.zip [])) : ∀ vs : List Value, vs.length = 0 → bindArgs fd ⟨vs, []⟩ = pure (ns.zip vs)
  | [], _ => h
theorem bindsLen1 {fd : FuncData} {ns : List Str} (h : ∀ a, bindArgs fd ⟨[a], []⟩ = pure (ns.zip [a])) : ∀ vs : List Value, vs.length = 1 → bindArgs fd ⟨vs, []⟩ = pure (ns.zip vs)
  | [a], _ => h a
theorem bindsLen2 {fd : FuncData} {ns : List Str} (h : ∀ a b, bindArgs fd ⟨[a, b], []⟩ = pure (ns.zip [a, b])) : ∀ vs : List Value, vs.length = 2 → bindArgs fd ⟨vs, []⟩ = pure (ns.zip vs)
  | [a, b], _ => h a b
theorem bindsLen3 {fd : FuncData} {ns : List Str} (h : ∀ a b c, bindArgs fd ⟨[a, b, c], []⟩ = pure (ns.zip [a, b, c])) : ∀ vs : List Value, vs.length = 3 → bindArgs fd ⟨vs, []⟩ = pure (ns.zip vs)
  | [a, b, c], _ => h a b c

theorem locs_ {sc : Scope} {ns : List Str} (h : (ns.all fun x => decide (sc.names.lookup x = some .local ∨ sc.names.lookup x = some .cell)) = true) : ∀ x ∈ ns, sc.names.lookup x = some .local ∨ sc.names.lookup x = some .cell :=
  fun x hx => of_decide_eq_true (List.all_eq_true.mp h x hx)
theorem noFree {sc : Scope} (h : (sc.names.all fun p => p.2 != .free) = true) (x : Str) : sc.names.lookup x ≠ some .free := fun e => by
  have := List.all_eq_true.mp h (x, .free) (mem_of_lookup e)
  simp at this

theorem hF_upperF (d : D) (ds : List D) (e : D) (h : upperF (d :: ds) = some e) : isStr d = true := by
  unfold upperF at h
  split at h
  · rename_i q; cases q; rfl
  · cases h
theorem hF_lowerF (d : D) (ds : List D) (e : D) (h : lowerF (d :: ds) = some e) : isStr d = true := by
  unfold lowerF at h
  split at h
  · rename_i q; cases q; rfl
  · cases h
theorem hF_startsF (d : D) (ds : List D) (e : D) (h : startsF (d :: ds) = some e) : isStr d = true := by
  unfold startsF at h
  split at h
  · rename_i q; cases q; rfl
  · cases h
theorem hF_endsF (d : D) (ds : List D) (e : D) (h : endsF (d :: ds) = some e) : isStr d = true := by
  unfold endsF at h
  split at h
  · rename_i q; cases q; rfl
  · cases h
theorem hF_findF (d : D) (ds : List D) (e : D) (h : findF (d :: ds) = some e) : isStr d = true := by
  unfold findF at h
  split at h
  · rename_i q; cases q; rfl
  · cases h
end Mine

/-! UMore -/
namespace Mine

inductive NLs (sc : Scope) (vars : List Str) (own : Option Nat) : List Str → List Nat → Prop
  | nil : NLs sc vars own [] []
  | cons {x : Str} {xs : List Str} {j : Nat} {js : List Nat} : Var sc vars own x j → NLs sc vars own xs js → NLs sc vars own (x :: xs) (j :: js)

theorem NLs.len {sc : Scope} {vars : List Str} {own : Option Nat} {xs : List Str} {js : List Nat} (h : NLs sc vars own xs js) : xs.length = js.length := by
  induction h with
  | nil => rfl
  | cons _ _ ih => rw [List.length_cons, List.length_cons, ih]
theorem RepL.reverse {g : Gh} : ∀ {vs : List Value} {ds : List D}, RepL g vs ds → RepL g vs.reverse ds.reverse
  | _, _, .nil => .nil
  | _, _, .cons h r => by
    rw [List.reverse_cons, List.reverse_cons]
    exact r.reverse.append (.cons h .nil)

section
variable {c : Cx} {n : Nat} {sc : Scope} {vars : List Str} {R : Addr → Prop} {P g0 g : Gh} {own : Option Nat} {ρ : List D} {env : Env} {A : Around} {h : Heap} {ob o : Option Nat}

theorem Fm.bindAll {E : Value → Shared → Prop} {xs : List Str} {js : List Nat} (hn : NLs sc vars own xs js) : ∀ {ds : List D} {vs : List Value} {ρ ρ' : List D} {s : Shared} {Q : Unit → Shared → Prop}, Fm sc env vars R P g0 own ρ g s.heap → 0 < s.toks → RepL g vs ds →
    setAll js ds ρ = some ρ' →
    (∀ h' tk', Fm sc env vars R P g0 own ρ' g h' → 0 < tk' → Q () { s with heap := h', toks := tk' }) →
    wpAny (model c.prog c.w) A (assignInOrder (xs.map fun x => bindName env x) vs) Q E s := by
  induction hn with
  | nil =>
    intro ds vs ρ ρ' s Q F hp r e k
    cases r with
    | nil => cases e; exact wpAny_pure (k s.heap s.toks F hp)
    | cons _ _ => cases e
  | @cons x xs j js hv hn ih =>
    intro ds vs ρ ρ' s Q F hp r e k
    cases r with
    | nil => cases e
    | @cons v vs d ds r1 r2 =>
      unfold setAll at e
      show wpAny _ A (assignInOrder (bindName env x :: xs.map fun x => bindName env x) (v :: vs)) Q E s
      have hrest : ∀ h' tk', Fm sc env vars R P g0 own (ρ.set j d) g h' → (∀ b o, R b → s.heap.get? b = some o → h'.get? b = some o) → 0 < tk' → wpAny (model c.prog c.w) A (assignInOrder (xs.map fun x => bindName env x) vs) Q E { s with heap := h', toks := tk' } :=
        fun h' tk' F' _ p' => ih F' p' r2 e fun h2 t2 F2 p2 => k h2 t2 F2 p2
      unfold assignInOrder
      first
        | exact wpAny_bind (wpAny_holding (wpAny_bindName (F.store hp hv.hx hv.hk hv.ho r1 hrest)))
        | exact wpAny_bind (wpAny_bindName (F.store hp hv.hx hv.hk hv.ho r1 hrest))

/-- `a, b = x, y`: the last name first -/
noncomputable def asgSwapX (own : Option Nat) (rjs : List Nat) (f : List D → Option D) : List D → Option Out := fun ρ => match evS own f ρ with
  | some (.tup ds) => (setAll rjs ds.reverse ρ).map .nxt
  | _ => none
theorem St.asgSwap {elts : List Expr} {k : Nat} {tpos p : Pos} {e : Expr} {f : List D → Option D} {xs rxs : List Str} {rjs : List Nat} (hn : NLs sc vars o rxs rjs) (h : Ev c n sc vars e f) (hr : xs.reverse = rxs)
    (hs : ∀ env : Env, env.scope = sc → swapsWithSole [.Tuple elts k tpos] e p.line env = pure false) (hw : ∀ env : Env, env.scope = sc → swappedStores [.Tuple elts k tpos] e env = pure (some xs)) :
    St c n sc vars ob o o (.Assign [.Tuple elts k tpos] e p) (asgSwapX o rjs f) := by
  intro env A s R P g0 g ρ out Q E ok G F hp e' kk
  unfold asgSwapX at e'
  split at e'
  · rename_i ds e1
    obtain ⟨ρ', e2, rfl⟩ := Option.map_eq_some_iff.mp e'
    refine Assign_Tuple_swapped ?_ (hs env F.es) (hw env F.es)
    refine F.run ok G hp h e1 fun v g' h' tk' F' _ _ r p => ?_
    obtain ⟨a, oo, vs, m, rfl, q1, q2, q3, q4⟩ := r.inv
    ·
      have hT : IsTup h' a vs.toArray := ⟨oo, F'.sub _ _ q1, q2, m, q3⟩
      have hl : xs.length = vs.toArray.size := by
        have e3 := setAll_len e2
        have e4 : rxs.length = rjs.length := hn.len
        rw [← hr, List.length_reverse] at e4
        rw [List.length_reverse, ← q4.length] at e3
        simp only [List.size_toArray]
        omega
      rw [hl]
      refine unpackItems_tuple (s := { s with heap := h', toks := tk' }) ok.h hT fun h2 hx => ?_
      have keep : ∀ b o, h'.get? b = some o → h2.get? b = some o := fun b o e => hx b o (Nat.ne_of_lt (Heap.lt_size e)) e
      rw [hr]
      exact (F'.keeps keep).bindAll (s := { s with heap := h2, toks := tk' }) hn p q4.reverse e2 fun h3 t3 F3 p3 => kk g' h3 t3 F3 p3
  · cases e'

noncomputable def asgTupX (own : Option Nat) (js : List Nat) (f : List D → Option D) : List D → Option Out := fun ρ => match evS own f ρ with
  | some d => (setT (.many js) d ρ).map .nxt
  | none => none
theorem St.asgTup {elts : List Expr} {k : Nat} {tpos p : Pos} {e : Expr} {f : List D → Option D} {js : List Nat} (hn : NL sc vars o elts js) (h : Ev c n sc vars e f)
    (hs : ∀ env, swapsWithSole [.Tuple elts k tpos] e p.line env = pure false) (hw : ∀ env : Env, env.scope = sc → swappedStores [.Tuple elts k tpos] e env = pure none) :
    St c n sc vars ob o o (.Assign [.Tuple elts k tpos] e p) (asgTupX o js f) := by
  intro env A s R P g0 g ρ out Q E ok G F hp e' kk
  unfold asgTupX at e'
  split at e'
  · rename_i d e1
    obtain ⟨ρ', e2, rfl⟩ := Option.map_eq_some_iff.mp e'
    refine Assign_Tuple ?_ (hs env) (hw env F.es)
    refine F.run ok G hp h e1 fun v g' h' tk' F' _ _ r p => ?_
    refine F'.assignT (s := { s with heap := h', toks := tk' }) (d := d) ok (.many hn) p ?_ e2 fun h2 t2 F2 _ p2 => kk g' h2 t2 F2 p2
    unfold setT at e2
    split at e2
    · rename_i q; cases q
    · cases r with
      | @tup a oo vs m _ q1 q2 q3 q4 => exact ⟨a, vs, _, rfl, rfl, ⟨oo, F'.sub _ _ q1, q2, m, q3⟩, q4⟩
    · cases e2
  · cases e'

/-- `f(*x)` -/
noncomputable def starF (F : List D → Option D) : D → Option D
  | .tup l => if l.length ≤ 1000 then F l else none
  | _ => none
theorem Ev.star {x : Str} {p pos q : Pos} {e : Expr} {fv : Value} {f : List D → Option D} {F : List D → Option D} (hx : NameV c sc x fv) (hd : (x == ("__debug__" : Str)) = false) (h : Ev c n sc vars e f) (hk : keepIn c.K fv = true) (hc : CallOk c n fv F)
    (hst : ∀ env, starEach [.Starred e q] env = [(true, eval e env)]) : Ev c n sc vars (.Call (.Name x p) [.Starred e q] [] pos) (un1 (starF F) f) := by
  intro env A s g ρ d Q E ok G hs V hp e' k
  obtain ⟨a, e1, e2⟩ := un1_some e'
  unfold starF at e2
  split at e2
  · split at e2
    · rename_i hl
      refine wpAny_Call_Name_kw (evalName hx hd G V ?_)
      refine callWith_S (K := c.K) G.k hk ?_ (hst env)
      refine h env A s g ρ _ _ E ok G hs V hp e1 fun v h1 g1 t1 x1 r1 p1 => ?_
      obtain ⟨a, oo, vs, m, rfl, q1, q2, q3, q4⟩ := r1.inv
      ·
        have D := x1.sub _ _ q1
        have hT' : Shared.TypeIs { s with heap := h1, toks := t1 } (.ref a) "tuple" := ⟨oo, D, q2⟩
        unfold StarOf notIterableAtAll
        refine wpAny_bind (wpAny_specialOf hT' PySem.F.slot_tuple_iter.lookup (wpAny_pure ⟨rfl, ?_⟩))
        refine wpAny_collect_seq a (.inr rfl) D q2 q3 (fun h2 hk2 => ?_) (by simp only [List.size_toArray]; rw [q4.length]; exact size_ok hl)
        have x2 := x1.trans (Ext.keeps x1.sub hk2)
        refine ⟨(G.keeps x2.keep).k, toksT p1 (hc A _ g1 _ _ d _ E ok (G.keeps x2.keep) x2.sub q4 p1 e2 fun w h3 g3 t3 x3 r3 p3 => k w h3 g3 t3 (x2.trans x3) r3 p3)⟩
    · cases e2
  · cases e2

noncomputable def lrngB (a b d : Int) : Option (List D) :=
  let m := (Builtin.Range.rangeSize a b d).toNat
  if Builtin.Range.small a b d && decide (d ≠ 0) && decide (Builtin.Range.rangeSize a b d = m) && decide (m ≤ 1000) && !(Builtin.divisionGoesByPylong (b - a) d) then
    some ((List.range m).map fun (i : Nat) => D.int (a + Int.ofNat i * d)) else none
noncomputable def lrngF : List D → Option (List D)
  | [.int a, .int b, .int d] => lrngB a b d
  | _ => none
noncomputable def lrngE (f : List D → Option (List D)) : List D → Option (List D) := fun ρ => match f ρ with
  | none => none
  | some l => lrngF l
theorem repL_ofGet {g : Gh} : ∀ (vs : List Value) (ds : List D), vs.length = ds.length → (∀ (i : Nat) v d, vs[i]? = some v → ds[i]? = some d → Rep g v d) → RepL g vs ds
  | [], [], _, _ => .nil
  | v :: vs, d :: ds, hl, hk => .cons (hk 0 v d rfl rfl) (repL_ofGet vs ds (by simpa using hl) fun i v d h1 h2 => hk (i + 1) v d (by simpa using h1) (by simpa using h2))
  | [], _ :: _, hl, _ => by simp at hl
  | _ :: _, [], hl, _ => by simp at hl
theorem EvF.listRange {x y : Str} {p q pos pos2 : Pos} {es : List Expr} {f : List D → Option (List D)} (hl : EvL c n sc vars es f) (hx : NameV c sc x (.type "list")) (hy : NameV c sc y (.type "range")) (hdx : (x == ("__debug__" : Str)) = false) (hdy : (y == ("__debug__" : Str)) = false)
    (hplain : ∀ env, (backTo pos2 (starEach es env)).any (·.1) = false) (hst : ∀ env, starEach [.Call (.Name y q) es [] pos2] env = (false, eval (.Call (.Name y q) es [] pos2) env) :: starEach [] env) :
    EvF c n sc vars (.Call (.Name x p) [.Call (.Name y q) es [] pos2] [] pos) (lrngE f) := by
  intro env A s g ρ ds Q E ok G hs V hp e' k
  unfold lrngE at e'
  split at e'
  · cases e'
  · rename_i l e1
    unfold lrngF at e'
    split at e'
    · rename_i a b d
      unfold lrngB at e'
      dsimp only at e'
      split at e'
      · rename_i hc
        cases e'
        simp only [Bool.and_eq_true, decide_eq_true_eq, Bool.not_eq_true'] at hc
        obtain ⟨⟨⟨⟨c1, c2⟩, c3⟩, c4⟩, c5⟩ := hc
        refine wpAny_Call_Name_kw (evalName hx hdx G V ?_)
        refine callWith_callee (c := c) (.type _) (by rw [hst]; rfl) ?_
        refine args_cons ?_ (hst env)
        refine wpAny_Call_Name_kw (evalName hy hdy G V ?_)
        refine callWith_callee (c := c) (.type _) (hplain env) ?_
        refine hl env A s g ρ _ _ _ E ok G hs V hp e1 fun vs h1 g1 t1 x1 r1 p1 => ?_
        refine ⟨(G.keeps x1.keep).k, ?_⟩
        obtain ⟨v1, v2, v3, rfl, q1, q2, q3⟩ := r1.three
        obtain ⟨ta, rfl⟩ := q1.inv
        obtain ⟨tb, rfl⟩ := q2.inv
        obtain ⟨td, rfl⟩ := q3.inv
        refine toksT p1 (call_range_3 c2 ?_ (.inl c5))
        intro p2
        have x2 := x1.trans (Ext.pushBare x1.sub { cls := .type "range", data := .fields #[.int a ta, .int b tb, .int d td] })
        refine args_nil ⟨(G.keeps x2.keep).k, ?_⟩
        refine toksT p2 (call_list_range ok.h (IsRange.new ..) c1 c3 (by have := c4; omega) fun h3 tk3 acc c' hk3 hl3 hit p3 => ?_)
        have x3 := x2.trans (Ext.keeps x2.sub hk3)
        have hnone := none_at_size (h1.push { cls := .type "range", data := .fields #[.int a ta, .int b tb, .int d td] }) (Nat.le_refl _)
        refine k _ acc.toList c' h3 g1 tk3 x3 (get_none_of_keep x2.keep hnone) (x2.sub.none hnone) (by simpa using hl3) (repL_ofGet _ _ (by simp [hit.1]) fun i v dd hv hd => ?_) p3
        obtain ⟨t', rfl⟩ := hit.2 i v (by simpa using hv)
        simp only [List.getElem?_map, Option.map_eq_some_iff] at hd
        obtain ⟨j, hj, rfl⟩ := hd
        obtain ⟨hlt, rfl⟩ := List.getElem?_eq_some_iff.mp hj
        simp only [List.getElem_range]
        exact .int _ _
      · cases e'
    · cases e'
end
end Mine

/-! UComp -/
namespace Mine

noncomputable def testsOf (ifs : List Expr) (env : Env) : Sem Bool :=
  forIn ifs true fun c r => if r = true then do let ok ← isTrue c env (eval c env); pure (ForInStep.yield ok) else pure (ForInStep.yield r)

theorem compLoop_any {prog : Program} {w : World} {A : Around} {R : Result → Shared → Prop} {elt target iter : Expr} {ifs : List Expr} {scope : Scope} {pos : Pos} {it acc : Value} {env : Env} (I : Nat → Shared → Prop)
    (turn : ∀ n s, I n s → wpAny (model prog w) A (pyNext it) (fun r s₁ => match r with
      | none => R (.ok .next) s₁
      | some v => wpAny (model prog w) A (letOwnedTupleGo target it v) (fun _ s₁' => wpAny (model prog w) A (assign target env v) (fun _ s₂ =>
          wpAny (model prog w) A (testsOf ifs env) (fun ok s₃ =>
            if ok = true then wpAny (model prog w) A (eval elt env) (fun x s₄ =>
              wpAny (model prog w) A (call (.builtin "list.append") [acc, x]) (fun _ s₅ => ∃ m, m < n ∧ I m s₅) (notedBy (model prog w) A env fun e s' => R (.error e) s') s₄) (notedBy (model prog w) A env fun e s' => R (.error e) s') s₃
            else ∃ m, m < n ∧ I m s₃) (notedBy (model prog w) A env fun e s' => R (.error e) s') s₂) (notedBy (model prog w) A env fun e s' => R (.error e) s') s₁') (notedBy (model prog w) A env fun e s' => R (.error e) s') s₁) (notedBy (model prog w) A env fun e s' => R (.error e) s') s)
    {s : Shared} (n : Nat) (h : I n s) :
    codeAny (model prog w) A (.compLoop (.ListComp elt [⟨target, iter, ifs, 0⟩] scope pos) 0 it acc env) R s := by
  refine codeAny_loop rfl I (fun n s hI => ?_) n h
  show wpAny _ A ((compTurn (.ListComp elt [⟨target, iter, ifs, 0⟩] scope pos) 0 it acc env).onRaise (fun x => do noteFrame x env; theTreesLotGoes x)) _ _ s
  refine wpAny_noted ?_
  rw [compTurn_list]
  refine wpAny_bind (wpAny_standAt (wpAny_bind (wpAny_mono (turn n s hI) (fun r s₁ h₁ => ?_) fun _ _ h' => h')))
  cases r with
  | none => exact wpAny_pure h₁
  | some v =>
    refine wpAny_bind (wpAny_mono h₁ (fun _ s₁' h₁' => ?_) fun _ _ h' => h')
    refine wpAny_bind (wpAny_mono h₁' (fun _ s₂ h₂ => wpAny_bind (wpAny_mono h₂ (fun ok s₃ h₃ => ?_) fun _ _ h' => h')) fun _ _ h' => h')
    cases ok with
    | false => exact wpAny_pure ⟨rfl, h₃⟩
    | true =>
      exact wpAny_bind (wpAny_bind (wpAny_mono h₃ (fun x s₄ h₄ => wpAny_bind (wpAny_mono h₄ (fun _ s₅ h₅ => wpAny_pure (wpAny_pure ⟨rfl, h₅⟩)) fun _ _ h' => h')) fun _ _ h' => h'))

noncomputable def relabelS (scope sc : Scope) : Scope :=
  { scope with names := scope.names.map fun (n, k) => if (k == .free && sc.kind == .function && sc.names.lookup n == some .cell) then (n, .cell) else (n, k) }

noncomputable def compOk (sc scope : Scope) (vars tns cns : List Str) (caps : List Nat) : Bool :=
  decide (scope.kind = .function) && scope.names.all (fun y => decide (y.2 ≠ .cell)) && scope.names.all (fun y => decide (y.2 = .local → scope.names.lookup y.1 = some .local)) &&
  scope.names.all (fun y => decide (y.2 = .free → y.1 ∈ cns)) && tns.all (fun x => decide ((relabelS scope sc).names.lookup x = some .local)) && decide (caps.map (fun i => vars[i]?) = cns.map some) &&
  cns.all (fun y => decide (sc.names.lookup y = some .cell) && decide ((relabelS scope sc).names.lookup y = some .cell)) && decide ((tns ++ cns).Nodup)

inductive NE : List Expr → List Str → Prop
  | nil : NE [] []
  | cons {x : Str} {p : Pos} {es : List Expr} {xs : List Str} : NE es xs → NE (.Name x p :: es) (x :: xs)
inductive CTgt : Expr → List Str → Option Nat → Prop
  | one {x : Str} {p : Pos} : CTgt (.Name x p) [x] none
  | many {es : List Expr} {k m : Nat} {p : Pos} {xs : List Str} : NE es xs → xs.length = m → CTgt (.Tuple es k p) xs (some m)
noncomputable def tgtVals : Option Nat → D → Option (List D)
  | none, d => some [d]
  | some k, .tup l => if l.length = k then some l else none
  | _, _ => none
noncomputable def capD : List Nat → List D → Option (List D)
  | [], _ => some []
  | i :: is, ρ => match getv i ρ with
    | none => none
    | some d => match capD is ρ with
      | none => none
      | some ds => some (d :: ds)
noncomputable def compL (tk : Option Nat) (cs : List D) (ft : List D → Option Bool) (fe : List D → Option D) : List D → Option (List D)
  | [] => some []
  | d :: ds => match tgtVals tk d with
    | none => none
    | some ts => match ft (ts ++ cs) with
      | none => none
      | some false => compL tk cs ft fe ds
      | some true => match fe (ts ++ cs) with
        | none => none
        | some y => match compL tk cs ft fe ds with
          | none => none
          | some ys => some (y :: ys)
noncomputable def compD (tk : Option Nat) (caps : List Nat) (fi : List D → Option (List D)) (ft : List D → Option Bool) (fe : List D → Option D) : List D → Option (List D) := fun ρ => match fi ρ with
  | none => none
  | some ds => if ds.length ≤ 1000 then (match capD caps ρ with
    | none => none
    | some cs => compL tk cs ft fe ds) else none
noncomputable def compF (tk : Option Nat) (caps : List Nat) (fi : List D → Option (List D)) (ft : List D → Option Bool) (fe : List D → Option D) : List D → Option D := fun ρ => (compD tk caps fi ft fe ρ).map .lst

inductive Tests (c : Cx) (n : Nat) (sc : Scope) (vars : List Str) : List Expr → (List D → Option Bool) → Prop
  | nil : Tests c n sc vars [] (fun _ => some true)
  | one {t : Expr} {f : List D → Option Bool} : Te c n sc vars t f → Tests c n sc vars [t] f

section
variable {c : Cx} {n : Nat} {sc : Scope} {vars : List Str} {R : Addr → Prop} {P g0 g : Gh} {own : Option Nat} {ρ : List D} {env : Env} {A : Around} {h : Heap} {ob o : Option Nat}

theorem Tests.run {ifs : List Expr} {f : List D → Option Bool} (T : Tests c n sc vars ifs f) {s : Shared} {Q : Bool → Shared → Prop} {E : Value → Shared → Prop} {b : Bool} (ok : Ok A n) (G : Gd c.K c.mg c.mb s.heap) (hs : Sub g s.heap) (V : View sc env vars ρ g s.heap)
    (hp : 0 < s.toks) (e : f ρ = some b) (k : PostBT s g b Q) : wpAny (model c.prog c.w) A (testsOf ifs env) Q E s := by
  unfold testsOf
  cases T with
  | nil => cases e; exact wpAny_tests_nil (k s.heap g s.toks (Ext.refl hs) hp)
  | one ht => exact wpAny_tests_one (ht env A s g ρ b Q E ok G hs V hp e k)

theorem NE.each {es : List Expr} {xs : List Str} (h : NE es xs) (env : Env) : assignEach es env = es.map fun e => (false, assign e env) := by
  induction h with
  | nil => rfl
  | cons _ ih => rw [List.map_cons, ← ih]; rfl
theorem NE.len {es : List Expr} {xs : List Str} (h : NE es xs) : es.length = xs.length := by
  induction h with
  | nil => rfl
  | cons _ ih => rw [List.length_cons, List.length_cons, ih]

theorem locals_store {env : Env} {E : Value → Shared → Prop} {es : List Expr} {xs : List Str} (hn : NE es xs) (hk : env.scope.kind = .function) : ∀ {vs : List Value} {m : Str → Option Value} {s : Shared} {Q : Unit → Shared → Prop}, s.heap.Ns env.locals m → 0 < s.toks → vs.length = xs.length → xs.Nodup →
    (∀ x ∈ xs, env.kindOf x = some .local) →
    (∀ h' tk' m', h'.Ns env.locals m' → (∀ (i : Nat) (x : Str) (v : Value), xs[i]? = some x → vs[i]? = some v → m' x = some v) → (∀ y, y ∉ xs → m' y = m y) → (∀ b o, b ≠ env.locals → s.heap.get? b = some o → h'.get? b = some o) → 0 < tk' → Q () { s with heap := h', toks := tk' }) →
    wpAny (model c.prog c.w) A (assignInOrder (es.map fun e => assign e env) vs) Q E s := by
  induction hn with
  | nil =>
    intro vs m s Q hns hp hl _ _ k
    cases vs with
    | nil => exact wpAny_pure (k s.heap s.toks m hns (fun _ _ _ e => by simp at e) (fun _ _ => rfl) (fun _ _ _ e => e) hp)
    | cons _ _ => simp at hl
  | @cons x p es xs hn ih =>
    intro vs m s Q hns hp hl hnd hloc k
    cases vs with
    | nil => simp at hl
    | cons v vs =>
      rw [List.nodup_cons] at hnd
      show wpAny _ A (assignInOrder (assign (.Name x p) env :: es.map fun e => assign e env) (v :: vs)) Q E s
      have step : wpAny (model c.prog c.w) A (storeName env x v) (fun _ s₁ => wpAny (model c.prog c.w) A (assignInOrder (es.map fun e => assign e env) vs) Q E s₁) E s := by
        refine wpAny_storeName_local (hloc x List.mem_cons_self) hns (fun h1 hn1 hs1 => ?_) (by rw [hk]; rfl)
        refine ih (s := { s with heap := h1, toks := s.toks + 1 }) hn1 (Nat.succ_pos _) (by simpa using hl) hnd.2 (fun y hy => hloc y (List.mem_cons_of_mem _ hy)) fun h2 tk2 m2 hn2 hv2 ho2 hk2 hp2 => ?_
        refine k h2 tk2 m2 hn2 (fun i y u hy hu => ?_) (fun y hy => ?_) (fun b o q e => hk2 b o q ((hs1.2 b q).trans e)) hp2
        · cases i with
          | zero =>
            simp at hy hu
            subst hy hu
            rw [ho2 _ hnd.1]; exact if_pos rfl
          | succ i => exact hv2 i y u (by simpa using hy) (by simpa using hu)
        · rw [ho2 y fun q => hy (List.mem_cons_of_mem _ q)]
          exact if_neg fun q : y = x => hy (by rw [q]; exact List.mem_cons_self)
      unfold assignInOrder
      first
        | exact wpAny_bind (wpAny_holding (wpAny_assign_Name step))
        | exact wpAny_bind (wpAny_assign_Name step)

theorem CTgt.store {tgt : Expr} {tns : List Str} {tk : Option Nat} (ht : CTgt tgt tns tk) {env : Env} {E : Value → Shared → Prop} {s : Shared} {m : Str → Option Value} {v : Value} {d : D} {ts : List D} {Q : Unit → Shared → Prop} (ok : Ok A n) (hk : env.scope.kind = .function)
    (hns : s.heap.Ns env.locals m) (hp : 0 < s.toks) (hnd : tns.Nodup) (hloc : ∀ x ∈ tns, env.kindOf x = some .local) (hv : ValAs tgt g s.heap v d) (e : tgtVals tk d = some ts)
    (k : ∀ h' tk' m' vs, h'.Ns env.locals m' → RepL g vs ts → vs.length = tns.length → (∀ (i : Nat) (x : Str) (v : Value), tns[i]? = some x → vs[i]? = some v → m' x = some v) → (∀ b o, b ≠ env.locals → s.heap.get? b = some o → h'.get? b = some o) → 0 < tk' → Q () { s with heap := h', toks := tk' }) :
    wpAny (model c.prog c.w) A (assign tgt env v) Q E s := by
  cases ht with
  | @one x p =>
    cases e
    refine wpAny_assign_Name (wpAny_storeName_local (hloc x List.mem_cons_self) hns (fun h1 hn1 hs1 => ?_) (by rw [hk]; rfl))
    refine k h1 _ _ [v] hn1 (.cons hv .nil) rfl (fun i y u hy hu => ?_) (fun b o q e => (hs1.2 b q).trans e) (Nat.succ_pos _)
    cases i with
    | zero => simp at hy hu; subst hy hu; exact if_pos rfl
    | succ i => simp at hy
  | @many es kk mm p xs hn hlen =>
    obtain ⟨T, vs, ds, rfl, rfl, hT, r⟩ := hv
    unfold tgtVals at e
    dsimp only at e
    split at e
    · rename_i hds
      cases e
      have hl := hn.each env
      have hvl : vs.length = tns.length := by rw [r.length, hds, hlen]
      have hl1 : (assignEach es env).length = vs.toArray.size := by rw [hl, List.length_map, List.size_toArray, hn.len, hvl]
      have hst : (assignEach es env).findIdx? (·.1) = none := by rw [hl, List.findIdx?_map]; simp
      refine assign_Tuple_tuple ok.h hT hl1 hst fun h' hx => ?_
      have keep : ∀ b o, s.heap.get? b = some o → h'.get? b = some o := fun b o e => hx b o (Nat.ne_of_lt (Heap.lt_size e)) e
      rw [hl, List.map_map]
      exact locals_store (s := { s with heap := h' }) hn hk (hns.keeps keep) hp hvl hnd hloc fun h2 t2 m2 hn2 hv2 _ hk2 p2 => k h2 t2 m2 vs hn2 r hvl hv2 (fun b o q e => hk2 b o q (keep _ _ e)) p2
    · cases e

theorem closure_some {scope : Scope} {env : Env} : ∀ (names : List (Str × NameKind)) (acc : List (Str × Addr)), (∀ x, (x, NameKind.free) ∈ names → ∃ a, env.cells.lookup x = some a) → (∀ x a, acc.lookup x = some a → env.cells.lookup x = some a) →
    ∃ cl, (forIn names acc (fun (p : Str × NameKind) (cs : List (Str × Addr)) => if (p.2 == NameKind.free) = true then do let a ← cellOf env p.1; pure (ForInStep.yield ((p.1, a) :: cs)) else pure (ForInStep.yield cs)) : Sem (List (Str × Addr))) = pure cl ∧
      (∀ x a, cl.lookup x = some a → env.cells.lookup x = some a) ∧ (∀ x, ((x, NameKind.free) ∈ names ∨ (acc.lookup x).isSome = true) → (cl.lookup x).isSome = true)
  | [], acc, _, ha => ⟨acc, rfl, ha, fun x h => h.elim (fun q => by cases q) id⟩
  | (y, kd) :: r, acc, hf, ha => by
    by_cases hk : kd = .free
    · subst hk
      obtain ⟨a, hy⟩ := hf y List.mem_cons_self
      have ha' : ∀ x b, ((y, a) :: acc).lookup x = some b → env.cells.lookup x = some b := fun x b e => by
        rw [List.lookup_cons] at e
        cases hxy : x == y with
        | true =>
          rw [hxy] at e
          cases e
          rw [beq_iff_eq.mp hxy]; exact hy
        | false => rw [hxy] at e; exact ha x b e
      obtain ⟨cl, h1, h2, h3⟩ := closure_some (scope := scope) (env := env) r ((y, a) :: acc) (fun x q => hf x (List.mem_cons_of_mem _ q)) ha'
      refine ⟨cl, ?_, h2, fun x q => h3 x ?_⟩
      · rw [List.forIn_cons]
        show (do let r ← (do let a ← cellOf env y; pure (ForInStep.yield ((y, a) :: acc))); _) = _
        have : cellOf env y = pure a := by unfold cellOf; rw [hy]
        rw [this]
        simpa using h1
      · rcases q with q | q
        · rcases List.mem_cons.mp q with q | q
          · cases q
            right
            rw [List.lookup_cons, beq_self_eq_true]; rfl
          · exact .inl q
        · right
          rw [List.lookup_cons]
          split <;> first | rfl | exact q
    · obtain ⟨cl, h1, h2, h3⟩ := closure_some (scope := scope) (env := env) r acc (fun x q => hf x (List.mem_cons_of_mem _ q)) ha
      refine ⟨cl, ?_, h2, fun x q => h3 x ?_⟩
      · rw [List.forIn_cons]
        have : (kd == NameKind.free) = false := by simpa using hk
        simp only [this, Bool.false_eq_true, if_false]
        simpa using h1
      · rcases q with q | q
        · rcases List.mem_cons.mp q with q | q
          · cases q; exact absurd rfl hk
          · exact .inl q
        · exact .inr q
theorem closureFor_some {scope : Scope} {env : Env} (hf : ∀ x, (x, NameKind.free) ∈ scope.names → ∃ a, env.cells.lookup x = some a) :
    ∃ cl, closureFor scope env = pure cl ∧ ∀ x, (x, NameKind.free) ∈ scope.names → cl.lookup x = env.cells.lookup x := by
  obtain ⟨cl, h1, h2, h3⟩ := closure_some (scope := scope) (env := env) scope.names [] hf (fun _ _ e => by cases e)
  refine ⟨cl, ?_, fun x hx => ?_⟩
  · unfold closureFor
    simp only [bind_pure]
    exact h1
  · obtain ⟨a, ha⟩ := Option.isSome_iff_exists.mp (h3 x (.inl hx))
    rw [ha, h2 x a ha]
end
end Mine

/-! UComp2 -/
namespace Mine

structure CompEnd (s : Shared) (g : Gh) (ys : List D) (a C : Addr) (h : Heap) (tk : Nat) (gk : Gh) (vs : List Value) (m : Nat) (mm : Str → Option Value) : Prop where
  ha : s.heap.get? a = none
  hC : s.heap.get? C = none
  ne : a ≠ C
  x : Ext s.heap g h gk
  ga : gk a = none
  gC : gk C = none
  ns : h.Ns C mm
  ob : h.get? a = some { cls := .type "list", dict := none, data := .seq vs.toArray m, slots := #[] }
  r : RepL gk vs ys
  tk : 0 < tk

noncomputable def CompDo (c : Cx) (n : Nat) (sc : Scope) (vars : List Str) (elt : Expr) (gens : List Comprehension) (scope : Scope) (pos : Pos) (f : List D → Option (List D)) : Prop :=
  ∀ (env : Env) (A : Around) (s : Shared) (g : Gh) (ρ : List D) (ys : List D) (use : Option (Value → Sem Unit)) (Q : Value → Shared → Prop) (E : Value → Shared → Prop),
    Ok A n → Gd c.K c.mg c.mb s.heap → Sub g s.heap → View sc env vars ρ g s.heap → 0 < s.toks → f ρ = some ys →
    (∀ a C h tk gk vs m mm, CompEnd s g ys a C h tk gk vs m mm → compPost (model c.prog c.w) A E use Q (.ref a) C (.ok .next) { s with heap := h, toks := tk }) →
    wpAny (model c.prog c.w) A (comprehension (.ListComp elt gens scope pos) scope env (firstIterPos gens pos) (newList []) (firstAsync gens) (firstIter gens env) use) Q E s

section
variable {c : Cx} {n : Nat} {sc : Scope} {vars : List Str}

structure CompSc (sc scope : Scope) (vars tns cns : List Str) (caps : List Nat) : Prop where
  kind : scope.kind = .function
  cell : ∀ y ∈ scope.names, y.2 ≠ .cell
  loc : ∀ y ∈ scope.names, y.2 = .local → scope.names.lookup y.1 = some .local
  free : ∀ y ∈ scope.names, y.2 = .free → y.1 ∈ cns
  tl : ∀ x ∈ tns, (relabelS scope sc).names.lookup x = some .local
  cap : caps.map (fun i => vars[i]?) = cns.map some
  cc : ∀ y ∈ cns, sc.names.lookup y = some .cell ∧ (relabelS scope sc).names.lookup y = some .cell
  nd : (tns ++ cns).Nodup
theorem compSc_of {sc scope : Scope} {vars tns cns : List Str} {caps : List Nat} (h : compOk sc scope vars tns cns caps = true) : CompSc sc scope vars tns cns caps := by
  unfold compOk at h
  simp only [Bool.and_eq_true, List.all_eq_true, decide_eq_true_eq] at h
  obtain ⟨⟨⟨⟨⟨⟨⟨h1, h2⟩, h3⟩, h4⟩, h5⟩, h6⟩, h7⟩, h8⟩ := h
  exact ⟨h1, h2, h3, h4, h5, h6, h7, h8⟩

theorem capD_get : ∀ {caps : List Nat} {ρ cs : List D}, capD caps ρ = some cs → cs.length = caps.length ∧ ∀ (i : Nat) (d : D), cs[i]? = some d → ∃ j, caps[i]? = some j ∧ getv j ρ = some d
  | [], _, _, e => by cases e; exact ⟨rfl, fun _ _ h => by simp at h⟩
  | j :: js, ρ, cs, e => by
    unfold capD at e
    split at e
    · cases e
    · rename_i d0 h0
      split at e
      · cases e
      · rename_i ds h1
        cases e
        obtain ⟨i1, i2⟩ := capD_get h1
        refine ⟨by simp [i1], fun i d h => ?_⟩
        cases i with
        | zero => simp at h; subst h; exact ⟨j, rfl, h0⟩
        | succ i => simpa using i2 i d (by simpa using h)

theorem tgtVals_len {tgt : Expr} {tns : List Str} {tk : Option Nat} (ht : CTgt tgt tns tk) {d : D} {ts : List D} (e : tgtVals tk d = some ts) : ts.length = tns.length := by
  cases ht with
  | one => cases e; rfl
  | many hn hl =>
    unfold tgtVals at e
    split at e
    · rename_i q; cases q
    · rename_i k l q
      split at e
      · rename_i hk
        cases e
        cases q
        rw [hk, hl]
      · cases e
    · cases e

/-- what a comprehension's body sees -/
theorem innerView {scope : Scope} {tns cns : List Str} {caps : List Nat} (H : CompSc sc scope vars tns cns caps) {env : Env} {ρ cs ts : List D} {g : Gh} {h : Heap} {cl : List (Str × Addr)} {C : Addr} {m : Str → Option Value} {vs : List Value}
    (V : View sc env vars ρ g h) (hcap : capD caps ρ = some cs) (hclo : ∀ x, (x, NameKind.free) ∈ scope.names → cl.lookup x = env.cells.lookup x) (hn : h.Ns C m) (hr : RepL g vs ts) (hl : ts.length = tns.length)
    (hv : ∀ (i : Nat) (x : Str) (v : Value), tns[i]? = some x → vs[i]? = some v → m x = some v) : View (relabelS scope sc) (compEnvC scope cl C env) (tns ++ cns) (ts ++ cs) g h := by
  refine ⟨?_, H.kind, V.gl, V.bn, ⟨m, hn, fun i x d a b e1 e2 => ?_⟩, fun i x d a b e1 e2 => ?_⟩
  · show relabelS scope env.scope = _
    rw [V.es]
  · by_cases hi : i < tns.length
    · rw [List.getElem?_append_left hi] at a
      rw [List.getElem?_append_left (by rw [hl]; exact hi)] at b
      obtain ⟨v, q1, q2⟩ := hr.get b
      exact ⟨v, hv i x v a q1, q2⟩
    · rw [List.getElem?_append_right (Nat.le_of_not_lt hi)] at a
      have := (H.cc x (List.mem_of_getElem? a)).2
      rw [this] at e2; cases e2
  · by_cases hi : i < tns.length
    · rw [List.getElem?_append_left hi] at a
      have := H.tl x (List.mem_of_getElem? a)
      rcases e2 with e2 | e2 <;> (rw [this] at e2; cases e2)
    · rw [List.getElem?_append_right (Nat.le_of_not_lt hi)] at a
      rw [List.getElem?_append_right (by rw [hl]; exact Nat.le_of_not_lt hi)] at b
      rw [hl] at b
      obtain ⟨j, hj, hg⟩ := (capD_get hcap).2 _ _ b
      have hx : vars[j]? = some x := by
        have := congrArg (fun l => l[i - tns.length]?) H.cap
        simp only [List.getElem?_map, hj, a, Option.map_some] at this
        exact Option.some.inj this
      obtain ⟨g1, g2⟩ := getv_some hg
      have hc := H.cc x (List.mem_of_getElem? a)
      obtain ⟨k, v, p1, p2, p3⟩ := V.cl j x d hx g1 g2 (.inl hc.1)
      refine ⟨k, v, ?_, p2, p3⟩
      have hfree : (x, NameKind.free) ∈ scope.names := by
        have hm := mem_of_lookup hc.2
        obtain ⟨⟨y, kd⟩, hy, hyy⟩ := List.mem_map.mp hm
        dsimp only at hyy
        split at hyy
        · rename_i hcond
          cases hyy
          have : kd = .free := by
            simp only [Bool.and_eq_true, beq_iff_eq] at hcond
            exact hcond.1.1
          rw [← this]; exact hy
        · cases hyy
          exact absurd rfl (H.cell _ hy)
      show cl.lookup x = some k
      rw [hclo x hfree]; exact p1

/-- where a comprehension stands after some of its items -/
inductive CompI (s : Shared) (g g' : Gh) (wr : List Addr) (Da Ca : Addr) (ds cs ys : List D) (tk : Option Nat) (ft : List D → Option Bool) (fe : List D → Option D) (S : Nat → Heap → Prop) : Nat → Shared → Prop
  | mk (i : Nat) (hh : Heap) (tkk : Nat) (gk : Gh) (vs : List Value) (acc : List D) (m : Nat) (mm : Str → Option Value) (rest : List D) (x2 : Ext s.heap g hh gk) (hg2 : ∀ a o, g' a = some o → gk a = some o) (gD : gk Da = none) (gC : gk Ca = none) (gw : ∀ b ∈ wr, gk b = none)
      (hst2 : S i hh) (hn2 : hh.Ns Ca mm) (hD2 : hh.get? Da = some { cls := .type "list", dict := none, data := .seq vs.toArray m, slots := #[] }) (r2 : RepL gk vs acc) (hai : acc.length ≤ i) (hle : i ≤ ds.length) (hp2 : 0 < tkk)
      (hrest : compL tk cs ft fe (ds.drop i) = some rest) (hys : acc ++ rest = ys) : CompI s g g' wr Da Ca ds cs ys tk ft fe S (ds.length - i) { s with heap := hh, toks := tkk }

theorem compDo {tgt iter elt : Expr} {ifs : List Expr} {scope : Scope} {pos : Pos} {tns cns : List Str} {caps : List Nat} {tk : Option Nat} {fi : List D → Option (List D)} {ft : List D → Option Bool} {fe : List D → Option D}
    (hi : ItE c n sc vars tgt iter fi) (ht : CTgt tgt tns tk) (htt : Tests c n (relabelS scope sc) (tns ++ cns) ifs ft) (he : Ev c n (relabelS scope sc) (tns ++ cns) elt fe) (H : CompSc sc scope vars tns cns caps)
    (hs : ∀ env x, foldedSetIterable iter env x = pure x) : CompDo c n sc vars elt [⟨tgt, iter, ifs, 0⟩] scope pos (compD tk caps fi ft fe) := by
  intro env A s g ρ ys use Q E ok G hsub V hp e k
  unfold compD at e
  split at e
  · cases e
  · rename_i ds e1
    split at e
    · rename_i hlen
      split at e
      · cases e
      · rename_i cs hcap
        have hfree : ∀ x, (x, NameKind.free) ∈ scope.names → ∃ a, env.cells.lookup x = some a := fun x hx => by
          have hx' := H.free _ hx rfl
          obtain ⟨i, hi', hxi⟩ := List.getElem_of_mem hx'
          have hci : i < cs.length := by
            rw [(capD_get hcap).1, ← List.length_map (f := fun i => vars[i]?), H.cap, List.length_map]; exact hi'
          obtain ⟨j, hj, hg⟩ := (capD_get hcap).2 i cs[i] (List.getElem?_eq_getElem hci)
          obtain ⟨g1, g2⟩ := getv_some hg
          have hxj : vars[j]? = some x := by
            have := congrArg (fun l => l[i]?) H.cap
            simp only [List.getElem?_map, hj, List.getElem?_eq_getElem hi', Option.map_some] at this
            rw [hxi] at this
            exact Option.some.inj this
          obtain ⟨a, _, p1, _⟩ := V.cl j x _ hxj g1 g2 (.inl (H.cc x hx').1)
          exact ⟨a, p1⟩
        obtain ⟨cl, hclo, hcl⟩ := closureFor_some (scope := scope) (env := env) hfree
        refine wpAny_comprehension_free (use := use) rfl (hs env) hclo H.kind H.loc ?_
        refine hi env A s g ρ ds _ E ok G hsub V hp e1 fun I wr S M h' g' tk' x W hst hnw hgw hp' => ?_
        -- the new list and the new frame
        refine wpAny_newObj_type (wpAny_newFunctionEnv H.cell (by intro y hy; simp at hy) (fun h₁ hns₁ hsb₁ => ?_) H.kind)
        dsimp only at hns₁ hsb₁ ⊢
        generalize hH2 : h'.push { cls := .type "list", dict := none, data := .seq ([] : List Value).toArray } = H2 at hns₁ hsb₁ ⊢
        have hC : H2.objs.size = h'.objs.size + 1 := by rw [← hH2, Heap.size_push]
        have hDC : h'.objs.size ≠ H2.objs.size := by rw [hC]; exact Nat.ne_of_lt (Nat.lt_succ_self _)
        have old : ∀ b o, h'.get? b = some o → h₁.get? b = some o := fun b o e => hsb₁.extBut b o (by rw [hC]; exact Nat.ne_of_lt (Nat.lt_succ_of_lt (Heap.lt_size e))) (Heap.get?_push_of_some _ (hH2 ▸ Heap.get?_push_of_some _ e))
        have nD' : h'.get? h'.objs.size = none := none_at_size _ (Nat.le_refl _)
        have nC' : h'.get? H2.objs.size = none := none_at_size _ (by rw [hC]; exact Nat.le_succ _)
        have nD := get_none_of_keep x.keep nD'
        have nC := get_none_of_keep x.keep nC'
        have hD1 : h₁.get? h'.objs.size = some { cls := .type "list", dict := none, data := .seq ([] : List Value).toArray, slots := #[] } :=
          hsb₁.extBut _ _ hDC (Heap.get?_push_of_some _ (hH2 ▸ Heap.get?_push_size _ rfl))
        have x1 : Ext s.heap g h₁ g' := x.trans (Ext.keeps x.sub old)
        have hst₁ : S 0 h₁ := W.frame _ _ _ hst (fun b _ o e => old b o e) x1.sub
        have wrC : H2.objs.size ∉ wr := fun q => by obtain ⟨o, e⟩ := W.live 0 _ hst _ q; rw [nC'] at e; cases e
        have wrD : h'.objs.size ∉ wr := fun q => by obtain ⟨o, e⟩ := W.live 0 _ hst _ q; rw [nD'] at e; cases e
        generalize hDa : h'.objs.size = Da at *
        generalize hCa : H2.objs.size = Ca at *
        have loop : ∀ s₃ : Shared, s₃ = { s with heap := h₁, toks := tk' } →
            codeAny (model c.prog c.w) A (.compLoop (.ListComp elt [⟨tgt, iter, ifs, 0⟩] scope pos) 0 (.ref I) (.ref Da) (compEnvC scope cl Ca env)) (compPost (model c.prog c.w) A E use Q (.ref Da) Ca) s₃ := by
          rintro s₃ rfl
          refine compLoop_any (CompI s g g' wr Da Ca ds cs ys tk ft fe S) ?_ ds.length
            (.mk 0 h₁ tk' g' [] [] 0 _ ys x1 (fun _ _ e => e) (x.sub.none nD') (x.sub.none nC') hgw hst₁ hns₁ hD1 .nil (Nat.le_refl _) (Nat.zero_le _) hp' e rfl)
          rintro kk s' ⟨i, hh, tkk, gk, vs, acc, m, mm, rest, x2, hg2, gD, gC, gw, hst2, hn2, hD2, r2, hai, hle, hp2, hrest, hys⟩
          have hsub2 : Sub g' hh := fun a o e => x2.sub _ _ (hg2 _ _ e)
          have base : ∀ {hz : Heap}, (∀ b o, b ∉ wr → b ≠ Ca → b ≠ Da → hh.get? b = some o → hz.get? b = some o) → Ext s.heap g hz gk := fun {hz} kz => by
            refine ⟨x2.le, fun b o e => kz b o (fun q => ?_) (fun q => ?_) (fun q => ?_) (x2.sub _ _ e), fun b o e => kz b o (fun q => ?_) (fun q => ?_) (fun q => ?_) (x2.keep _ _ e), x2.fresh⟩
            · rw [gw b q] at e; cases e
            · rw [q, gC] at e; cases e
            · rw [q, gD] at e; cases e
            · rw [hnw b q] at e; cases e
            · rw [q, nC] at e; cases e
            · rw [q, nD] at e; cases e
          by_cases hlt : i < ds.length
          · rw [List.drop_eq_getElem_cons hlt] at hrest
            unfold compL at hrest
            refine W.item i ds[i] { s with heap := hh, toks := tkk } _ _ (List.getElem?_eq_getElem hlt) hst2 hsub2 hp2 fun v hm tk3 hmid hkm hp3 => ?_
            have hsubm : Sub g' hm := fun a o e => hkm a o (fun q => by rw [hgw a q] at e; cases e) (hsub2 a o e)
            refine W.go i ds[i] v { s with heap := hm, toks := tk3 } _ _ (List.getElem?_eq_getElem hlt) hmid hsubm fun h3 hva hst3 hkg => ?_
            have hk3 : ∀ b o, b ∉ wr → hh.get? b = some o → h3.get? b = some o := fun b o q e => hkg b o q (hkm b o q e)
            have x3 : Ext s.heap g h3 gk := base fun b o q _ _ e => hk3 b o q e
            split at hrest
            · cases hrest
            · rename_i ts hts
              have hva' : ValAs tgt gk h3 v ds[i] := by
                unfold ValAs at hva ⊢
                split
                · obtain ⟨T, vs, dd, q1, q2, q3, q4⟩ := hva
                  exact ⟨T, vs, dd, q1, q2, q3, q4.mono fun b o e _ => hg2 _ _ e⟩
                · rename_i hno
                  split at hva
                  · exact absurd rfl (hno _ _ _)
                  · exact hva.mono fun b o e _ => hg2 _ _ e
              have hkf : (compEnvC scope cl Ca env).scope.kind = .function := H.kind
              have hnd := List.nodup_append.mp H.nd
              have hloc : ∀ x ∈ tns, (compEnvC scope cl Ca env).kindOf x = some .local := fun x hx => by
                show (relabelS scope env.scope).names.lookup x = _
                rw [V.es]; exact H.tl x hx
              have hn3 : h3.Ns (compEnvC scope cl Ca env).locals mm := hn2.at' fun o e => hk3 _ o wrC e
              refine ht.store (c := c) (g := gk) (s := { s with heap := h3, toks := tk3 }) ok hkf hn3 hp3 hnd.1 hloc hva' hts fun h4 tk4 m4 tvs hn4 hr4 hl4 hv4 hk4 hp4 => ?_
              have hk4' : ∀ b o, b ≠ Ca → h3.get? b = some o → h4.get? b = some o := hk4
              have x4 : Ext s.heap g h4 gk := base fun b o q1 q2 _ e => hk4' b o q2 (hk3 b o q1 e)
              have hst4 : S (i + 1) h4 := W.frame _ _ _ hst3 (fun b hb o e => hk4' b o (fun q => wrC (q ▸ hb)) e) fun a o e => x4.sub _ _ (hg2 _ _ e)
              have hD4 : h4.get? Da = some { cls := .type "list", dict := none, data := .seq vs.toArray m, slots := #[] } := hk4' _ _ hDC (hk3 _ _ wrD hD2)
              have IV := innerView H (V.ext x4) hcap hcl hn4 hr4 (tgtVals_len ht hts) hv4
              have aliveC : ∃ o, h4.get? Ca = some o := by obtain ⟨o, _, _, e, _⟩ := hn4; exact ⟨o, e⟩
              -- what is left of the frame after an expression has run
              have after : ∀ {h5 : Heap} {g5 : Gh}, Ext h4 gk h5 g5 → g5 Da = none ∧ g5 Ca = none ∧ (∀ b ∈ wr, g5 b = none) := fun {h5 g5} x5 => by
                have key : ∀ b o, h4.get? b = some o → gk b = none → g5 b = none := fun b o e q => by
                  cases r : g5 b with
                  | none => rfl
                  | some y =>
                    rcases x5.fresh b y r with u | u
                    · rw [q] at u; cases u
                    · rw [e] at u; cases u
                obtain ⟨oc, hoc⟩ := aliveC
                exact ⟨key _ _ hD4 gD, key _ _ hoc gC, fun b hb => let ⟨o, e⟩ := W.live _ _ hst4 b hb; key _ _ e (gw b hb)⟩
              split at hrest
              · cases hrest
              · rename_i hft
                refine htt.run (s := { s with heap := h4, toks := tk4 }) ok (G.keeps x4.keep) x4.sub IV hp4 hft fun h5 g5 tk5 x5 hp5 => ?_
                rw [if_neg Bool.false_ne_true]
                obtain ⟨a1, a2, a3⟩ := after x5
                exact ⟨ds.length - (i + 1), by omega, .mk (i + 1) h5 tk5 g5 vs acc m _ rest (x4.trans x5) (fun a o e => x5.le _ _ (hg2 _ _ e)) a1 a2 a3 (W.frame _ _ _ hst4 (fun b _ o e => x5.keep _ _ e) (fun a o e => x5.sub _ _ (x5.le _ _ (hg2 _ _ e))))
                  (hn4.keeps x5.keep) (x5.keep _ _ hD4) (x5.repL r2) (Nat.le_succ_of_le hai) hlt hp5 hrest hys⟩
              · rename_i hft
                split at hrest
                · cases hrest
                · rename_i y hfe
                  split at hrest
                  · cases hrest
                  · rename_i ys' hrest'
                    cases hrest
                    refine htt.run (s := { s with heap := h4, toks := tk4 }) ok (G.keeps x4.keep) x4.sub IV hp4 hft fun h5 g5 tk5 x5 hp5 => ?_
                    rw [if_pos rfl]
                    refine he _ A { s with heap := h5, toks := tk5 } g5 _ y _ _ ok (G.keeps (x4.trans x5).keep) x5.sub (IV.ext x5) hp5 hfe fun v6 h6 g6 tk6 x6 r6 hp6 => ?_
                    have x56 := x5.trans x6
                    obtain ⟨a1, a2, a3⟩ := after x56
                    have hD6 := x56.keep _ _ hD4
                    refine toksT (s := { s with heap := h6, toks := tk6 }) hp6 (wpAny_list_append_plain (items := vs.toArray) ⟨m, hD6⟩ (fun h7 ⟨m7, hD7⟩ hs7 hp7 => ?_) (by simp only [List.size_toArray]; rw [r2.length]; exact size_ok (by omega)))
                    have k7 : ∀ b o, b ≠ Da → h6.get? b = some o → h7.get? b = some o := fun b o q e => (hs7.2 b q).trans e
                    have x46 := x4.trans x56
                    have x7 : Ext s.heap g h7 g6 := ⟨x46.le, fun b o e => k7 b o (fun q => by rw [q, a1] at e; cases e) (x46.sub _ _ e), fun b o e => k7 b o (fun q => by rw [q, nD] at e; cases e) (x46.keep _ _ e), x46.fresh⟩
                    exact ⟨ds.length - (i + 1), by omega, .mk (i + 1) h7 tk6 g6 (vs ++ [v6]) (acc ++ [y]) m7 _ ys' x7 (fun a o e => x56.le _ _ (hg2 _ _ e)) a1 a2 a3 (W.frame _ _ _ hst4 (fun b hb o e => k7 b o (fun q => wrD (q ▸ hb)) (x56.keep _ _ e)) (fun a o e => x7.sub _ _ (x56.le _ _ (hg2 _ _ e))))
                      ((hn4.keeps x56.keep).at' fun o e => k7 _ o (Ne.symm hDC) e) (by rw [hD7]; simp) ((x56.repL r2).append (.cons r6 .nil)) (by rw [List.length_append]; exact Nat.succ_le_succ hai) hlt hp7 hrest' (by rw [← hys, List.append_assoc]; rfl)⟩
          · have hi' : i = ds.length := Nat.le_antisymm hle (Nat.le_of_not_lt hlt)
            subst hi'
            rw [List.drop_length] at hrest
            cases hrest
            refine W.done { s with heap := hh, toks := tkk } _ _ hst2 hsub2 hp2 fun h3 tk3 hk3 hp3 => ?_
            have x3 : Ext s.heap g h3 gk := base fun b o q _ _ e => hk3 b o q e
            exact k Da Ca h3 tk3 gk vs m mm ⟨nD, nC, hDC, x3, gD, gC, hn2.at' fun o e => hk3 _ o wrC e, hk3 _ _ wrD hD2, by rw [← hys, List.append_nil]; exact r2, hp3⟩
        exact codeAny_compStart_list (loop _ rfl) (W.self 0 _ _ _ hst₁ (loop _ rfl))
    · cases e
end
end Mine

/-! UComp3 -/
namespace Mine
section
variable {c : Cx} {n : Nat} {sc : Scope} {vars : List Str} {ob o : Option Nat}

theorem Ev.ofComp {elt : Expr} {gens : List Comprehension} {scope : Scope} {pos : Pos} {f : List D → Option (List D)} (h : CompDo c n sc vars elt gens scope pos f) : Ev c n sc vars (.ListComp elt gens scope pos) (fun ρ => (f ρ).map .lst) := by
  intro env A s g ρ d Q E ok G hs V hp e k
  obtain ⟨ys, e1, rfl⟩ := Option.map_eq_some_iff.mp e
  rw [eval_ListComp]
  refine h env A s g ρ ys none Q E ok G hs V hp e1 fun a C hh tk gk vs m mm X => ?_
  refine ⟨mm, X.ns, fun h' hs' => ?_⟩
  have kk : ∀ b o, b ≠ C → hh.get? b = some o → h'.get? b = some o := fun b o q e => (hs'.2 b q).trans e
  have x' : Ext s.heap g h' gk := ⟨X.x.le, fun b o e => kk b o (fun q => by rw [q, X.gC] at e; cases e) (X.x.sub _ _ e), fun b o e => kk b o (fun q => by rw [q, X.hC] at e; cases e) (X.x.keep _ _ e), X.x.fresh⟩
  have hob := kk _ _ X.ne X.ob
  have x2 : Ext s.heap g h' (gput gk a { cls := .type "list", dict := none, data := .seq vs.toArray m, slots := #[] }) := by
    refine ⟨fun b o e => gput_le X.ga _ _ (x'.le _ _ e), fun b o e => ?_, x'.keep, fun b o e => ?_⟩
    · unfold gput at e
      split at e
      · rename_i q; cases e; rw [q]; exact hob
      · exact x'.sub _ _ e
    · unfold gput at e
      split at e
      · rename_i q; rw [q]; exact .inr X.ha
      · exact x'.fresh _ _ e
  exact k _ _ _ _ x2 (.lst (gput_self ..) (X.r.mono fun b o e _ => gput_le X.ga b o e)) X.tk
theorem Ev.comp {tgt iter elt : Expr} {ifs : List Expr} {scope : Scope} {pos : Pos} {tns cns : List Str} {caps : List Nat} {tk : Option Nat} {fi : List D → Option (List D)} {ft : List D → Option Bool} {fe : List D → Option D}
    (hi : ItE c n sc vars tgt iter fi) (ht : CTgt tgt tns tk) (htt : Tests c n (relabelS scope sc) (tns ++ cns) ifs ft) (he : Ev c n (relabelS scope sc) (tns ++ cns) elt fe) (H : compOk sc scope vars tns cns caps = true)
    (hs : ∀ env x, foldedSetIterable iter env x = pure x) : Ev c n sc vars (.ListComp elt [⟨tgt, iter, ifs, 0⟩] scope pos) (compF tk caps fi ft fe) := Ev.ofComp (compDo hi ht htt he (compSc_of H) hs)

/-- `x = [...]` of a local: the list is stored before the comprehension's variables are let go -/
theorem St.asgComp' {x : Str} {j : Nat} {elt : Expr} {gens : List Comprehension} {scope : Scope} {cpos p q : Pos} {f : List D → Option (List D)} (hv : Var sc vars none x j) (h : CompDo c n sc vars elt gens scope cpos f)
    (hsw : ∀ env : Env, env.scope = sc → swapsWith (.ListComp elt gens scope cpos) (some (.Name x q)) p.line env = pure true) :
    St c n sc vars ob none none (.Assign [.Name x q] (.ListComp elt gens scope cpos) p) (fun ρ => (f ρ).map fun ys => .nxt (ρ.set j (.lst ys))) := by
  intro env A s R P g0 g ρ out Q E ok G F hp e kk
  obtain ⟨ys, e1, rfl⟩ := Option.map_eq_some_iff.mp e
  rw [exec_Assign_Name_used _ _ _ _ (hsw env F.es)]
  refine wpAny_bind (wpAny_standAt (wpAny_bind ?_))
  show wpAny _ A (do let _ ← comprehension (.ListComp elt gens scope cpos) scope env (firstIterPos gens cpos) (newList []) (firstAsync gens) (firstIter gens env) (some (assign (.Name x q) env))) _ _ s
  refine wpAny_bind (wpAny_mono (h env A s g ρ ys (some (assign (.Name x q) env)) (fun _ s' => Q .next s') E ok (G _ F.keep) F.sub F.view hp e1 fun a C hh tk gk vs m mm X => ?_) (fun _ s' hq => wpAny_pure (wpAny_pure hq)) fun _ _ e => e)
  show wpAny _ A (assign (.Name x q) env (.ref a)) _ _ _
  have x2 : Ext s.heap g hh (gput gk a { cls := .type "list", dict := none, data := .seq vs.toArray m, slots := #[] }) := by
    refine ⟨fun b o e => gput_le X.ga _ _ (X.x.le _ _ e), fun b o e => ?_, X.x.keep, fun b o e => ?_⟩
    · unfold gput at e
      split at e
      · rename_i q; cases e; rw [q]; exact X.ob
      · exact X.x.sub _ _ e
    · unfold gput at e
      split at e
      · rename_i q; rw [q]; exact .inr X.ha
      · exact X.x.fresh _ _ e
  have gC2 : gput gk a { cls := .type "list", dict := none, data := .seq vs.toArray m, slots := #[] } C = none := by
    unfold gput; rw [if_neg (Ne.symm X.ne)]; exact X.gC
  have F1 := F.growAway (wr := [C]) x2 (one_heap X.hC) (one_none gC2) (one_live (by obtain ⟨o, _, _, e, _⟩ := X.ns; exact ⟨o, e⟩))
  refine wpAny_assign_Name (F1.store (s := { s with heap := hh, toks := tk }) X.tk hv.hx hv.hk hv.ho (.lst (gput_self ..) (X.r.mono fun b o e _ => gput_le X.ga b o e)) fun h3 tk3 F3 hR3 hp3 => ?_)
  have hn3 : h3.Ns C mm := by
    obtain ⟨o, es, ep, e, r⟩ := X.ns
    exact ⟨o, es, ep, hR3 _ _ (.inr List.mem_cons_self) e, r⟩
  refine ⟨mm, hn3, fun h4 hs4 => ?_⟩
  have hP : P C = none := by
    cases q : P C with
    | none => rfl
    | some o => have := F.keep _ _ q; rw [X.hC] at this; cases this
  have nR : ¬ R C := fun q => by
    obtain ⟨o, e⟩ := F.rl _ q
    rw [X.hC] at e; cases e
  exact kk _ h4 tk3 (F3.drop (one_none hP) (fun b hb => by rcases List.mem_cons.mp hb with rfl | hb; exact nR; cases hb) fun b o hb e => (hs4.2 b (fun q => hb (q ▸ List.mem_cons_self))).trans e) hp3
noncomputable def asgCompX (j tkj : Nat) (f : List D → Option (List D)) : List D → Option Out := fun ρ => (f ρ).map fun ys => .nxt (ρ.set j (.lst ys))
theorem St.asgComp {x : Str} {j : Nat} {tgt iter elt : Expr} {ifs : List Expr} {scope : Scope} {cpos p q : Pos} {tns cns : List Str} {caps : List Nat} {tk : Option Nat} {fi : List D → Option (List D)} {ft : List D → Option Bool} {fe : List D → Option D}
    (hv : Var sc vars none x j) (hi : ItE c n sc vars tgt iter fi) (ht : CTgt tgt tns tk) (htt : Tests c n (relabelS scope sc) (tns ++ cns) ifs ft) (he : Ev c n (relabelS scope sc) (tns ++ cns) elt fe) (H : compOk sc scope vars tns cns caps = true)
    (hs : ∀ env x, foldedSetIterable iter env x = pure x) (hsw : ∀ env : Env, env.scope = sc → swapsWith (.ListComp elt [⟨tgt, iter, ifs, 0⟩] scope cpos) (some (.Name x q)) p.line env = pure true) :
    St c n sc vars ob none none (.Assign [.Name x q] (.ListComp elt [⟨tgt, iter, ifs, 0⟩] scope cpos) p) (asgCompX j 0 (compD tk caps fi ft fe)) := St.asgComp' hv (compDo hi ht htt he (compSc_of H) hs) hsw
end
end Mine

/-! UZip -/
namespace Mine

noncomputable def valsF : D → Option (List D)
  | .dct ks => some (ks.map (·.2))
  | _ => none
noncomputable def enumL (l : List D) : List D := l.zipIdx.map fun p => .tup [.int (Int.ofNat p.2), p.1]
noncomputable def enumE (f : List D → Option D) : List D → Option (List D) := fun ρ => match f ρ with
  | some (.lst l) => some (enumL l)
  | _ => none
noncomputable def zipL (a b : List D) : List D := (a.zip b).map fun p => .tup [p.1, p.2]
noncomputable def zipE (f g : List D → Option D) : List D → Option (List D) := fun ρ => match f ρ, g ρ with
  | some (.lst a), some (.lst b) => some (zipL a b)
  | _, _ => none

section
variable {c : Cx} {n : Nat} {sc : Scope} {vars : List Str} {A : Around}

theorem repL_vals {g : Gh} {kvs : List (Int × Value)} {ks : List (Int × D)} (r : RepL g (kvs.map (·.2)) (ks.map (·.2))) {i : Nat} {k : Int} {v : Value} {d : D} (h : kvs[i]? = some (k, v)) (hd : (ks.map (·.2))[i]? = some d) : Rep g v d := by
  obtain ⟨d', h1, h2⟩ := r.getV (i := i) (v := v) (by simp [h])
  rw [hd] at h1; cases h1; exact h2

theorem ItE.values {x : Str} {px apos pos : Pos} {o : Expr} {f : List D → Option D} (h : Ev c n sc vars o f)
    (he : ∀ env, ∃ pl, eval (.Call (.Attribute o "values" apos) [] [] pos) env = (do
      let ov ← eval o env
      standAt apos.atName
      let (f, first) ← holding [ov] (getMethod ov "values" pl)
      callWith pos f first (backTo pos (starEach [] env)) [])) : ItE c n sc vars (.Name x px) (.Call (.Attribute o "values" apos) [] [] pos) (un1 valsF f) := by
  intro env A s g ρ ds Q E ok G hs V hp e' k
  obtain ⟨d, e1, e2⟩ := un1_some e'
  obtain ⟨pl, he⟩ := he env
  refine MethodCall_ (pl := pl) ?_ he
  refine h env A s g ρ d _ E ok G hs V hp e1 fun v h1 g1 t1 x1 r1 p1 => ?_
  unfold valsF at e2
  split at e2
  · rename_i ks
    cases e2
    obtain ⟨a, oo, es, m, rfl, hsy, ha, hx, hd, r, hnd⟩ := r1.inv
    ·
      have hoo := x1.sub _ _ ha
      obtain ⟨kvs, q1, q2, q3⟩ := r.pairs (prog := c.prog) (w := c.w)
      have hD : h1.DictAt (intKind c.prog c.w) a kvs m := ⟨oo, es.toArray, hoo, hx, hd, fun e he => r.keys e (by simpa using he), by simpa using q1, by rw [q2]; exact hnd⟩
      have hT : Shared.TypeIs { s with heap := h1, toks := t1 } (.ref a) "dict" := ⟨oo, hoo, hx.1⟩
      refine getMethod_builtin hT F.plainAttrs_dict F.slot_dict_values F.type_dict_values (fun a' e => by cases e; exact ⟨oo, hoo, hx.2.1⟩) ?_
      refine callWith_callee (c := c) (.builtin _) rfl (args_nil ⟨(G.keeps x1.keep).k, ?_⟩)
      refine call_meetsIn F.slot_dict_values hT F.entry_dict_values (F.args_dict_values_1 _) (meets_dict_values (intKind c.prog c.w) a (by simpa using hsy)) ⟨⟨kvs, hD.dictOf⟩, ?_⟩
      -- the view, then its iterator
      have x2 := x1.trans (Ext.pushBare x1.sub { cls := .type "dict_values", data := .fields #[.ref a] })
      have hview : Heap.IsValuesView (h1.push { cls := .type "dict_values", data := .fields #[.ref a] }) h1.objs.size a := ⟨_, Heap.get?_push_size _ rfl, rfl, rfl⟩
      have hD2 := hD.push { cls := .type "dict_values", data := .fields #[.ref a] }
      refine wpAny_pyIter_values (s := { s with heap := h1.push { cls := .type "dict_values", data := .fields #[.ref a] }, toks := t1 }) hview hD2 ?_
      generalize hH : h1.push { cls := .type "dict_values", data := .fields #[.ref a] } = H at *
      have hnew := none_at_size H (Nat.le_refl _)
      have gnew := x2.sub.gnone (Nat.le_refl _)
      have snew := get_none_of_keep x2.keep hnew
      have hne : a ≠ H.objs.size := Nat.ne_of_lt (Heap.lt_size (x2.sub _ _ ha))
      have x3 := x2.trans (Ext.pushBare x2.sub { cls := .type "dict_valueiterator", data := .fields #[.ref a, .int 0 0, .int kvs.length 0, .int m 0] })
      have hlen : kvs.length = (ks.map (·.2)).length := by rw [← q3.length, List.length_map]
      exact k _ [H.objs.size] _ _ _ g1 t1 x3 (Wk.ofWalks (Walks.dictValues (knd := intKind c.prog c.w) ok.h H.objs.size a hne kvs m) (two_fp ha) (fun i h st => one_live (let ⟨o, e, _⟩ := st.1; ⟨o, e⟩)) (one_none gnew)
        (fun i v d hv hd => let ⟨k, hk⟩ := hv; repL_vals q3 hk hd) hlen) ⟨⟨⟨_, Heap.get?_push_size _ rfl, rfl, rfl⟩, hD2.push _⟩, x3.sub⟩ (one_heap snew) (one_none gnew) p1
  · cases e2

theorem ItE.enum {es : List Expr} {kk : Nat} {p : Pos} {x : Str} {px pos : Pos} {e : Expr} {f : List D → Option D} (h : Ev c n sc vars e f) (hx : NameV c sc x (.type "enumerate")) (hdx : (x == ("__debug__" : Str)) = false)
    (hst : ∀ env, starEach [e] env = (false, eval e env) :: starEach [] env) : ItE c n sc vars (.Tuple es kk p) (.Call (.Name x px) [e] [] pos) (enumE f) := by
  intro env A s g ρ ds Q E ok G hs V hp e' k
  unfold enumE at e'
  split at e'
  · rename_i l e1
    cases e'
    refine wpAny_Call_Name_kw (evalName hx hdx G V ?_)
    refine callWith_callee (c := c) (.type _) (by rw [hst]; rfl) ?_
    refine args_cons ?_ (hst env)
    refine h env A s g ρ _ _ E ok G hs V hp e1 fun v h1 g1 t1 x1 r1 p1 => ?_
    refine args_nil ⟨(G.keeps x1.keep).k, ?_⟩
    obtain ⟨a, vs, m, rfl, ha, r⟩ := r1.inv
    ·
      have hl : h1.IsList a vs.toArray := ⟨_, x1.sub _ _ ha, rfl, m, rfl⟩
      have hlt := Heap.lt_size (x1.sub _ _ ha)
      refine call_enumerate_list (s := { s with heap := h1, toks := t1 }) hl fun h2 hE hI hsz hk2 => ?_
      have x2 := x1.trans (Ext.keeps x1.sub hk2)
      refine wpAny_pyIter_enum (s := { s with heap := h2, toks := t1 }) hE ?_
      have gn : ∀ b, h1.objs.size ≤ b → g1 b = none := fun b hb => x1.sub.gnone hb
      have sn : ∀ b, h1.objs.size ≤ b → s.heap.get? b = none := fun b hb => get_none_of_keep x1.keep (none_at_size _ hb)
      have two : ∀ {T : Addr → Prop}, T (h1.objs.size + 1) → T h1.objs.size → ∀ b ∈ [h1.objs.size + 1, h1.objs.size], T b := fun {T} q1 q2 b hb => by
        rcases List.mem_cons.mp hb with rfl | hb
        · exact q1
        · rcases List.mem_cons.mp hb with rfl | hb
          · exact q2
          · cases hb
      refine k (h1.objs.size + 1) [h1.objs.size + 1, h1.objs.size] _ _ h2 g1 t1 x2 (Wk.ofT (WalksT.enumerate (prog := c.prog) (w := c.w) (A := A) ok.h (h1.objs.size + 1) h1.objs.size a (Nat.ne_of_gt (Nat.lt_succ_self _)) (Nat.ne_of_lt (Nat.lt_succ_of_lt hlt)) (Nat.ne_of_lt hlt) vs.toArray)
        (fun b hb => ?_) (fun i h st => two ⟨_, st.1.choose_spec⟩ (let ⟨o, e, _⟩ := st.2.1; ⟨o, e⟩)) (two (gn _ (Nat.le_succ _)) (gn _ (Nat.le_refl _))) (fun i vals d hv hd => ?_) (by simp [enumL, r.length])) ⟨⟨⟨_, hE⟩, hI, hl.at fun o e => hk2 _ _ e⟩, x2.sub⟩ (two (sn _ (Nat.le_succ _)) (sn _ (Nat.le_refl _))) (two (gn _ (Nat.le_succ _)) (gn _ (Nat.le_refl _))) p1
      · rcases List.mem_cons.mp hb with rfl | hb
        · exact .inl (by simp)
        · rcases List.mem_cons.mp hb with rfl | hb
          · exact .inl (by simp)
          · rcases List.mem_cons.mp hb with rfl | hb
            · exact .inr ⟨_, ha⟩
            · cases hb
      · obtain ⟨t, y, hy, rfl⟩ := hv
        simp only [enumL, List.getElem?_map, Option.map_eq_some_iff] at hd
        obtain ⟨⟨dd, j⟩, hj, rfl⟩ := hd
        rw [List.getElem?_zipIdx] at hj
        obtain ⟨dd', hdd, hjj⟩ := Option.map_eq_some_iff.mp hj
        cases hjj
        refine ⟨_, rfl, .cons ?_ (.cons (repL_at r hy hdd) .nil)⟩
        have : (Int.ofNat (0 + i)) = (i : Int) := by simp
        rw [this]; exact .int _ _
  · cases e'

theorem ItE.zip {es : List Expr} {kk : Nat} {p : Pos} {x : Str} {px pos : Pos} {e1 e2 : Expr} {f1 f2 : List D → Option D} (h1 : Ev c n sc vars e1 f1) (h2 : Ev c n sc vars e2 f2) (hx : NameV c sc x (.type "zip")) (hdx : (x == ("__debug__" : Str)) = false)
    (hst : ∀ env, starEach [e1, e2] env = (false, eval e1 env) :: starEach [e2] env) (hst2 : ∀ env, starEach [e2] env = (false, eval e2 env) :: starEach [] env) : ItE c n sc vars (.Tuple es kk p) (.Call (.Name x px) [e1, e2] [] pos) (zipE f1 f2) := by
  intro env A s g ρ ds Q E ok G hs V hp e' k
  unfold zipE at e'
  split at e'
  · rename_i l1 l2 q1 q2
    cases e'
    refine wpAny_Call_Name_kw (evalName hx hdx G V ?_)
    refine callWith_callee (c := c) (.type _) (by rw [hst, hst2]; rfl) ?_
    refine args_cons ?_ (hst env)
    refine h1 env A s g ρ _ _ E ok G hs V hp q1 fun v1 h1' g1 t1 x1 r1 p1 => ?_
    refine args_cons ?_ (hst2 env)
    refine h2 env A _ g1 ρ _ _ E ok (G.keeps x1.keep) x1.sub (V.ext x1) p1 q2 fun v2 h2' g2 t2 x2 r2 p2 => ?_
    have r1' := x2.rep r1
    have x12 := x1.trans x2
    refine args_nil ⟨(G.keeps x12.keep).k, ?_⟩
    cases r1' with
    | @lst a1 vs1 m1 ds1 ha1 rr1 => cases r2 with
      | @lst a2 vs2 m2 ds2 ha2 rr2 =>
        have hl1 : h2'.IsList a1 vs1.toArray := ⟨_, x12.sub _ _ ha1, rfl, m1, rfl⟩
        have hl2 : h2'.IsList a2 vs2.toArray := ⟨_, x12.sub _ _ ha2, rfl, m2, rfl⟩
        have lt1 := Heap.lt_size (x12.sub _ _ ha1)
        have lt2 := Heap.lt_size (x12.sub _ _ ha2)
        refine call_zip_2 (s := { s with heap := h2', toks := t2 }) hl1 hl2 fun h3 hz hTI hTO hi1 hi2 _ hk3 => ?_
        refine wpAny_pyIter_zip (s := { s with heap := h3, toks := t2 }) hz ?_
        generalize hN : h2'.objs.size = N at *
        have x3 := x12.trans (Ext.put x12.sub hk3 (none_at_size _ (hN ▸ Nat.le_add_right N 2)) hTI)
        have gn : ∀ b, N ≤ b → g2 b = none := fun b hb => x12.sub.gnone (hN ▸ hb)
        have sn : ∀ b, N ≤ b → s.heap.get? b = none := fun b hb => get_none_of_keep x12.keep (none_at_size _ (hN ▸ hb))
        have four : ∀ {T : Addr → Prop}, (∀ b, N ≤ b → b ≠ N + 2 → T b) → ∀ b ∈ [N + 4, N + 3, N, N + 1], T b := fun {T} q b hb => by
          simp only [List.mem_cons, List.not_mem_nil, or_false] at hb
          rcases hb with rfl | rfl | rfl | rfl <;> exact q _ (by omega) (by omega)
        have gn' : ∀ b, N ≤ b → b ≠ N + 2 → gput g2 (N + 2) { cls := .type "tuple", data := .seq #[.ref N, .ref (N + 1)] } b = none := fun b h1 h2 => by
          unfold gput; rw [if_neg h2]; exact gn b h1
        have W := WalksT.zip2 (prog := c.prog) (w := c.w) (A := A) ok.h (N + 4) (N + 2) (N + 3) N (N + 1) a1 a2 (zipApart_new (hN ▸ lt1) (hN ▸ lt2)) vs1.toArray vs2.toArray
        refine k (N + 4) [N + 4, N + 3, N, N + 1] _ _ h3 _ t2 x3 (Wk.ofT W (fun b hb => ?_) (fun i h st => ?_) (four gn') (fun i vals d hv hd => ?_) (by simp [zipL, rr1.length, rr2.length]))
          ⟨⟨hz, hTI, ⟨_, _, hTO⟩, hi1, hi2, hl1.at fun o e => hk3 _ _ e, hl2.at fun o e => hk3 _ _ e⟩, x3.sub⟩ (four fun b hb _ => sn b hb) (four gn') p2
        · simp only [List.mem_cons, List.not_mem_nil, or_false] at hb
          rcases hb with rfl | rfl | rfl | rfl | rfl | rfl | rfl
          · exact .inl (by simp)
          · exact .inr ⟨_, gput_self ..⟩
          · exact .inl (by simp)
          · exact .inl (by simp)
          · exact .inl (by simp)
          · exact .inr ⟨_, gput_le (gn _ (Nat.le_add_right N 2)) _ _ ha1⟩
          · exact .inr ⟨_, gput_le (gn _ (Nat.le_add_right N 2)) _ _ ha2⟩
        · obtain ⟨s1, s2, ⟨_, _, s3⟩, ⟨_, s4, _⟩, ⟨_, s5, _⟩, _⟩ := st
          intro b hb
          simp only [List.mem_cons, List.not_mem_nil, or_false] at hb
          rcases hb with rfl | rfl | rfl | rfl
          · exact ⟨_, s1⟩
          · exact ⟨_, s3⟩
          · exact ⟨_, s4⟩
          · exact ⟨_, s5⟩
        · obtain ⟨y1, y2, u1, u2, rfl⟩ := hv
          simp only [zipL, List.getElem?_map, Option.map_eq_some_iff] at hd
          obtain ⟨⟨d1, d2⟩, hj, rfl⟩ := hd
          obtain ⟨w1, w2⟩ := List.getElem?_zip_eq_some.mp hj
          refine ⟨_, rfl, .cons ?_ (.cons ?_ .nil)⟩
          · exact (repL_at rr1 u1 w1).mono fun b o e _ => gput_le (gn _ (Nat.le_add_right N 2)) _ _ e
          · exact (repL_at rr2 u2 w2).mono fun b o e _ => gput_le (gn _ (Nat.le_add_right N 2)) _ _ e
  · cases e'
end
end Mine

/-! UZip2 -/
namespace Mine

theorem wpAny_loadIfAlive {M : Model} {A : Around} {E : Value → Shared → Prop} {s : Shared} {a : Addr} {Q : Option Obj → Shared → Prop} (h : Q (s.heap.get? a) s) : wpAny M A (loadIfAlive a) Q E s := fun Γ p hΓ => by
  unfold loadIfAlive
  rw [Sem.wp_loadIfAlive]
  exact wpAny_pure (M := M) (A := A) (E := E) (s := s) h Γ p hΓ

/-- what is drawn from by `zip` -/
structure Dr (c : Cx) (it : Addr) (ds : List D) (g : Gh) (S : Nat → Heap → Prop) : Prop where
  live : ∀ i h, S i h → ∃ o, h.get? it = some o
  frame : ∀ i h h', S i h → (∀ o, h.get? it = some o → h'.get? it = some o) → Sub g h → Sub g h' → S i h'
  item : ∀ (A : Around) i d (s : Shared) (Q : Value → Shared → Prop) (E : Value → Shared → Prop), ds[i]? = some d → S i s.heap → Sub g s.heap →
    (∀ v h' tk, Rep g v d → S (i + 1) h' → Heap.SameBut it s.heap h' → Q v { s with heap := h', toks := tk }) → wpAny (model c.prog c.w) A (Builtin.SmallTypes.nextOf (.ref it)) Q E s
  done : ∀ (A : Around) i (s : Shared) (Q : Value → Shared → Prop) (E : Value → Shared → Prop), A.handled = none → ds[i]? = none → S i s.heap → Sub g s.heap →
    (∀ h' e, Heap.ExtBut it s.heap h' → (∃ o, h'.get? e = some o ∧ o.cls = .type "StopIteration") → E (.ref e) { s with heap := h' }) → wpAny (model c.prog c.w) A (Builtin.SmallTypes.nextOf (.ref it)) Q E s

section
variable {c : Cx} {n : Nat} {sc : Scope} {vars : List Str} {A : Around}

theorem at_none {ds : List D} {vs : List Value} (h : vs.length = ds.length) {i : Nat} (hi : ds[i]? = none) : (vs.toArray)[i]? = none := by
  rw [List.getElem?_eq_none_iff] at hi
  simp; omega
theorem Dr.list {it a : Addr} {vs : List Value} {m : Nat} {ds : List D} {g : Gh} (ha : g a = some { cls := .type "list", dict := none, data := .seq vs.toArray m, slots := #[] }) (r : RepL g vs ds) (hne : a ≠ it) : Dr c it ds g (fun i h => h.IsListIter it a i ∧ h.IsList a vs.toArray) where
  live := fun _ _ st => let ⟨o, ho, _⟩ := st.1; ⟨o, ho⟩
  frame := fun i h h' st hk hs hs' => ⟨st.1.at hk, ⟨_, hs' _ _ ha, rfl, m, rfl⟩⟩
  item := fun A i d s Q E hd st hs hQ => by
    obtain ⟨v, hv, hr⟩ := r.get hd
    exact wpAny_nextOf_list_item st.1 st.2 (x := v) (by simpa using hv) fun h' hit' hs' => hQ v h' s.toks hr ⟨hit', st.2.extBut hs'.extBut hne⟩ hs'
  done := fun A i s Q E hh hi st hs hE => wpAny_nextOf_list_end hh st.1 st.2 (at_none r.length hi) hE

theorem nextOf_tuple_item {it l : Addr} {i : Nat} {items : Array Value} {x : Value} {s : Shared} {E : Value → Shared → Prop} {Q : Value → Shared → Prop} (hit : s.heap.IsTupleIter it l i) (hl : s.heap.IsTuple l items) (hx : items[i]? = some x)
    (hQ : ∀ h', h'.IsTupleIter it l (i + 1) → Heap.SameBut it s.heap h' → Q x { s with heap := h' }) : wpAny (model c.prog c.w) A (Builtin.SmallTypes.nextOf (.ref it)) Q E s := by
  obtain ⟨o, ho, hc, hd⟩ := id hit
  obtain ⟨ol, hol, _, nl, hdl⟩ := hl
  unfold Builtin.SmallTypes.nextOf
  refine wpAny_bind (wpAny_callSpecial?_slot (name := Str.ofString "__next__") hit.typeIs F.slot_tuple_iterator_next
    (wpAny_call_entry F.slot_tuple_iterator_next hit.typeIs F.entry_tuple_iterator_next ?_ (F.args_tuple_iterator_next_1 _)))
  show wpAny _ _ (field (.ref it) 0 >>= _) _ _ s
  refine wpAny_bind (wpAny_field ho hd (x := .ref l) rfl ?_)
  show wpAny _ _ (if (Value.ref l == Value.none) = true then _ else _) _ _ s
  rw [if_neg (show ¬ ((Value.ref l == Value.none) = true) from Bool.false_ne_true)]
  show wpAny _ _ (field (.ref it) 1 >>= _) _ _ s
  refine wpAny_bind (wpAny_field ho hd (x := .int i 0) rfl ?_)
  show wpAny _ _ (seqItems? (.ref l) >>= _) _ _ s
  refine wpAny_bind (wpAny_seqItems hol hdl ?_)
  simp only [Int.toNat_natCast, hx]
  refine wpAny_bind (wpAny_setField ho hd (by simp) (wpAny_pure ⟨x, rfl, wpAny_pure (hQ _ ?_ (Heap.SameBut.update ..))⟩))
  exact ⟨_, Heap.get?_update_self _ ho (Obj.isFreed_of_fields (Obj.data_mapFields hd _)), (Obj.cls_mapFields ..).trans hc, by
    rw [Obj.data_mapFields hd]; simp [rawInt]⟩
theorem nextOf_tuple_end {it l : Addr} {i : Nat} {items : Array Value} {s : Shared} {E : Value → Shared → Prop} {Q : Value → Shared → Prop} (hh : A.handled = none) (hit : s.heap.IsTupleIter it l i) (hl : s.heap.IsTuple l items) (hx : items[i]? = none)
    (hE : ∀ h' e, Heap.ExtBut it s.heap h' → (∃ o, h'.get? e = some o ∧ o.cls = .type "StopIteration") → E (.ref e) { s with heap := h' }) : wpAny (model c.prog c.w) A (Builtin.SmallTypes.nextOf (.ref it)) Q E s := by
  obtain ⟨o, ho, hc, hd⟩ := id hit
  obtain ⟨ol, hol, _, nl, hdl⟩ := hl
  unfold Builtin.SmallTypes.nextOf
  refine wpAny_bind (wpAny_callSpecial?_slot (name := Str.ofString "__next__") hit.typeIs F.slot_tuple_iterator_next
    (wpAny_call_entry F.slot_tuple_iterator_next hit.typeIs F.entry_tuple_iterator_next ?_ (F.args_tuple_iterator_next_1 _)))
  show wpAny _ _ (field (.ref it) 0 >>= _) _ _ s
  refine wpAny_bind (wpAny_field ho hd (x := .ref l) rfl ?_)
  show wpAny _ _ (if (Value.ref l == Value.none) = true then _ else _) _ _ s
  rw [if_neg (show ¬ ((Value.ref l == Value.none) = true) from Bool.false_ne_true)]
  show wpAny _ _ (field (.ref it) 1 >>= _) _ _ s
  refine wpAny_bind (wpAny_field ho hd (x := .int i 0) rfl ?_)
  show wpAny _ _ (seqItems? (.ref l) >>= _) _ _ s
  refine wpAny_bind (wpAny_seqItems hol hdl ?_)
  simp only [Int.toNat_natCast, hx]
  refine wpAny_bind (wpAny_rule (wpAny_bind (wpAny_setField ho hd (by simp) ?_)))
  show wpAny _ _ (newExc (.type "StopIteration") [] >>= _) _ _ _
  refine wpAny_bind ?_
  simp only [newExc, newTuple]
  refine wpAny_bind (wpAny_newObj_type ?_ (by size_fits))
  refine wpAny_bind (m := firstArgMember _ _) (wpAny_of_eq (a := Value.none) (by first | rfl | (simp only [firstArgMember]; rfl)) ?_)
  refine wpAny_newObj_type ?_ (by size_fits)
  simp only [raiseNew]
  refine wpAny_bind (wpAny_handled ?_)
  first | rw [show A.in1.handled = none from hh] | rw [hh]
  refine wpAny_bind (wpAny_pure (wpAny_throw ?_))
  exact hE _ _ (((Heap.SameBut.update ..).extBut.push _).push _) ⟨_, Heap.get?_push_size _ rfl, rfl⟩

theorem Dr.tuple {it a : Addr} {o : Obj} {vs : List Value} {m : Nat} {ds : List D} {g : Gh} (ha : g a = some o) (hc : o.cls = .type "tuple") (hd : o.data = .seq vs.toArray m) (r : RepL g vs ds) (hne : a ≠ it) :
    Dr c it ds g (fun i h => h.IsTupleIter it a i ∧ h.IsTuple a vs.toArray) where
  live := fun _ _ st => let ⟨o, ho, _⟩ := st.1; ⟨o, ho⟩
  frame := fun i h h' st hk hs hs' => ⟨st.1.at hk, ⟨_, hs' _ _ ha, hc, m, hd⟩⟩
  item := fun A i d s Q E hd st hs hQ => by
    obtain ⟨v, hv, hr⟩ := r.get hd
    exact nextOf_tuple_item st.1 st.2 (x := v) (by simpa using hv) fun h' hit' hs' => hQ v h' s.toks hr ⟨hit', st.2.extBut hs'.extBut hne⟩ hs'
  done := fun A i s Q E hh hi st hs hE => nextOf_tuple_end hh st.1 st.2 (at_none r.length hi) hE

noncomputable def lettersOf (x : Str) : List D := x.cps.toList.map fun ch => .str ⟨#[ch]⟩
theorem Dr.ascii {it : Addr} {x : Str} {t : Tok} {g : Gh} : Dr c it (lettersOf x) g (fun i h => h.IsStrIter it "str_ascii_iterator" x t i) where
  live := fun _ _ st => let ⟨o, ho, _⟩ := st; ⟨o, ho⟩
  frame := fun i h h' st hk hs hs' => let ⟨o, ho, r⟩ := st; ⟨o, hk o ho, r⟩
  item := fun A i d s Q E hd st hs hQ => by
    unfold lettersOf at hd
    rw [List.getElem?_map, Array.getElem?_toList] at hd
    obtain ⟨ch, hc, rfl⟩ := Option.map_eq_some_iff.mp hd
    exact wpAny_nextOf_ascii_item st (c := ch) hc fun h' hit' hs' => hQ _ h' _ (.str _ _) hit' hs'
  done := fun A i s Q E hh hi st hs hE => wpAny_nextOf_ascii_end hh st (by simpa [lettersOf] using hi) hE

/-- a zip of two -/
noncomputable abbrev IsZp (h : Heap) (z TI TO : Addr) (f0 : Value) (f1 : Bool) : Prop := h.get? z = some { cls := .type "zip", dict := none, data := .fields #[f0, .bool f1, .bool false, .ref TI, .ref TO], slots := #[] }
structure Apart (z TI TO i1 i2 : Addr) : Prop where
  TIz : TI ≠ z
  TOz : TO ≠ z
  i1z : i1 ≠ z
  i2z : i2 ≠ z
  TITO : TI ≠ TO
  TIi1 : TI ≠ i1
  TIi2 : TI ≠ i2
  TOi1 : TO ≠ i1
  TOi2 : TO ≠ i2
  i12 : i1 ≠ i2
structure ZSt (z TI TO i1 i2 : Addr) (f0 : Value) (f1 : Bool) (S1 S2 : Nat → Heap → Prop) (k : Nat) (h : Heap) : Prop where
  z : IsZp h z TI TO f0 f1
  TI : IsPair h TI (.ref i1) (.ref i2)
  TO : ∃ a b, IsPair h TO a b
  s1 : S1 k h
  s2 : S2 k h
noncomputable def isFree : Value → Bool
  | .none => true
  | _ => false

theorem nAt {z TO i1 i2 : Addr} {g : Gh} {h h' : Heap} (hs : Sub g h) (gz : g z = none) (g1 : g i1 = none) (g2 : g i2 = none) (gT : g TO = none) (hk : ∀ b o, b ≠ z → b ≠ TO → b ≠ i1 → b ≠ i2 → h.get? b = some o → h'.get? b = some o) : Sub g h' := fun b o e =>
  hk b o (fun q => by rw [q, gz] at e; cases e) (fun q => by rw [q, gT] at e; cases e) (fun q => by rw [q, g1] at e; cases e) (fun q => by rw [q, g2] at e; cases e) (hs _ _ e)

/-- the pair is handed out anew -/
theorem zipN_item {z TI TO i1 i2 : Addr} {ds1 ds2 : List D} {g : Gh} {S1 S2 : Nat → Heap → Prop} (D1 : Dr c i1 ds1 g S1) (D2 : Dr c i2 ds2 g S2) (H : Apart z TI TO i1 i2) {k : Nat} {d1 d2 : D} {s : Shared} {f1 : Bool} {T0 : Addr} {o0 : Obj} {Q : Value → Shared → Prop} {E : Value → Shared → Prop}
    (h1 : ds1[k]? = some d1) (h2 : ds2[k]? = some d2) (st : ZSt z TI TO i1 i2 (rawInt T0) f1 S1 S2 k s.heap) (hT0 : s.heap.get? T0 = some o0) (hs : Sub g s.heap) (gz : g z = none) (gi1 : g i1 = none) (gi2 : g i2 = none) (gTO : g TO = none)
    (hQ : ∀ (h' : Heap) (tk : Nat) (T : Addr) (x y : Value), ZSt z TI TO i1 i2 (rawInt T0) true S1 S2 (k + 1) h' → IsPair h' T x y → s.heap.get? T = none → Rep g x d1 → Rep g y d2 → (∀ b o, b ≠ z → b ≠ TO → b ≠ i1 → b ≠ i2 → s.heap.get? b = some o → h'.get? b = some o) →
      Q (.ref T) { s with heap := h', toks := tk }) :
    wpAny (model c.prog c.w) A (Builtin.«zip.__next__» ⟨[.ref z], []⟩) (fun fin s' => ∃ v, fin = .done (.ret v) ∧ Q v s') E s := by
  obtain ⟨hz, hTI, ⟨a, b, hTO⟩, t1, t2⟩ := st
  show wpAny _ _ (field (.ref z) 2 >>= _) _ _ _
  refine wpAny_bind (wpAny_field hz rfl (x := .bool false) rfl ?_)
  show wpAny _ _ (field (.ref z) 3 >>= _) _ _ _
  refine wpAny_bind (wpAny_field hz rfl (x := .ref TI) rfl ?_)
  refine wpAny_bind (wpAny_seqItems hTI rfl ?_)
  show wpAny _ _ (Builtin.SmallTypes.ownedTupleIsFree (.ref z) >>= _) _ _ _
  refine wpAny_bind ?_
  unfold Builtin.SmallTypes.ownedTupleIsFree
  refine wpAny_bind (wpAny_field hz rfl (x := rawInt T0) rfl ?_)
  dsimp only [rawInt]
  refine wpAny_bind (wpAny_loadIfAlive ?_)
  rw [show ((T0 : Int)).toNat = T0 from Int.toNat_natCast T0, hT0]
  dsimp only [Option.isNone]
  rw [if_neg Bool.false_ne_true]
  refine wpAny_bind (wpAny_field hz rfl (x := .bool f1) rfl ?_)
  -- the mark that the tuple is not free
  have mark : wpAny (model c.prog c.w) A (if (Value.bool f1 != Value.bool true) = true then do setField (Value.ref z) 1 (Value.bool true); pure false else pure false)
      (fun a s' => a = false ∧ ∃ h₁, s' = { s with heap := h₁ } ∧ IsZp h₁ z TI TO (rawInt T0) true ∧ Heap.SameBut z s.heap h₁) E s := by
    cases f1 with
    | true => exact wpAny_pure ⟨rfl, s.heap, rfl, hz, Heap.SameBut.refl ..⟩
    | false => exact wpAny_bind (wpAny_setField_rec hz (by simp) fun h₁ hz₁ hs₁ => wpAny_pure ⟨rfl, h₁, rfl, hz₁, hs₁⟩)
  refine wpAny_mono mark (fun a s' q => ?_) fun _ _ q => q
  obtain ⟨rfl, h₁, rfl, hz₁, hs₁⟩ := q
  rw [if_neg Bool.false_ne_true]
  refine wpAny_bind ?_
  simp only [List.forIn_toArray, List.forIn_cons, List.forIn_nil]
  have k1 : ∀ b o, b ≠ z → s.heap.get? b = some o → h₁.get? b = some o := fun b o q e => hs₁.extBut b o q e
  have sb1 : Sub g h₁ := fun b o e => k1 b o (fun q => by rw [q, gz] at e; cases e) (hs b o e)
  refine wpAny_bind (wpAny_bind (wpAny_holding ?_))
  show wpAny _ _ (Builtin.SmallTypes.nextOf (.ref i1) >>= _) _ _ _
  have t1' := D1.frame _ _ _ t1 (fun o e => k1 _ o H.i1z e) hs sb1
  refine wpAny_bind (D1.item A k d1 { s with heap := h₁ } _ _ h1 t1' sb1 fun x h₂ tk2 rx t1₂ hs₂ => wpAny_pure ?_)
  have sb2 : Sub g h₂ := fun b o e => hs₂.extBut b o (fun q => by rw [q, gi1] at e; cases e) (sb1 b o e)
  refine wpAny_pure ?_
  refine wpAny_bind (wpAny_bind (wpAny_holding ?_))
  show wpAny _ _ (Builtin.SmallTypes.nextOf (.ref i2) >>= _) _ _ _
  have t2' : S2 k h₂ := D2.frame _ _ _ t2 (fun o e => hs₂.extBut _ _ H.i12.symm (k1 _ o H.i2z e)) hs sb2
  refine wpAny_bind (D2.item A k d2 { s with heap := h₂, toks := tk2 } _ _ h2 t2' sb2 fun y h₃ tk3 ry t2₃ hs₃ => wpAny_pure ?_)
  have sb3 : Sub g h₃ := fun b o e => hs₃.extBut b o (fun q => by rw [q, gi2] at e; cases e) (sb2 b o e)
  refine wpAny_pure (wpAny_pure ?_)
  show wpAny _ _ (newTuple [x, y] >>= _) _ _ _
  refine wpAny_bind (wpAny_newTuple ?_)
  have hsz : h₃.objs.size = s.heap.objs.size := by rw [hs₃.1, hs₂.1, hs₁.1]
  have up : ∀ b o, h₃.get? b = some o → (h₃.push { cls := .type "tuple", data := .seq #[x, y] }).get? b = some o := fun _ _ e => Heap.get?_push_of_some _ e
  have sb4 : Sub g (h₃.push { cls := .type "tuple", data := .seq #[x, y] }) := fun b o e => up _ _ (sb3 _ _ e)
  have k3 : ∀ b o, b ≠ z → b ≠ i1 → b ≠ i2 → s.heap.get? b = some o → h₃.get? b = some o := fun b o q1 q2 q3 e => hs₃.extBut _ _ q3 (hs₂.extBut _ _ q2 (k1 _ _ q1 e))
  refine wpAny_pure ⟨_, rfl, hQ _ tk3 h₃.objs.size x y ⟨up _ _ (hs₃.extBut _ _ H.i2z.symm (hs₂.extBut _ _ H.i1z.symm hz₁)), up _ _ (k3 _ _ H.TIz H.TIi1 H.TIi2 hTI), ⟨a, b, up _ _ (k3 _ _ H.TOz H.TOi1 H.TOi2 hTO)⟩,
    D1.frame _ _ _ t1₂ (fun o e => up _ _ (hs₃.extBut _ _ H.i12 e)) sb2 sb4, D2.frame _ _ _ t2₃ (fun o e => up _ _ e) sb3 sb4⟩ (Heap.get?_push_size _ rfl) (none_at_size _ (Nat.le_of_eq hsz.symm)) rx ry
    fun b o q1 _ q3 q4 e => up _ _ (k3 b o q1 q3 q4 e)⟩

theorem zipN_end {z TI TO i1 i2 : Addr} {ds1 ds2 : List D} {g : Gh} {S1 S2 : Nat → Heap → Prop} (hh : A.handled = none) (D1 : Dr c i1 ds1 g S1) (D2 : Dr c i2 ds2 g S2) (H : Apart z TI TO i1 i2) {k : Nat} {s : Shared} {f1 : Bool} {T0 : Addr} {o0 : Obj} {Q : Fin → Shared → Prop} {E : Value → Shared → Prop}
    (hend : ds1[k]? = none ∨ ds2[k]? = none) (st : ZSt z TI TO i1 i2 (rawInt T0) f1 S1 S2 k s.heap) (hT0 : s.heap.get? T0 = some o0) (hs : Sub g s.heap) (gz : g z = none) (gi1 : g i1 = none)
    (hE : ∀ h' tk e, (∀ b o, b ≠ z → b ≠ i1 → b ≠ i2 → s.heap.get? b = some o → h'.get? b = some o) → (∃ o, h'.get? e = some o ∧ o.cls = .type "StopIteration") → E (.ref e) { s with heap := h', toks := tk }) :
    wpAny (model c.prog c.w) A (Builtin.«zip.__next__» ⟨[.ref z], []⟩) Q E s := by
  obtain ⟨hz, hTI, ⟨a, b, hTO⟩, t1, t2⟩ := st
  show wpAny _ _ (field (.ref z) 2 >>= _) _ _ _
  refine wpAny_bind (wpAny_field hz rfl (x := .bool false) rfl ?_)
  show wpAny _ _ (field (.ref z) 3 >>= _) _ _ _
  refine wpAny_bind (wpAny_field hz rfl (x := .ref TI) rfl ?_)
  refine wpAny_bind (wpAny_seqItems hTI rfl ?_)
  show wpAny _ _ (Builtin.SmallTypes.ownedTupleIsFree (.ref z) >>= _) _ _ _
  refine wpAny_bind ?_
  unfold Builtin.SmallTypes.ownedTupleIsFree
  refine wpAny_bind (wpAny_field hz rfl (x := rawInt T0) rfl ?_)
  dsimp only [rawInt]
  refine wpAny_bind (wpAny_loadIfAlive ?_)
  rw [show ((T0 : Int)).toNat = T0 from Int.toNat_natCast T0, hT0]
  dsimp only [Option.isNone]
  rw [if_neg Bool.false_ne_true]
  refine wpAny_bind (wpAny_field hz rfl (x := .bool f1) rfl ?_)
  have mark : wpAny (model c.prog c.w) A (if (Value.bool f1 != Value.bool true) = true then do setField (Value.ref z) 1 (Value.bool true); pure false else pure false)
      (fun a s' => a = false ∧ ∃ h₁, s' = { s with heap := h₁ } ∧ IsZp h₁ z TI TO (rawInt T0) true ∧ Heap.SameBut z s.heap h₁) E s := by
    cases f1 with
    | true => exact wpAny_pure ⟨rfl, s.heap, rfl, hz, Heap.SameBut.refl ..⟩
    | false => exact wpAny_bind (wpAny_setField_rec hz (by simp) fun h₁ hz₁ hs₁ => wpAny_pure ⟨rfl, h₁, rfl, hz₁, hs₁⟩)
  refine wpAny_mono mark (fun a s' q => ?_) fun _ _ q => q
  obtain ⟨rfl, h₁, rfl, hz₁, hs₁⟩ := q
  rw [if_neg Bool.false_ne_true]
  refine wpAny_bind ?_
  simp only [List.forIn_toArray, List.forIn_cons, List.forIn_nil]
  have k1 : ∀ b o, b ≠ z → s.heap.get? b = some o → h₁.get? b = some o := fun b o q e => hs₁.extBut b o q e
  have sb1 : Sub g h₁ := fun b o e => k1 b o (fun q => by rw [q, gz] at e; cases e) (hs b o e)
  refine wpAny_bind (wpAny_bind (wpAny_holding ?_))
  show wpAny _ _ (Builtin.SmallTypes.nextOf (.ref i1) >>= _) _ _ _
  have t1' := D1.frame _ _ _ t1 (fun o e => k1 _ o H.i1z e) hs sb1
  cases hx : ds1[k]? with
  | none => exact wpAny_bind (D1.done A k { s with heap := h₁ } _ _ hh hx t1' sb1 fun h₂ e hs₂ he => hE h₂ s.toks e (fun b o q1 q2 _ e => hs₂ _ _ q2 (k1 _ _ q1 e)) he)
  | some d1 =>
    have hy : ds2[k]? = none := by
      rcases hend with q | q
      · rw [hx] at q; cases q
      · exact q
    refine wpAny_bind (D1.item A k d1 { s with heap := h₁ } _ _ hx t1' sb1 fun x h₂ tk2 rx t1₂ hs₂ => wpAny_pure ?_)
    have sb2 : Sub g h₂ := fun b o e => hs₂.extBut b o (fun q => by rw [q, gi1] at e; cases e) (sb1 b o e)
    refine wpAny_pure ?_
    refine wpAny_bind (wpAny_bind (wpAny_holding ?_))
    show wpAny _ _ (Builtin.SmallTypes.nextOf (.ref i2) >>= _) _ _ _
    have t2' : S2 k h₂ := D2.frame _ _ _ t2 (fun o e => hs₂.extBut _ _ H.i12.symm (k1 _ o H.i2z e)) hs sb2
    exact wpAny_bind (D2.done A k { s with heap := h₂, toks := tk2 } _ _ hh hy t2' sb2 fun h₃ e hs₃ he => hE h₃ tk2 e (fun b o q1 q2 q3 e => hs₃ _ _ q3 (hs₂.extBut _ _ q2 (k1 _ _ q1 e))) he)

/-- the pair that the zip itself holds is filled, and a copy is handed out -/
theorem zipF_item {z TI TO i1 i2 : Addr} {ds1 ds2 : List D} {g : Gh} {S1 S2 : Nat → Heap → Prop} (D1 : Dr c i1 ds1 g S1) (D2 : Dr c i2 ds2 g S2) (H : Apart z TI TO i1 i2) {k : Nat} {d1 d2 : D} {s : Shared} {Q : Value → Shared → Prop} {E : Value → Shared → Prop}
    (h1 : ds1[k]? = some d1) (h2 : ds2[k]? = some d2) (st : ZSt z TI TO i1 i2 .none false S1 S2 k s.heap) (hs : Sub g s.heap) (gz : g z = none) (gi1 : g i1 = none) (gi2 : g i2 = none) (gTO : g TO = none)
    (hQ : ∀ (h' : Heap) (tk : Nat) (T : Addr) (x y : Value), ZSt z TI TO i1 i2 (rawInt T) false S1 S2 (k + 1) h' → IsPair h' T x y → s.heap.get? T = none → Rep g x d1 → Rep g y d2 → (∀ b o, b ≠ z → b ≠ TO → b ≠ i1 → b ≠ i2 → s.heap.get? b = some o → h'.get? b = some o) →
      Q (.ref T) { s with heap := h', toks := tk }) :
    wpAny (model c.prog c.w) A (Builtin.«zip.__next__» ⟨[.ref z], []⟩) (fun fin s' => ∃ v, fin = .done (.ret v) ∧ Q v s') E s := by
  obtain ⟨hz, hTI, ⟨a, b, hTO⟩, t1, t2⟩ := st
  show wpAny _ _ (field (.ref z) 2 >>= _) _ _ _
  refine wpAny_bind (wpAny_field hz rfl (x := .bool false) rfl ?_)
  show wpAny _ _ (field (.ref z) 3 >>= _) _ _ _
  refine wpAny_bind (wpAny_field hz rfl (x := .ref TI) rfl ?_)
  refine wpAny_bind (wpAny_seqItems hTI rfl ?_)
  show wpAny _ _ (Builtin.SmallTypes.ownedTupleIsFree (.ref z) >>= _) _ _ _
  refine wpAny_bind ?_
  unfold Builtin.SmallTypes.ownedTupleIsFree
  refine wpAny_bind (wpAny_field hz rfl (x := .none) rfl (wpAny_pure ?_))
  simp only [if_true]
  refine wpAny_bind (wpAny_rule ?_)
  refine wpAny_bind (wpAny_field hz rfl (x := .ref TO) rfl ?_)
  refine wpAny_bind (wpAny_setField_rec hz (by simp) fun h₁ hz₁ hs₁ => ?_)
  replace hz₁ : IsZp h₁ z TI TO .ellipsis false := hz₁
  refine wpAny_bind ?_
  simp only [List.zipIdx_cons, List.zipIdx_nil, List.forIn_cons, List.forIn_nil]
  have k1 : ∀ b o, b ≠ z → s.heap.get? b = some o → h₁.get? b = some o := fun b o q e => hs₁.extBut b o q e
  have sb1 : Sub g h₁ := fun b o e => k1 b o (fun q => by rw [q, gz] at e; cases e) (hs b o e)
  refine wpAny_bind (wpAny_bind (wpAny_onRaise ?_))
  show wpAny _ _ (Builtin.SmallTypes.nextOf (.ref i1) >>= _) _ _ _
  have t1' := D1.frame _ _ _ t1 (fun o e => k1 _ o H.i1z e) hs sb1
  refine wpAny_bind (D1.item A k d1 { s with heap := h₁ } _ _ h1 t1' sb1 fun x h₂ tk2 rx t1₂ hs₂ => wpAny_pure ?_)
  have sb2 : Sub g h₂ := fun b o e => hs₂.extBut b o (fun q => by rw [q, gi1] at e; cases e) (sb1 b o e)
  have hTO₂ : IsPair h₂ TO a b := hs₂.extBut _ _ H.TOi1 (k1 _ _ H.TOz hTO)
  refine wpAny_bind (wpAny_seqItems hTO₂ rfl ?_)
  refine wpAny_bind (wpAny_updateSeq_pair hTO₂ fun h₃ hTO₃ hs₃ => ?_)
  replace hTO₃ : IsPair h₃ TO x b := hTO₃
  have sb3 : Sub g h₃ := fun b o e => hs₃.extBut b o (fun q => by rw [q, gTO] at e; cases e) (sb2 b o e)
  refine wpAny_bind (wpAny_letGo (wpAny_pure ?_))
  refine wpAny_bind (wpAny_bind (wpAny_onRaise ?_))
  show wpAny _ _ (Builtin.SmallTypes.nextOf (.ref i2) >>= _) _ _ _
  have t2' : S2 k h₃ := D2.frame _ _ _ t2 (fun o e => hs₃.extBut _ _ H.TOi2.symm (hs₂.extBut _ _ H.i12.symm (k1 _ o H.i2z e))) hs sb3
  refine wpAny_bind (D2.item A k d2 { s with heap := h₃, toks := tk2 } _ _ h2 t2' sb3 fun y h₄ tk4 ry t2₄ hs₄ => wpAny_pure ?_)
  have sb4 : Sub g h₄ := fun b o e => hs₄.extBut b o (fun q => by rw [q, gi2] at e; cases e) (sb3 b o e)
  have hTO₄ : IsPair h₄ TO x b := hs₄.extBut _ _ H.TOi2 hTO₃
  refine wpAny_bind (wpAny_seqItems hTO₄ rfl ?_)
  refine wpAny_bind (wpAny_updateSeq_pair hTO₄ fun h₅ hTO₅ hs₅ => ?_)
  replace hTO₅ : IsPair h₅ TO x y := hTO₅
  have sb5 : Sub g h₅ := fun b o e => hs₅.extBut b o (fun q => by rw [q, gTO] at e; cases e) (sb4 b o e)
  refine wpAny_bind (wpAny_letGo (wpAny_pure (wpAny_pure ?_)))
  refine wpAny_bind (wpAny_seqItems hTO₅ rfl ?_)
  refine wpAny_bind (wpAny_newTuple ?_)
  have hsz : h₅.objs.size = s.heap.objs.size := by rw [hs₅.1, hs₄.1, hs₃.1, hs₂.1, hs₁.1]
  have hz₅ : IsZp h₅ z TI TO .ellipsis false := hs₅.extBut _ _ H.TOz.symm (hs₄.extBut _ _ H.i2z.symm (hs₃.extBut _ _ H.TOz.symm (hs₂.extBut _ _ H.i1z.symm hz₁)))
  have k5 : ∀ b o, b ≠ z → b ≠ TO → b ≠ i1 → b ≠ i2 → s.heap.get? b = some o → h₅.get? b = some o := fun b o c1 c2 c3 c4 e =>
    hs₅.extBut _ _ c2 (hs₄.extBut _ _ c4 (hs₃.extBut _ _ c2 (hs₂.extBut _ _ c3 (k1 _ _ c1 e))))
  have zlt : z < h₅.objs.size := Heap.lt_size hz₅
  show wpAny _ _ (Builtin.SmallTypes.ownedTupleHandOut (.ref z) (.ref h₅.objs.size) >>= _) _ _ _
  refine wpAny_bind ?_
  unfold Builtin.SmallTypes.ownedTupleHandOut
  have hz₆ : IsZp (h₅.push { cls := .type "tuple", data := .seq #[x, y] }) z TI TO .ellipsis false := Heap.get?_push_of_some _ hz₅
  refine wpAny_bind (wpAny_setField_rec hz₆ (by simp) fun h₇ hz₇ hs₇ => ?_)
  replace hz₇ : IsZp h₇ z TI TO (rawInt h₅.objs.size) false := hz₇
  refine wpAny_setField_rec hz₇ (by simp) fun h₈ hz₈ hs₈ => ?_
  replace hz₈ : IsZp h₈ z TI TO (rawInt h₅.objs.size) false := hz₈
  have up : ∀ b o, b ≠ z → h₅.get? b = some o → h₈.get? b = some o := fun b o c1 e => hs₈.extBut _ _ c1 (hs₇.extBut _ _ c1 (Heap.get?_push_of_some _ e))
  have hT₈ : IsPair h₈ h₅.objs.size x y := hs₈.extBut _ _ (Nat.ne_of_gt zlt) (hs₇.extBut _ _ (Nat.ne_of_gt zlt) (Heap.get?_push_size _ rfl))
  have sb8 : Sub g h₈ := fun b o e => up _ _ (fun q => by rw [q, gz] at e; cases e) (sb5 _ _ e)
  refine wpAny_pure ⟨_, rfl, hQ h₈ tk4 h₅.objs.size x y ⟨hz₈, up _ _ H.TIz (k5 _ _ H.TIz H.TITO H.TIi1 H.TIi2 hTI), ⟨x, y, up _ _ H.TOz hTO₅⟩,
    D1.frame _ _ _ t1₂ (fun o e => up _ _ H.i1z (hs₅.extBut _ _ H.TOi1.symm (hs₄.extBut _ _ H.i12 (hs₃.extBut _ _ H.TOi1.symm e)))) sb2 sb8, D2.frame _ _ _ t2₄ (fun o e => up _ _ H.i2z (hs₅.extBut _ _ H.TOi2.symm e)) sb4 sb8⟩ hT₈ (none_at_size _ (Nat.le_of_eq hsz.symm)) rx ry
    fun b o q1 q2 q3 q4 e => up _ _ q1 (k5 b o q1 q2 q3 q4 e)⟩

theorem zipF_end {z TI TO i1 i2 : Addr} {ds1 ds2 : List D} {g : Gh} {S1 S2 : Nat → Heap → Prop} (hh : A.handled = none) (D1 : Dr c i1 ds1 g S1) (D2 : Dr c i2 ds2 g S2) (H : Apart z TI TO i1 i2) {k : Nat} {s : Shared} {Q : Fin → Shared → Prop} {E : Value → Shared → Prop}
    (hend : ds1[k]? = none ∨ ds2[k]? = none) (st : ZSt z TI TO i1 i2 .none false S1 S2 k s.heap) (hs : Sub g s.heap) (gz : g z = none) (gi1 : g i1 = none) (gTO : g TO = none)
    (hE : ∀ h' tk e, (∀ b o, b ≠ z → b ≠ TO → b ≠ i1 → b ≠ i2 → s.heap.get? b = some o → h'.get? b = some o) → (∃ o, h'.get? e = some o ∧ o.cls = .type "StopIteration") → E (.ref e) { s with heap := h', toks := tk }) :
    wpAny (model c.prog c.w) A (Builtin.«zip.__next__» ⟨[.ref z], []⟩) Q E s := by
  obtain ⟨hz, hTI, ⟨a, b, hTO⟩, t1, t2⟩ := st
  show wpAny _ _ (field (.ref z) 2 >>= _) _ _ _
  refine wpAny_bind (wpAny_field hz rfl (x := .bool false) rfl ?_)
  show wpAny _ _ (field (.ref z) 3 >>= _) _ _ _
  refine wpAny_bind (wpAny_field hz rfl (x := .ref TI) rfl ?_)
  refine wpAny_bind (wpAny_seqItems hTI rfl ?_)
  show wpAny _ _ (Builtin.SmallTypes.ownedTupleIsFree (.ref z) >>= _) _ _ _
  refine wpAny_bind ?_
  unfold Builtin.SmallTypes.ownedTupleIsFree
  refine wpAny_bind (wpAny_field hz rfl (x := .none) rfl (wpAny_pure ?_))
  simp only [if_true]
  refine wpAny_bind (wpAny_rule ?_)
  refine wpAny_bind (wpAny_field hz rfl (x := .ref TO) rfl ?_)
  refine wpAny_bind (wpAny_setField_rec hz (by simp) fun h₁ hz₁ hs₁ => ?_)
  replace hz₁ : IsZp h₁ z TI TO .ellipsis false := hz₁
  refine wpAny_bind ?_
  simp only [List.zipIdx_cons, List.zipIdx_nil, List.forIn_cons, List.forIn_nil]
  have k1 : ∀ b o, b ≠ z → s.heap.get? b = some o → h₁.get? b = some o := fun b o q e => hs₁.extBut b o q e
  have sb1 : Sub g h₁ := fun b o e => k1 b o (fun q => by rw [q, gz] at e; cases e) (hs b o e)
  refine wpAny_bind (wpAny_bind (wpAny_onRaise ?_))
  show wpAny _ _ (Builtin.SmallTypes.nextOf (.ref i1) >>= _) _ _ _
  have t1' := D1.frame _ _ _ t1 (fun o e => k1 _ o H.i1z e) hs sb1
  cases hx : ds1[k]? with
  | none =>
    refine wpAny_bind (D1.done A k { s with heap := h₁ } _ _ hh hx t1' sb1 fun h₂ e hs₂ he => ?_)
    obtain ⟨oe, hoe, hce⟩ := he
    have hz₂ : IsZp h₂ z TI TO .ellipsis false := hs₂ _ _ H.i1z.symm hz₁
    have hez : e ≠ z := fun x => by subst x; rw [hz₂] at hoe; cases hoe; simp at hce
    refine wpAny_setField_rec hz₂ (by simp) fun h₃ _ hs₃ => hE h₃ s.toks e (fun b o c1 _ c3 _ x => hs₃.extBut _ _ c1 (hs₂ _ _ c3 (k1 _ _ c1 x))) ⟨oe, hs₃.extBut _ _ hez hoe, hce⟩
  | some d1 =>
    have hy : ds2[k]? = none := by
      rcases hend with q | q
      · rw [hx] at q; cases q
      · exact q
    refine wpAny_bind (D1.item A k d1 { s with heap := h₁ } _ _ hx t1' sb1 fun x h₂ tk2 rx t1₂ hs₂ => wpAny_pure ?_)
    have sb2 : Sub g h₂ := fun b o e => hs₂.extBut b o (fun q => by rw [q, gi1] at e; cases e) (sb1 b o e)
    have hTO₂ : IsPair h₂ TO a b := hs₂.extBut _ _ H.TOi1 (k1 _ _ H.TOz hTO)
    refine wpAny_bind (wpAny_seqItems hTO₂ rfl ?_)
    refine wpAny_bind (wpAny_updateSeq_pair hTO₂ fun h₃ hTO₃ hs₃ => ?_)
    have sb3 : Sub g h₃ := fun b o e => hs₃.extBut b o (fun q => by rw [q, gTO] at e; cases e) (sb2 b o e)
    refine wpAny_bind (wpAny_letGo (wpAny_pure ?_))
    refine wpAny_bind (wpAny_bind (wpAny_onRaise ?_))
    show wpAny _ _ (Builtin.SmallTypes.nextOf (.ref i2) >>= _) _ _ _
    have t2' : S2 k h₃ := D2.frame _ _ _ t2 (fun o e => hs₃.extBut _ _ H.TOi2.symm (hs₂.extBut _ _ H.i12.symm (k1 _ o H.i2z e))) hs sb3
    refine wpAny_bind (D2.done A k { s with heap := h₃, toks := tk2 } _ _ hh hy t2' sb3 fun h₄ e hs₄ he => ?_)
    obtain ⟨oe, hoe, hce⟩ := he
    have hz₄ : IsZp h₄ z TI TO .ellipsis false := hs₄ _ _ H.i2z.symm (hs₃.extBut _ _ H.TOz.symm (hs₂.extBut _ _ H.i1z.symm hz₁))
    have hez : e ≠ z := fun x => by subst x; rw [hz₄] at hoe; cases hoe; simp at hce
    refine wpAny_setField_rec hz₄ (by simp) fun h₅ _ hs₅ => hE h₅ tk2 e (fun b o c1 c2 c3 c4 x => hs₅.extBut _ _ c1 (hs₄ _ _ c4 (hs₃.extBut _ _ c2 (hs₂.extBut _ _ c3 (k1 _ _ c1 x))))) ⟨oe, hs₅.extBut _ _ hez hoe, hce⟩
end
end Mine

/-! UZip3 -/
namespace Mine

noncomputable abbrev zsH1 (h : Heap) (l1 : Addr) : Heap := h.push { cls := .type "tuple_iterator", data := .fields #[.ref l1, .int 0 0] }
noncomputable abbrev zsH2 (h : Heap) (l1 : Addr) (x : Str) (t : Tok) : Heap := (zsH1 h l1).push { cls := .type "str_ascii_iterator", data := .fields #[.str x t, .int 0 0] }
noncomputable abbrev zsH3 (h : Heap) (l1 : Addr) (x : Str) (t : Tok) : Heap := (zsH2 h l1 x t).push { cls := .type "tuple", data := .seq #[.ref h.objs.size, .ref (zsH1 h l1).objs.size] }
noncomputable abbrev zsH4 (h : Heap) (l1 : Addr) (x : Str) (t : Tok) : Heap := (zsH3 h l1 x t).push { cls := .type "tuple", data := .seq #[.none, .none] }
noncomputable abbrev zsH5 (h : Heap) (l1 : Addr) (x : Str) (t : Tok) : Heap := (zsH4 h l1 x t).push { cls := .type "zip", data := .fields #[.none, .bool false, .bool false, .ref (zsH2 h l1 x t).objs.size, .ref (zsH3 h l1 x t).objs.size] }

set_option maxHeartbeats 4000000 in
theorem meets_zip_newS (l1 : Addr) (xs : Array Value) (x : Str) (t : Tok) (hx : x.cps.all (· < 128) = true) :
    Meets (Builtin.«zip.__new__» ⟨[.type "zip", .ref l1, .str x t], []⟩) (fun _ R s => s.heap.IsTuple l1 xs ∧
      R (.ok (.ret (.ref (zsH4 s.heap l1 x t).objs.size))) { s with heap := zsH5 s.heap l1 x t }) :=
  .of_wp fun prog w A R s h => by
    obtain ⟨hp, g, d, tk, os⟩ := s; obtain ⟨hl1, h⟩ := h
    have hsub := sub_zip
    have hL1 : Heap.IsTuple (Shared.heap ⟨hp, g, d, tk, os⟩) l1 xs := hl1
    wp_walk using wpAny_pyIter_tuple hL1, wpAny_pyIter_ascii hx
    exact ⟨_, rfl, h⟩

theorem zip_no_len : typeLookup (.type "zip") "__len__" = pure none := by rw [typeLookup_type, builtinLookup_eq_fast]; kernel_rfl
theorem zip_no_hint : typeLookup (.type "zip") "__length_hint__" = pure none := by rw [typeLookup_type, builtinLookup_eq_fast]; kernel_rfl

section
variable {c : Cx} {n : Nat} {sc : Scope} {vars : List Str} {A : Around}

theorem neA {a b : Nat} (h : a ≠ b) : @Ne Addr a b := h
theorem apart_new (N : Nat) : Apart (N + 4) (N + 2) (N + 3) N (N + 1) :=
  ⟨neA (by omega), neA (by omega), neA (by omega), neA (by omega), neA (by omega), neA (by omega), neA (by omega), neA (by omega), neA (by omega), neA (by omega)⟩

theorem call_zip_s {l1 : Addr} {xs : Array Value} {x : Str} {t : Tok} {s : Shared} {E : Value → Shared → Prop} {Q : Value → Shared → Prop} (hx : x.cps.all (· < 128) = true) (hl1 : s.heap.IsTuple l1 xs)
    (h : ∀ h', IsZp h' (s.heap.objs.size + 4) (s.heap.objs.size + 2) (s.heap.objs.size + 3) .none false → IsPair h' (s.heap.objs.size + 2) (.ref s.heap.objs.size) (.ref (s.heap.objs.size + 1)) →
      IsPair h' (s.heap.objs.size + 3) .none .none → h'.IsTupleIter s.heap.objs.size l1 0 → h'.IsStrIter (s.heap.objs.size + 1) "str_ascii_iterator" x t 0 →
      (∀ c o, s.heap.get? c = some o → h'.get? c = some o) → Q (.ref (s.heap.objs.size + 4)) { s with heap := h' }) :
    wpAny (model c.prog c.w) A (call (.type "zip") [.ref l1, .str x t]) Q E s := by
  refine callType_new F.called_zip (by decide) (F.typeCall_zip_2 _ _) (F.newCall_zip_2 _ _) (fun obj => F.args_object_init_3 obj _ _) F.entry_zip_new
    (meets_zip_newS l1 xs x t hx) ⟨hl1, ?_⟩
  have z1 : (zsH1 s.heap l1).objs.size = s.heap.objs.size + 1 := Heap.size_push ..
  have z2 : (zsH2 s.heap l1 x t).objs.size = s.heap.objs.size + 2 := by rw [Heap.size_push, z1]
  have z3 : (zsH3 s.heap l1 x t).objs.size = s.heap.objs.size + 3 := by rw [Heap.size_push, z2]
  have z4 : (zsH4 s.heap l1 x t).objs.size = s.heap.objs.size + 4 := by rw [Heap.size_push, z3]
  have g5 : (zsH5 s.heap l1 x t).get? (zsH4 s.heap l1 x t).objs.size = some _ := Heap.get?_push_size _ rfl
  have g4 : (zsH5 s.heap l1 x t).get? (zsH3 s.heap l1 x t).objs.size = some _ := Heap.get?_push_of_some _ (Heap.get?_push_size _ rfl)
  have g3 : (zsH5 s.heap l1 x t).get? (zsH2 s.heap l1 x t).objs.size = some _ := Heap.get?_push_of_some _ (Heap.get?_push_of_some _ (Heap.get?_push_size _ rfl))
  have g2 : (zsH5 s.heap l1 x t).get? (zsH1 s.heap l1).objs.size = some _ := Heap.get?_push_of_some _ (Heap.get?_push_of_some _ (Heap.get?_push_of_some _ (Heap.get?_push_size _ rfl)))
  have g1 : (zsH5 s.heap l1 x t).get? s.heap.objs.size = some _ := Heap.get?_push_of_some _ (Heap.get?_push_of_some _ (Heap.get?_push_of_some _ (Heap.get?_push_of_some _ (Heap.get?_push_size _ rfl))))
  show _ ∧ _
  rw [z2, z3, z4] at g5
  rw [z1, z2] at g3
  rw [z3] at g4
  rw [z1] at g2
  rw [z4]
  exact ⟨⟨_, g5, rfl⟩, h _ g5 g3 g4 ⟨_, g1, rfl, rfl⟩ ⟨_, g2, rfl, rfl⟩ fun c o e =>
    Heap.get?_push_of_some _ (Heap.get?_push_of_some _ (Heap.get?_push_of_some _ (Heap.get?_push_of_some _ (Heap.get?_push_of_some _ e))))⟩

theorem ZSt.frame {z TI TO i1 i2 : Addr} {ds1 ds2 : List D} {g : Gh} {S1 S2 : Nat → Heap → Prop} (D1 : Dr c i1 ds1 g S1) (D2 : Dr c i2 ds2 g S2) {f0 : Value} {f1 : Bool} {k : Nat} {h h' : Heap} (st : ZSt z TI TO i1 i2 f0 f1 S1 S2 k h) (hs : Sub g h) (hs' : Sub g h')
    (hk : ∀ b ∈ [z, TI, TO, i1, i2], ∀ o, h.get? b = some o → h'.get? b = some o) : ZSt z TI TO i1 i2 f0 f1 S1 S2 k h' :=
  ⟨hk z (by simp) _ st.z, hk TI (by simp) _ st.TI, let ⟨a, b, e⟩ := st.TO; ⟨a, b, hk TO (by simp) _ e⟩, D1.frame _ _ _ st.s1 (fun o e => hk i1 (by simp) o e) hs hs', D2.frame _ _ _ st.s2 (fun o e => hk i2 (by simp) o e) hs hs'⟩

theorem wkZip {es : List Expr} {kk : Nat} {p : Pos} {z TI TO i1 i2 : Addr} {ds1 ds2 : List D} {g : Gh} {S1 S2 : Nat → Heap → Prop} (hh : A.handled = none) (D1 : Dr c i1 ds1 g S1) (D2 : Dr c i2 ds2 g S2) (H : Apart z TI TO i1 i2)
    (gz : g z = none) (gi1 : g i1 = none) (gi2 : g i2 = none) (gTO : g TO = none) {op : Obj} (gTI : g TI = some op) :
    Wk c A (.Tuple es kk p) z [z, TO, i1, i2] (zipL ds1 ds2) g (fun i h => ZSt z TI TO i1 i2 .none false S1 S2 i h ∧ Sub g h)
      (fun i v h => ∃ T x y, v = .ref T ∧ ZSt z TI TO i1 i2 (rawInt T) false S1 S2 (i + 1) h ∧ IsPair h T x y ∧ T ≠ z ∧ (∀ d1 d2, ds1[i]? = some d1 → ds2[i]? = some d2 → Rep g x d1 ∧ Rep g y d2) ∧ Sub g h) where
  live := fun i h ⟨st, _⟩ b hb => by
    simp only [List.mem_cons, List.not_mem_nil, or_false] at hb
    rcases hb with rfl | rfl | rfl | rfl
    · exact ⟨_, st.z⟩
    · obtain ⟨_, _, e⟩ := st.TO; exact ⟨_, e⟩
    · exact D1.live _ _ st.s1
    · exact D2.live _ _ st.s2
  frame := fun i h h' ⟨st, hs⟩ hk hs' => ⟨st.frame D1 D2 hs hs' fun b hb o e => by
    simp only [List.mem_cons, List.not_mem_nil, or_false] at hb
    rcases hb with rfl | rfl | rfl | rfl | rfl
    · exact hk _ (by simp) o e
    · have := hs _ _ gTI
      rw [e] at this; cases this
      exact hs' _ _ gTI
    · exact hk _ (by simp) o e
    · exact hk _ (by simp) o e
    · exact hk _ (by simp) o e, hs'⟩
  item := fun i d s Q E hd ⟨st, hs⟩ _ hp hQ => by
    simp only [zipL, List.getElem?_map, Option.map_eq_some_iff] at hd
    obtain ⟨⟨d1, d2⟩, hj, rfl⟩ := hd
    obtain ⟨w1, w2⟩ := List.getElem?_zip_eq_some.mp hj
    have hT : s.TypeIs (.ref z) "zip" := ⟨_, st.z, rfl⟩
    refine toksT hp ?_
    unfold pyNext
    refine wpAny_bind (wpAny_attempt (wpAny_callSpecial?_slot (name := Str.ofString "__next__") hT F.slot_zip_next
      (wpAny_call_entry F.slot_zip_next hT F.entry_zip_next (zipF_item D1 D2 H w1 w2 st hs gz gi1 gi2 gTO fun h' tk T x y st' hT' hn rx ry hk => wpAny_pure fun q => ?_) (F.args_zip_next_1 _))))
    refine hQ (.ref T) h' tk ⟨T, x, y, rfl, st', hT', (fun e => by rw [e, st.z] at hn; cases hn), fun e1 e2 q1 q2 => ?_, nAt hs gz gi1 gi2 gTO hk⟩ (fun b o hb e => ?_) q
    · rw [w1] at q1; cases q1
      rw [w2] at q2; cases q2
      exact ⟨rx, ry⟩
    · simp only [List.mem_cons, List.not_mem_nil, or_false, not_or] at hb
      exact hk b o hb.1 hb.2.1 hb.2.2.1 hb.2.2.2 e
  go := fun i d v s Q E hd hm _ hQ => by
    obtain ⟨T, x, y, rfl, st, hT, hTz, hr, hs⟩ := hm
    simp only [zipL, List.getElem?_map, Option.map_eq_some_iff] at hd
    obtain ⟨⟨d1, d2⟩, hj, rfl⟩ := hd
    obtain ⟨w1, w2⟩ := List.getElem?_zip_eq_some.mp hj
    obtain ⟨rx, ry⟩ := hr d1 d2 w1 w2
    refine wpAny_letOwnedTupleGo_zip st.z fun h' hz' hs' => ?_
    have k1 : ∀ b o, b ≠ z → s.heap.get? b = some o → h'.get? b = some o := fun b o q e => (hs'.2 b q).trans e
    have hsub' : Sub g h' := fun b o e => k1 b o (fun q => by rw [q, gz] at e; cases e) (hs _ _ e)
    refine hQ h' ⟨T, [x, y], _, rfl, rfl, ⟨_, k1 _ _ hTz hT, rfl, 0, rfl⟩, .cons rx (.cons ry .nil)⟩ ⟨⟨hz', k1 _ _ H.TIz st.TI, let ⟨a, b, e⟩ := st.TO; ⟨a, b, k1 _ _ H.TOz e⟩, D1.frame _ _ _ st.s1 (fun o e => k1 _ o H.i1z e) hs hsub', D2.frame _ _ _ st.s2 (fun o e => k1 _ o H.i2z e) hs hsub'⟩, hsub'⟩ fun b o hb e => k1 b o (fun q => hb (by simp [q])) e
  done := fun s Q E ⟨st, hs⟩ _ hp hQ => by
    have hT : s.TypeIs (.ref z) "zip" := ⟨_, st.z, rfl⟩
    have hend : ds1[(zipL ds1 ds2).length]? = none ∨ ds2[(zipL ds1 ds2).length]? = none := by
      simp only [zipL, List.length_map, List.length_zip, List.getElem?_eq_none_iff]
      omega
    refine toksT hp ?_
    unfold pyNext
    refine wpAny_bind (wpAny_attempt (wpAny_callSpecial?_slot (name := Str.ofString "__next__") hT F.slot_zip_next
      (wpAny_call_entry F.slot_zip_next hT F.entry_zip_next (zipF_end (A := A.in1) hh D1 D2 H hend st hs gz gi1 gTO fun h' tk e hk he => ?_) (F.args_zip_next_1 _))))
    obtain ⟨o, ho, hc⟩ := he
    refine wpAny_bind (wpAny_isInstance (T := "StopIteration") (b := true) ⟨o, ho, hc⟩ isSubtype_stop ?_)
    refine wpAny_pure fun q => hQ h' tk (fun b o hb e => ?_) q
    simp only [List.mem_cons, List.not_mem_nil, or_false, not_or] at hb
    exact hk b o hb.1 hb.2.1 hb.2.2.1 hb.2.2.2 e
  self := fun i s Q E ⟨st, _⟩ hQ => wpAny_pyIter_zip st.z hQ

noncomputable def zipStrE (x : Str) (f : List D → Option D) : List D → Option (List D) := fun ρ => match f ρ with
  | some (.tup a) => some (zipL a (lettersOf x))
  | _ => none
theorem ItE.zipStr {es : List Expr} {kk : Nat} {p : Pos} {x : Str} {px pos : Pos} {e1 : Expr} {y : Str} {k1 : Nat} {py : Pos} {f1 : List D → Option D} (h1 : Ev c n sc vars e1 f1) (hx : NameV c sc x (.type "zip")) (hdx : (x == ("__debug__" : Str)) = false)
    (hst : ∀ env, starEach [e1, .Constant (.str y) k1 py] env = (false, eval e1 env) :: starEach [.Constant (.str y) k1 py] env) (hy : y.cps.all (· < 128) = true) : ItE c n sc vars (.Tuple es kk p) (.Call (.Name x px) [e1, .Constant (.str y) k1 py] [] pos) (zipStrE y f1) := by
  intro env A s g ρ ds Q E ok G hs V hp e' k
  unfold zipStrE at e'
  split at e'
  · rename_i l1 q1
    cases e'
    refine wpAny_Call_Name_kw (evalName hx hdx G V ?_)
    refine callWith_callee (c := c) (.type _) (by rw [hst]; rfl) ?_
    refine args_cons ?_ (hst env)
    refine h1 env A s g ρ _ _ E ok G hs V hp q1 fun v1 h1' g1 t1 x1 r1 p1 => ?_
    refine args_cons (Calls.Constant_str ?_)
    refine args_nil ⟨(G.keeps x1.keep).k, ?_⟩
    obtain ⟨a, o, vs, m, rfl, ha, hc, hd, r⟩ := r1.inv
    ·
      have hl : h1'.IsTuple a vs.toArray := ⟨o, x1.sub _ _ ha, hc, m, hd⟩
      have lt1 := Heap.lt_size (x1.sub _ _ ha)
      refine toksT (Nat.succ_pos _) (call_zip_s (s := { s with heap := h1', toks := t1 + 1 }) hy hl fun h3 hz hTI hTO hi1 hi2 hk3 p3 => ?_)
      refine wpAny_pyIter_zip (s := { s with heap := h3, toks := t1 + 1 }) hz ?_
      generalize hN : h1'.objs.size = N at *
      have x3 := x1.trans (Ext.put x1.sub hk3 (none_at_size _ (hN ▸ Nat.le_add_right N 2)) hTI)
      have gn : ∀ b, N ≤ b → g1 b = none := fun b hb => x1.sub.gnone (hN ▸ hb)
      have sn : ∀ b, N ≤ b → s.heap.get? b = none := fun b hb => get_none_of_keep x1.keep (none_at_size _ (hN ▸ hb))
      have gle := gput_le (o := ({ cls := .type "tuple", data := .seq #[.ref N, .ref (N + 1)] } : Obj)) (gn (N + 2) (Nat.le_add_right N 2))
      have gn' : ∀ b, N ≤ b → b ≠ N + 2 → gput g1 (N + 2) { cls := .type "tuple", data := .seq #[.ref N, .ref (N + 1)] } b = none := fun b h1 h2 => by
        unfold gput; rw [if_neg h2]; exact gn b h1
      have four : ∀ {T : Addr → Prop}, (∀ b, N ≤ b → b ≠ N + 2 → T b) → ∀ b ∈ [N + 4, N + 3, N, N + 1], T b := fun {T} q b hb => by
        simp only [List.mem_cons, List.not_mem_nil, or_false] at hb
        rcases hb with rfl | rfl | rfl | rfl <;> exact q _ (by omega) (by omega)
      refine k (N + 4) [N + 4, N + 3, N, N + 1] _ _ h3 _ (t1 + 1) x3 (wkZip ok.h (Dr.tuple (it := N) (gle _ _ ha) hc hd (r.mono fun b o e _ => gle _ _ e) (Nat.ne_of_lt (hN ▸ lt1))) (Dr.ascii (it := N + 1)) (apart_new N) (gn' _ (by omega) (by omega)) (gn' _ (by omega) (by omega)) (gn' _ (by omega) (by omega)) (gn' _ (by omega) (by omega)) (gput_self ..))
        ⟨⟨hz, hTI, ⟨_, _, hTO⟩, ⟨hi1, o, hk3 _ _ (x1.sub _ _ ha), hc, m, hd⟩, hi2⟩, x3.sub⟩ (four fun b hb _ => sn b hb) (four gn') p3
  · cases e'
end
end Mine

/-! UZip4 -/
namespace Mine

noncomputable def ZLast (g : Gh) (f0 : Value) (f1 : Bool) : Prop := (f0 = .none ∧ f1 = false) ∨ ∃ (T0 : Addr) (o0 : Obj), f0 = rawInt T0 ∧ g T0 = some o0

section
variable {c : Cx} {n : Nat} {sc : Scope} {vars : List Str} {A : Around}

theorem zip_next {z TI TO i1 i2 : Addr} {ds1 ds2 : List D} {g gk : Gh} {S1 S2 : Nat → Heap → Prop} (D1 : Dr c i1 ds1 g S1) (D2 : Dr c i2 ds2 g S2) (H : Apart z TI TO i1 i2) {k : Nat} {d1 d2 : D} {s : Shared} {f0 : Value} {f1 : Bool} {Q : Option Value → Shared → Prop} {E : Value → Shared → Prop}
    (h1 : ds1[k]? = some d1) (h2 : ds2[k]? = some d2) (st : ZSt z TI TO i1 i2 f0 f1 S1 S2 k s.heap) (hl : ZLast gk f0 f1) (hs : Sub gk s.heap) (hg : ∀ b o, g b = some o → gk b = some o) (gz : gk z = none) (gi1 : gk i1 = none) (gi2 : gk i2 = none) (gTO : gk TO = none)
    (hQ : ∀ (h' : Heap) (tk : Nat) (T : Addr) (x y : Value) (f0' : Value) (f1' : Bool), ZSt z TI TO i1 i2 f0' f1' S1 S2 (k + 1) h' → (f0' = rawInt T ∨ (f0' = f0 ∧ ∃ (T0 : Addr) (o0 : Obj), f0 = rawInt T0 ∧ gk T0 = some o0)) → IsPair h' T x y → s.heap.get? T = none → Rep g x d1 → Rep g y d2 →
      (∀ b o, b ≠ z → b ≠ TO → b ≠ i1 → b ≠ i2 → s.heap.get? b = some o → h'.get? b = some o) → Q (some (.ref T)) { s with heap := h', toks := tk }) : wpAny (model c.prog c.w) A (pyNext (.ref z)) Q E s := by
  have hT : s.TypeIs (.ref z) "zip" := ⟨_, st.z, rfl⟩
  have hs' : Sub g s.heap := fun b o e => hs _ _ (hg _ _ e)
  have gn : ∀ b, gk b = none → g b = none := fun b e => by
    cases q : g b with
    | none => rfl
    | some o => rw [hg _ _ q] at e; cases e
  unfold pyNext
  refine wpAny_bind (wpAny_attempt (wpAny_callSpecial?_slot (name := Str.ofString "__next__") hT F.slot_zip_next (wpAny_call_entry F.slot_zip_next hT F.entry_zip_next ?_ (F.args_zip_next_1 _))))
  rcases hl with ⟨rfl, rfl⟩ | ⟨T0, o0, rfl, hT0⟩
  · exact zipF_item D1 D2 H h1 h2 st hs' (gn _ gz) (gn _ gi1) (gn _ gi2) (gn _ gTO) fun h' tk T x y st' hT' hn rx ry hk => wpAny_pure (hQ h' tk T x y _ _ st' (.inl rfl) hT' hn rx ry hk)
  · exact zipN_item D1 D2 H h1 h2 st (hs _ _ hT0) hs' (gn _ gz) (gn _ gi1) (gn _ gi2) (gn _ gTO) fun h' tk T x y st' hT' hn rx ry hk => wpAny_pure (hQ h' tk T x y _ _ st' (.inr ⟨rfl, T0, o0, rfl, hT0⟩) hT' hn rx ry hk)
theorem zip_stop {z TI TO i1 i2 : Addr} {ds1 ds2 : List D} {g gk : Gh} {S1 S2 : Nat → Heap → Prop} (hh : A.handled = none) (D1 : Dr c i1 ds1 g S1) (D2 : Dr c i2 ds2 g S2) (H : Apart z TI TO i1 i2) {k : Nat} {s : Shared} {f0 : Value} {f1 : Bool} {Q : Option Value → Shared → Prop} {E : Value → Shared → Prop}
    (hend : ds1[k]? = none ∨ ds2[k]? = none) (st : ZSt z TI TO i1 i2 f0 f1 S1 S2 k s.heap) (hl : ZLast gk f0 f1) (hs : Sub gk s.heap) (hg : ∀ b o, g b = some o → gk b = some o) (gz : gk z = none) (gi1 : gk i1 = none) (gTO : gk TO = none)
    (hQ : ∀ (h' : Heap) (tk : Nat), (∀ b o, b ≠ z → b ≠ TO → b ≠ i1 → b ≠ i2 → s.heap.get? b = some o → h'.get? b = some o) → Q none { s with heap := h', toks := tk }) : wpAny (model c.prog c.w) A (pyNext (.ref z)) Q E s := by
  have hT : s.TypeIs (.ref z) "zip" := ⟨_, st.z, rfl⟩
  have hs' : Sub g s.heap := fun b o e => hs _ _ (hg _ _ e)
  have gn : ∀ b, gk b = none → g b = none := fun b e => by
    cases q : g b with
    | none => rfl
    | some o => rw [hg _ _ q] at e; cases e
  have fin : ∀ (h' : Heap) (tk : Nat) (e : Addr), (∀ b o, b ≠ z → b ≠ TO → b ≠ i1 → b ≠ i2 → s.heap.get? b = some o → h'.get? b = some o) → (∃ o, h'.get? e = some o ∧ o.cls = .type "StopIteration") →
      wpAny (model c.prog c.w) A (do if ← isInstance (.ref e) (.type "StopIteration") then pure none else throw (.ref e)) Q E { s with heap := h', toks := tk } := fun h' tk e hk he => by
    obtain ⟨o, ho, hc⟩ := he
    refine wpAny_bind (wpAny_isInstance (T := "StopIteration") (b := true) ⟨o, ho, hc⟩ isSubtype_stop ?_)
    exact wpAny_pure (hQ h' tk hk)
  unfold pyNext
  refine wpAny_bind (wpAny_attempt (wpAny_callSpecial?_slot (name := Str.ofString "__next__") hT F.slot_zip_next (wpAny_call_entry F.slot_zip_next hT F.entry_zip_next ?_ (F.args_zip_next_1 _))))
  rcases hl with ⟨rfl, rfl⟩ | ⟨T0, o0, rfl, hT0⟩
  · exact zipF_end (A := A.in1) hh D1 D2 H hend st hs' (gn _ gz) (gn _ gi1) (gn _ gTO) fun h' tk e hk he => fin h' tk e hk he
  · exact zipN_end (A := A.in1) hh D1 D2 H hend st (hs _ _ hT0) hs' (gn _ gz) (gn _ gi1) fun h' tk e hk he => fin h' tk e (fun b o q1 _ q3 q4 e => hk b o q1 q3 q4 e) he

theorem zip_extend {z TI TO i1 i2 L : Addr} {ds1 ds2 : List D} {g : Gh} {S1 S2 : Nat → Heap → Prop} {res : Value} (hh : A.handled = none) (D1 : Dr c i1 ds1 g S1) (D2 : Dr c i2 ds2 g S2) (H : Apart z TI TO i1 i2) (Lz : L ≠ z) (LTI : L ≠ TI) (LTO : L ≠ TO) (L1 : L ≠ i1) (L2 : L ≠ i2)
    (hlen : (zipL ds1 ds2).length ≤ 1000) {R : Result → Shared → Prop} :
    ∀ (k i : Nat) (s : Shared) (gk : Gh) (vs : List Value) (m : Nat) (f0 : Value) (f1 : Bool), (zipL ds1 ds2).length - i = k → i ≤ (zipL ds1 ds2).length → ZSt z TI TO i1 i2 f0 f1 S1 S2 i s.heap → ZLast gk f0 f1 → Sub gk s.heap → (∀ b o, g b = some o → gk b = some o) →
      gk z = none → gk i1 = none → gk i2 = none → gk TO = none → gk L = none → s.heap.get? L = some { cls := .type "list", dict := none, data := .seq vs.toArray m, slots := #[] } → RepL gk vs ((zipL ds1 ds2).take i) →
      (∀ h' tk gk' vs' m', (∀ b o, gk b = some o → gk' b = some o) → Sub gk' h' → (∀ b o, gk' b = some o → gk b = some o ∨ s.heap.get? b = none) → (∀ b o, b ≠ z → b ≠ TO → b ≠ i1 → b ≠ i2 → b ≠ L → s.heap.get? b = some o → h'.get? b = some o) →
        gk' L = none → h'.get? L = some { cls := .type "list", dict := none, data := .seq vs'.toArray m', slots := #[] } → RepL gk' vs' (zipL ds1 ds2) → R (.ok (.ret res)) { s with heap := h', toks := tk }) →
      codeAny (model c.prog c.w) A (.builtin "list.extend.loop" ⟨[.ref L, .ref z, res], []⟩) R s := by
  intro k
  induction k with
  | zero =>
    intro i s gk vs m f0 f1 hk hi st hl hs hg gz gi1 gi2 gTO gL hL hr hR
    have hin : i = (zipL ds1 ds2).length := by omega
    subst hin
    refine codeAny_builtin F.entry_extend_loop ?_
    rw [Around.under_plainId F.plain_extend_loop _]
    show wpAny _ A.in1 (pyNext (.ref z) >>= _) _ _ s
    have hend : ds1[(zipL ds1 ds2).length]? = none ∨ ds2[(zipL ds1 ds2).length]? = none := by
      simp only [zipL, List.length_map, List.length_zip, List.getElem?_eq_none_iff]
      omega
    refine wpAny_bind (zip_stop (A := A.in1) hh D1 D2 H hend st hl hs hg gz gi1 gTO fun h' tk hk' => ?_)
    rw [List.take_length] at hr
    exact wpAny_pure (hR h' tk gk vs m (fun _ _ e => e) (nAt hs gz gi1 gi2 gTO hk') (fun _ _ e => .inl e) (fun b o q1 q2 q3 q4 _ e => hk' b o q1 q2 q3 q4 e) gL (hk' _ _ Lz LTO L1 L2 hL) hr)
  | succ k ih =>
    intro i s gk vs m f0 f1 hk hi st hl hs hg gz gi1 gi2 gTO gL hL hr hR
    have hlt : i < (zipL ds1 ds2).length := by omega
    refine codeAny_builtin F.entry_extend_loop ?_
    rw [Around.under_plainId F.plain_extend_loop _]
    show wpAny _ A.in1 (pyNext (.ref z) >>= _) _ _ s
    have hz : i < (ds1.zip ds2).length := by simpa [zipL] using hlt
    have hj : (ds1.zip ds2)[i]? = some (ds1.zip ds2)[i] := List.getElem?_eq_getElem hz
    obtain ⟨w1, w2⟩ := List.getElem?_zip_eq_some.mp (show (ds1.zip ds2)[i]? = some ((ds1.zip ds2)[i].1, (ds1.zip ds2)[i].2) from hj)
    refine wpAny_bind (zip_next (A := A.in1) D1 D2 H w1 w2 st hl hs hg gz gi1 gi2 gTO fun h' tk T x y f0' f1' st' hl' hT hn rx ry hk' => ?_)
    have hL' := hk' _ _ Lz LTO L1 L2 hL
    have hsub' := nAt hs gz gi1 gi2 gTO hk'
    have gT : gk T = none := hs.none hn
    have TL : T ≠ L := fun e => by rw [e, hL] at hn; cases hn
    have Tz : T ≠ z := fun e => by rw [e, st.z] at hn; cases hn
    have T1 : T ≠ i1 := fun e => by obtain ⟨o, q⟩ := D1.live _ _ st.s1; rw [e, q] at hn; cases hn
    have T2 : T ≠ i2 := fun e => by obtain ⟨o, q⟩ := D2.live _ _ st.s2; rw [e, q] at hn; cases hn
    have TTO : T ≠ TO := fun e => by obtain ⟨_, _, q⟩ := st.TO; rw [e, q] at hn; cases hn
    show wpAny _ A.in1 (updateSeq L (·.push (.ref T)) >>= _) _ _ _
    refine wpAny_bind ?_
    have hvl : vs.length = i := by rw [hr.length, List.length_take]; omega
    have hH := Heap.get?_update_self (Obj.mapSeq (·.push (Value.ref T))) hL' rfl
    rw [Obj.mapSeq_push_plain] at hH
    have oth : ∀ b o, b ≠ L → h'.get? b = some o → (h'.update L (Obj.mapSeq (·.push (Value.ref T)))).get? b = some o := fun b o q e => (Heap.get?_update_other _ _ (Ne.symm q)).trans e
    have gle := gput_le (o := ({ cls := .type "tuple", data := .seq #[x, y] } : Obj)) gT
    have gother : ∀ b, b ≠ T → gk b = none → gput gk T { cls := .type "tuple", data := .seq #[x, y] } b = none := fun b q e => by unfold gput; rw [if_neg q]; exact e
    have hsub2 : Sub (gput gk T { cls := .type "tuple", data := .seq #[x, y] }) (h'.update L (Obj.mapSeq (·.push (Value.ref T)))) := fun b o e => by
      unfold gput at e
      split at e
      · rename_i q; cases e; rw [q]; exact oth _ _ TL hT
      · exact oth _ _ (fun q => by rw [q, gL] at e; cases e) (hsub' _ _ e)
    refine wpAny_updateSeq hL' rfl (wpAny_pure ⟨plainId_quiet F.plain_extend_loop _, ih (i + 1) { s with heap := h'.update L (Obj.mapSeq (·.push (Value.ref T))), toks := tk } (gput gk T { cls := .type "tuple", data := .seq #[x, y] }) (vs ++ [.ref T]) (m + 1) f0' f1' (by omega) hlt
      (st'.frame D1 D2 (fun b o e => hsub' _ _ (hg _ _ e)) (fun b o e => hsub2 _ _ (gle _ _ (hg _ _ e))) fun b hb o e => oth b o (fun q => ?_) e) ?_ hsub2 (fun b o e => gle _ _ (hg _ _ e)) (gother _ (Ne.symm Tz) gz) (gother _ (Ne.symm T1) gi1) (gother _ (Ne.symm T2) gi2) (gother _ (Ne.symm TTO) gTO) (gother _ (Ne.symm TL) gL)
      (by rw [hH]; simp) ?_ fun h2 tk2 gk2 vs2 m2 a1 a2 a3 a4 a5 a6 a7 => ?_⟩) (by simp; rw [hvl]; exact size_ok (by omega)) (by simp; rw [hvl]; have := size_ok (k := i) (by omega); omega)
    · subst q
      simp only [List.mem_cons, List.not_mem_nil, or_false] at hb
      rcases hb with q | q | q | q | q
      · exact Lz q
      · exact LTI q
      · exact LTO q
      · exact L1 q
      · exact L2 q
    · rcases hl' with q | ⟨q, T0, o0, q2, q3⟩
      · exact .inr ⟨T, _, q, gput_self ..⟩
      · exact .inr ⟨T0, o0, q.trans q2, gle _ _ q3⟩
    · have e1 : (zipL ds1 ds2).take (i + 1) = (zipL ds1 ds2).take i ++ [.tup [(ds1.zip ds2)[i].1, (ds1.zip ds2)[i].2]] := by
        rw [List.take_add_one]
        congr 1
        simp [zipL, hj]
      rw [e1]
      refine (hr.mono fun b o e _ => gle _ _ e).append (.cons (.tup (n := 0) (vs := [x, y]) (gput_self ..) rfl rfl (.cons (rx.mono fun b o e _ => gle _ _ (hg _ _ e)) (.cons (ry.mono fun b o e _ => gle _ _ (hg _ _ e)) .nil))) .nil)
    · refine hR h2 tk2 gk2 vs2 m2 (fun b o e => a1 _ _ (gle _ _ e)) a2 (fun b o e => ?_) (fun b o q1 q2 q3 q4 q5 e => a4 b o q1 q2 q3 q4 q5 (oth _ _ q5 (hk' b o q1 q2 q3 q4 e))) a5 a6 a7
      rcases a3 b o e with q | q
      · unfold gput at q
        split at q
        · rename_i q2; rw [q2]; exact .inr hn
        · exact .inl q
      · right
        cases r : s.heap.get? b with
        | none => rfl
        | some o' =>
          exfalso
          by_cases b1 : b = z
          · subst b1
            rw [oth _ _ (Ne.symm Lz) st'.z] at q; cases q
          · by_cases b2 : b = TO
            · subst b2
              obtain ⟨_, _, q'⟩ := st'.TO
              rw [oth _ _ (Ne.symm LTO) q'] at q; cases q
            · by_cases b3 : b = i1
              · subst b3
                obtain ⟨_, q'⟩ := D1.live _ _ st'.s1
                rw [oth _ _ (Ne.symm L1) q'] at q; cases q
              · by_cases b4 : b = i2
                · subst b4
                  obtain ⟨_, q'⟩ := D2.live _ _ st'.s2
                  rw [oth _ _ (Ne.symm L2) q'] at q; cases q
                · by_cases b5 : b = L
                  · subst b5
                    rw [hH] at q; cases q
                  · rw [oth _ _ b5 (hk' b o' b1 b2 b3 b4 r)] at q; cases q

noncomputable def lzipE (f g : List D → Option D) : List D → Option D := fun ρ => match f ρ with
  | some (.lst a) => match g ρ with
    | some (.lst b) => if (zipL a b).length ≤ 1000 then some (.lst (zipL a b)) else none
    | _ => none
  | _ => none
theorem Ev.listZip {y x : Str} {py px pos pos2 : Pos} {e1 e2 : Expr} {f1 f2 : List D → Option D} (h1 : Ev c n sc vars e1 f1) (h2 : Ev c n sc vars e2 f2) (hy : NameV c sc y (.type "list")) (hdy : (y == ("__debug__" : Str)) = false) (hx : NameV c sc x (.type "zip")) (hdx : (x == ("__debug__" : Str)) = false)
    (hst0 : ∀ env, starEach [.Call (.Name x px) [e1, e2] [] pos2] env = (false, eval (.Call (.Name x px) [e1, e2] [] pos2) env) :: starEach [] env)
    (hst : ∀ env, starEach [e1, e2] env = (false, eval e1 env) :: starEach [e2] env) (hst2 : ∀ env, starEach [e2] env = (false, eval e2 env) :: starEach [] env) : Ev c n sc vars (.Call (.Name y py) [.Call (.Name x px) [e1, e2] [] pos2] [] pos) (lzipE f1 f2) := by
  intro env A s g ρ d Q E ok G hs V hp e' k
  unfold lzipE at e'
  split at e'
  · rename_i l1 q1
    split at e'
    · rename_i l2 q2
      split at e'
      · rename_i hlen
        cases e'
        refine wpAny_Call_Name_kw (evalName hy hdy G V ?_)
        refine callWith_callee (c := c) (.type _) (by rw [hst0]; rfl) ?_
        refine args_cons ?_ (hst0 env)
        refine wpAny_Call_Name_kw (evalName hx hdx G V ?_)
        refine callWith_callee (c := c) (.type _) (by rw [hst, hst2]; rfl) ?_
        refine args_cons ?_ (hst env)
        refine h1 env A s g ρ _ _ E ok G hs V hp q1 fun v1 h1' g1 t1 x1 r1 p1 => ?_
        refine args_cons ?_ (hst2 env)
        refine h2 env A _ g1 ρ _ _ E ok (G.keeps x1.keep) x1.sub (V.ext x1) p1 q2 fun v2 h2' g2 t2 x2 r2 p2 => ?_
        have r1' := x2.rep r1
        have x12 := x1.trans x2
        refine args_nil ⟨(G.keeps x12.keep).k, ?_⟩
        cases r1' with
        | @lst a1 vs1 m1 ds1 ha1 rr1 => cases r2 with
          | @lst a2 vs2 m2 ds2 ha2 rr2 =>
            have hl1 : h2'.IsList a1 vs1.toArray := ⟨_, x12.sub _ _ ha1, rfl, m1, rfl⟩
            have hl2 : h2'.IsList a2 vs2.toArray := ⟨_, x12.sub _ _ ha2, rfl, m2, rfl⟩
            have lt1 := Heap.lt_size (x12.sub _ _ ha1)
            have lt2 := Heap.lt_size (x12.sub _ _ ha2)
            refine toksT p2 (call_zip_2 (s := { s with heap := h2', toks := t2 }) hl1 hl2 fun h3 hz hTI hTO hi1 hi2 _ hk3 p3 => ?_)
            have x3 := x12.trans (Ext.keeps x12.sub hk3)
            refine args_nil ⟨(G.keeps x3.keep).k, ?_⟩
            generalize hN : h2'.objs.size = N at *
            have gn : ∀ b, N ≤ b → g2 b = none := fun b hb => x12.sub.gnone (hN ▸ hb)
            have zlt := Heap.lt_size hz
            refine toksT p3 (callType_codes (Q₁ := fun obj s₁ => obj = .ref h3.objs.size ∧ s₁ = { s with heap := h3.push { cls := .type "list", data := .seq #[] }, toks := t2 }) F.called_list (F.typeCall_list_1 _) F.entry_list_init (code_list_new _ ⟨rfl, rfl⟩) fun obj s₁ h₁ => ?_)
            obtain ⟨rfl, rfl⟩ := h₁
            have hS : (h3.push { cls := .type "list", data := .seq #[] }).get? h3.objs.size = some { cls := .type "list", data := .seq #[] } := Heap.get?_push_size _ rfl
            refine ⟨⟨_, hS, rfl⟩, F.args_list_init_2 _ _, ?_⟩
            generalize hL : h3.objs.size = L at *
            have up : ∀ b o, h3.get? b = some o → (h3.push { cls := .type "list", data := .seq #[] }).get? b = some o := fun _ _ e => Heap.get?_push_of_some _ e
            have ne : ∀ {b o}, h3.get? b = some o → L ≠ b := fun e q => by have := Heap.lt_size e; rw [hL, q] at this; exact Nat.lt_irrefl _ this
            show wpAny _ _ (do let old ← Builtin.List.listItems (.ref L); Builtin.List.listUpdate (.ref L) (fun _ => #[]); letGo old.toList.reverse; Builtin.List.listExtendWith (.ref L) (.ref (N + 4)) .none) _ _ _
            refine wpAny_bind ?_
            unfold Builtin.List.listItems
            refine wpAny_bind (wpAny_seqItems hS rfl (wpAny_pure ?_))
            show wpAny _ _ (updateSeq L (fun _ => #[]) >>= fun _ => letGo (#[] : Array Value).toList.reverse >>= fun _ => Builtin.List.listExtendWith (.ref L) (.ref (N + 4)) .none) _ _ _
            refine wpAny_bind (wpAny_updateSeq hS rfl ?_)
            have hS₂ := Heap.get?_update_self (Obj.mapSeq (fun _ => (#[] : Array Value))) hS rfl
            have oth : ∀ b o, L ≠ b → h3.get? b = some o → ((h3.push { cls := .type "list", data := .seq #[] }).update L (Obj.mapSeq (fun _ => (#[] : Array Value)))).get? b = some o := fun b o hb e => (Heap.get?_update_other _ _ hb).trans (up _ _ e)
            generalize hH : (h3.push { cls := .type "list", data := .seq #[] }).update L (Obj.mapSeq (fun _ => (#[] : Array Value))) = H at *
            refine wpAny_bind (wpAny_letGo ?_)
            unfold Builtin.List.listExtendWith
            have hzH : IsZp H (N + 4) (N + 2) (N + 3) .none false := oth _ _ (ne hz) hz
            have hTz : Shared.TypeIs { s with heap := H, toks := t2 } (.ref (N + 4)) "zip" := ⟨_, hzH, rfl⟩
            refine wpAny_bind (wpAny_typeOf hTz ?_)
            have hne : L ≠ N + 4 := ne hz
            have b1 : Builtin.List.listSameRef (.ref L) (.ref (N + 4)) = false := by simp [Builtin.List.listSameRef, hne]
            have b2 : (Value.type "zip" == Value.type "list") = false := by decide
            have b3 : (Value.type "zip" == Value.type "tuple") = false := by decide
            simp only [b1, b2, b3, Bool.or_false, Bool.false_eq_true, if_false]
            refine wpAny_bind (wpAny_pyIter_zip hzH ?_)
            refine wpAny_bind (wpAny_holding ?_)
            unfold Builtin.List.listLengthHint
            refine wpAny_bind (wpAny_specialOf hTz zip_no_len ?_)
            show wpAny _ _ (specialOf (Value.ref (N + 4)) (Str.ofString "__length_hint__") >>= _) _ _ _
            refine wpAny_bind (wpAny_specialOf hTz zip_no_hint ?_)
            refine wpAny_pure ?_
            show wpAny _ _ (rule "list.extend.makes-room" >>= fun _ => Builtin.List.listTouch (.ref L) >>= fun _ => again (.builtin "list.extend.loop" ⟨[.ref L, .ref (N + 4), .none], []⟩)) _ _ _
            refine wpAny_bind (wpAny_rule ?_)
            refine wpAny_bind ?_
            show wpAny _ _ (updateSeq L (·.push .none) >>= fun _ => updateSeq L (·.pop)) _ _ _
            refine wpAny_bind (wpAny_updateSeq hS₂ rfl ?_)
            have hS₃ := Heap.get?_update_self (Obj.mapSeq (·.push Value.none)) hS₂ rfl
            refine wpAny_updateSeq (hz := by seq_fits) hS₃ rfl ?_
            have hS₄ := Heap.get?_update_self (Obj.mapSeq (·.pop)) hS₃ rfl
            have oth2 : ∀ b o, L ≠ b → h3.get? b = some o → ((H.update L (Obj.mapSeq (·.push Value.none))).update L (Obj.mapSeq (·.pop))).get? b = some o := fun b o hb e => (Heap.get?_update_other _ _ hb).trans ((Heap.get?_update_other _ _ hb).trans (oth _ _ hb e))
            generalize hH2 : (H.update L (Obj.mapSeq (·.push Value.none))).update L (Obj.mapSeq (·.pop)) = H2 at *
            have gle := gput_le (o := ({ cls := .type "tuple", data := .seq #[.ref N, .ref (N + 1)] } : Obj)) (gn (N + 2) (Nat.le_add_right N 2))
            have gn' : ∀ b, N ≤ b → b ≠ N + 2 → gput g2 (N + 2) { cls := .type "tuple", data := .seq #[.ref N, .ref (N + 1)] } b = none := fun b h1 h2 => by
              unfold gput; rw [if_neg h2]; exact gn b h1
            have alive2 : ∀ b o, h2'.get? b = some o → H2.get? b = some o := fun b o e => oth2 _ _ (ne (hk3 _ _ e)) (hk3 _ _ e)
            have sub2 : Sub (gput g2 (N + 2) { cls := .type "tuple", data := .seq #[.ref N, .ref (N + 1)] }) H2 := fun b o e => by
              unfold gput at e
              split at e
              · rename_i q; cases e; rw [q]; exact oth2 _ _ (ne hTI) hTI
              · exact alive2 _ _ (x12.sub _ _ e)
            have hLge : N ≤ L := Nat.le_trans (Nat.le_add_right N 4) (Nat.le_of_lt zlt)
            refine wpAny_pure ⟨plainId_quiet F.plain_extend_loop _, zip_extend (L := L) (z := N + 4) (TI := N + 2) (TO := N + 3) (i1 := N) (i2 := N + 1) (ds1 := l1) (ds2 := l2) (A := A.in1) ok.h
              (Dr.list (it := N) (gle _ _ ha1) (rr1.mono fun b o e _ => gle _ _ e) (Nat.ne_of_lt (hN ▸ lt1))) (Dr.list (it := N + 1) (gle _ _ ha2) (rr2.mono fun b o e _ => gle _ _ e) (Nat.ne_of_lt (Nat.lt_succ_of_lt (hN ▸ lt2)))) (apart_new N)
              hne (ne hTI) (ne hTO) (let ⟨_, e, _⟩ := hi1; ne e) (let ⟨_, e, _⟩ := hi2; ne e) hlen _ 0 { s with heap := H2, toks := t2 } (gput g2 (N + 2) { cls := .type "tuple", data := .seq #[.ref N, .ref (N + 1)] }) [] _ .none false rfl (Nat.zero_le _)
              ⟨oth2 _ _ (ne hz) hz, oth2 _ _ (ne hTI) hTI, ⟨_, _, oth2 _ _ (ne hTO) hTO⟩, ⟨hi1.at fun o e => oth2 _ _ (ne e) e, hl1.at fun o e => alive2 _ _ e⟩, ⟨hi2.at fun o e => oth2 _ _ (ne e) e, hl2.at fun o e => alive2 _ _ e⟩⟩
              (.inl ⟨rfl, rfl⟩) sub2 (fun _ _ e => e) (gn' _ (by omega) (neA (by omega))) (gn' _ (Nat.le_refl _) (neA (by omega))) (gn' _ (by omega) (neA (by omega))) (gn' _ (by omega) (neA (by omega))) (gn' _ hLge (ne hTI)) hS₄ .nil
              fun h' tk gk' vs' m' a1 a2 a3 a4 a5 a6 a7 => ⟨rfl, fun p4 => ?_⟩⟩
            have old : ∀ b o, s.heap.get? b = some o → h'.get? b = some o := fun b o e => by
              have hb : @LT.lt Nat _ b N := by rw [← hN]; exact Heap.lt_size (x12.keep _ _ e)
              have e2 := alive2 _ _ (x12.keep _ _ e)
              exact a4 b o (neA (by omega)) (neA (by omega)) (neA (by omega)) (neA (by omega)) (neA (by omega)) e2
            have xf : Ext s.heap g h' (gput gk' L { cls := .type "list", dict := none, data := .seq vs'.toArray m', slots := #[] }) := by
              refine ⟨fun b o e => gput_le a5 _ _ (a1 _ _ (gle _ _ (x12.le _ _ e))), fun b o e => ?_, old, fun b o e => ?_⟩
              · unfold gput at e
                split at e
                · rename_i q; cases e; rw [q]; exact a6
                · exact a2 _ _ e
              · have hbig : ∀ b, N ≤ b → s.heap.get? b = none := fun b hb => get_none_of_keep x12.keep (none_at_size _ (hN ▸ hb))
                unfold gput at e
                split at e
                · rename_i q; rw [q]; exact .inr (hbig _ hLge)
                · rcases a3 b o e with q | q
                  · unfold gput at q
                    split at q
                    · rename_i q2; rw [q2]; exact .inr (hbig _ (Nat.le_add_right N 2))
                    · exact x12.fresh _ _ q
                  · right
                    cases r : s.heap.get? b with
                    | none => rfl
                    | some o' => have := alive2 _ _ (x12.keep _ _ r); rw [this] at q; cases q
            exact k _ _ _ _ xf (.lst (gput_self ..) (a7.mono fun b o e _ => gput_le a5 b o e)) p4
      · cases e'
    · cases e'
  · cases e'
end
end Mine

/-! UComp4 -/
namespace Mine

section
variable {prog : Program} {w : World} {A : Around} {R : Result → Shared → Prop}

theorem turn0 (elt x : Expr) (iter y iter2 : Expr) (scope : Scope) (pos : Pos) (it acc : Value) (env : Env) :
    compTurn (.ListComp elt [⟨x, iter, [], 0⟩, ⟨y, iter2, [], 0⟩] scope pos) 0 it acc env = (standAt iter.pos >>= fun _ => pyNext it >>= fun r => match r with
      | none => pure (.done .next)
      | some v => letOwnedTupleGo x it v >>= fun _ => assign x env v >>= fun _ =>
        eval iter2 env >>= fun z => standAt iter2.pos >>= fun _ => foldedSetIterable iter2 env z >>= fun z => holding [z] (pyIter z) >>= fun it2 =>
          runOwn (.compStart (.ListComp elt [⟨x, iter, [], 0⟩, ⟨y, iter2, [], 0⟩] scope pos) 1 it2 acc env) env >>= fun _ =>
          again (.compLoop (.ListComp elt [⟨x, iter, [], 0⟩, ⟨y, iter2, [], 0⟩] scope pos) 0 it acc env)) := by rfl
theorem turn1 (elt x : Expr) (iter y iter2 : Expr) (scope : Scope) (pos : Pos) (it acc : Value) (env : Env) :
    compTurn (.ListComp elt [⟨x, iter, [], 0⟩, ⟨y, iter2, [], 0⟩] scope pos) 1 it acc env = (standAt iter2.pos >>= fun _ => pyNext it >>= fun r => match r with
      | none => pure (.done .next)
      | some v => letOwnedTupleGo y it v >>= fun _ => assign y env v >>= fun _ =>
        (eval elt env >>= fun z => call (.builtin "list.append") [acc, z] >>= fun _ => pure ()) >>= fun _ =>
          again (.compLoop (.ListComp elt [⟨x, iter, [], 0⟩, ⟨y, iter2, [], 0⟩] scope pos) 1 it acc env)) := by rfl

theorem compLoop0 {elt x iter y iter2 : Expr} {scope : Scope} {pos : Pos} {it acc : Value} {env : Env} (I : Nat → Shared → Prop)
    (turn : ∀ n s, I n s → wpAny (model prog w) A (pyNext it) (fun r s₁ => match r with
      | none => R (.ok .next) s₁
      | some v => wpAny (model prog w) A (letOwnedTupleGo x it v) (fun _ s₁' => wpAny (model prog w) A (assign x env v) (fun _ s₂ =>
          wpAny (model prog w) A (eval iter2 env) (fun z s₃ => wpAny (model prog w) A (pyIter z) (fun it2 s₄ =>
            codeAny (model prog w) A (.compStart (.ListComp elt [⟨x, iter, [], 0⟩, ⟨y, iter2, [], 0⟩] scope pos) 1 it2 acc env) (fun r s' => match r with | .ok _ => ∃ m, m < n ∧ I m s' | .error e => cameBackBy (model prog w) A env (notedBy (model prog w) A env fun e s' => R (.error e) s') e s') s₄)
            (notedBy (model prog w) A env fun e s' => R (.error e) s') s₃) (notedBy (model prog w) A env fun e s' => R (.error e) s') s₂) (notedBy (model prog w) A env fun e s' => R (.error e) s') s₁') (notedBy (model prog w) A env fun e s' => R (.error e) s') s₁) (notedBy (model prog w) A env fun e s' => R (.error e) s') s)
    (hs : ∀ z, foldedSetIterable iter2 env z = pure z) {s : Shared} (n : Nat) (h : I n s) :
    codeAny (model prog w) A (.compLoop (.ListComp elt [⟨x, iter, [], 0⟩, ⟨y, iter2, [], 0⟩] scope pos) 0 it acc env) R s := by
  refine codeAny_loop rfl I (fun n s hI => ?_) n h
  show wpAny _ _ ((compTurn (.ListComp elt [⟨x, iter, [], 0⟩, ⟨y, iter2, [], 0⟩] scope pos) 0 it acc env).onRaise (fun x => do noteFrame x env; theTreesLotGoes x)) _ _ s
  refine wpAny_noted ?_
  rw [turn0]
  refine wpAny_bind (wpAny_standAt (wpAny_bind (wpAny_mono (turn n s hI) (fun r s₁ h₁ => ?_) fun _ _ h' => h')))
  cases r with
  | none => exact wpAny_pure h₁
  | some v =>
    refine wpAny_bind (wpAny_mono h₁ (fun _ s₁' h₁' => ?_) fun _ _ h' => h')
    refine wpAny_bind (wpAny_mono h₁' (fun _ s₂ h₂ => ?_) fun _ _ h' => h')
    refine wpAny_bind (wpAny_mono h₂ (fun z s₃ h₃ => ?_) fun _ _ h' => h')
    refine wpAny_bind (wpAny_standAt ?_)
    rw [hs]
    refine wpAny_bind (wpAny_pure (wpAny_bind (wpAny_holding (wpAny_mono h₃ (fun it2 s₄ h₄ => ?_) fun _ _ h' => h'))))
    refine wpAny_bind (wpAny_runOwn (codeAny_mono h₄ fun r s' q => ?_))
    cases r with
    | ok f => exact wpAny_pure ⟨rfl, q⟩
    | error e => exact q

theorem compLoop1 {elt x iter y iter2 : Expr} {scope : Scope} {pos : Pos} {it acc : Value} {env : Env} (I : Nat → Shared → Prop)
    (turn : ∀ n s, I n s → wpAny (model prog w) A (pyNext it) (fun r s₁ => match r with
      | none => R (.ok .next) s₁
      | some v => wpAny (model prog w) A (letOwnedTupleGo y it v) (fun _ s₁' => wpAny (model prog w) A (assign y env v) (fun _ s₂ =>
          wpAny (model prog w) A (eval elt env) (fun z s₃ => wpAny (model prog w) A (call (.builtin "list.append") [acc, z]) (fun _ s₄ => ∃ m, m < n ∧ I m s₄)
            (notedBy (model prog w) A env fun e s' => R (.error e) s') s₃) (notedBy (model prog w) A env fun e s' => R (.error e) s') s₂) (notedBy (model prog w) A env fun e s' => R (.error e) s') s₁') (notedBy (model prog w) A env fun e s' => R (.error e) s') s₁) (notedBy (model prog w) A env fun e s' => R (.error e) s') s)
    {s : Shared} (n : Nat) (h : I n s) :
    codeAny (model prog w) A (.compLoop (.ListComp elt [⟨x, iter, [], 0⟩, ⟨y, iter2, [], 0⟩] scope pos) 1 it acc env) R s := by
  refine codeAny_loop rfl I (fun n s hI => ?_) n h
  show wpAny _ _ ((compTurn (.ListComp elt [⟨x, iter, [], 0⟩, ⟨y, iter2, [], 0⟩] scope pos) 1 it acc env).onRaise (fun x => do noteFrame x env; theTreesLotGoes x)) _ _ s
  refine wpAny_noted ?_
  rw [turn1]
  refine wpAny_bind (wpAny_standAt (wpAny_bind (wpAny_mono (turn n s hI) (fun r s₁ h₁ => ?_) fun _ _ h' => h')))
  cases r with
  | none => exact wpAny_pure h₁
  | some v =>
    refine wpAny_bind (wpAny_mono h₁ (fun _ s₁' h₁' => ?_) fun _ _ h' => h')
    exact wpAny_bind (wpAny_mono h₁' (fun _ s₂ h₂ => wpAny_bind (wpAny_bind (wpAny_mono h₂ (fun z s₃ h₃ => wpAny_bind (wpAny_mono h₃
      (fun _ s₄ h₄ => wpAny_pure (wpAny_pure ⟨rfl, h₄⟩)) fun _ _ h' => h')) fun _ _ h' => h'))) fun _ _ h' => h')

theorem compStart1 {elt x iter y iter2 : Expr} {scope : Scope} {pos : Pos} {it acc : Value} {env : Env} {s : Shared}
    (h0 : codeAny (model prog w) A (.compLoop (.ListComp elt [⟨x, iter, [], 0⟩, ⟨y, iter2, [], 0⟩] scope pos) 1 it acc env) R s)
    (h : wpAny (model prog w) A (pyIter it) (fun it' s' => codeAny (model prog w) A (.compLoop (.ListComp elt [⟨x, iter, [], 0⟩, ⟨y, iter2, [], 0⟩] scope pos) 1 it' acc env) R s')
      (notedBy (model prog w) A env fun x s' => R (.error x) s') s) :
    codeAny (model prog w) A (.compStart (.ListComp elt [⟨x, iter, [], 0⟩, ⟨y, iter2, [], 0⟩] scope pos) 1 it acc env) R s := by
  refine codeAny_of_tree ?_
  show wpAny _ _ ((compStart (.ListComp elt [⟨x, iter, [], 0⟩, ⟨y, iter2, [], 0⟩] scope pos) 1 it acc env).onRaise (fun x => do noteFrame x env; standAt theWindowsPlace)) _ _ s
  refine wpAny_notedAt ?_
  unfold compStart
  show wpAny _ _ (ask >>= _) _ _ s
  refine wpAny_bind (wpAny_askSetting (wpAny_ite ?_))
  split
  · first
      | exact wpAny_bind (wpAny_pure (wpAny_pure (And.intro rfl h0)))
      | exact wpAny_pure (And.intro rfl h0)
  · first
      | exact wpAny_bind (wpAny_rule (wpAny_bind (wpAny_standAt (wpAny_bind (wpAny_mono h (fun it' s' h' => wpAny_pure (And.intro rfl h')) fun _ _ x => x)))))
      | (refine wpAny_bind (wpAny_rule ?_); show wpAny _ _ (standAt iter2.pos >>= _) _ _ s; exact wpAny_bind (wpAny_standAt (wpAny_bind (wpAny_mono h (fun it' s' h' => wpAny_pure (And.intro rfl h')) fun _ _ x => x))))
end
end Mine

/-! UComp5 -/
namespace Mine

noncomputable def inL (cs : List D) (fe : List D → Option D) (d : D) : List D → Option (List D)
  | [] => some []
  | y :: l => match fe ([d, y] ++ cs) with
    | none => none
    | some z => match inL cs fe d l with
      | none => none
      | some zs => some (z :: zs)
noncomputable def outL (cs : List D) (fi2 : List D → Option (List D)) (fe : List D → Option D) : List D → Option (List D)
  | [] => some []
  | d :: ds => match fi2 ([d, .undef] ++ cs) with
    | none => none
    | some l => match inL cs fe d l with
      | none => none
      | some ys => match outL cs fi2 fe ds with
        | none => none
        | some zs => if ys.length + zs.length ≤ 1000 then some (ys ++ zs) else none
noncomputable def comp2D (caps : List Nat) (fi fi2 : List D → Option (List D)) (fe : List D → Option D) : List D → Option (List D) := fun ρ => match fi ρ with
  | none => none
  | some ds => match capD caps ρ with
    | none => none
    | some cs => outL cs fi2 fe ds

structure CSt (s : Shared) (g g' : Gh) (wr : List Addr) (Da Ca : Addr) (hh : Heap) (gk : Gh) (vs : List Value) (acc : List D) (m : Nat) (mm : Str → Option Value) : Prop where
  x : Ext s.heap g hh gk
  le : ∀ a o, g' a = some o → gk a = some o
  gD : gk Da = none
  gC : gk Ca = none
  gw : ∀ b ∈ wr, gk b = none
  ns : hh.Ns Ca mm
  ob : hh.get? Da = some { cls := .type "list", dict := none, data := .seq vs.toArray m, slots := #[] }
  r : RepL gk vs acc

section
variable {c : Cx} {n : Nat} {sc : Scope} {vars : List Str} {A : Around}

/-- an expression has run -/
theorem CSt.ext {s : Shared} {g g' : Gh} {wr : List Addr} {Da Ca : Addr} {hh h2 : Heap} {gk g2 : Gh} {vs : List Value} {acc : List D} {m : Nat} {mm : Str → Option Value} (X : CSt s g g' wr Da Ca hh gk vs acc m mm) (hw : ∀ b ∈ wr, ∃ o, hh.get? b = some o) (x : Ext hh gk h2 g2) :
    CSt s g g' wr Da Ca h2 g2 vs acc m mm := by
  have key : ∀ b o, hh.get? b = some o → gk b = none → g2 b = none := fun b o e q => by
    cases r : g2 b with
    | none => rfl
    | some y =>
      rcases x.fresh b y r with u | u
      · rw [q] at u; cases u
      · rw [e] at u; cases u
  obtain ⟨oc, _, _, hoc, _⟩ := id X.ns
  exact ⟨X.x.trans x, fun a o e => x.le _ _ (X.le _ _ e), key _ _ X.ob X.gD, key _ _ hoc X.gC, fun b hb => let ⟨o, e⟩ := hw b hb; key _ _ e (X.gw b hb), X.ns.keeps x.keep, x.keep _ _ X.ob, x.repL X.r⟩
/-- only things that are not looked at, or the frame's names, have changed -/
theorem CSt.but {s : Shared} {g g' : Gh} {wr : List Addr} {Da Ca : Addr} {hh h2 : Heap} {gk : Gh} {vs : List Value} {acc : List D} {m : Nat} {mm m2 : Str → Option Value} (X : CSt s g g' wr Da Ca hh gk vs acc m mm) (nC : s.heap.get? Ca = none) (hnw : ∀ b ∈ wr, s.heap.get? b = none)
    (hDC : Da ≠ Ca) (wD : Da ∉ wr) (hk : ∀ b o, b ∉ wr → b ≠ Ca → hh.get? b = some o → h2.get? b = some o) (hn : h2.Ns Ca m2) : CSt s g g' wr Da Ca h2 gk vs acc m m2 :=
  ⟨⟨X.x.le, fun b o e => hk b o (fun q => by rw [X.gw b q] at e; cases e) (fun q => by rw [q, X.gC] at e; cases e) (X.x.sub _ _ e), fun b o e => hk b o (fun q => by rw [hnw b q] at e; cases e) (fun q => by rw [q, nC] at e; cases e) (X.x.keep _ _ e), X.x.fresh⟩,
    X.le, X.gD, X.gC, X.gw, hn, hk _ _ wD hDC X.ob, X.r⟩

theorem inView {scope : Scope} {xn yn : Str} {cns : List Str} {caps : List Nat} (H : CompSc sc scope vars [xn, yn] cns caps) {env : Env} {ρ cs : List D} {g : Gh} {h : Heap} {cl : List (Str × Addr)} {C : Addr} {m : Str → Option Value} {v : Value} {d : D}
    (V : View sc env vars ρ g h) (hcap : capD caps ρ = some cs) (hclo : ∀ x, (x, NameKind.free) ∈ scope.names → cl.lookup x = env.cells.lookup x) (hn : h.Ns C m) (hr : Rep g v d) (hv : m xn = some v) : View (relabelS scope sc) (compEnvC scope cl C env) ([xn, yn] ++ cns) ([d, .undef] ++ cs) g h := by
  have hne : yn ≠ xn := fun q => by
    have := H.nd
    rw [q] at this
    simp at this
  refine ⟨?_, H.kind, V.gl, V.bn, ⟨m, hn, fun i x d' a b e1 e2 => ?_⟩, fun i x d' a b e1 e2 => ?_⟩
  · show relabelS scope env.scope = _
    rw [V.es]
  · match i with
    | 0 => simp at a b; subst a b; exact ⟨v, hv, hr⟩
    | 1 => simp at a b; subst b; cases e1
    | i + 2 =>
      have a' : cns[i]? = some x := by simpa using a
      have := (H.cc x (List.mem_of_getElem? a')).2
      rw [this] at e2; cases e2
  · match i with
    | 0 =>
      simp at a; subst a
      have := H.tl xn (by simp)
      rcases e2 with e2 | e2 <;> (rw [this] at e2; cases e2)
    | 1 => simp at b; subst b; cases e1
    | i + 2 =>
      have a' : cns[i]? = some x := by simpa using a
      have b' : cs[i]? = some d' := by simpa using b
      obtain ⟨j, hj, hg⟩ := (capD_get hcap).2 _ _ b'
      have hx : vars[j]? = some x := by
        have := congrArg (fun l => l[i]?) H.cap
        simp only [List.getElem?_map, hj, a', Option.map_some] at this
        exact Option.some.inj this
      obtain ⟨g1, g2⟩ := getv_some hg
      have hc := H.cc x (List.mem_of_getElem? a')
      obtain ⟨k, w, p1, p2, p3⟩ := V.cl j x d' hx g1 g2 (.inl hc.1)
      refine ⟨k, w, ?_, p2, p3⟩
      have hfree : (x, NameKind.free) ∈ scope.names := by
        have hm := mem_of_lookup hc.2
        obtain ⟨⟨y, kd⟩, hy, hyy⟩ := List.mem_map.mp hm
        dsimp only at hyy
        split at hyy
        · rename_i hcond
          cases hyy
          have : kd = .free := by
            simp only [Bool.and_eq_true, beq_iff_eq] at hcond
            exact hcond.1.1
          rw [← this]; exact hy
        · cases hyy
          exact absurd rfl (H.cell _ hy)
      show cl.lookup x = some k
      rw [hclo x hfree]; exact p1

/-- where the inner clause stands -/
inductive InI (s : Shared) (g g' g1 gk : Gh) (hh : Heap) (wr0 wr1 : List Addr) (Da Ca : Addr) (l cs acc ys : List D) (fe : List D → Option D) (S1 : Nat → Heap → Prop) (xn : Str) (v : Value) (d : D) : Nat → Shared → Prop
  | mk (j : Nat) (h2 : Heap) (tk2 : Nat) (g2 : Gh) (vs2 : List Value) (done : List D) (m2 : Nat) (mm2 : Str → Option Value) (rest : List D) (X2 : CSt s g g' (wr0 ++ wr1) Da Ca h2 g2 vs2 (acc ++ done) m2 mm2) (hst2 : S1 j h2) (hg2 : ∀ a o, g1 a = some o → g2 a = some o) (hx2 : mm2 xn = some v) (hr2 : Rep g2 v d)
      (hk0 : ∀ b ∈ wr0, ∀ o, hh.get? b = some o → h2.get? b = some o) (hgg : ∀ a o, gk a = some o → g2 a = some o) (hle : j ≤ l.length) (hp2 : 0 < tk2) (hrest : inL cs fe d (l.drop j) = some rest) (hys : done ++ rest = ys) :
      InI s g g' g1 gk hh wr0 wr1 Da Ca l cs acc ys fe S1 xn v d (l.length - j) { s with heap := h2, toks := tk2 }
theorem comp_inner {elt x iter iter2 : Expr} {scope : Scope} {pos py : Pos} {xn yn : Str} {cns : List Str} {caps : List Nat} {fe : List D → Option D} {env : Env} {s : Shared} {g g' g1 : Gh} {ρ cs : List D} {cl : List (Str × Addr)} {wr0 wr1 : List Addr} {Da Ca I1 : Addr} {l : List D} {S1 : Nat → Heap → Prop} {M1 : Nat → Value → Heap → Prop}
    {R : Result → Shared → Prop} {v : Value} {d : D} {acc ys : List D}
    (ok : Ok A n) (G : Gd c.K c.mg c.mb s.heap) (V : View sc env vars ρ g s.heap) (he : Ev c n (relabelS scope sc) ([xn, yn] ++ cns) elt fe) (H : CompSc sc scope vars [xn, yn] cns caps) (hcap : capD caps ρ = some cs)
    (hclo : ∀ x, (x, NameKind.free) ∈ scope.names → cl.lookup x = env.cells.lookup x) (W : Wk c A (.Name yn py) I1 wr1 l g1 S1 M1) (nC : s.heap.get? Ca = none) (nD : s.heap.get? Da = none) (hnw : ∀ b ∈ wr0 ++ wr1, s.heap.get? b = none) (hDC : Da ≠ Ca) (wD : Da ∉ wr0 ++ wr1) (wC : Ca ∉ wr0 ++ wr1) (w01 : ∀ b ∈ wr0, b ∉ wr1)
    (hlen : acc.length + ys.length ≤ 1000) {hh : Heap} {tk : Nat} {gk : Gh} {vs : List Value} {m : Nat} {mm : Str → Option Value} (X : CSt s g g' (wr0 ++ wr1) Da Ca hh gk vs acc m mm) (hst : S1 0 hh) (hg1 : ∀ a o, g1 a = some o → gk a = some o) (hx : mm xn = some v) (hr : Rep gk v d)
    (h0 : ∀ b ∈ wr0, ∃ o, hh.get? b = some o) (hp : 0 < tk) (e : inL cs fe d l = some ys)
    (k : ∀ hz tkz gz vsz mz mmz, CSt s g g' (wr0 ++ wr1) Da Ca hz gz vsz (acc ++ ys) mz mmz → (∀ b ∈ wr0, ∀ o, hh.get? b = some o → hz.get? b = some o) → (∀ a o, gk a = some o → gz a = some o) → 0 < tkz → R (.ok .next) { s with heap := hz, toks := tkz }) :
    codeAny (model c.prog c.w) A (.compLoop (.ListComp elt [⟨x, iter, [], 0⟩, ⟨.Name yn py, iter2, [], 0⟩] scope pos) 1 (.ref I1) (.ref Da) (compEnvC scope cl Ca env)) R { s with heap := hh, toks := tk } := by
  have hne : xn ≠ yn := fun q => by
    have := H.nd
    rw [q] at this
    simp at this
  refine compLoop1 (InI s g g' g1 gk hh wr0 wr1 Da Ca l cs acc ys fe S1 xn v d) ?_ l.length
    (.mk 0 hh tk gk vs [] m mm ys (by rw [List.append_nil]; exact X) hst hg1 hx hr (fun _ _ _ e => e) (fun _ _ e => e) (Nat.zero_le _) hp e rfl)
  rintro kk s' ⟨j, h2, tk2, g2, vs2, done, m2, mm2, rest, X2, hst2, hg2, hx2, hr2, hk0, hgg, hle, hp2, hrest, hys⟩
  have hsub1 : Sub g1 h2 := fun a o e => X2.x.sub _ _ (hg2 _ _ e)
  have live0 : ∀ b ∈ wr0, ∃ o, h2.get? b = some o := fun b hb => let ⟨o, e⟩ := h0 b hb; ⟨o, hk0 b hb o e⟩
  have gw1 : ∀ b ∈ wr1, g1 b = none := fun b hb => by
    cases q : g1 b with
    | none => rfl
    | some o => have := X2.gw b (List.mem_append_right _ hb); rw [hg2 _ _ q] at this; cases this
  by_cases hlt : j < l.length
  · rw [List.drop_eq_getElem_cons hlt] at hrest
    unfold inL at hrest
    split at hrest
    · cases hrest
    · rename_i z hfe
      split at hrest
      · cases hrest
      · rename_i zs hzs
        cases hrest
        refine W.item j l[j] { s with heap := h2, toks := tk2 } _ _ (List.getElem?_eq_getElem hlt) hst2 hsub1 hp2 fun v1 hm tk3 hmid hkm hp3 => ?_
        have hsubm : Sub g1 hm := fun a o e => hkm a o (fun q => by rw [gw1 a q] at e; cases e) (hsub1 a o e)
        refine W.go j l[j] v1 { s with heap := hm, toks := tk3 } _ _ (List.getElem?_eq_getElem hlt) hmid hsubm fun h3 hva hst3 hkg => ?_
        have hk3 : ∀ b o, b ∉ wr1 → h2.get? b = some o → h3.get? b = some o := fun b o q e => hkg b o q (hkm b o q e)
        have w1C : Ca ∉ wr1 := fun q => wC (List.mem_append_right _ q)
        have hn3 : h3.Ns Ca mm2 := X2.ns.at' fun o e => hk3 _ o w1C e
        have hkf : (compEnvC scope cl Ca env).scope.kind = .function := H.kind
        have hloc : (compEnvC scope cl Ca env).kindOf yn = some .local := by
          show (relabelS scope env.scope).names.lookup yn = _
          rw [V.es]; exact H.tl yn (by simp)
        refine wpAny_assign_Name (wpAny_storeName_local (s := { s with heap := h3, toks := tk3 }) hloc hn3 (fun h4 hn4 hs4 => ?_) (by rw [hkf]; rfl))
        have hs4' : ∀ b, b ≠ Ca → h4.get? b = h3.get? b := fun b q => hs4.2 b q
        have hn4' : h4.Ns Ca (fun y => if y = yn then some v1 else mm2 y) := hn4
        have k4 : ∀ b o, b ∉ wr1 → b ≠ Ca → h2.get? b = some o → h4.get? b = some o := fun b o q1 q2 e => (hs4' b q2).trans (hk3 b o q1 e)
        have X4 := X2.but nC hnw hDC wD (fun b o q1 q2 e => k4 b o (fun q => q1 (List.mem_append_right _ q)) q2 e) hn4'
        have hst4 : S1 (j + 1) h4 := W.frame _ _ _ hst3 (fun b hb o e => (hs4' b (fun q => w1C (q ▸ hb))).trans e) fun a o e => X4.x.sub _ _ (hg2 _ _ e)
        have live4 : ∀ b ∈ wr0 ++ wr1, ∃ o, h4.get? b = some o := fun b hb => by
          rcases List.mem_append.mp hb with q | q
          · obtain ⟨o, e⟩ := live0 b q
            exact ⟨o, k4 b o (w01 b q) (fun u => wC (u ▸ hb)) e⟩
          · exact W.live _ _ hst4 b q
        have IV := innerView H (ts := [d, l[j]]) (vs := [v, v1]) (V.ext X4.x) hcap hclo hn4' (.cons hr2 (.cons (hva.mono fun b o e _ => hg2 b o e) .nil)) rfl (fun i y u hy hu => by
          match i with
          | 0 => simp at hy hu; subst hy hu; simpa [hne] using hx2
          | 1 => simp at hy hu; subst hy hu; simp
          | i + 2 => simp at hy)
        refine he _ A { s with heap := h4, toks := tk3 + 1 } g2 _ z _ _ ok (G.keeps X4.x.keep) X4.x.sub IV (Nat.succ_pos _) hfe fun v6 h6 g6 tk6 x6 r6 hp6 => ?_
        have X6 := X4.ext live4 x6
        have hacc : (acc ++ done).length ≤ 1000 := by
          have : ys.length = done.length + (1 + zs.length) := by rw [← hys]; simp; omega
          simp; omega
        refine toksT (s := { s with heap := h6, toks := tk6 }) hp6 (wpAny_list_append_plain (items := vs2.toArray) ⟨m2, X6.ob⟩ (fun h7 ⟨m7, hD7⟩ hs7 hp7 => ?_) (by simp only [List.size_toArray]; rw [X6.r.length]; exact size_ok hacc))
        have k7 : ∀ b o, b ≠ Da → h6.get? b = some o → h7.get? b = some o := fun b o q e => (hs7.2 b q).trans e
        have k47 : ∀ b o, b ≠ Da → h4.get? b = some o → h7.get? b = some o := fun b o q e => k7 b o q (x6.keep _ _ e)
        exact ⟨l.length - (j + 1), by omega, .mk (j + 1) h7 tk6 g6 (vs2 ++ [v6]) (done ++ [z]) m7 _ zs ⟨⟨X6.x.le, fun b o e => k7 b o (fun q => by rw [q, X6.gD] at e; cases e) (X6.x.sub _ _ e), fun b o e => k7 b o (fun q => by rw [q, nD] at e; cases e) (X6.x.keep _ _ e), X6.x.fresh⟩, X6.le, X6.gD, X6.gC, X6.gw, X6.ns.at' fun o e => k7 _ o (Ne.symm hDC) e, by rw [hD7]; simp, by rw [← List.append_assoc]; exact X6.r.append (.cons r6 .nil)⟩
          (W.frame _ _ _ hst4 (fun b hb o e => k47 b o (fun q => wD (q ▸ List.mem_append_right _ hb)) e) (fun a o e => k7 _ _ (fun q => by rw [q] at e; have := X6.gD; rw [x6.le _ _ (hg2 _ _ e)] at this; cases this) (X6.x.sub _ _ (x6.le _ _ (hg2 _ _ e))))) (fun a o e => x6.le _ _ (hg2 _ _ e))
          (by simpa [hne] using hx2) (x6.rep hr2) (fun b hb o e => k47 b o (fun q => wD (q ▸ List.mem_append_left _ hb)) (k4 b o (w01 b hb) (fun u => wC (u ▸ List.mem_append_left _ hb)) (hk0 b hb o e))) (fun a o e => x6.le _ _ (hgg _ _ e)) hlt hp7 hzs (by rw [← hys]; simp)⟩
  · have hj' : j = l.length := Nat.le_antisymm hle (Nat.le_of_not_lt hlt)
    subst hj'
    rw [List.drop_length] at hrest
    cases hrest
    refine W.done { s with heap := h2, toks := tk2 } _ _ hst2 hsub1 hp2 fun h3 tk3 hk3 hp3 => ?_
    have w1C : Ca ∉ wr1 := fun q => wC (List.mem_append_right _ q)
    have X3 := X2.but nC hnw hDC wD (fun b o q1 q2 e => hk3 b o (fun q => q1 (List.mem_append_right _ q)) e) (X2.ns.at' fun o e => hk3 _ o w1C e)
    rw [List.append_nil] at hys
    subst hys
    exact k h3 tk3 g2 vs2 m2 mm2 X3 (fun b hb o e => hk3 b o (w01 b hb) (hk0 b hb o e)) hgg hp3

theorem outL_len {cs : List D} {fi2 : List D → Option (List D)} {fe : List D → Option D} : ∀ {ds ys : List D}, outL cs fi2 fe ds = some ys → ys.length ≤ 1000
  | [], _, e => by cases e; exact Nat.zero_le _
  | d :: ds, ys, e => by
    unfold outL at e
    split at e
    · cases e
    · split at e
      · cases e
      · split at e
        · cases e
        · split at e
          · cases e; simpa using (by assumption)
          · cases e

/-- where the outer clause stands -/
inductive OutI (s : Shared) (g g' : Gh) (wr : List Addr) (Da Ca : Addr) (ds cs ys : List D) (fi2 : List D → Option (List D)) (fe : List D → Option D) (S : Nat → Heap → Prop) : Nat → Shared → Prop
  | mk (i : Nat) (hh : Heap) (tkk : Nat) (gk : Gh) (vs : List Value) (acc : List D) (m : Nat) (mm : Str → Option Value) (rest : List D) (X2 : CSt s g g' wr Da Ca hh gk vs acc m mm) (hst2 : S i hh) (hle : i ≤ ds.length) (hp2 : 0 < tkk) (hrest : outL cs fi2 fe (ds.drop i) = some rest) (hys : acc ++ rest = ys) :
      OutI s g g' wr Da Ca ds cs ys fi2 fe S (ds.length - i) { s with heap := hh, toks := tkk }
theorem comp2Do {elt iter iter2 : Expr} {scope : Scope} {pos px py : Pos} {xn yn : Str} {cns : List Str} {caps : List Nat} {fi fi2 : List D → Option (List D)} {fe : List D → Option D}
    (hi : ItE c n sc vars (.Name xn px) iter fi) (hi2 : ItE c n (relabelS scope sc) ([xn, yn] ++ cns) (.Name yn py) iter2 fi2) (he : Ev c n (relabelS scope sc) ([xn, yn] ++ cns) elt fe) (H : CompSc sc scope vars [xn, yn] cns caps)
    (hs : ∀ env x, foldedSetIterable iter env x = pure x) (hs2 : ∀ env x, foldedSetIterable iter2 env x = pure x) :
    CompDo c n sc vars elt [⟨.Name xn px, iter, [], 0⟩, ⟨.Name yn py, iter2, [], 0⟩] scope pos (comp2D caps fi fi2 fe) := by
  intro env A s g ρ ys use Q E ok G hsub V hp e k
  unfold comp2D at e
  split at e
  · cases e
  · rename_i ds e1
    split at e
    · cases e
    · rename_i cs hcap
      have hfree : ∀ x, (x, NameKind.free) ∈ scope.names → ∃ a, env.cells.lookup x = some a := fun x hx => by
        have hx' := H.free _ hx rfl
        obtain ⟨i, hi', hxi⟩ := List.getElem_of_mem hx'
        have hci : i < cs.length := by
          rw [(capD_get hcap).1, ← List.length_map (f := fun i => vars[i]?), H.cap, List.length_map]; exact hi'
        obtain ⟨j, hj, hg⟩ := (capD_get hcap).2 i cs[i] (List.getElem?_eq_getElem hci)
        obtain ⟨g1, g2⟩ := getv_some hg
        have hxj : vars[j]? = some x := by
          have := congrArg (fun l => l[i]?) H.cap
          simp only [List.getElem?_map, hj, List.getElem?_eq_getElem hi', Option.map_some] at this
          rw [hxi] at this
          exact Option.some.inj this
        obtain ⟨a, _, p1, _⟩ := V.cl j x _ hxj g1 g2 (.inl (H.cc x hx').1)
        exact ⟨a, p1⟩
      obtain ⟨cl, hclo, hcl⟩ := closureFor_some (scope := scope) (env := env) hfree
      refine wpAny_comprehension_free (use := use) rfl (hs env) hclo H.kind H.loc ?_
      refine hi env A s g ρ ds _ E ok G hsub V hp e1 fun I wr S M h' g' tk' x W hst hnw hgw hp' => ?_
      refine wpAny_newObj_type (wpAny_newFunctionEnv H.cell (by intro y hy; simp at hy) (fun h₁ hns₁ hsb₁ => ?_) H.kind)
      dsimp only at hns₁ hsb₁ ⊢
      generalize hH2 : h'.push { cls := .type "list", dict := none, data := .seq ([] : List Value).toArray } = H2 at hns₁ hsb₁ ⊢
      have hC : H2.objs.size = h'.objs.size + 1 := by rw [← hH2, Heap.size_push]
      have hDC : h'.objs.size ≠ H2.objs.size := by rw [hC]; exact Nat.ne_of_lt (Nat.lt_succ_self _)
      have old : ∀ b o, h'.get? b = some o → h₁.get? b = some o := fun b o e => hsb₁.extBut b o (by rw [hC]; exact Nat.ne_of_lt (Nat.lt_succ_of_lt (Heap.lt_size e))) (Heap.get?_push_of_some _ (hH2 ▸ Heap.get?_push_of_some _ e))
      have nD' : h'.get? h'.objs.size = none := none_at_size _ (Nat.le_refl _)
      have nC' : h'.get? H2.objs.size = none := none_at_size _ (by rw [hC]; exact Nat.le_succ _)
      have nD := get_none_of_keep x.keep nD'
      have nC := get_none_of_keep x.keep nC'
      have hD1 : h₁.get? h'.objs.size = some { cls := .type "list", dict := none, data := .seq ([] : List Value).toArray, slots := #[] } :=
        hsb₁.extBut _ _ hDC (Heap.get?_push_of_some _ (hH2 ▸ Heap.get?_push_size _ rfl))
      have x1 : Ext s.heap g h₁ g' := x.trans (Ext.keeps x.sub old)
      have hst₁ : S 0 h₁ := W.frame _ _ _ hst (fun b _ o e => old b o e) x1.sub
      have wrC : H2.objs.size ∉ wr := fun q => by obtain ⟨o, e⟩ := W.live 0 _ hst _ q; rw [nC'] at e; cases e
      have wrD : h'.objs.size ∉ wr := fun q => by obtain ⟨o, e⟩ := W.live 0 _ hst _ q; rw [nD'] at e; cases e
      generalize hDa : h'.objs.size = Da at *
      generalize hCa : H2.objs.size = Ca at *
      have loop : ∀ s₃ : Shared, s₃ = { s with heap := h₁, toks := tk' } →
          codeAny (model c.prog c.w) A (.compLoop (.ListComp elt [⟨.Name xn px, iter, [], 0⟩, ⟨.Name yn py, iter2, [], 0⟩] scope pos) 0 (.ref I) (.ref Da) (compEnvC scope cl Ca env)) (compPost (model c.prog c.w) A E use Q (.ref Da) Ca) s₃ := by
        rintro s₃ rfl
        refine compLoop0 (OutI s g g' wr Da Ca ds cs ys fi2 fe S) ?_ (fun z => hs2 _ z) ds.length
          (.mk 0 h₁ tk' g' [] [] 0 _ ys ⟨x1, fun _ _ e => e, x.sub.none nD', x.sub.none nC', hgw, hns₁, hD1, .nil⟩ hst₁ (Nat.zero_le _) hp' e rfl)
        rintro kk s' ⟨i, hh, tkk, gk, vs, acc, m, mm, rest, X2, hst2, hle, hp2, hrest, hys⟩
        have hsub2 : Sub g' hh := fun a o e => X2.x.sub _ _ (X2.le _ _ e)
        by_cases hlt : i < ds.length
        · rw [List.drop_eq_getElem_cons hlt] at hrest
          unfold outL at hrest
          refine W.item i ds[i] { s with heap := hh, toks := tkk } _ _ (List.getElem?_eq_getElem hlt) hst2 hsub2 hp2 fun v hm tk3 hmid hkm hp3 => ?_
          have hsubm : Sub g' hm := fun a o e => hkm a o (fun q => by rw [hgw a q] at e; cases e) (hsub2 a o e)
          refine W.go i ds[i] v { s with heap := hm, toks := tk3 } _ _ (List.getElem?_eq_getElem hlt) hmid hsubm fun h3 hva hst3 hkg => ?_
          have hk3 : ∀ b o, b ∉ wr → hh.get? b = some o → h3.get? b = some o := fun b o q e => hkg b o q (hkm b o q e)
          have hkf : (compEnvC scope cl Ca env).scope.kind = .function := H.kind
          have hloc : (compEnvC scope cl Ca env).kindOf xn = some .local := by
            show (relabelS scope env.scope).names.lookup xn = _
            rw [V.es]; exact H.tl xn (by simp)
          have hn3 : h3.Ns Ca mm := X2.ns.at' fun o e => hk3 _ o wrC e
          refine wpAny_assign_Name (wpAny_storeName_local (s := { s with heap := h3, toks := tk3 }) hloc hn3 (fun h4 hn4 hs4 => ?_) (by rw [hkf]; rfl))
          have hs4' : ∀ b, b ≠ Ca → h4.get? b = h3.get? b := fun b q => hs4.2 b q
          have hn4' : h4.Ns Ca (fun y => if y = xn then some v else mm y) := hn4
          have X4 := X2.but nC hnw hDC wrD (fun b o q1 q2 e => (hs4' b q2).trans (hk3 b o q1 e)) hn4'
          have hst4 : S (i + 1) h4 := W.frame _ _ _ hst3 (fun b hb o e => (hs4' b (fun q => wrC (q ▸ hb))).trans e) fun a o e => X4.x.sub _ _ (X4.le _ _ e)
          have hr : Rep gk v ds[i] := hva.mono fun b o e _ => X2.le b o e
          split at hrest
          · cases hrest
          · rename_i l hfi2
            split at hrest
            · cases hrest
            · rename_i ys1 hin
              split at hrest
              · cases hrest
              · rename_i zs hzs
                split at hrest
                · rename_i hlen
                  cases hrest
                  have IV := inView H (V.ext X4.x) hcap hcl hn4' hr (if_pos rfl)
                  refine hi2 _ A { s with heap := h4, toks := tk3 + 1 } gk _ l _ _ ok (G.keeps X4.x.keep) X4.x.sub IV (Nat.succ_pos _) hfi2 fun I1 wr1 S1 M1 h5 g5 tk5 x5 W1 hst5 hn5 hg5 hp5 => ?_
                  have live4 := W.live _ _ hst4
                  have X5 := X4.ext live4 x5
                  have alive : ∀ b o, h4.get? b = some o → b ∉ wr1 := fun b o e q => by rw [hn5 b q] at e; cases e
                  have X5' : CSt s g g' (wr ++ wr1) Da Ca h5 g5 vs acc m _ := ⟨X5.x, X5.le, X5.gD, X5.gC, fun b hb => (List.mem_append.mp hb).elim (X5.gw b) (hg5 b), X5.ns, X5.ob, X5.r⟩
                  have hnw' : ∀ b ∈ wr ++ wr1, s.heap.get? b = none := fun b hb => (List.mem_append.mp hb).elim (hnw b) fun q => get_none_of_keep X4.x.keep (hn5 b q)
                  have wD' : Da ∉ wr ++ wr1 := fun q => (List.mem_append.mp q).elim wrD (alive _ _ X4.ob)
                  obtain ⟨oc, hoc⟩ : ∃ o, h4.get? Ca = some o := let ⟨o, _, _, e, _⟩ := hn4'; ⟨o, e⟩
                  have wC' : Ca ∉ wr ++ wr1 := fun q => (List.mem_append.mp q).elim wrC (alive _ _ hoc)
                  have w01 : ∀ b ∈ wr, b ∉ wr1 := fun b hb => let ⟨o, e⟩ := live4 b hb; alive b o e
                  have htot : acc.length + ys1.length ≤ 1000 := by
                    have := outL_len e
                    rw [← hys] at this
                    simp at this
                    omega
                  have inner : codeAny (model c.prog c.w) A (.compLoop (.ListComp elt [⟨.Name xn px, iter, [], 0⟩, ⟨.Name yn py, iter2, [], 0⟩] scope pos) 1 (.ref I1) (.ref Da) (compEnvC scope cl Ca env)) _ { s with heap := h5, toks := tk5 } :=
                    comp_inner (R := fun r s' => match r with
                      | .ok _ => ∃ m, m < ds.length - i ∧ OutI s g g' wr Da Ca ds cs ys fi2 fe S m s'
                      | .error e => cameBackBy (model c.prog c.w) A (compEnvC scope cl Ca env) (notedBy (model c.prog c.w) A (compEnvC scope cl Ca env) fun e s' => compPost (model c.prog c.w) A E use Q (.ref Da) Ca (.error e) s') e s')
                    ok G V he H hcap hcl W1 nC nD hnw' hDC wD' wC' w01 htot X5' hst5 (fun _ _ e => e) (if_pos rfl) (x5.rep hr) (fun b hb => let ⟨o, e⟩ := live4 b hb; ⟨o, x5.keep _ _ e⟩) hp5 hin
                    fun hz tkz gz vsz mz mmz Xz hkz hgz hpz => ⟨ds.length - (i + 1), by omega, .mk (i + 1) hz tkz gz vsz (acc ++ ys1) mz mmz zs ⟨Xz.x, Xz.le, Xz.gD, Xz.gC, fun b hb => Xz.gw b (List.mem_append_left _ hb), Xz.ns, Xz.ob, Xz.r⟩
                      (W.frame _ _ _ hst4 (fun b hb o e => hkz b hb o (x5.keep _ _ e)) (fun a o e => Xz.x.sub _ _ (Xz.le _ _ e))) hlt hpz hzs (by rw [List.append_assoc]; exact hys)⟩
                  exact compStart1 inner (W1.self 0 { s with heap := h5, toks := tk5 } _ _ hst5 inner)
                · cases hrest
        · have hi' : i = ds.length := Nat.le_antisymm hle (Nat.le_of_not_lt hlt)
          subst hi'
          rw [List.drop_length] at hrest
          cases hrest
          refine W.done { s with heap := hh, toks := tkk } _ _ hst2 hsub2 hp2 fun h3 tk3 hk3 hp3 => ?_
          have X3 := X2.but nC hnw hDC wrD (fun b o q1 q2 e => hk3 b o q1 e) (X2.ns.at' fun o e => hk3 _ o wrC e)
          exact k Da Ca h3 tk3 gk vs m mm ⟨nD, nC, hDC, X3.x, X3.gD, X3.gC, X3.ns, X3.ob, by rw [← hys, List.append_nil]; exact X3.r, hp3⟩
      exact codeAny_compStart_list (loop _ rfl) (W.self 0 _ _ _ hst₁ (loop _ rfl))
theorem Ev.comp2 {elt iter iter2 : Expr} {scope : Scope} {pos px py : Pos} {xn yn : Str} {cns : List Str} {caps : List Nat} {fi fi2 : List D → Option (List D)} {fe : List D → Option D}
    (hi : ItE c n sc vars (.Name xn px) iter fi) (hi2 : ItE c n (relabelS scope sc) ([xn, yn] ++ cns) (.Name yn py) iter2 fi2) (he : Ev c n (relabelS scope sc) ([xn, yn] ++ cns) elt fe) (H : compOk sc scope vars [xn, yn] cns caps = true)
    (hs : ∀ env x, foldedSetIterable iter env x = pure x) (hs2 : ∀ env x, foldedSetIterable iter2 env x = pure x) :
    Ev c n sc vars (.ListComp elt [⟨.Name xn px, iter, [], 0⟩, ⟨.Name yn py, iter2, [], 0⟩] scope pos) (fun ρ => (comp2D caps fi fi2 fe ρ).map .lst) := Ev.ofComp (comp2Do hi hi2 he (compSc_of H) hs hs2)
end
end Mine

/-! UT1 -/
namespace Mine
noncomputable def B_v : List D → Option Out :=
  (seqX (asgX none 2 (bin2 modF (getv 2) (fun _ => some (D.flt 4607182418800017408))))
  (seqX (iteX (cmpT ltF (getv 2) (fun _ => some (D.flt 4595172819793696085))) (seqX (retX none (bin2 addF (getv 0) (bin2 mulF (bin2 mulF (bin2 subF (getv 1) (getv 0)) (getv 2)) (fun _ => some (D.flt 4618441417868443648)))))
  (fun ρ => some (Out.nxt ρ))) (fun ρ => some (Out.nxt ρ)))
  (seqX (iteX (cmpT ltF (getv 2) (fun _ => some (D.flt 4602678819172646912))) (seqX (retX none (getv 1))
  (fun ρ => some (Out.nxt ρ))) (fun ρ => some (Out.nxt ρ)))
  (seqX (iteX (cmpT ltF (getv 2) (fun _ => some (D.flt 4604180019048437077))) (seqX (retX none (bin2 addF (getv 0) (bin2 mulF (bin2 mulF (bin2 subF (getv 1) (getv 0)) (bin2 subF (fun _ => some (D.flt 4604180019048437077)) (getv 2))) (fun _ => some (D.flt 4618441417868443648)))))
  (fun ρ => some (Out.nxt ρ))) (fun ρ => some (Out.nxt ρ)))
  (seqX (retX none (getv 0))
  (fun ρ => some (Out.nxt ρ)))))))
noncomputable def F_v : List D → Option D := fnF 3 0 B_v
theorem fn_v {w : World} {mg mb : Str → Option Value} {n : Nat} : CallOk (cx w mg mb) (n + 1) (.ref 66) F_v :=
  fn_ok (n := n + 0) (vars := ["m1", "m2", "hue"]) (ns := ["m1", "m2", "hue"]) (o' := none) (f := B_v) 3 0 rfl rfl rfl rfl rfl rfl rfl
  (Ex.cons (St.asg ⟨rfl, .inl rfl, by decide⟩ (Ev.bin (Ev.var (i := 2) rfl rfl rfl) Ev.fltc modOk) (fun env h => by cases env; cases h; rfl))
  (Ex.cons (St.ite (Te.cmp (Ev.var (i := 2) rfl rfl rfl) (Ev.glob (d := .flt 4595172819793696085) rfl rfl (fun _ => .flt _ _) rfl) ltOk rfl) (Ex.cons (St.ret (Ev.bin (Ev.var (i := 0) rfl rfl rfl) (Ev.bin (Ev.bin (Ev.bin (Ev.var (i := 1) rfl rfl rfl) (Ev.var (i := 0) rfl rfl rfl) subOk) (Ev.var (i := 2) rfl rfl rfl) mulOk) Ev.fltc mulOk) addOk))
  Ex.nil) Ex.nil)
  (Ex.cons (St.ite (Te.cmp (Ev.var (i := 2) rfl rfl rfl) Ev.fltc ltOk rfl) (Ex.cons (St.ret (Ev.var (i := 1) rfl rfl rfl))
  Ex.nil) Ex.nil)
  (Ex.cons (St.ite (Te.cmp (Ev.var (i := 2) rfl rfl rfl) (Ev.glob (d := .flt 4604180019048437077) rfl rfl (fun _ => .flt _ _) rfl) ltOk rfl) (Ex.cons (St.ret (Ev.bin (Ev.var (i := 0) rfl rfl rfl) (Ev.bin (Ev.bin (Ev.bin (Ev.var (i := 1) rfl rfl rfl) (Ev.var (i := 0) rfl rfl rfl) subOk) (Ev.bin (Ev.glob (d := .flt 4604180019048437077) rfl rfl (fun _ => .flt _ _) rfl) (Ev.var (i := 2) rfl rfl rfl) subOk) mulOk) Ev.fltc mulOk) addOk))
  Ex.nil) Ex.nil)
  (Ex.cons (St.ret (Ev.var (i := 0) rfl rfl rfl))
  Ex.nil)))))
  (bindsLen3 fun a0 a1 a2 => rfl) ⟨_, rfl⟩ rfl rfl (by decide) (locs_ (by decide)) (noFree (by decide)) rfl rfl rfl

noncomputable def Brgb_to_hls : List D → Option Out :=
  (seqX (asgX none 3 (callE maxF (consE (getv 0) (consE (getv 1) (consE (getv 2) (fun _ => some []))))))
  (seqX (asgX none 4 (callE minF (consE (getv 0) (consE (getv 1) (consE (getv 2) (fun _ => some []))))))
  (seqX (asgX none 5 (bin2 addF (getv 3) (getv 4)))
  (seqX (asgX none 6 (bin2 subF (getv 3) (getv 4)))
  (seqX (asgX none 7 (bin2 divF (getv 5) (fun _ => some (D.flt 4611686018427387904))))
  (seqX (iteX (cmpT eqF (getv 4) (getv 3)) (seqX (retX none (tupE (consE (fun _ => some (D.flt 0)) (consE (getv 7) (consE (fun _ => some (D.flt 0)) (fun _ => some []))))))
  (fun ρ => some (Out.nxt ρ))) (fun ρ => some (Out.nxt ρ)))
  (seqX (iteX (cmpT leF (getv 7) (fun _ => some (D.flt 4602678819172646912))) (seqX (asgX none 8 (bin2 divF (getv 6) (getv 5)))
  (fun ρ => some (Out.nxt ρ))) (seqX (asgX none 8 (bin2 divF (getv 6) (bin2 subF (bin2 subF (fun _ => some (D.flt 4611686018427387904)) (getv 3)) (getv 4))))
  (fun ρ => some (Out.nxt ρ))))
  (seqX (asgX none 9 (bin2 divF (bin2 subF (getv 3) (getv 0)) (getv 6)))
  (seqX (asgX none 10 (bin2 divF (bin2 subF (getv 3) (getv 1)) (getv 6)))
  (seqX (asgX none 11 (bin2 divF (bin2 subF (getv 3) (getv 2)) (getv 6)))
  (seqX (iteX (cmpT eqF (getv 0) (getv 3)) (seqX (asgX none 12 (bin2 subF (getv 11) (getv 10)))
  (fun ρ => some (Out.nxt ρ))) (seqX (iteX (cmpT eqF (getv 1) (getv 3)) (seqX (asgX none 12 (bin2 subF (bin2 addF (fun _ => some (D.flt 4611686018427387904)) (getv 9)) (getv 11)))
  (fun ρ => some (Out.nxt ρ))) (seqX (asgX none 12 (bin2 subF (bin2 addF (fun _ => some (D.flt 4616189618054758400)) (getv 10)) (getv 9)))
  (fun ρ => some (Out.nxt ρ))))
  (fun ρ => some (Out.nxt ρ))))
  (seqX (asgX none 12 (bin2 modF (bin2 divF (getv 12) (fun _ => some (D.flt 4618441417868443648))) (fun _ => some (D.flt 4607182418800017408))))
  (seqX (retX none (tupE (consE (getv 12) (consE (getv 7) (consE (getv 8) (fun _ => some []))))))
  (fun ρ => some (Out.nxt ρ)))))))))))))))
noncomputable def Frgb_to_hls : List D → Option D := fnF 3 10 Brgb_to_hls
theorem fnrgb_to_hls {w : World} {mg mb : Str → Option Value} {n : Nat} : CallOk (cx w mg mb) (n + 1) (.ref 52) Frgb_to_hls :=
  fn_ok (n := n + 0) (vars := ["r", "g", "b", "maxc", "minc", "sumc", "rangec", "l", "s", "rc", "gc", "bc", "h"]) (ns := ["r", "g", "b"]) (o' := none) (f := Brgb_to_hls) 3 10 rfl rfl rfl rfl rfl rfl rfl
  (Ex.cons (St.asg ⟨rfl, .inl rfl, by decide⟩ (Ev.call (.boot rfl rfl boot_max (by decide)) rfl (EvL.cons (Ev.var (i := 0) rfl rfl rfl) (EvL.cons (Ev.var (i := 1) rfl rfl rfl) (EvL.cons (Ev.var (i := 2) rfl rfl rfl) EvL.nil (fun _ => rfl)) (fun _ => rfl)) (fun _ => rfl)) (.builtin _) maxOk (fun _ => rfl)) (fun env h => by cases env; cases h; rfl))
  (Ex.cons (St.asg ⟨rfl, .inl rfl, by decide⟩ (Ev.call (.boot rfl rfl boot_min (by decide)) rfl (EvL.cons (Ev.var (i := 0) rfl rfl rfl) (EvL.cons (Ev.var (i := 1) rfl rfl rfl) (EvL.cons (Ev.var (i := 2) rfl rfl rfl) EvL.nil (fun _ => rfl)) (fun _ => rfl)) (fun _ => rfl)) (.builtin _) minOk (fun _ => rfl)) (fun env h => by cases env; cases h; rfl))
  (Ex.cons (St.asg ⟨rfl, .inl rfl, by decide⟩ (Ev.bin (Ev.var (i := 3) rfl rfl rfl) (Ev.var (i := 4) rfl rfl rfl) addOk) (fun env h => by cases env; cases h; rfl))
  (Ex.cons (St.asg ⟨rfl, .inl rfl, by decide⟩ (Ev.bin (Ev.var (i := 3) rfl rfl rfl) (Ev.var (i := 4) rfl rfl rfl) subOk) (fun env h => by cases env; cases h; rfl))
  (Ex.cons (St.asg ⟨rfl, .inl rfl, by decide⟩ (Ev.bin (Ev.var (i := 5) rfl rfl rfl) Ev.fltc divOk) (fun env h => by cases env; cases h; rfl))
  (Ex.cons (St.ite (Te.cmp (Ev.var (i := 4) rfl rfl rfl) (Ev.var (i := 3) rfl rfl rfl) eqOk rfl) (Ex.cons (St.ret (Ev.tup (EvL.cons Ev.fltc (EvL.cons (Ev.var (i := 7) rfl rfl rfl) (EvL.cons Ev.fltc EvL.nil (fun _ => rfl)) (fun _ => rfl)) (fun _ => rfl))))
  Ex.nil) Ex.nil)
  (Ex.cons (St.ite (Te.cmp (Ev.var (i := 7) rfl rfl rfl) Ev.fltc leOk rfl) (Ex.cons (St.asg ⟨rfl, .inl rfl, by decide⟩ (Ev.bin (Ev.var (i := 6) rfl rfl rfl) (Ev.var (i := 5) rfl rfl rfl) divOk) (fun env h => by cases env; cases h; rfl))
  Ex.nil) (Ex.cons (St.asg ⟨rfl, .inl rfl, by decide⟩ (Ev.bin (Ev.var (i := 6) rfl rfl rfl) (Ev.bin (Ev.bin Ev.fltc (Ev.var (i := 3) rfl rfl rfl) subOk) (Ev.var (i := 4) rfl rfl rfl) subOk) divOk) (fun env h => by cases env; cases h; rfl))
  Ex.nil))
  (Ex.cons (St.asg ⟨rfl, .inl rfl, by decide⟩ (Ev.bin (Ev.bin (Ev.var (i := 3) rfl rfl rfl) (Ev.var (i := 0) rfl rfl rfl) subOk) (Ev.var (i := 6) rfl rfl rfl) divOk) (fun env h => by cases env; cases h; rfl))
  (Ex.cons (St.asg ⟨rfl, .inl rfl, by decide⟩ (Ev.bin (Ev.bin (Ev.var (i := 3) rfl rfl rfl) (Ev.var (i := 1) rfl rfl rfl) subOk) (Ev.var (i := 6) rfl rfl rfl) divOk) (fun env h => by cases env; cases h; rfl))
  (Ex.cons (St.asg ⟨rfl, .inl rfl, by decide⟩ (Ev.bin (Ev.bin (Ev.var (i := 3) rfl rfl rfl) (Ev.var (i := 2) rfl rfl rfl) subOk) (Ev.var (i := 6) rfl rfl rfl) divOk) (fun env h => by cases env; cases h; rfl))
  (Ex.cons (St.ite (Te.cmp (Ev.var (i := 0) rfl rfl rfl) (Ev.var (i := 3) rfl rfl rfl) eqOk rfl) (Ex.cons (St.asg ⟨rfl, .inl rfl, by decide⟩ (Ev.bin (Ev.var (i := 11) rfl rfl rfl) (Ev.var (i := 10) rfl rfl rfl) subOk) (fun env h => by cases env; cases h; rfl))
  Ex.nil) (Ex.cons (St.ite (Te.cmp (Ev.var (i := 1) rfl rfl rfl) (Ev.var (i := 3) rfl rfl rfl) eqOk rfl) (Ex.cons (St.asg ⟨rfl, .inl rfl, by decide⟩ (Ev.bin (Ev.bin Ev.fltc (Ev.var (i := 9) rfl rfl rfl) addOk) (Ev.var (i := 11) rfl rfl rfl) subOk) (fun env h => by cases env; cases h; rfl))
  Ex.nil) (Ex.cons (St.asg ⟨rfl, .inl rfl, by decide⟩ (Ev.bin (Ev.bin Ev.fltc (Ev.var (i := 10) rfl rfl rfl) addOk) (Ev.var (i := 9) rfl rfl rfl) subOk) (fun env h => by cases env; cases h; rfl))
  Ex.nil))
  Ex.nil))
  (Ex.cons (St.asg ⟨rfl, .inl rfl, by decide⟩ (Ev.bin (Ev.bin (Ev.var (i := 12) rfl rfl rfl) Ev.fltc divOk) Ev.fltc modOk) (fun env h => by cases env; cases h; rfl))
  (Ex.cons (St.ret (Ev.tup (EvL.cons (Ev.var (i := 12) rfl rfl rfl) (EvL.cons (Ev.var (i := 7) rfl rfl rfl) (EvL.cons (Ev.var (i := 8) rfl rfl rfl) EvL.nil (fun _ => rfl)) (fun _ => rfl)) (fun _ => rfl))))
  Ex.nil)))))))))))))
  (bindsLen3 fun a0 a1 a2 => rfl) ⟨_, rfl⟩ rfl rfl (by decide) (locs_ (by decide)) (noFree (by decide)) rfl rfl rfl

noncomputable def Bhls_to_rgb : List D → Option Out :=
  (seqX (iteX (cmpT eqF (getv 2) (fun _ => some (D.flt 0))) (seqX (retX none (tupE (consE (getv 1) (consE (getv 1) (consE (getv 1) (fun _ => some []))))))
  (fun ρ => some (Out.nxt ρ))) (fun ρ => some (Out.nxt ρ)))
  (seqX (iteX (cmpT leF (getv 1) (fun _ => some (D.flt 4602678819172646912))) (seqX (asgX none 3 (bin2 mulF (getv 1) (bin2 addF (fun _ => some (D.flt 4607182418800017408)) (getv 2))))
  (fun ρ => some (Out.nxt ρ))) (seqX (asgX none 3 (bin2 subF (bin2 addF (getv 1) (getv 2)) (bin2 mulF (getv 1) (getv 2))))
  (fun ρ => some (Out.nxt ρ))))
  (seqX (asgX none 4 (bin2 subF (bin2 mulF (fun _ => some (D.flt 4611686018427387904)) (getv 1)) (getv 3)))
  (seqX (retX none (tupE (consE (callE F_v (consE (getv 4) (consE (getv 3) (consE (bin2 addF (getv 0) (fun _ => some (D.flt 4599676419421066581))) (fun _ => some []))))) (consE (callE F_v (consE (getv 4) (consE (getv 3) (consE (getv 0) (fun _ => some []))))) (consE (callE F_v (consE (getv 4) (consE (getv 3) (consE (bin2 subF (getv 0) (fun _ => some (D.flt 4599676419421066581))) (fun _ => some []))))) (fun _ => some []))))))
  (fun ρ => some (Out.nxt ρ))))))
noncomputable def Fhls_to_rgb : List D → Option D := fnF 3 2 Bhls_to_rgb
theorem fnhls_to_rgb {w : World} {mg mb : Str → Option Value} {n : Nat} : CallOk (cx w mg mb) (n + 2) (.ref 59) Fhls_to_rgb :=
  fn_ok (n := n + 1) (vars := ["h", "l", "s", "m2", "m1"]) (ns := ["h", "l", "s"]) (o' := none) (f := Bhls_to_rgb) 3 2 rfl rfl rfl rfl rfl rfl rfl
  (Ex.cons (St.ite (Te.cmp (Ev.var (i := 2) rfl rfl rfl) Ev.fltc eqOk rfl) (Ex.cons (St.ret (Ev.tup (EvL.cons (Ev.var (i := 1) rfl rfl rfl) (EvL.cons (Ev.var (i := 1) rfl rfl rfl) (EvL.cons (Ev.var (i := 1) rfl rfl rfl) EvL.nil (fun _ => rfl)) (fun _ => rfl)) (fun _ => rfl))))
  Ex.nil) Ex.nil)
  (Ex.cons (St.ite (Te.cmp (Ev.var (i := 1) rfl rfl rfl) Ev.fltc leOk rfl) (Ex.cons (St.asg ⟨rfl, .inl rfl, by decide⟩ (Ev.bin (Ev.var (i := 1) rfl rfl rfl) (Ev.bin Ev.fltc (Ev.var (i := 2) rfl rfl rfl) addOk) mulOk) (fun env h => by cases env; cases h; rfl))
  Ex.nil) (Ex.cons (St.asg ⟨rfl, .inl rfl, by decide⟩ (Ev.bin (Ev.bin (Ev.var (i := 1) rfl rfl rfl) (Ev.var (i := 2) rfl rfl rfl) addOk) (Ev.bin (Ev.var (i := 1) rfl rfl rfl) (Ev.var (i := 2) rfl rfl rfl) mulOk) subOk) (fun env h => by cases env; cases h; rfl))
  Ex.nil))
  (Ex.cons (St.asg ⟨rfl, .inl rfl, by decide⟩ (Ev.bin (Ev.bin Ev.fltc (Ev.var (i := 1) rfl rfl rfl) mulOk) (Ev.var (i := 3) rfl rfl rfl) subOk) (fun env h => by cases env; cases h; rfl))
  (Ex.cons (St.ret (Ev.tup (EvL.cons (Ev.call (.glob rfl rfl) rfl (EvL.cons (Ev.var (i := 4) rfl rfl rfl) (EvL.cons (Ev.var (i := 3) rfl rfl rfl) (EvL.cons (Ev.bin (Ev.var (i := 0) rfl rfl rfl) (Ev.glob (d := .flt 4599676419421066581) rfl rfl (fun _ => .flt _ _) rfl) addOk) EvL.nil (fun _ => rfl)) (fun _ => rfl)) (fun _ => rfl)) (.kept rfl) fn_v (fun _ => rfl)) (EvL.cons (Ev.call (.glob rfl rfl) rfl (EvL.cons (Ev.var (i := 4) rfl rfl rfl) (EvL.cons (Ev.var (i := 3) rfl rfl rfl) (EvL.cons (Ev.var (i := 0) rfl rfl rfl) EvL.nil (fun _ => rfl)) (fun _ => rfl)) (fun _ => rfl)) (.kept rfl) fn_v (fun _ => rfl)) (EvL.cons (Ev.call (.glob rfl rfl) rfl (EvL.cons (Ev.var (i := 4) rfl rfl rfl) (EvL.cons (Ev.var (i := 3) rfl rfl rfl) (EvL.cons (Ev.bin (Ev.var (i := 0) rfl rfl rfl) (Ev.glob (d := .flt 4599676419421066581) rfl rfl (fun _ => .flt _ _) rfl) subOk) EvL.nil (fun _ => rfl)) (fun _ => rfl)) (fun _ => rfl)) (.kept rfl) fn_v (fun _ => rfl)) EvL.nil (fun _ => rfl)) (fun _ => rfl)) (fun _ => rfl))))
  Ex.nil))))
  (bindsLen3 fun a0 a1 a2 => rfl) ⟨_, rfl⟩ rfl rfl (by decide) (locs_ (by decide)) (noFree (by decide)) rfl rfl rfl

noncomputable def Bhsv_to_rgb : List D → Option Out :=
  (seqX (iteX (cmpT eqF (getv 1) (fun _ => some (D.flt 0))) (seqX (retX none (tupE (consE (getv 2) (consE (getv 2) (consE (getv 2) (fun _ => some []))))))
  (fun ρ => some (Out.nxt ρ))) (fun ρ => some (Out.nxt ρ)))
  (seqX (asgX none 3 (callE intF (consE (bin2 mulF (getv 0) (fun _ => some (D.flt 4618441417868443648))) (fun _ => some []))))
  (seqX (asgX none 4 (bin2 subF (bin2 mulF (getv 0) (fun _ => some (D.flt 4618441417868443648))) (getv 3)))
  (seqX (asgX none 5 (bin2 mulF (getv 2) (bin2 subF (fun _ => some (D.flt 4607182418800017408)) (getv 1))))
  (seqX (asgX none 6 (bin2 mulF (getv 2) (bin2 subF (fun _ => some (D.flt 4607182418800017408)) (bin2 mulF (getv 1) (getv 4)))))
  (seqX (asgX none 7 (bin2 mulF (getv 2) (bin2 subF (fun _ => some (D.flt 4607182418800017408)) (bin2 mulF (getv 1) (bin2 subF (fun _ => some (D.flt 4607182418800017408)) (getv 4))))))
  (seqX (asgX none 3 (bin2 modF (getv 3) (fun _ => some (D.int 6))))
  (seqX (iteX (cmpT eqF (getv 3) (fun _ => some (D.int 0))) (seqX (retX none (tupE (consE (getv 2) (consE (getv 7) (consE (getv 5) (fun _ => some []))))))
  (fun ρ => some (Out.nxt ρ))) (fun ρ => some (Out.nxt ρ)))
  (seqX (iteX (cmpT eqF (getv 3) (fun _ => some (D.int 1))) (seqX (retX none (tupE (consE (getv 6) (consE (getv 2) (consE (getv 5) (fun _ => some []))))))
  (fun ρ => some (Out.nxt ρ))) (fun ρ => some (Out.nxt ρ)))
  (seqX (iteX (cmpT eqF (getv 3) (fun _ => some (D.int 2))) (seqX (retX none (tupE (consE (getv 5) (consE (getv 2) (consE (getv 7) (fun _ => some []))))))
  (fun ρ => some (Out.nxt ρ))) (fun ρ => some (Out.nxt ρ)))
  (seqX (iteX (cmpT eqF (getv 3) (fun _ => some (D.int 3))) (seqX (retX none (tupE (consE (getv 5) (consE (getv 6) (consE (getv 2) (fun _ => some []))))))
  (fun ρ => some (Out.nxt ρ))) (fun ρ => some (Out.nxt ρ)))
  (seqX (iteX (cmpT eqF (getv 3) (fun _ => some (D.int 4))) (seqX (retX none (tupE (consE (getv 7) (consE (getv 5) (consE (getv 2) (fun _ => some []))))))
  (fun ρ => some (Out.nxt ρ))) (fun ρ => some (Out.nxt ρ)))
  (seqX (iteX (cmpT eqF (getv 3) (fun _ => some (D.int 5))) (seqX (retX none (tupE (consE (getv 2) (consE (getv 5) (consE (getv 6) (fun _ => some []))))))
  (fun ρ => some (Out.nxt ρ))) (fun ρ => some (Out.nxt ρ)))
  (fun ρ => some (Out.nxt ρ)))))))))))))))
noncomputable def Fhsv_to_rgb : List D → Option D := fnF 3 5 Bhsv_to_rgb
theorem fnhsv_to_rgb {w : World} {mg mb : Str → Option Value} {n : Nat} : CallOk (cx w mg mb) (n + 1) (.ref 73) Fhsv_to_rgb :=
  fn_ok (n := n + 0) (vars := ["h", "s", "v", "i", "f", "p", "q", "t"]) (ns := ["h", "s", "v"]) (o' := none) (f := Bhsv_to_rgb) 3 5 rfl rfl rfl rfl rfl rfl rfl
  (Ex.cons (St.ite (Te.cmp (Ev.var (i := 1) rfl rfl rfl) Ev.fltc eqOk rfl) (Ex.cons (St.ret (Ev.tup (EvL.cons (Ev.var (i := 2) rfl rfl rfl) (EvL.cons (Ev.var (i := 2) rfl rfl rfl) (EvL.cons (Ev.var (i := 2) rfl rfl rfl) EvL.nil (fun _ => rfl)) (fun _ => rfl)) (fun _ => rfl))))
  Ex.nil) Ex.nil)
  (Ex.cons (St.asg ⟨rfl, .inl rfl, by decide⟩ (Ev.call (.boot rfl rfl boot_int (by decide)) rfl (EvL.cons (Ev.bin (Ev.var (i := 0) rfl rfl rfl) Ev.fltc mulOk) EvL.nil (fun _ => rfl)) (.type _) intOk (fun _ => rfl)) (fun env h => by cases env; cases h; rfl))
  (Ex.cons (St.asg ⟨rfl, .inl rfl, by decide⟩ (Ev.bin (Ev.bin (Ev.var (i := 0) rfl rfl rfl) Ev.fltc mulOk) (Ev.var (i := 3) rfl rfl rfl) subOk) (fun env h => by cases env; cases h; rfl))
  (Ex.cons (St.asg ⟨rfl, .inl rfl, by decide⟩ (Ev.bin (Ev.var (i := 2) rfl rfl rfl) (Ev.bin Ev.fltc (Ev.var (i := 1) rfl rfl rfl) subOk) mulOk) (fun env h => by cases env; cases h; rfl))
  (Ex.cons (St.asg ⟨rfl, .inl rfl, by decide⟩ (Ev.bin (Ev.var (i := 2) rfl rfl rfl) (Ev.bin Ev.fltc (Ev.bin (Ev.var (i := 1) rfl rfl rfl) (Ev.var (i := 4) rfl rfl rfl) mulOk) subOk) mulOk) (fun env h => by cases env; cases h; rfl))
  (Ex.cons (St.asg ⟨rfl, .inl rfl, by decide⟩ (Ev.bin (Ev.var (i := 2) rfl rfl rfl) (Ev.bin Ev.fltc (Ev.bin (Ev.var (i := 1) rfl rfl rfl) (Ev.bin Ev.fltc (Ev.var (i := 4) rfl rfl rfl) subOk) mulOk) subOk) mulOk) (fun env h => by cases env; cases h; rfl))
  (Ex.cons (St.asg ⟨rfl, .inl rfl, by decide⟩ (Ev.bin (Ev.var (i := 3) rfl rfl rfl) Ev.int modOk) (fun env h => by cases env; cases h; rfl))
  (Ex.cons (St.ite (Te.cmp (Ev.var (i := 3) rfl rfl rfl) Ev.int eqOk rfl) (Ex.cons (St.ret (Ev.tup (EvL.cons (Ev.var (i := 2) rfl rfl rfl) (EvL.cons (Ev.var (i := 7) rfl rfl rfl) (EvL.cons (Ev.var (i := 5) rfl rfl rfl) EvL.nil (fun _ => rfl)) (fun _ => rfl)) (fun _ => rfl))))
  Ex.nil) Ex.nil)
  (Ex.cons (St.ite (Te.cmp (Ev.var (i := 3) rfl rfl rfl) Ev.int eqOk rfl) (Ex.cons (St.ret (Ev.tup (EvL.cons (Ev.var (i := 6) rfl rfl rfl) (EvL.cons (Ev.var (i := 2) rfl rfl rfl) (EvL.cons (Ev.var (i := 5) rfl rfl rfl) EvL.nil (fun _ => rfl)) (fun _ => rfl)) (fun _ => rfl))))
  Ex.nil) Ex.nil)
  (Ex.cons (St.ite (Te.cmp (Ev.var (i := 3) rfl rfl rfl) Ev.int eqOk rfl) (Ex.cons (St.ret (Ev.tup (EvL.cons (Ev.var (i := 5) rfl rfl rfl) (EvL.cons (Ev.var (i := 2) rfl rfl rfl) (EvL.cons (Ev.var (i := 7) rfl rfl rfl) EvL.nil (fun _ => rfl)) (fun _ => rfl)) (fun _ => rfl))))
  Ex.nil) Ex.nil)
  (Ex.cons (St.ite (Te.cmp (Ev.var (i := 3) rfl rfl rfl) Ev.int eqOk rfl) (Ex.cons (St.ret (Ev.tup (EvL.cons (Ev.var (i := 5) rfl rfl rfl) (EvL.cons (Ev.var (i := 6) rfl rfl rfl) (EvL.cons (Ev.var (i := 2) rfl rfl rfl) EvL.nil (fun _ => rfl)) (fun _ => rfl)) (fun _ => rfl))))
  Ex.nil) Ex.nil)
  (Ex.cons (St.ite (Te.cmp (Ev.var (i := 3) rfl rfl rfl) Ev.int eqOk rfl) (Ex.cons (St.ret (Ev.tup (EvL.cons (Ev.var (i := 7) rfl rfl rfl) (EvL.cons (Ev.var (i := 5) rfl rfl rfl) (EvL.cons (Ev.var (i := 2) rfl rfl rfl) EvL.nil (fun _ => rfl)) (fun _ => rfl)) (fun _ => rfl))))
  Ex.nil) Ex.nil)
  (Ex.cons (St.ite (Te.cmp (Ev.var (i := 3) rfl rfl rfl) Ev.int eqOk rfl) (Ex.cons (St.ret (Ev.tup (EvL.cons (Ev.var (i := 2) rfl rfl rfl) (EvL.cons (Ev.var (i := 5) rfl rfl rfl) (EvL.cons (Ev.var (i := 6) rfl rfl rfl) EvL.nil (fun _ => rfl)) (fun _ => rfl)) (fun _ => rfl))))
  Ex.nil) Ex.nil)
  Ex.nil)))))))))))))
  (bindsLen3 fun a0 a1 a2 => rfl) ⟨_, rfl⟩ rfl rfl (by decide) (locs_ (by decide)) (noFree (by decide)) rfl rfl rfl

noncomputable def B_substitution_cost : List D → Option Out :=
  (seqX (iteX (cmpT eqF (getv 0) (getv 1)) (seqX (retX none (fun _ => some (D.int 0)))
  (fun ρ => some (Out.nxt ρ))) (fun ρ => some (Out.nxt ρ)))
  (seqX (iteX (cmpT eqF (methE lowerF (getv 0) (fun _ => some [])) (methE lowerF (getv 1) (fun _ => some []))) (seqX (retX none (fun _ => some (D.int 1)))
  (fun ρ => some (Out.nxt ρ))) (fun ρ => some (Out.nxt ρ)))
  (seqX (retX none (fun _ => some (D.int 2)))
  (fun ρ => some (Out.nxt ρ)))))
noncomputable def F_substitution_cost : List D → Option D := fnF 2 0 B_substitution_cost
theorem fn_substitution_cost {w : World} {mg mb : Str → Option Value} {n : Nat} : CallOk (cx w mg mb) (n + 1) (.ref 80) F_substitution_cost :=
  fn_ok (n := n + 0) (vars := ["ch_a", "ch_b"]) (ns := ["ch_a", "ch_b"]) (o' := none) (f := B_substitution_cost) 2 0 rfl rfl rfl rfl rfl rfl rfl
  (Ex.cons (St.ite (Te.cmp (Ev.var (i := 0) rfl rfl rfl) (Ev.var (i := 1) rfl rfl rfl) eqOk rfl) (Ex.cons (St.ret Ev.int)
  Ex.nil) Ex.nil)
  (Ex.cons (St.ite (Te.cmp (Ev.meth m_lower lowerOk hF_lowerF (Ev.var (i := 0) rfl rfl rfl) EvL.nil (fun _ => rfl) (fun _ => ⟨_, rfl⟩)) (Ev.meth m_lower lowerOk hF_lowerF (Ev.var (i := 1) rfl rfl rfl) EvL.nil (fun _ => rfl) (fun _ => ⟨_, rfl⟩)) eqOk rfl) (Ex.cons (St.ret (Ev.glob (d := .int 1) rfl rfl (fun _ => .int _ _) rfl))
  Ex.nil) Ex.nil)
  (Ex.cons (St.ret (Ev.glob (d := .int 2) rfl rfl (fun _ => .int _ _) rfl))
  Ex.nil)))
  (bindsLen2 fun a0 a1 => rfl) ⟨_, rfl⟩ rfl rfl (by decide) (locs_ (by decide)) (noFree (by decide)) rfl rfl rfl

noncomputable def B_law_paint : List D → Option Out :=
  (seqX (iteX (cmpT ltF (getv 0) (fun _ => some (D.int 6))) (seqX (retX none (callE Fhsv_to_rgb (consE (bin2 divF (getv 0) (fun _ => some (D.flt 4618441417868443648))) (consE (fun _ => some (D.flt 4607182418800017408)) (consE (fun _ => some (D.flt 4607182418800017408)) (fun _ => some []))))))
  (fun ρ => some (Out.nxt ρ))) (fun ρ => some (Out.nxt ρ)))
  (seqX (retX none (callE Fhsv_to_rgb (consE (fun _ => some (D.flt 0)) (consE (fun _ => some (D.flt 0)) (consE (bin2 subF (fun _ => some (D.flt 4619567317775286272)) (getv 0)) (fun _ => some []))))))
  (fun ρ => some (Out.nxt ρ))))
noncomputable def F_law_paint : List D → Option D := fnF 1 0 B_law_paint
theorem fn_law_paint {w : World} {mg mb : Str → Option Value} {n : Nat} : CallOk (cx w mg mb) (n + 2) (.ref 242) F_law_paint :=
  fn_ok (n := n + 1) (vars := ["place"]) (ns := ["place"]) (o' := none) (f := B_law_paint) 1 0 rfl rfl rfl rfl rfl rfl rfl
  (Ex.cons (St.ite (Te.cmp (Ev.var (i := 0) rfl rfl rfl) Ev.int ltOk rfl) (Ex.cons (St.ret (Ev.call (.glob rfl rfl) rfl (EvL.cons (Ev.bin (Ev.var (i := 0) rfl rfl rfl) Ev.fltc divOk) (EvL.cons Ev.fltc (EvL.cons Ev.fltc EvL.nil (fun _ => rfl)) (fun _ => rfl)) (fun _ => rfl)) (.kept rfl) fnhsv_to_rgb (fun _ => rfl)))
  Ex.nil) Ex.nil)
  (Ex.cons (St.ret (Ev.call (.glob rfl rfl) rfl (EvL.cons Ev.fltc (EvL.cons Ev.fltc (EvL.cons (Ev.bin Ev.fltc (Ev.var (i := 0) rfl rfl rfl) subOk) EvL.nil (fun _ => rfl)) (fun _ => rfl)) (fun _ => rfl)) (.kept rfl) fnhsv_to_rgb (fun _ => rfl)))
  Ex.nil))
  (bindsLen1 fun a0 => rfl) ⟨_, rfl⟩ rfl rfl (by decide) (locs_ (by decide)) (noFree (by decide)) rfl rfl rfl

noncomputable def B_ellipsis_match : List D → Option Out :=
  (seqX (iteX (cmpT ninF (fun _ => some (D.str "...")) (getv 0)) (seqX (retX none (bin2 eqF (getv 0) (getv 1)))
  (fun ρ => some (Out.nxt ρ))) (fun ρ => some (Out.nxt ρ)))
  (seqX (ownX 2 (splitE (getv 0) (fun _ => some (D.str "..."))))
  (seqX (assertX (cmpT geF (callE lenF (consE (getv 2) (fun _ => some []))) (fun _ => some (D.int 2))))
  (seqX (asgSwapX (some 2) [4, 3] (tupE (consE (fun _ => some (D.int 0)) (consE (callE lenF (consE (getv 1) (fun _ => some []))) (fun _ => some [])))))
  (seqX (asgX (some 2) 5 (bin2 itmF (getv 2) (fun _ => some (D.int 0))))
  (seqX (iteX (un1 trB (getv 5)) (seqX (iteX (un1 trB (methE startsF (getv 1) (consE (getv 5) (fun _ => some [])))) (seqX (asgX (some 2) 3 (callE lenF (consE (getv 5) (fun _ => some []))))
  (seqX (delX 2 (fun _ => some (D.int 0)))
  (fun ρ => some (Out.nxt ρ)))) (seqX (retX (some 2) (fun _ => some (D.bool false)))
  (fun ρ => some (Out.nxt ρ))))
  (fun ρ => some (Out.nxt ρ))) (fun ρ => some (Out.nxt ρ)))
  (seqX (asgX (some 2) 5 (bin2 itmF (getv 2) (un1 negF (fun _ => some (D.int 1)))))
  (seqX (iteX (un1 trB (getv 5)) (seqX (iteX (un1 trB (methE endsF (getv 1) (consE (getv 5) (fun _ => some [])))) (seqX (augX (some 2) 4 isubF (callE lenF (consE (getv 5) (fun _ => some []))))
  (seqX (delX 2 (un1 negF (fun _ => some (D.int 1))))
  (fun ρ => some (Out.nxt ρ)))) (seqX (retX (some 2) (fun _ => some (D.bool false)))
  (fun ρ => some (Out.nxt ρ))))
  (fun ρ => some (Out.nxt ρ))) (fun ρ => some (Out.nxt ρ)))
  (seqX (iteX (cmpT gtF (getv 3) (getv 4)) (seqX (retX (some 2) (fun _ => some (D.bool false)))
  (fun ρ => some (Out.nxt ρ))) (fun ρ => some (Out.nxt ρ)))
  (seqX (forX none (Tg.one 5) (un1 itemsOf (getv 2)) (seqX (asgX none 3 (methE findF (getv 1) (consE (getv 5) (consE (getv 3) (consE (getv 4) (fun _ => some []))))))
  (seqX (iteX (cmpT ltF (getv 3) (fun _ => some (D.int 0))) (seqX (retX none (fun _ => some (D.bool false)))
  (fun ρ => some (Out.nxt ρ))) (fun ρ => some (Out.nxt ρ)))
  (seqX (augX none 3 iaddF (callE lenF (consE (getv 5) (fun _ => some []))))
  (fun ρ => some (Out.nxt ρ))))))
  (seqX (retX none (fun _ => some (D.bool true)))
  (fun ρ => some (Out.nxt ρ)))))))))))))
noncomputable def F_ellipsis_match : List D → Option D := fnF 2 4 B_ellipsis_match
theorem fn_ellipsis_match {w : World} {mg mb : Str → Option Value} {n : Nat} : CallOk (cx w mg mb) (n + 1) (.ref 45) F_ellipsis_match :=
  fn_ok (n := n + 0) (vars := ["want", "got", "ws", "startpos", "endpos", "w"]) (ns := ["want", "got"]) (o' := none) (f := B_ellipsis_match) 2 4 rfl rfl rfl rfl rfl rfl rfl
  (Ex.cons (St.ite (Te.cmp (Ev.glob (d := .str "...") rfl rfl (fun _ => .str _ _) rfl) (Ev.var (i := 0) rfl rfl rfl) ninOk rfl) (Ex.cons (St.ret (Ev.cmp (Ev.var (i := 0) rfl rfl rfl) (Ev.var (i := 1) rfl rfl rfl) eqOk rfl))
  Ex.nil) Ex.nil)
  (Ex.cons (St.fresh ⟨rfl, .inl rfl, by decide⟩ rfl (EvF.split (Ev.var (i := 0) rfl rfl rfl) (Ev.glob (d := .str "...") rfl rfl (fun _ => .str _ _) rfl) (fun _ => rfl) (fun _ => ⟨_, rfl⟩)) (fun env h => by cases env; cases h; rfl))
  (Ex.cons (St.assert (Te.cmp (Ev.call (.boot rfl rfl boot_len (by decide)) rfl (EvL.cons (Ev.var (i := 2) rfl rfl rfl) EvL.nil (fun _ => rfl)) (.builtin _) lenOk (fun _ => rfl)) Ev.int geOk rfl))
  (Ex.cons (St.asgSwap (xs := ["startpos", "endpos"]) (NLs.cons ⟨rfl, .inl rfl, by decide⟩ (NLs.cons ⟨rfl, .inl rfl, by decide⟩ NLs.nil)) (Ev.tup (EvL.cons Ev.int (EvL.cons (Ev.call (.boot rfl rfl boot_len (by decide)) rfl (EvL.cons (Ev.var (i := 1) rfl rfl rfl) EvL.nil (fun _ => rfl)) (.builtin _) lenOk (fun _ => rfl)) EvL.nil (fun _ => rfl)) (fun _ => rfl))) rfl (fun env h => by cases env; cases h; rfl) (fun env h => by cases env; cases h; rfl))
  (Ex.cons (St.asg ⟨rfl, .inl rfl, by decide⟩ (Ev.item (Ev.var (i := 2) rfl rfl rfl) Ev.int (fun _ _ => ⟨_, rfl⟩)) (fun env h => by cases env; cases h; rfl))
  (Ex.cons (St.ite (Te.val (Ev.var (i := 5) rfl rfl rfl) trOk (fun _ _ => rfl)) (Ex.cons (St.ite (Te.val (Ev.meth m_startswith startsOk hF_startsF (Ev.var (i := 1) rfl rfl rfl) (EvL.cons (Ev.var (i := 5) rfl rfl rfl) EvL.nil (fun _ => rfl)) (fun _ => rfl) (fun _ => ⟨_, rfl⟩)) trOk (fun _ _ => rfl)) (Ex.cons (St.asg ⟨rfl, .inl rfl, by decide⟩ (Ev.call (.boot rfl rfl boot_len (by decide)) rfl (EvL.cons (Ev.var (i := 5) rfl rfl rfl) EvL.nil (fun _ => rfl)) (.builtin _) lenOk (fun _ => rfl)) (fun env h => by cases env; cases h; rfl))
  (Ex.cons (St.del rfl rfl rfl Ev.int (fun _ => rfl) (fun _ => rfl) (fun _ => rfl))
  Ex.nil)) (Ex.cons (St.ret Ev.boolc)
  Ex.nil))
  Ex.nil) Ex.nil)
  (Ex.cons (St.asg ⟨rfl, .inl rfl, by decide⟩ (Ev.item (Ev.var (i := 2) rfl rfl rfl) (Ev.neg Ev.int) (fun _ _ => ⟨_, rfl⟩)) (fun env h => by cases env; cases h; rfl))
  (Ex.cons (St.ite (Te.val (Ev.var (i := 5) rfl rfl rfl) trOk (fun _ _ => rfl)) (Ex.cons (St.ite (Te.val (Ev.meth m_endswith endsOk hF_endsF (Ev.var (i := 1) rfl rfl rfl) (EvL.cons (Ev.var (i := 5) rfl rfl rfl) EvL.nil (fun _ => rfl)) (fun _ => rfl) (fun _ => ⟨_, rfl⟩)) trOk (fun _ _ => rfl)) (Ex.cons (St.aug ⟨rfl, .inl rfl, by decide⟩ rfl (Ev.call (.boot rfl rfl boot_len (by decide)) rfl (EvL.cons (Ev.var (i := 5) rfl rfl rfl) EvL.nil (fun _ => rfl)) (.builtin _) lenOk (fun _ => rfl)) isubOk)
  (Ex.cons (St.del rfl rfl rfl (Ev.neg Ev.int) (fun _ => rfl) (fun _ => rfl) (fun _ => rfl))
  Ex.nil)) (Ex.cons (St.ret Ev.boolc)
  Ex.nil))
  Ex.nil) Ex.nil)
  (Ex.cons (St.ite (Te.cmp (Ev.var (i := 3) rfl rfl rfl) (Ev.var (i := 4) rfl rfl rfl) gtOk rfl) (Ex.cons (St.ret Ev.boolc)
  Ex.nil) Ex.nil)
  (Ex.cons (Does.freeze (St.for (TgtOk.one ⟨rfl, .inl rfl, by decide⟩) (ItE.name (Ev.var (i := 2) rfl rfl rfl)) (Ex.cons (St.asg ⟨rfl, .inl rfl, by decide⟩ (Ev.meth m_find findOk hF_findF (Ev.var (i := 1) rfl rfl rfl) (EvL.cons (Ev.var (i := 5) rfl rfl rfl) (EvL.cons (Ev.var (i := 3) rfl rfl rfl) (EvL.cons (Ev.var (i := 4) rfl rfl rfl) EvL.nil (fun _ => rfl)) (fun _ => rfl)) (fun _ => rfl)) (fun _ => rfl) (fun _ => ⟨_, rfl⟩)) (fun env h => by cases env; cases h; rfl))
  (Ex.cons (St.ite (Te.cmp (Ev.var (i := 3) rfl rfl rfl) Ev.int ltOk rfl) (Ex.cons (St.ret Ev.boolc)
  Ex.nil) Ex.nil)
  (Ex.cons (St.aug ⟨rfl, .inl rfl, by decide⟩ rfl (Ev.call (.boot rfl rfl boot_len (by decide)) rfl (EvL.cons (Ev.var (i := 5) rfl rfl rfl) EvL.nil (fun _ => rfl)) (.builtin _) lenOk (fun _ => rfl)) iaddOk)
  Ex.nil))) (fun _ _ => rfl)))
  (Ex.cons (St.ret Ev.boolc)
  Ex.nil)))))))))))
  (bindsLen2 fun a0 a1 => rfl) ⟨_, rfl⟩ rfl rfl (by decide) (locs_ (by decide)) (noFree (by decide)) rfl rfl rfl

noncomputable def B_levenshtein_distance : List D → Option Out :=
  (seqX (iteX (cmpT eqF (getv 0) (getv 1)) (seqX (retX none (fun _ => some (D.int 0)))
  (fun ρ => some (Out.nxt ρ))) (fun ρ => some (Out.nxt ρ)))
  (seqX (asgX none 3 (fun _ => some (D.int 0)))
  (seqX (whileX (andT (un1 trB (bin2 itmF (getv 0) (slcE (un1 partF (getv 3)) (fun _ => some none) (fun _ => some none)))) (andT (un1 trB (bin2 itmF (getv 1) (slcE (un1 partF (getv 3)) (fun _ => some none) (fun _ => some none)))) (andT (cmpT eqF (bin2 itmF (getv 0) (getv 3)) (bin2 itmF (getv 1) (getv 3))) (fun _ => some true)))) (seqX (augX none 3 iaddF (fun _ => some (D.int 1)))
  (fun ρ => some (Out.nxt ρ))) 50)
  (seqX (asgX none 0 (bin2 itmF (getv 0) (slcE (un1 partF (getv 3)) (fun _ => some none) (fun _ => some none))))
  (seqX (asgX none 1 (bin2 itmF (getv 1) (slcE (un1 partF (getv 3)) (fun _ => some none) (fun _ => some none))))
  (seqX (asgX none 4 (fun _ => some (D.int 0)))
  (seqX (whileX (andT (un1 trB (bin2 itmF (getv 0) (slcE (fun _ => some none) (un1 partF (orE trB (getv 4) (fun _ => some D.none))) (fun _ => some none)))) (andT (un1 trB (bin2 itmF (getv 1) (slcE (fun _ => some none) (un1 partF (orE trB (getv 4) (fun _ => some D.none))) (fun _ => some none)))) (andT (cmpT eqF (bin2 itmF (getv 0) (bin2 subF (getv 4) (fun _ => some (D.int 1)))) (bin2 itmF (getv 1) (bin2 subF (getv 4) (fun _ => some (D.int 1))))) (fun _ => some true)))) (seqX (augX none 4 isubF (fun _ => some (D.int 1)))
  (fun ρ => some (Out.nxt ρ))) 50)
  (seqX (asgX none 0 (bin2 itmF (getv 0) (slcE (fun _ => some none) (un1 partF (orE trB (getv 4) (fun _ => some D.none))) (fun _ => some none))))
  (seqX (asgX none 1 (bin2 itmF (getv 1) (slcE (fun _ => some none) (un1 partF (orE trB (getv 4) (fun _ => some D.none))) (fun _ => some none))))
  (seqX (iteX (orT (notT (un1 trB (getv 0))) (orT (notT (un1 trB (getv 1))) (fun _ => some false))) (seqX (retX none (bin2 mulF (fun _ => some (D.int 2)) (bin2 addF (callE lenF (consE (getv 0) (fun _ => some []))) (callE lenF (consE (getv 1) (fun _ => some []))))))
  (fun ρ => some (Out.nxt ρ))) (fun ρ => some (Out.nxt ρ)))
  (seqX (iteX (orT (cmpT gtF (callE lenF (consE (getv 0) (fun _ => some []))) (fun _ => some (D.int 40))) (orT (cmpT gtF (callE lenF (consE (getv 1) (fun _ => some []))) (fun _ => some (D.int 40))) (fun _ => some false))) (seqX (retX none (bin2 addF (getv 2) (fun _ => some (D.int 1))))
  (fun ρ => some (Out.nxt ρ))) (fun ρ => some (Out.nxt ρ)))
  (seqX (iteX (cmpT ltF (callE lenF (consE (getv 1) (fun _ => some []))) (callE lenF (consE (getv 0) (fun _ => some [])))) (seqX (asgSwapX none [1, 0] (tupE (consE (getv 1) (consE (getv 0) (fun _ => some [])))))
  (fun ρ => some (Out.nxt ρ))) (fun ρ => some (Out.nxt ρ)))
  (seqX (iteX (cmpT gtF (bin2 mulF (bin2 subF (callE lenF (consE (getv 1) (fun _ => some []))) (callE lenF (consE (getv 0) (fun _ => some [])))) (fun _ => some (D.int 2))) (getv 2)) (seqX (retX none (bin2 addF (getv 2) (fun _ => some (D.int 1))))
  (fun ρ => some (Out.nxt ρ))) (fun ρ => some (Out.nxt ρ)))
  (seqX (ownX 5 (lrngE (consE (fun _ => some (D.int 2)) (consE (bin2 mulF (fun _ => some (D.int 2)) (bin2 addF (callE lenF (consE (getv 0) (fun _ => some []))) (fun _ => some (D.int 1)))) (consE (fun _ => some (D.int 2)) (fun _ => some []))))))
  (seqX (asgX (some 5) 6 (fun _ => some (D.int 0)))
  (seqX (forX (some 5) (Tg.one 7) (un1 itemsOf (callE rngF (consE (callE lenF (consE (getv 1) (fun _ => some []))) (fun _ => some [])))) (seqX (asgX (some 5) 8 (bin2 itmF (getv 1) (getv 7)))
  (seqX (asg2X (some 5) 9 6 (bin2 mulF (getv 7) (fun _ => some (D.int 2))))
  (seqX (asgX (some 5) 10 (fun _ => some (D.int 9223372036854775807)))
  (seqX (forX (some 5) (Tg.one 11) (un1 itemsOf (callE rngF (consE (callE lenF (consE (getv 0) (fun _ => some []))) (fun _ => some [])))) (seqX (asgX (some 5) 12 (bin2 addF (getv 9) (callE F_substitution_cost (consE (getv 8) (consE (bin2 itmF (getv 0) (getv 11)) (fun _ => some []))))))
  (seqX (asgX (some 5) 9 (bin2 itmF (getv 5) (getv 11)))
  (seqX (asgX (some 5) 13 (bin2 addF (callE minF (consE (getv 6) (consE (getv 9) (fun _ => some [])))) (fun _ => some (D.int 2))))
  (seqX (asgX (some 5) 6 (callE minF (consE (getv 13) (consE (getv 12) (fun _ => some [])))))
  (seqX (putX 5 (getv 11) (getv 6))
  (seqX (iteX (cmpT ltF (getv 6) (getv 10)) (seqX (asgX (some 5) 10 (getv 6))
  (fun ρ => some (Out.nxt ρ))) (fun ρ => some (Out.nxt ρ)))
  (fun ρ => some (Out.nxt ρ)))))))))
  (seqX (iteX (cmpT gtF (getv 10) (getv 2)) (seqX (retX (some 5) (bin2 addF (getv 2) (fun _ => some (D.int 1))))
  (fun ρ => some (Out.nxt ρ))) (fun ρ => some (Out.nxt ρ)))
  (fun ρ => some (Out.nxt ρ))))))))
  (seqX (retX (some 5) (getv 6))
  (fun ρ => some (Out.nxt ρ)))))))))))))))))))
noncomputable def F_levenshtein_distance : List D → Option D := fnF 3 11 B_levenshtein_distance
theorem fn_levenshtein_distance {w : World} {mg mb : Str → Option Value} {n : Nat} : CallOk (cx w mg mb) (n + 2) (.ref 87) F_levenshtein_distance :=
  fn_ok (n := n + 1) (vars := ["a", "b", "max_cost", "pre", "post", "row", "result", "bindex", "bchar", "distance", "minimum", "index", "substitute", "insert_delete"]) (ns := ["a", "b", "max_cost"]) (o' := (some 5)) (f := B_levenshtein_distance) 3 11 rfl rfl rfl rfl rfl rfl rfl
  (Ex.cons (St.ite (Te.cmp (Ev.var (i := 0) rfl rfl rfl) (Ev.var (i := 1) rfl rfl rfl) eqOk rfl) (Ex.cons (St.ret Ev.int)
  Ex.nil) Ex.nil)
  (Ex.cons (St.asg ⟨rfl, .inl rfl, by decide⟩ Ev.int (fun env h => by cases env; cases h; rfl))
  (Ex.cons (St.while 50 (Te.bool (TeAll.and_cons (Te.val (Ev.item (Ev.var (i := 0) rfl rfl rfl) (Ev.slice (EvO.some (Ev.var (i := 3) rfl rfl rfl)) EvO.none EvO.none) (fun _ _ => ⟨_, rfl⟩)) trOk (fun _ _ => rfl)) (TeAll.and_cons (Te.val (Ev.item (Ev.var (i := 1) rfl rfl rfl) (Ev.slice (EvO.some (Ev.var (i := 3) rfl rfl rfl)) EvO.none EvO.none) (fun _ _ => ⟨_, rfl⟩)) trOk (fun _ _ => rfl)) (TeAll.and_cons (Te.cmp (Ev.item (Ev.var (i := 0) rfl rfl rfl) (Ev.var (i := 3) rfl rfl rfl) (fun _ _ => ⟨_, rfl⟩)) (Ev.item (Ev.var (i := 1) rfl rfl rfl) (Ev.var (i := 3) rfl rfl rfl) (fun _ _ => ⟨_, rfl⟩)) eqOk rfl) TeAll.and_nil)))) (Ex.cons (St.aug ⟨rfl, .inl rfl, by decide⟩ rfl Ev.int iaddOk)
  Ex.nil))
  (Ex.cons (St.asg ⟨rfl, .inl rfl, by decide⟩ (Ev.item (Ev.var (i := 0) rfl rfl rfl) (Ev.slice (EvO.some (Ev.var (i := 3) rfl rfl rfl)) EvO.none EvO.none) (fun _ _ => ⟨_, rfl⟩)) (fun env h => by cases env; cases h; rfl))
  (Ex.cons (St.asg ⟨rfl, .inl rfl, by decide⟩ (Ev.item (Ev.var (i := 1) rfl rfl rfl) (Ev.slice (EvO.some (Ev.var (i := 3) rfl rfl rfl)) EvO.none EvO.none) (fun _ _ => ⟨_, rfl⟩)) (fun env h => by cases env; cases h; rfl))
  (Ex.cons (St.asg ⟨rfl, .inl rfl, by decide⟩ Ev.int (fun env h => by cases env; cases h; rfl))
  (Ex.cons (St.while 50 (Te.bool (TeAll.and_cons (Te.val (Ev.item (Ev.var (i := 0) rfl rfl rfl) (Ev.slice EvO.none (EvO.some (Ev.or2 (Ev.var (i := 4) rfl rfl rfl) Ev.nonec trOk)) EvO.none) (fun _ _ => ⟨_, rfl⟩)) trOk (fun _ _ => rfl)) (TeAll.and_cons (Te.val (Ev.item (Ev.var (i := 1) rfl rfl rfl) (Ev.slice EvO.none (EvO.some (Ev.or2 (Ev.var (i := 4) rfl rfl rfl) Ev.nonec trOk)) EvO.none) (fun _ _ => ⟨_, rfl⟩)) trOk (fun _ _ => rfl)) (TeAll.and_cons (Te.cmp (Ev.item (Ev.var (i := 0) rfl rfl rfl) (Ev.bin (Ev.var (i := 4) rfl rfl rfl) Ev.int subOk) (fun _ _ => ⟨_, rfl⟩)) (Ev.item (Ev.var (i := 1) rfl rfl rfl) (Ev.bin (Ev.var (i := 4) rfl rfl rfl) Ev.int subOk) (fun _ _ => ⟨_, rfl⟩)) eqOk rfl) TeAll.and_nil)))) (Ex.cons (St.aug ⟨rfl, .inl rfl, by decide⟩ rfl Ev.int isubOk)
  Ex.nil))
  (Ex.cons (St.asg ⟨rfl, .inl rfl, by decide⟩ (Ev.item (Ev.var (i := 0) rfl rfl rfl) (Ev.slice EvO.none (EvO.some (Ev.or2 (Ev.var (i := 4) rfl rfl rfl) Ev.nonec trOk)) EvO.none) (fun _ _ => ⟨_, rfl⟩)) (fun env h => by cases env; cases h; rfl))
  (Ex.cons (St.asg ⟨rfl, .inl rfl, by decide⟩ (Ev.item (Ev.var (i := 1) rfl rfl rfl) (Ev.slice EvO.none (EvO.some (Ev.or2 (Ev.var (i := 4) rfl rfl rfl) Ev.nonec trOk)) EvO.none) (fun _ _ => ⟨_, rfl⟩)) (fun env h => by cases env; cases h; rfl))
  (Ex.cons (St.ite (Te.bool (TeAll.or_cons (Te.not (Te.val (Ev.var (i := 0) rfl rfl rfl) trOk (fun _ _ => rfl))) (TeAll.or_cons (Te.not (Te.val (Ev.var (i := 1) rfl rfl rfl) trOk (fun _ _ => rfl))) TeAll.or_nil))) (Ex.cons (St.ret (Ev.bin (Ev.glob (d := .int 2) rfl rfl (fun _ => .int _ _) rfl) (Ev.bin (Ev.call (.boot rfl rfl boot_len (by decide)) rfl (EvL.cons (Ev.var (i := 0) rfl rfl rfl) EvL.nil (fun _ => rfl)) (.builtin _) lenOk (fun _ => rfl)) (Ev.call (.boot rfl rfl boot_len (by decide)) rfl (EvL.cons (Ev.var (i := 1) rfl rfl rfl) EvL.nil (fun _ => rfl)) (.builtin _) lenOk (fun _ => rfl)) addOk) mulOk))
  Ex.nil) Ex.nil)
  (Ex.cons (St.ite (Te.bool (TeAll.or_cons (Te.cmp (Ev.call (.boot rfl rfl boot_len (by decide)) rfl (EvL.cons (Ev.var (i := 0) rfl rfl rfl) EvL.nil (fun _ => rfl)) (.builtin _) lenOk (fun _ => rfl)) (Ev.glob (d := .int 40) rfl rfl (fun _ => .int _ _) rfl) gtOk rfl) (TeAll.or_cons (Te.cmp (Ev.call (.boot rfl rfl boot_len (by decide)) rfl (EvL.cons (Ev.var (i := 1) rfl rfl rfl) EvL.nil (fun _ => rfl)) (.builtin _) lenOk (fun _ => rfl)) (Ev.glob (d := .int 40) rfl rfl (fun _ => .int _ _) rfl) gtOk rfl) TeAll.or_nil))) (Ex.cons (St.ret (Ev.bin (Ev.var (i := 2) rfl rfl rfl) Ev.int addOk))
  Ex.nil) Ex.nil)
  (Ex.cons (St.ite (Te.cmp (Ev.call (.boot rfl rfl boot_len (by decide)) rfl (EvL.cons (Ev.var (i := 1) rfl rfl rfl) EvL.nil (fun _ => rfl)) (.builtin _) lenOk (fun _ => rfl)) (Ev.call (.boot rfl rfl boot_len (by decide)) rfl (EvL.cons (Ev.var (i := 0) rfl rfl rfl) EvL.nil (fun _ => rfl)) (.builtin _) lenOk (fun _ => rfl)) ltOk rfl) (Ex.cons (St.asgSwap (xs := ["a", "b"]) (NLs.cons ⟨rfl, .inl rfl, by decide⟩ (NLs.cons ⟨rfl, .inl rfl, by decide⟩ NLs.nil)) (Ev.tup (EvL.cons (Ev.var (i := 1) rfl rfl rfl) (EvL.cons (Ev.var (i := 0) rfl rfl rfl) EvL.nil (fun _ => rfl)) (fun _ => rfl))) rfl (fun env h => by cases env; cases h; rfl) (fun env h => by cases env; cases h; rfl))
  Ex.nil) Ex.nil)
  (Ex.cons (St.ite (Te.cmp (Ev.bin (Ev.bin (Ev.call (.boot rfl rfl boot_len (by decide)) rfl (EvL.cons (Ev.var (i := 1) rfl rfl rfl) EvL.nil (fun _ => rfl)) (.builtin _) lenOk (fun _ => rfl)) (Ev.call (.boot rfl rfl boot_len (by decide)) rfl (EvL.cons (Ev.var (i := 0) rfl rfl rfl) EvL.nil (fun _ => rfl)) (.builtin _) lenOk (fun _ => rfl)) subOk) (Ev.glob (d := .int 2) rfl rfl (fun _ => .int _ _) rfl) mulOk) (Ev.var (i := 2) rfl rfl rfl) gtOk rfl) (Ex.cons (St.ret (Ev.bin (Ev.var (i := 2) rfl rfl rfl) Ev.int addOk))
  Ex.nil) Ex.nil)
  (Ex.cons (St.fresh ⟨rfl, .inl rfl, by decide⟩ rfl (EvF.listRange (EvL.cons (Ev.glob (d := .int 2) rfl rfl (fun _ => .int _ _) rfl) (EvL.cons (Ev.bin (Ev.glob (d := .int 2) rfl rfl (fun _ => .int _ _) rfl) (Ev.bin (Ev.call (.boot rfl rfl boot_len (by decide)) rfl (EvL.cons (Ev.var (i := 0) rfl rfl rfl) EvL.nil (fun _ => rfl)) (.builtin _) lenOk (fun _ => rfl)) Ev.int addOk) mulOk) (EvL.cons (Ev.glob (d := .int 2) rfl rfl (fun _ => .int _ _) rfl) EvL.nil (fun _ => rfl)) (fun _ => rfl)) (fun _ => rfl)) (.boot rfl rfl boot_list (by decide)) (.boot rfl rfl boot_range (by decide)) rfl rfl (fun _ => rfl) (fun _ => rfl)) (fun env h => by cases env; cases h; rfl))
  (Ex.cons (St.asg ⟨rfl, .inl rfl, by decide⟩ Ev.int (fun env h => by cases env; cases h; rfl))
  (Ex.cons (St.for (TgtOk.one ⟨rfl, .inl rfl, by decide⟩) (ItE.name (Ev.call (.boot rfl rfl boot_range (by decide)) rfl (EvL.cons (Ev.call (.boot rfl rfl boot_len (by decide)) rfl (EvL.cons (Ev.var (i := 1) rfl rfl rfl) EvL.nil (fun _ => rfl)) (.builtin _) lenOk (fun _ => rfl)) EvL.nil (fun _ => rfl)) (.type _) rngOk (fun _ => rfl))) (Ex.cons (St.asg ⟨rfl, .inl rfl, by decide⟩ (Ev.item (Ev.var (i := 1) rfl rfl rfl) (Ev.var (i := 7) rfl rfl rfl) (fun _ _ => ⟨_, rfl⟩)) (fun env h => by cases env; cases h; rfl))
  (Ex.cons (St.asg2 ⟨rfl, .inl rfl, by decide⟩ ⟨rfl, .inl rfl, by decide⟩ (Ev.bin (Ev.var (i := 7) rfl rfl rfl) (Ev.glob (d := .int 2) rfl rfl (fun _ => .int _ _) rfl) mulOk) (fun _ => rfl))
  (Ex.cons (St.asg ⟨rfl, .inl rfl, by decide⟩ Ev.int (fun env h => by cases env; cases h; rfl))
  (Ex.cons (St.for (TgtOk.one ⟨rfl, .inl rfl, by decide⟩) (ItE.name (Ev.call (.boot rfl rfl boot_range (by decide)) rfl (EvL.cons (Ev.call (.boot rfl rfl boot_len (by decide)) rfl (EvL.cons (Ev.var (i := 0) rfl rfl rfl) EvL.nil (fun _ => rfl)) (.builtin _) lenOk (fun _ => rfl)) EvL.nil (fun _ => rfl)) (.type _) rngOk (fun _ => rfl))) (Ex.cons (St.asg ⟨rfl, .inl rfl, by decide⟩ (Ev.bin (Ev.var (i := 9) rfl rfl rfl) (Ev.call (.glob rfl rfl) rfl (EvL.cons (Ev.var (i := 8) rfl rfl rfl) (EvL.cons (Ev.item (Ev.var (i := 0) rfl rfl rfl) (Ev.var (i := 11) rfl rfl rfl) (fun _ _ => ⟨_, rfl⟩)) EvL.nil (fun _ => rfl)) (fun _ => rfl)) (.kept rfl) fn_substitution_cost (fun _ => rfl)) addOk) (fun env h => by cases env; cases h; rfl))
  (Ex.cons (St.asg ⟨rfl, .inl rfl, by decide⟩ (Ev.item (Ev.var (i := 5) rfl rfl rfl) (Ev.var (i := 11) rfl rfl rfl) (fun _ _ => ⟨_, rfl⟩)) (fun env h => by cases env; cases h; rfl))
  (Ex.cons (St.asg ⟨rfl, .inl rfl, by decide⟩ (Ev.bin (Ev.call (.boot rfl rfl boot_min (by decide)) rfl (EvL.cons (Ev.var (i := 6) rfl rfl rfl) (EvL.cons (Ev.var (i := 9) rfl rfl rfl) EvL.nil (fun _ => rfl)) (fun _ => rfl)) (.builtin _) minOk (fun _ => rfl)) (Ev.glob (d := .int 2) rfl rfl (fun _ => .int _ _) rfl) addOk) (fun env h => by cases env; cases h; rfl))
  (Ex.cons (St.asg ⟨rfl, .inl rfl, by decide⟩ (Ev.call (.boot rfl rfl boot_min (by decide)) rfl (EvL.cons (Ev.var (i := 13) rfl rfl rfl) (EvL.cons (Ev.var (i := 12) rfl rfl rfl) EvL.nil (fun _ => rfl)) (fun _ => rfl)) (.builtin _) minOk (fun _ => rfl)) (fun env h => by cases env; cases h; rfl))
  (Ex.cons (St.put rfl rfl rfl (Ev.var (i := 6) rfl rfl rfl) (Ev.var (i := 11) rfl rfl rfl) (fun _ => rfl))
  (Ex.cons (St.ite (Te.cmp (Ev.var (i := 6) rfl rfl rfl) (Ev.var (i := 10) rfl rfl rfl) ltOk rfl) (Ex.cons (St.asg ⟨rfl, .inl rfl, by decide⟩ (Ev.var (i := 6) rfl rfl rfl) (fun env h => by cases env; cases h; rfl))
  Ex.nil) Ex.nil)
  Ex.nil)))))) (fun _ _ => rfl))
  (Ex.cons (St.ite (Te.cmp (Ev.var (i := 10) rfl rfl rfl) (Ev.var (i := 2) rfl rfl rfl) gtOk rfl) (Ex.cons (St.ret (Ev.bin (Ev.var (i := 2) rfl rfl rfl) Ev.int addOk))
  Ex.nil) Ex.nil)
  Ex.nil))))) (fun _ _ => rfl))
  (Ex.cons (St.ret (Ev.var (i := 6) rfl rfl rfl))
  Ex.nil)))))))))))))))))
  (bindsLen3 fun a0 a1 a2 => rfl) ⟨_, rfl⟩ rfl rfl (by decide) (locs_ (by decide)) (noFree (by decide)) rfl rfl rfl

noncomputable def B_law_negative : List D → Option Out :=
  (seqX (asgTupX none [1, 2, 3] (un1 (starF Frgb_to_hls) (getv 0)))
  (seqX (retX none (callE Fhls_to_rgb (consE (bin2 addF (getv 1) (fun _ => some (D.flt 4602678819172646912))) (consE (bin2 subF (fun _ => some (D.flt 4607182418800017408)) (getv 2)) (consE (getv 3) (fun _ => some []))))))
  (fun ρ => some (Out.nxt ρ))))
noncomputable def F_law_negative : List D → Option D := fnF 1 3 B_law_negative
theorem fn_law_negative {w : World} {mg mb : Str → Option Value} {n : Nat} : CallOk (cx w mg mb) (n + 3) (.ref 249) F_law_negative :=
  fn_ok (n := n + 2) (vars := ["colour", "hue", "light", "share"]) (ns := ["colour"]) (o' := none) (f := B_law_negative) 1 3 rfl rfl rfl rfl rfl rfl rfl
  (Ex.cons (St.asgTup (NL.cons ⟨rfl, .inl rfl, by decide⟩ (NL.cons ⟨rfl, .inl rfl, by decide⟩ (NL.cons ⟨rfl, .inl rfl, by decide⟩ NL.nil))) (Ev.star (.glob rfl rfl) rfl (Ev.var (i := 0) rfl rfl rfl) rfl fnrgb_to_hls (fun _ => rfl)) (fun _ => rfl) (fun env h => by cases env; cases h; rfl))
  (Ex.cons (St.ret (Ev.call (.glob rfl rfl) rfl (EvL.cons (Ev.bin (Ev.var (i := 1) rfl rfl rfl) Ev.fltc addOk) (EvL.cons (Ev.bin Ev.fltc (Ev.var (i := 2) rfl rfl rfl) subOk) (EvL.cons (Ev.var (i := 3) rfl rfl rfl) EvL.nil (fun _ => rfl)) (fun _ => rfl)) (fun _ => rfl)) (.kept rfl) fnhls_to_rgb (fun _ => rfl)))
  Ex.nil))
  (bindsLen1 fun a0 => rfl) ⟨_, rfl⟩ rfl rfl (by decide) (locs_ (by decide)) (noFree (by decide)) rfl rfl rfl

noncomputable def B_law_takes_none : List D → Option Out :=
  (seqX (forX none (Tg.one 2) (un1 itemsOf (getv 1)) (seqX (iteX (un1 trB (callE F_ellipsis_match (consE (getv 0) (consE (getv 2) (fun _ => some []))))) (seqX (retX none (fun _ => some (D.bool false)))
  (fun ρ => some (Out.nxt ρ))) (fun ρ => some (Out.nxt ρ)))
  (fun ρ => some (Out.nxt ρ))))
  (seqX (retX none (fun _ => some (D.bool true)))
  (fun ρ => some (Out.nxt ρ))))
noncomputable def F_law_takes_none : List D → Option D := fnF 2 1 B_law_takes_none
theorem fn_law_takes_none {w : World} {mg mb : Str → Option Value} {n : Nat} : CallOk (cx w mg mb) (n + 2) (.ref 270) F_law_takes_none :=
  fn_ok (n := n + 1) (vars := ["form", "strangers", "word"]) (ns := ["form", "strangers"]) (o' := none) (f := B_law_takes_none) 2 1 rfl rfl rfl rfl rfl rfl rfl
  (Ex.cons (St.for (TgtOk.one ⟨rfl, .inl rfl, by decide⟩) (ItE.name (Ev.var (i := 1) rfl rfl rfl)) (Ex.cons (St.ite (Te.val (Ev.call (.glob rfl rfl) rfl (EvL.cons (Ev.var (i := 0) rfl rfl rfl) (EvL.cons (Ev.var (i := 2) rfl rfl rfl) EvL.nil (fun _ => rfl)) (fun _ => rfl)) (.kept rfl) fn_ellipsis_match (fun _ => rfl)) trOk (fun _ _ => rfl)) (Ex.cons (St.ret Ev.boolc)
  Ex.nil) Ex.nil)
  Ex.nil) (fun _ _ => rfl))
  (Ex.cons (St.ret Ev.boolc)
  Ex.nil))
  (bindsLen2 fun a0 a1 => rfl) ⟨_, rfl⟩ rfl rfl (by decide) (locs_ (by decide)) (noFree (by decide)) rfl rfl rfl

noncomputable def B_law_weight : List D → Option Out :=
  (seqX (asgX none 2 (fun _ => some (D.int 0)))
  (seqX (forX none (Tg.one 3) (un1 itemsOf (getv 1)) (seqX (augX none 2 iaddF (bin2 mulF (bin2 mulF (bin2 itmF (getv 0) (bin2 andF (getv 3) (fun _ => some (D.int 1)))) (bin2 itmF (getv 0) (bin2 addF (fun _ => some (D.int 2)) (bin2 andF (bin2 shrF (getv 3) (fun _ => some (D.int 1))) (fun _ => some (D.int 1)))))) (bin2 itmF (getv 0) (bin2 addF (fun _ => some (D.int 4)) (bin2 shrF (getv 3) (fun _ => some (D.int 2)))))))
  (fun ρ => some (Out.nxt ρ))))
  (seqX (retX none (getv 2))
  (fun ρ => some (Out.nxt ρ)))))
noncomputable def F_law_weight : List D → Option D := fnF 2 2 B_law_weight
theorem fn_law_weight {w : World} {mg mb : Str → Option Value} {n : Nat} : CallOk (cx w mg mb) (n + 1) (.ref 318) F_law_weight :=
  fn_ok (n := n + 0) (vars := ["weights", "points", "total", "x"]) (ns := ["weights", "points"]) (o' := none) (f := B_law_weight) 2 2 rfl rfl rfl rfl rfl rfl rfl
  (Ex.cons (St.asg ⟨rfl, .inl rfl, by decide⟩ Ev.int (fun env h => by cases env; cases h; rfl))
  (Ex.cons (St.for (TgtOk.one ⟨rfl, .inl rfl, by decide⟩) (ItE.name (Ev.var (i := 1) rfl rfl rfl)) (Ex.cons (St.aug ⟨rfl, .inl rfl, by decide⟩ rfl (Ev.bin (Ev.bin (Ev.item (Ev.var (i := 0) rfl rfl rfl) (Ev.bin (Ev.var (i := 3) rfl rfl rfl) Ev.int andOk) (fun _ _ => ⟨_, rfl⟩)) (Ev.item (Ev.var (i := 0) rfl rfl rfl) (Ev.bin Ev.int (Ev.bin (Ev.bin (Ev.var (i := 3) rfl rfl rfl) Ev.int shrOk) Ev.int andOk) addOk) (fun _ _ => ⟨_, rfl⟩)) mulOk) (Ev.item (Ev.var (i := 0) rfl rfl rfl) (Ev.bin Ev.int (Ev.bin (Ev.var (i := 3) rfl rfl rfl) Ev.int shrOk) addOk) (fun _ _ => ⟨_, rfl⟩)) mulOk) iaddOk)
  Ex.nil) (fun _ _ => rfl))
  (Ex.cons (St.ret (Ev.var (i := 2) rfl rfl rfl))
  Ex.nil)))
  (bindsLen2 fun a0 a1 => rfl) ⟨_, rfl⟩ rfl rfl (by decide) (locs_ (by decide)) (noFree (by decide)) rfl rfl rfl

end Mine

/-! UT2 -/
namespace Mine
noncomputable def B_law_whole : List D → Option Out :=
  (seqX (asgCompX 3 0 (compD none [1, 2] (un1 itemsOf (getv 0)) (cmpT eqF (bin2 andF (bin2 xorF (getv 1) (getv 0)) (getv 2)) (fun _ => some (D.int 0))) (getv 0)))
  (seqX (retX none (bin2 eqF (callE lenF (consE (getv 3) (fun _ => some []))) (bin2 itmF (tupE (consE (fun _ => some (D.int 1)) (consE (fun _ => some (D.int 2)) (consE (fun _ => some (D.int 2)) (consE (fun _ => some (D.int 4)) (consE (fun _ => some (D.int 2)) (consE (fun _ => some (D.int 4)) (consE (fun _ => some (D.int 4)) (consE (fun _ => some (D.int 8)) (fun _ => some [])))))))))) (bin2 subF (fun _ => some (D.int 7)) (getv 2)))))
  (fun ρ => some (Out.nxt ρ))))
noncomputable def F_law_whole : List D → Option D := fnF 3 1 B_law_whole
theorem fn_law_whole {w : World} {mg mb : Str → Option Value} {n : Nat} : CallOk (cx w mg mb) (n + 1) (.ref 299) F_law_whole :=
  fn_ok (n := n + 0) (vars := ["own", "x", "kept", "alike"]) (ns := ["own", "x", "kept"]) (o' := none) (f := B_law_whole) 3 1 rfl rfl rfl rfl rfl rfl rfl
  (Ex.cons (St.asgComp ⟨rfl, .inl rfl, by decide⟩ (tns := ["y"]) (cns := ["x", "kept"]) (caps := [1, 2]) (ItE.name (Ev.var (i := 0) rfl rfl rfl)) CTgt.one (Tests.one (Te.cmp (Ev.bin (Ev.bin (Ev.cell (i := 1) rfl rfl rfl) (Ev.var (i := 0) rfl rfl rfl) xorOk) (Ev.cell (i := 2) rfl rfl rfl) andOk) Ev.int eqOk rfl)) (Ev.var (i := 0) rfl rfl rfl) rfl (fun _ _ => rfl) (fun env h => by cases env; cases h; rfl))
  (Ex.cons (St.ret (Ev.cmp (Ev.call (.boot rfl rfl boot_len (by decide)) rfl (EvL.cons (Ev.var (i := 3) rfl rfl rfl) EvL.nil (fun _ => rfl)) (.builtin _) lenOk (fun _ => rfl)) (Ev.item (Ev.tup (EvL.cons Ev.int (EvL.cons Ev.int (EvL.cons Ev.int (EvL.cons Ev.int (EvL.cons Ev.int (EvL.cons Ev.int (EvL.cons Ev.int (EvL.cons Ev.int EvL.nil (fun _ => rfl)) (fun _ => rfl)) (fun _ => rfl)) (fun _ => rfl)) (fun _ => rfl)) (fun _ => rfl)) (fun _ => rfl)) (fun _ => rfl))) (Ev.bin Ev.int (Ev.cell (i := 2) rfl rfl rfl) subOk) (fun _ _ => ⟨_, rfl⟩)) eqOk rfl))
  Ex.nil))
  (bindsLen3 fun a0 a1 a2 => rfl) ⟨_, rfl⟩ rfl rfl (by decide) (locs_ (by decide)) (noFree (by decide)) rfl rfl rfl

noncomputable def B_law_apart : List D → Option Out :=
  (seqX (forX none (Tg.one 3) (un1 itemsOf (callE rngF (consE (fun _ => some (D.int 8)) (fun _ => some [])))) (seqX (iteX (andT (un1 trB (callE F_law_whole (consE (getv 0) (consE (getv 2) (consE (getv 3) (fun _ => some [])))))) (andT (un1 trB (callE F_law_whole (consE (getv 1) (consE (getv 2) (consE (bin2 subF (fun _ => some (D.int 7)) (getv 3)) (fun _ => some [])))))) (fun _ => some true))) (seqX (retX none (fun _ => some (D.bool true)))
  (fun ρ => some (Out.nxt ρ))) (fun ρ => some (Out.nxt ρ)))
  (fun ρ => some (Out.nxt ρ))))
  (seqX (retX none (fun _ => some (D.bool false)))
  (fun ρ => some (Out.nxt ρ))))
noncomputable def F_law_apart : List D → Option D := fnF 3 1 B_law_apart
theorem fn_law_apart {w : World} {mg mb : Str → Option Value} {n : Nat} : CallOk (cx w mg mb) (n + 2) (.ref 306) F_law_apart :=
  fn_ok (n := n + 1) (vars := ["mine", "yours", "x", "kept"]) (ns := ["mine", "yours", "x"]) (o' := none) (f := B_law_apart) 3 1 rfl rfl rfl rfl rfl rfl rfl
  (Ex.cons (St.for (TgtOk.one ⟨rfl, .inl rfl, by decide⟩) (ItE.name (Ev.call (.boot rfl rfl boot_range (by decide)) rfl (EvL.cons Ev.int EvL.nil (fun _ => rfl)) (.type _) rngOk (fun _ => rfl))) (Ex.cons (St.ite (Te.bool (TeAll.and_cons (Te.val (Ev.call (.glob rfl rfl) rfl (EvL.cons (Ev.var (i := 0) rfl rfl rfl) (EvL.cons (Ev.var (i := 2) rfl rfl rfl) (EvL.cons (Ev.var (i := 3) rfl rfl rfl) EvL.nil (fun _ => rfl)) (fun _ => rfl)) (fun _ => rfl)) (.kept rfl) fn_law_whole (fun _ => rfl)) trOk (fun _ _ => rfl)) (TeAll.and_cons (Te.val (Ev.call (.glob rfl rfl) rfl (EvL.cons (Ev.var (i := 1) rfl rfl rfl) (EvL.cons (Ev.var (i := 2) rfl rfl rfl) (EvL.cons (Ev.bin Ev.int (Ev.var (i := 3) rfl rfl rfl) subOk) EvL.nil (fun _ => rfl)) (fun _ => rfl)) (fun _ => rfl)) (.kept rfl) fn_law_whole (fun _ => rfl)) trOk (fun _ _ => rfl)) TeAll.and_nil))) (Ex.cons (St.ret Ev.boolc)
  Ex.nil) Ex.nil)
  Ex.nil) (fun _ _ => rfl))
  (Ex.cons (St.ret Ev.boolc)
  Ex.nil))
  (bindsLen3 fun a0 a1 a2 => rfl) ⟨_, rfl⟩ rfl rfl (by decide) (locs_ (by decide)) (noFree (by decide)) rfl rfl rfl

noncomputable def B_law_plain : List D → Option Out :=
  (seqX (retX none (compF none [0, 1] (un1 itemsOf (callE rngF (consE (fun _ => some (D.int 8)) (fun _ => some [])))) (andT (cmpT inF (getv 0) (getv 1)) (andT (cmpT inF (getv 0) (getv 2)) (andT (un1 trB (callE F_law_apart (consE (getv 1) (consE (getv 2) (consE (getv 0) (fun _ => some [])))))) (fun _ => some true)))) (getv 0)))
  (fun ρ => some (Out.nxt ρ)))
noncomputable def F_law_plain : List D → Option D := fnF 2 0 B_law_plain
theorem fn_law_plain {w : World} {mg mb : Str → Option Value} {n : Nat} : CallOk (cx w mg mb) (n + 3) (.ref 311) F_law_plain :=
  fn_ok (n := n + 2) (vars := ["mine", "yours"]) (ns := ["mine", "yours"]) (o' := none) (f := B_law_plain) 2 0 rfl rfl rfl rfl rfl rfl rfl
  (Ex.cons (St.ret (Ev.comp (tns := ["x"]) (cns := ["mine", "yours"]) (caps := [0, 1]) (ItE.name (Ev.call (.boot rfl rfl boot_range (by decide)) rfl (EvL.cons Ev.int EvL.nil (fun _ => rfl)) (.type _) rngOk (fun _ => rfl))) CTgt.one (Tests.one (Te.bool (TeAll.and_cons (Te.cmp (Ev.var (i := 0) rfl rfl rfl) (Ev.cell (i := 1) rfl rfl rfl) inOk rfl) (TeAll.and_cons (Te.cmp (Ev.var (i := 0) rfl rfl rfl) (Ev.cell (i := 2) rfl rfl rfl) inOk rfl) (TeAll.and_cons (Te.val (Ev.call (.glob rfl rfl) rfl (EvL.cons (Ev.cell (i := 1) rfl rfl rfl) (EvL.cons (Ev.cell (i := 2) rfl rfl rfl) (EvL.cons (Ev.var (i := 0) rfl rfl rfl) EvL.nil (fun _ => rfl)) (fun _ => rfl)) (fun _ => rfl)) (.kept rfl) fn_law_apart (fun _ => rfl)) trOk (fun _ _ => rfl)) TeAll.and_nil))))) (Ev.var (i := 0) rfl rfl rfl) rfl (fun _ _ => rfl)))
  Ex.nil)
  (bindsLen2 fun a0 a1 => rfl) ⟨_, rfl⟩ rfl rfl (by decide) (locs_ (by decide)) (noFree (by decide)) rfl rfl rfl

noncomputable def B_law_grounds : List D → Option Out :=
  (seqX (retX none (compF none [1] (un1 valsF (getv 0)) (un1 trB (callE F_law_takes_none (consE (getv 0) (consE (getv 1) (fun _ => some []))))) (getv 0)))
  (fun ρ => some (Out.nxt ρ)))
noncomputable def F_law_grounds : List D → Option D := fnF 2 0 B_law_grounds
theorem fn_law_grounds {w : World} {mg mb : Str → Option Value} {n : Nat} : CallOk (cx w mg mb) (n + 3) (.ref 275) F_law_grounds :=
  fn_ok (n := n + 2) (vars := ["forms", "strangers"]) (ns := ["forms", "strangers"]) (o' := none) (f := B_law_grounds) 2 0 rfl rfl rfl rfl rfl rfl rfl
  (Ex.cons (St.ret (Ev.comp (tns := ["form"]) (cns := ["strangers"]) (caps := [1]) (ItE.values (Ev.var (i := 0) rfl rfl rfl) (fun _ => ⟨_, rfl⟩)) CTgt.one (Tests.one (Te.val (Ev.call (.glob rfl rfl) rfl (EvL.cons (Ev.var (i := 0) rfl rfl rfl) (EvL.cons (Ev.cell (i := 1) rfl rfl rfl) EvL.nil (fun _ => rfl)) (fun _ => rfl)) (.kept rfl) fn_law_takes_none (fun _ => rfl)) trOk (fun _ _ => rfl))) (Ev.var (i := 0) rfl rfl rfl) rfl (fun _ _ => rfl)))
  Ex.nil)
  (bindsLen2 fun a0 a1 => rfl) ⟨_, rfl⟩ rfl rfl (by decide) (locs_ (by decide)) (noFree (by decide)) rfl rfl rfl

noncomputable def B_law_forms : List D → Option Out :=
  (seqX (dictX 0)
  (seqX (forX (some 0) (Tg.one 1) (un1 itemsOf (callE rngF (consE (fun _ => some (D.int 8)) (fun _ => some [])))) (seqX (forX (some 0) (Tg.one 2) (un1 itemsOf (callE rngF (consE (fun _ => some (D.int 8)) (fun _ => some [])))) (seqX (iteX (cmpT eqF (bin2 andF (getv 2) (getv 1)) (getv 2)) (seqX (asgX (some 0) 3 (fun _ => some (D.str "")))
  (seqX (forX (some 0) (Tg.many [4, 5]) (un1 itemsTup (tupE (consE (tupE (consE (fun _ => some (D.int 1)) (consE (fun _ => some (D.str "r")) (fun _ => some [])))) (consE (tupE (consE (fun _ => some (D.int 2)) (consE (fun _ => some (D.str "g")) (fun _ => some [])))) (consE (tupE (consE (fun _ => some (D.int 4)) (consE (fun _ => some (D.str "b")) (fun _ => some [])))) (fun _ => some [])))))) (seqX (iteX (cmpT eqF (bin2 andF (getv 1) (getv 4)) (fun _ => some (D.int 0))) (seqX (augX (some 0) 3 iaddF (iteE (un1 trB (methE endsF (getv 3) (consE (fun _ => some (D.str ".")) (fun _ => some [])))) (fun _ => some (D.str "")) (fun _ => some (D.str "..."))))
  (fun ρ => some (Out.nxt ρ))) (seqX (augX (some 0) 3 iaddF (iteE (un1 trB (bin2 andF (getv 2) (getv 4))) (methE upperF (getv 5) (fun _ => some [])) (getv 5)))
  (fun ρ => some (Out.nxt ρ))))
  (fun ρ => some (Out.nxt ρ))))
  (seqX (putX 0 (bin2 addF (bin2 mulF (fun _ => some (D.int 8)) (getv 1)) (getv 2)) (getv 3))
  (fun ρ => some (Out.nxt ρ))))) (fun ρ => some (Out.nxt ρ)))
  (fun ρ => some (Out.nxt ρ))))
  (fun ρ => some (Out.nxt ρ))))
  (seqX (retX none (getv 0))
  (fun ρ => some (Out.nxt ρ)))))
noncomputable def F_law_forms : List D → Option D := fnF 0 6 B_law_forms
theorem fn_law_forms {w : World} {mg mb : Str → Option Value} {n : Nat} : CallOk (cx w mg mb) (n + 1) (.ref 263) F_law_forms :=
  fn_ok (n := n + 0) (vars := ["forms", "kept", "lamps", "form", "bit", "letter"]) (ns := []) (o' := (some 0)) (f := B_law_forms) 0 6 rfl rfl rfl rfl rfl rfl rfl
  (Ex.cons (St.ownDict ⟨rfl, .inl rfl, by decide⟩ rfl)
  (Ex.cons (St.for (TgtOk.one ⟨rfl, .inl rfl, by decide⟩) (ItE.name (Ev.call (.boot rfl rfl boot_range (by decide)) rfl (EvL.cons Ev.int EvL.nil (fun _ => rfl)) (.type _) rngOk (fun _ => rfl))) (Ex.cons (St.for (TgtOk.one ⟨rfl, .inl rfl, by decide⟩) (ItE.name (Ev.call (.boot rfl rfl boot_range (by decide)) rfl (EvL.cons Ev.int EvL.nil (fun _ => rfl)) (.type _) rngOk (fun _ => rfl))) (Ex.cons (St.ite (Te.cmp (Ev.bin (Ev.var (i := 2) rfl rfl rfl) (Ev.var (i := 1) rfl rfl rfl) andOk) (Ev.var (i := 2) rfl rfl rfl) eqOk rfl) (Ex.cons (St.asg ⟨rfl, .inl rfl, by decide⟩ Ev.strc (fun env h => by cases env; cases h; rfl))
  (Ex.cons (St.for (TgtOk.many (NL.cons ⟨rfl, .inl rfl, by decide⟩ (NL.cons ⟨rfl, .inl rfl, by decide⟩ NL.nil))) (ItE.pair (Ev.tup (EvL.cons (Ev.tup (EvL.cons Ev.int (EvL.cons Ev.strc EvL.nil (fun _ => rfl)) (fun _ => rfl))) (EvL.cons (Ev.tup (EvL.cons Ev.int (EvL.cons Ev.strc EvL.nil (fun _ => rfl)) (fun _ => rfl))) (EvL.cons (Ev.tup (EvL.cons Ev.int (EvL.cons Ev.strc EvL.nil (fun _ => rfl)) (fun _ => rfl))) EvL.nil (fun _ => rfl)) (fun _ => rfl)) (fun _ => rfl)))) (Ex.cons (St.ite (Te.cmp (Ev.bin (Ev.var (i := 1) rfl rfl rfl) (Ev.var (i := 4) rfl rfl rfl) andOk) Ev.int eqOk rfl) (Ex.cons (St.aug ⟨rfl, .inl rfl, by decide⟩ rfl (Ev.ite (Te.val (Ev.meth m_endswith endsOk hF_endsF (Ev.var (i := 3) rfl rfl rfl) (EvL.cons Ev.strc EvL.nil (fun _ => rfl)) (fun _ => rfl) (fun _ => ⟨_, rfl⟩)) trOk (fun _ _ => rfl)) Ev.strc Ev.strc) iaddOk)
  Ex.nil) (Ex.cons (St.aug ⟨rfl, .inl rfl, by decide⟩ rfl (Ev.ite (Te.val (Ev.bin (Ev.var (i := 2) rfl rfl rfl) (Ev.var (i := 4) rfl rfl rfl) andOk) trOk (fun _ _ => rfl)) (Ev.meth m_upper upperOk hF_upperF (Ev.var (i := 5) rfl rfl rfl) EvL.nil (fun _ => rfl) (fun _ => ⟨_, rfl⟩)) (Ev.var (i := 5) rfl rfl rfl)) iaddOk)
  Ex.nil))
  Ex.nil) (fun _ _ => rfl))
  (Ex.cons (St.put rfl rfl rfl (Ev.var (i := 3) rfl rfl rfl) (Ev.bin (Ev.bin Ev.int (Ev.var (i := 1) rfl rfl rfl) mulOk) (Ev.var (i := 2) rfl rfl rfl) addOk) (fun _ => rfl))
  Ex.nil))) Ex.nil)
  Ex.nil) (fun _ _ => rfl))
  Ex.nil) (fun _ _ => rfl))
  (Ex.cons (Does.freeze (St.ret (Ev.var (i := 0) rfl rfl rfl)))
  Ex.nil)))
  (bindsLen0 rfl) ⟨_, rfl⟩ rfl rfl (by decide) (locs_ (by decide)) (noFree (by decide)) rfl rfl rfl

noncomputable def B_law_box : List D → Option Out :=
  (seqX (ownX 3 (fun _ => some []))
  (seqX (forX (some 3) (Tg.one 4) (un1 itemsOf (callE rngF (consE (fun _ => some (D.int 8)) (fun _ => some [])))) (seqX (forX (some 3) (Tg.one 5) (un1 itemsOf (callE rngF (consE (fun _ => some (D.int 8)) (fun _ => some [])))) (seqX (asgX (some 3) 6 (bin2 subF (fun _ => some (D.int 7)) (getv 5)))
  (seqX (iteX (andT (cmpT inF (bin2 itmF (getv 0) (bin2 addF (bin2 mulF (fun _ => some (D.int 8)) (getv 5)) (bin2 andF (getv 4) (getv 5)))) (bin2 itmF (getv 1) (getv 5))) (andT (cmpT inF (bin2 itmF (getv 0) (bin2 addF (bin2 mulF (fun _ => some (D.int 8)) (getv 6)) (bin2 andF (getv 4) (getv 6)))) (bin2 itmF (getv 2) (getv 6))) (fun _ => some true))) (seqX (pushX 3 (getv 4))
  (seqX (fun ρ => some (Out.brk ρ))
  (fun ρ => some (Out.nxt ρ)))) (fun ρ => some (Out.nxt ρ)))
  (fun ρ => some (Out.nxt ρ)))))
  (fun ρ => some (Out.nxt ρ))))
  (seqX (retX none (getv 3))
  (fun ρ => some (Out.nxt ρ)))))
noncomputable def F_law_box : List D → Option D := fnF 3 4 B_law_box
theorem fn_law_box {w : World} {mg mb : Str → Option Value} {n : Nat} : CallOk (cx w mg mb) (n + 1) (.ref 287) F_law_box :=
  fn_ok (n := n + 0) (vars := ["forms", "mine", "yours", "box", "x", "kept", "rest"]) (ns := ["forms", "mine", "yours"]) (o' := (some 3)) (f := B_law_box) 3 4 rfl rfl rfl rfl rfl rfl rfl
  (Ex.cons (St.fresh ⟨rfl, .inl rfl, by decide⟩ rfl EvF.nil (fun env h => by cases env; cases h; rfl))
  (Ex.cons (St.for (TgtOk.one ⟨rfl, .inl rfl, by decide⟩) (ItE.name (Ev.call (.boot rfl rfl boot_range (by decide)) rfl (EvL.cons Ev.int EvL.nil (fun _ => rfl)) (.type _) rngOk (fun _ => rfl))) (Ex.cons (St.for (TgtOk.one ⟨rfl, .inl rfl, by decide⟩) (ItE.name (Ev.call (.boot rfl rfl boot_range (by decide)) rfl (EvL.cons Ev.int EvL.nil (fun _ => rfl)) (.type _) rngOk (fun _ => rfl))) (Ex.cons (St.asg ⟨rfl, .inl rfl, by decide⟩ (Ev.bin Ev.int (Ev.var (i := 5) rfl rfl rfl) subOk) (fun env h => by cases env; cases h; rfl))
  (Ex.cons (St.ite (Te.bool (TeAll.and_cons (Te.cmp (Ev.item (Ev.var (i := 0) rfl rfl rfl) (Ev.bin (Ev.bin Ev.int (Ev.var (i := 5) rfl rfl rfl) mulOk) (Ev.bin (Ev.var (i := 4) rfl rfl rfl) (Ev.var (i := 5) rfl rfl rfl) andOk) addOk) (fun _ _ => ⟨_, rfl⟩)) (Ev.item (Ev.var (i := 1) rfl rfl rfl) (Ev.var (i := 5) rfl rfl rfl) (fun _ _ => ⟨_, rfl⟩)) inOk rfl) (TeAll.and_cons (Te.cmp (Ev.item (Ev.var (i := 0) rfl rfl rfl) (Ev.bin (Ev.bin Ev.int (Ev.var (i := 6) rfl rfl rfl) mulOk) (Ev.bin (Ev.var (i := 4) rfl rfl rfl) (Ev.var (i := 6) rfl rfl rfl) andOk) addOk) (fun _ _ => ⟨_, rfl⟩)) (Ev.item (Ev.var (i := 2) rfl rfl rfl) (Ev.var (i := 6) rfl rfl rfl) (fun _ _ => ⟨_, rfl⟩)) inOk rfl) TeAll.and_nil))) (Ex.cons (St.append rfl rfl rfl (Ev.var (i := 4) rfl rfl rfl) (fun _ => rfl) (fun _ => ⟨_, rfl⟩) (fun env h => by cases env; cases h; rfl) (fun _ => rfl))
  (Ex.cons St.brk
  Ex.nil)) Ex.nil)
  Ex.nil)) (fun _ _ => rfl))
  Ex.nil) (fun _ _ => rfl))
  (Ex.cons (Does.freeze (St.ret (Ev.var (i := 3) rfl rfl rfl)))
  Ex.nil)))
  (bindsLen3 fun a0 a1 a2 => rfl) ⟨_, rfl⟩ rfl rfl (by decide) (locs_ (by decide)) (noFree (by decide)) rfl rfl rfl

end Mine

/-! UT3 -/
namespace Mine
noncomputable def B_law_word : List D → Option Out :=
  (seqX (asgX none 1 (fun _ => some (D.str "")))
  (seqX (forX none (Tg.many [2, 3]) (zipStrE "rgb" (getv 0)) (seqX (augX none 1 iaddF (iteE (cmpT gtF (getv 2) (fun _ => some (D.flt 4602678819172646912))) (methE upperF (getv 3) (fun _ => some [])) (getv 3)))
  (fun ρ => some (Out.nxt ρ))))
  (seqX (retX none (getv 1))
  (fun ρ => some (Out.nxt ρ)))))
noncomputable def F_law_word : List D → Option D := fnF 1 3 B_law_word
theorem fn_law_word {w : World} {mg mb : Str → Option Value} {n : Nat} : CallOk (cx w mg mb) (n + 1) (.ref 256) F_law_word :=
  fn_ok (n := n + 0) (vars := ["colour", "word", "part", "letter"]) (ns := ["colour"]) (o' := none) (f := B_law_word) 1 3 rfl rfl rfl rfl rfl rfl rfl
  (Ex.cons (St.asg ⟨rfl, .inl rfl, by decide⟩ Ev.strc (fun env h => by cases env; cases h; rfl))
  (Ex.cons (St.for (TgtOk.many (NL.cons ⟨rfl, .inl rfl, by decide⟩ (NL.cons ⟨rfl, .inl rfl, by decide⟩ NL.nil))) (ItE.zipStr (Ev.var (i := 0) rfl rfl rfl) (.boot rfl rfl boot_zip (by decide)) rfl (fun _ => rfl) (by decide +kernel)) (Ex.cons (St.aug ⟨rfl, .inl rfl, by decide⟩ rfl (Ev.ite (Te.cmp (Ev.var (i := 2) rfl rfl rfl) Ev.fltc gtOk rfl) (Ev.meth m_upper upperOk hF_upperF (Ev.var (i := 3) rfl rfl rfl) EvL.nil (fun _ => rfl) (fun _ => ⟨_, rfl⟩)) (Ev.var (i := 3) rfl rfl rfl)) iaddOk)
  Ex.nil) (fun _ _ => rfl))
  (Ex.cons (St.ret (Ev.var (i := 1) rfl rfl rfl))
  Ex.nil)))
  (bindsLen1 fun a0 => rfl) ⟨_, rfl⟩ rfl rfl (by decide) (locs_ (by decide)) (noFree (by decide)) rfl rfl rfl

noncomputable def B_law_facing : List D → Option Out :=
  (seqX (ownX 3 (fun _ => some []))
  (seqX (forX (some 3) (Tg.one 4) (un1 itemsOf (getv 0)) (seqX (asgX (some 3) 5 (callE F_law_word (consE (getv 4) (fun _ => some []))))
  (seqX (iteX (cmpT inF (getv 5) (getv 1)) (seqX (asgX (some 3) 6 (callE F_law_word (consE (callE F_law_negative (consE (getv 4) (fun _ => some []))) (fun _ => some []))))
  (seqX (iteX (cmpT inF (getv 6) (getv 2)) (seqX (pushX 3 (tupE (consE (getv 5) (consE (getv 6) (fun _ => some [])))))
  (fun ρ => some (Out.nxt ρ))) (fun ρ => some (Out.nxt ρ)))
  (fun ρ => some (Out.nxt ρ)))) (fun ρ => some (Out.nxt ρ)))
  (fun ρ => some (Out.nxt ρ)))))
  (seqX (retX none (getv 3))
  (fun ρ => some (Out.nxt ρ)))))
noncomputable def F_law_facing : List D → Option D := fnF 3 4 B_law_facing
theorem fn_law_facing {w : World} {mg mb : Str → Option Value} {n : Nat} : CallOk (cx w mg mb) (n + 4) (.ref 294) F_law_facing :=
  fn_ok (n := n + 3) (vars := ["colours", "mine", "yours", "facing", "colour", "word", "other"]) (ns := ["colours", "mine", "yours"]) (o' := (some 3)) (f := B_law_facing) 3 4 rfl rfl rfl rfl rfl rfl rfl
  (Ex.cons (St.fresh ⟨rfl, .inl rfl, by decide⟩ rfl EvF.nil (fun env h => by cases env; cases h; rfl))
  (Ex.cons (St.for (TgtOk.one ⟨rfl, .inl rfl, by decide⟩) (ItE.name (Ev.var (i := 0) rfl rfl rfl)) (Ex.cons (St.asg ⟨rfl, .inl rfl, by decide⟩ (Ev.call (.glob rfl rfl) rfl (EvL.cons (Ev.var (i := 4) rfl rfl rfl) EvL.nil (fun _ => rfl)) (.kept rfl) fn_law_word (fun _ => rfl)) (fun env h => by cases env; cases h; rfl))
  (Ex.cons (St.ite (Te.cmp (Ev.var (i := 5) rfl rfl rfl) (Ev.var (i := 1) rfl rfl rfl) inOk rfl) (Ex.cons (St.asg ⟨rfl, .inl rfl, by decide⟩ (Ev.call (.glob rfl rfl) rfl (EvL.cons (Ev.call (.glob rfl rfl) rfl (EvL.cons (Ev.var (i := 4) rfl rfl rfl) EvL.nil (fun _ => rfl)) (.kept rfl) fn_law_negative (fun _ => rfl)) EvL.nil (fun _ => rfl)) (.kept rfl) fn_law_word (fun _ => rfl)) (fun env h => by cases env; cases h; rfl))
  (Ex.cons (St.ite (Te.cmp (Ev.var (i := 6) rfl rfl rfl) (Ev.var (i := 2) rfl rfl rfl) inOk rfl) (Ex.cons (St.append rfl rfl rfl (Ev.tup (EvL.cons (Ev.var (i := 5) rfl rfl rfl) (EvL.cons (Ev.var (i := 6) rfl rfl rfl) EvL.nil (fun _ => rfl)) (fun _ => rfl))) (fun _ => rfl) (fun _ => ⟨_, rfl⟩) (fun env h => by cases env; cases h; rfl) (fun _ => rfl))
  Ex.nil) Ex.nil)
  Ex.nil)) Ex.nil)
  Ex.nil)) (fun _ _ => rfl))
  (Ex.cons (Does.freeze (St.ret (Ev.var (i := 3) rfl rfl rfl)))
  Ex.nil)))
  (bindsLen3 fun a0 a1 a2 => rfl) ⟨_, rfl⟩ rfl rfl (by decide) (locs_ (by decide)) (noFree (by decide)) rfl rfl rfl

end Mine

/-! UHdr1 -/
namespace Mine

/-! texts without the signs that a header may not hold: what the search answers, told by running the machine -/
noncomputable def driveP : Nat → PySem.Sre.M → Option PySem.Sre.M
  | 0, _ => none
  | k + 1, m => if (m.runFor Builtin.Re.reTurnSteps).outcome.isSome then some (m.runFor Builtin.Re.reTurnSteps) else driveP k (m.runFor Builtin.Re.reTurnSteps)
noncomputable def startM (code : Array Nat) (x : Str) : PySem.Sre.M := PySem.Sre.forSearch code x.cps 0 (min (0 : Int).toNat x.cps.size) (min ((2 ^ 63 - 1 : Int)).toNat x.cps.size) false
noncomputable def failsB (code : Array Nat) (x : Str) : Bool := match driveP 40 (startM code x) with
  | some m => match m.outcome with
    | some .failed => true
    | _ => false
  | none => false

section
variable {M : Model} {A : Around} {E : Value → Shared → Prop} {s : Shared}
theorem drive_run : ∀ (k t : Nat) (m m' : PySem.Sre.M) {Q : PySem.Sre.M → Shared → Prop}, k ≤ t → driveP k m = some m' → Q m' s → wpAny M A (Builtin.Re.reDrive t m) Q E s
  | 0, _, _, _, _, _, e, _ => by cases e
  | k + 1, 0, _, _, _, h, _, _ => by omega
  | k + 1, t + 1, m, m', Q, h, e, q => by
    unfold driveP at e
    show wpAny M A (if (m.runFor Builtin.Re.reTurnSteps).outcome.isSome then pure (m.runFor Builtin.Re.reTurnSteps) else do rule "sre.turn"; Builtin.Re.reDrive t (m.runFor Builtin.Re.reTurnSteps)) Q E s
    split at e
    · rename_i hc
      cases e
      rw [if_pos hc]
      exact wpAny_pure q
    · rename_i hc
      rw [if_neg hc]
      exact wpAny_bind (wpAny_rule (drive_run k t _ m' (by omega) e q))

theorem rules_run {l : List Nat} {f : Nat → PUnit → Sem (ForInStep PUnit)} {Q : PUnit → Shared → Prop} (hf : ∀ i ∈ l, ∀ (K : ForInStep PUnit → Shared → Prop), K (.yield ⟨⟩) s → wpAny M A (f i ⟨⟩) K E s) (q : Q ⟨⟩ s) : wpAny M A (forIn l ⟨⟩ f) Q E s := by
  induction l with
  | nil => exact wpAny_pure q
  | cons i l ih =>
    rw [List.forIn_cons]
    exact wpAny_bind (hf i List.mem_cons_self _ (ih fun j hj => hf j (List.mem_cons_of_mem _ hj)))

theorem end_run {m m' : PySem.Sre.M} {Q : Option PySem.Sre.M → Shared → Prop} (e : driveP 40 m = some m') (ho : m'.outcome = some .failed) (q : Q none s) : wpAny M A (Builtin.Re.reRunToEnd m) Q E s := by
  unfold Builtin.Re.reRunToEnd
  refine wpAny_bind (drive_run 40 (2 ^ 64) m m' (by decide) e ?_)
  refine wpAny_bind (rules_run (fun i _ K hK => ?_) ?_)
  · split
    · exact wpAny_bind (wpAny_rule (wpAny_pure hK))
    · exact wpAny_pure hK
  · rw [ho]; exact wpAny_pure q
end
end Mine

/-! UHdr2 -/
namespace Mine

structure PatIn (K : Frag) (a : Addr) (code : Array Nat) : Prop where
  obj : ∃ fs sl q cq dq items m sq, K.lookup a = some ⟨.type "re.Pattern", none, .fields fs, sl⟩ ∧ fs.getD 5 .none = .ref q ∧ K.lookup q = some ⟨cq, dq, .seq items m, sq⟩ ∧ (items.map Builtin.Re.reRawOf).map (·.toNat) = code ∧
    Builtin.Re.reRawNat (fs.getD 6 .none) = 0 ∧ Builtin.Re.reRawNat (fs.getD 2 .none) = 0

section
variable {c : Cx} {A : Around} {E : Value → Shared → Prop} {s : Shared}

theorem call_search {a : Addr} {code : Array Nat} {x : Str} {t : Tok} {Q : Value → Shared → Prop} (X : c.K.In s.heap) (hP : PatIn c.K a code) (hf : failsB code x = true) (q : Q .none s) :
    wpAny (model c.prog c.w) A (call (.builtin "re.Pattern.search") [.ref a, .str x t]) Q E s := by
  obtain ⟨fs, sl, aq, cq, dq, items, m, sq, h1, h2, h3, h4, h5, h6⟩ := hP.obj
  have ha := X _ _ h1
  have hq := X _ _ h3
  have hT : s.TypeIs (.ref a) "re.Pattern" := ⟨_, ha, rfl⟩
  refine wpAny_call_entry slot_pat_search hT entry_pat_search ?_ (args_pat_search _ _)
  unfold failsB at hf
  split at hf
  · rename_i m' hm
    split at hf
    · rename_i ho
      unfold Builtin.«re.Pattern.search» Builtin.Re.reTarget
      refine wpAny_bind ?_
      dsimp only
      refine wpAny_bind (wpAny_of_eq (show Builtin.Re.reNamed "re.Pattern.search" "search" ["string", "pos", "endpos"] 1 [Value.str x t] [] = pure [some (.str x t), none, none] from rfl) ?_)
      dsimp only
      refine wpAny_bind (wpAny_pure (wpAny_bind (wpAny_pure ?_)))
      refine wpAny_bind (wpAny_fieldsOf ha rfl ?_)
      refine wpAny_bind (wpAny_of_eq (show Builtin.Re.reTextOf (.str x t) = pure (x.cps, 0) from rfl) ?_)
      dsimp only
      rw [h5, if_neg (by decide), if_neg (by decide)]
      refine wpAny_bind (wpAny_of_eq (show Builtin.Re.reNoCollectionInside (.str x t) 0 = pure () from rfl) ?_)
      rw [h2]
      refine wpAny_bind (wpAny_bind (wpAny_seqItems hq rfl (wpAny_pure ?_)))
      dsimp only [Option.getD]
      refine wpAny_pure ?_
      rw [h4, h6]
      unfold Builtin.Re.reAnswer
      exact wpAny_bind (end_run hm ho (wpAny_pure ⟨_, rfl, q⟩))
    · cases hf
  · cases hf
end
end Mine

/-! UHdr3 -/
namespace Mine

section
variable {c : Cx} {n : Nat} {sc : Scope} {vars : List Str} {ob o : Option Nat}

theorem St.never {st : Stmt} {o' : Option Nat} : St c n sc vars ob o o' st (fun _ => none) := fun _ _ _ _ _ _ _ _ _ _ _ _ _ _ _ e _ => nomatch e

noncomputable def searchF (codes : Addr → Option (Array Nat)) (f g : List D → Option D) : List D → Option D := fun ρ => match f ρ with
  | some (.obj a) => match codes a with
    | some code => match g ρ with
      | some (.str x) => if failsB code x then some .none else none
      | _ => none
    | none => none
  | _ => none
theorem Ev.search {e1 e2 : Expr} {apos pos : Pos} {f g : List D → Option D} {codes : Addr → Option (Array Nat)} (h1 : Ev c n sc vars e1 f) (h2 : Ev c n sc vars e2 g) (hP : ∀ a code, codes a = some code → PatIn c.K a code)
    (hst : ∀ env, starEach [e2] env = (false, eval e2 env) :: starEach [] env)
    (he : ∀ env, ∃ pl, eval (.Call (.Attribute e1 "search" apos) [e2] [] pos) env = (do
      let ov ← eval e1 env
      standAt apos.atName
      let (f, first) ← holding [ov] (getMethod ov "search" pl)
      callWith pos f first (backTo pos (starEach [e2] env)) [])) : Ev c n sc vars (.Call (.Attribute e1 "search" apos) [e2] [] pos) (searchF codes f g) := by
  intro env A s gh ρ d Q E ok G hs V hp e k
  unfold searchF at e
  split at e
  · rename_i a ha
    split at e
    · rename_i code hcode
      split at e
      · rename_i x hx
        split at e
        · rename_i hf
          cases e
          obtain ⟨pl, he⟩ := he env
          have P := hP a code hcode
          refine MethodCall_ (pl := pl) ?_ he
          refine h1 env A s gh ρ _ _ E ok G hs V hp ha fun v g1h g1 t1 x1 r1 p1 => ?_
          obtain ⟨_, rfl⟩ := r1.inv
          obtain ⟨fs, sl, aq, cq, dq, items, m, sq, q1, _⟩ := P.obj
          have hO := (G.keeps x1.keep).k _ _ q1
          refine getMethod_builtin (T := "re.Pattern") ⟨_, hO, rfl⟩ plainAttrs_pat slot_pat_search type_pat_search (fun a' e => by cases e; exact ⟨_, hO, rfl⟩) ?_
          refine callWith_callee (c := c) (.builtin _) (by rw [hst]; rfl) ?_
          refine args_cons ?_ (hst env)
          refine h2 env A _ g1 ρ _ _ E ok (G.keeps x1.keep) x1.sub (V.ext x1) p1 hx fun w g2h g2 t2 x2 r2 p2 => ?_
          obtain ⟨_, rfl⟩ := r2.inv
          have x12 := x1.trans x2
          refine args_nil ⟨(G.keeps x12.keep).k, ?_⟩
          exact call_search (G.keeps x12.keep).k P hf (k _ _ _ _ x12 .none p2)
        · cases e
      · cases e
    · cases e
  · cases e

noncomputable def isStrT (f : List D → Option D) : List D → Option Bool := fun ρ => match f ρ with
  | some (.str _) => some true
  | _ => none
theorem Te.isStr {x y : Str} {e : Expr} {p1 p2 p3 p4 : Pos} {f : List D → Option D} (h : Ev c n sc vars e f) (hx : NameV c sc x (.type "type")) (hdx : (x == ("__debug__" : Str)) = false) (hy : NameV c sc y (.type "str")) (hdy : (y == ("__debug__" : Str)) = false)
    (hst : ∀ env, starEach [e] env = (false, eval e env) :: starEach [] env) : Te c n sc vars (.Compare (.Call (.Name x p1) [e] [] p2) [.Is] [.Name y p3] p4) (isStrT f) := by
  intro env A s gh ρ b Q E ok G hs V hp e' k
  unfold isStrT at e'
  split at e'
  · rename_i z hz
    cases e'
    refine wpAny_isTrue_Compare1 ?_ rfl
    refine wpAny_Call_Name_kw (evalName hx hdx G V ?_)
    refine callWith_callee (c := c) (.type _) (by rw [hst]; rfl) ?_
    refine args_cons ?_ (hst env)
    refine h env A s gh ρ _ _ E ok G hs V hp hz fun v h1 g1 t1 x1 r1 p1 => ?_
    obtain ⟨_, rfl⟩ := r1.inv
    refine args_nil ⟨(G.keeps x1.keep).k, ?_⟩
    refine call_type_of (Tx := "str") rfl (by decide) ?_
    refine evalName hy hdy (G.keeps x1.keep) (V.ext x1) ?_
    refine wpAny_is_plain rfl ?_
    have : (Value.type "str" == Value.type "str") = true := by simp
    rw [this]
    exact wpAny_truthy_bool (k _ _ _ x1 p1)
  · cases e'

/-- an attribute of a Headers that holds its list -/
noncomputable def insF : D → Option D
  | .ins (.obj a) => some (.obj a)
  | .ins (.lst l) => some (.lst l)
  | _ => none
structure HdrK (K : Frag) : Prop where
  ga : findIn K (.ref 231) "__getattribute__" = some (some (.builtin "object.__getattribute__"))
  gn : findIn K (.ref 231) "__getattr__" = some none
  own : ∀ (hh : Int) (tk : Tok) (m : Nat) (v : Value), findObj K 231 (some { cls := .type "dict", data := .dict #[⟨hh, .str "_headers" tk, v⟩] m }) "_headers" = some (.value v)
theorem Ev.hattr {x : Str} {p pos : Pos} {f : List D → Option D} (HK : HdrK c.K) (h : Ev c n sc vars (.Name x p) f) : Ev c n sc vars (.Attribute (.Name x p) "_headers" pos) (un1 insF f) := by
  intro env A s gh ρ d Q E ok G hs V hp e k
  obtain ⟨a, e1, e2⟩ := un1_some e
  refine Attribute_name (h env A s gh ρ a _ E ok G hs V hp e1 fun v h1 g1 t1 x1 r1 p1 => ?_)
  unfold insF at e2
  split at e2
  · cases e2
    obtain ⟨x, dx, hh, tk, m, v, rfl, q1, q2, r⟩ := r1.inv
    ·
      have I : InstAt h1 x (instObj 231 dx) 231 (some { cls := .type "dict", data := .dict #[⟨hh, .str "_headers" tk, v⟩] m }) := ⟨x1.sub _ _ q1, rfl, rfl, x1.sub _ _ q2⟩
      cases r
      exact get_value (s := { s with heap := h1, toks := t1 }) (G.keeps x1.keep).k I HK.ga (HK.own _ _ _ _) rfl (k _ _ _ _ x1 (.obj _) (Nat.succ_pos _))
  · cases e2
    obtain ⟨x, dx, hh, tk, m, v, rfl, q1, q2, r⟩ := r1.inv
    ·
      have I : InstAt h1 x (instObj 231 dx) 231 (some { cls := .type "dict", data := .dict #[⟨hh, .str "_headers" tk, v⟩] m }) := ⟨x1.sub _ _ q1, rfl, rfl, x1.sub _ _ q2⟩
      have r' := r
      cases r
      exact get_value (s := { s with heap := h1, toks := t1 }) (G.keeps x1.keep).k I HK.ga (HK.own _ _ _ _) rfl (k _ _ _ _ x1 r' (Nat.succ_pos _))
  · cases e2
end

theorem hdrK (P : Params) : HdrK (Mine.heap0 P) := ⟨rfl, rfl, fun _ _ _ _ => rfl⟩
noncomputable def codesOf (a : Addr) : Option (Array Nat) :=
  if a = 97 then some #[14, 10, 4, 1, 1, 22, 0, 31, 16, 127, 0, 13, 7, 22, 0, 31, 16, 127, 0, 1] else
  if a = 102 then some #[14, 14, 4, 1, 1, 9, 4294966783, 0, 0, 2147483648, 0, 0, 0, 0, 0, 13, 11, 9, 4294966783, 0, 0, 2147483648, 0, 0, 0, 0, 0, 1] else none
theorem patIn (P : Params) (a : Addr) (code : Array Nat) (e : codesOf a = some code) : PatIn (Mine.heap0 P) a code := by
  unfold codesOf at e
  split at e
  · rename_i q
    cases e; subst q
    exact ⟨⟨_, _, _, _, _, _, _, _, rfl, rfl, rfl, by decide +kernel, rfl, rfl⟩⟩
  · split at e
    · rename_i q
      cases e; subst q
      exact ⟨⟨_, _, _, _, _, _, _, _, rfl, rfl, rfl, by decide +kernel, rfl, rfl⟩⟩
    · cases e

noncomputable def nxtX : List D → Option Out := fun ρ => some (.nxt ρ)
noncomputable def nevX : List D → Option Out := fun _ => none
noncomputable def Bconv : List D → Option Out :=
  seqX (iteX (isStrT (getv 1)) (seqX (asgX none 3 (iteE (un1 trB (getv 2)) (fun _ => some (.obj 97)) (fun _ => some (.obj 102)))) (seqX (iteX (un1 trB (searchF codesOf (getv 3) (getv 1))) (seqX nevX nxtX) nxtX) (seqX (retX none (getv 1)) nxtX))) nxtX) (seqX nevX nxtX)
noncomputable def convArgs : List Value → Args
  | [a, b, c] => ⟨[a, b], [("name", c)]⟩
  | vs => ⟨vs, []⟩
noncomputable def Fconv : List D → Option D := fnF 3 1 Bconv
theorem fnconv {w : World} {mg mb : Str → Option Value} {n : Nat} : CallK (cx w mg mb) (n + 1) (.ref 132) convArgs Fconv :=
  fn_core (n := n) (vars := ["self", "value", "name", "regex"]) (ns := ["self", "value", "name"]) (o' := none) (f := Bconv) 3 1 rfl rfl rfl rfl rfl rfl rfl
    (Ex.cons (St.ite (Te.isStr (Ev.var (i := 1) rfl rfl rfl) (.boot rfl rfl (by decide +kernel) (by decide)) rfl (.boot rfl rfl (by decide +kernel) (by decide)) rfl (fun _ => rfl))
      (Ex.cons (St.asg ⟨rfl, .inl rfl, by decide⟩ (Ev.ite (Te.val (Ev.var (i := 2) rfl rfl rfl) trOk (fun _ _ => rfl)) (Ev.glob (d := .obj 97) rfl rfl (fun _ => .obj _) rfl) (Ev.glob (d := .obj 102) rfl rfl (fun _ => .obj _) rfl)) (fun env h => by cases env; cases h; rfl))
        (Ex.cons (St.ite (Te.val (Ev.search (Ev.var (i := 3) rfl rfl rfl) (Ev.var (i := 1) rfl rfl rfl) (patIn w.params) (fun _ => rfl) (fun _ => ⟨_, rfl⟩)) trOk (fun _ _ => rfl)) (Ex.cons St.never Ex.nil) Ex.nil)
          (Ex.cons (St.ret (Ev.var (i := 1) rfl rfl rfl)) Ex.nil))) Ex.nil)
      (Ex.cons St.never Ex.nil))
    (fun vs h => match vs, h with | [a, b, c], _ => rfl) ⟨_, rfl⟩ rfl rfl (by decide) (locs_ (by decide)) (noFree (by decide)) rfl rfl rfl
end Mine

/-! UHdr4 -/
namespace Mine

noncomputable def convE (b : Bool) (f g : List D → Option D) : List D → Option D := fun ρ => match f ρ with
  | some (.ins d) => match g ρ with
    | some x => Fconv [.ins d, x, .bool b]
    | none => none
  | _ => none

structure MethK (K : Frag) (name : Str) (f : Addr) : Prop where
  find : findIn K (.ref 231) name = some (some (.ref f))
  type : typeIn K (.ref f) = some (.type "function")
  keep : keepIn K (.ref f) = true
  plain : ∀ (hh : Int) (tk : Tok) (m : Nat) (v : Value), shadowIn (some { cls := .type "dict", data := .dict #[⟨hh, .str "_headers" tk, v⟩] m }) name = some false

section
variable {c : Cx} {n : Nat} {sc : Scope} {vars : List Str} {ob o : Option Nat}

theorem insMethod {HKK : HdrK c.K} {name : Str} {f : Addr} {A : Around} {s : Shared} {g : Gh} {v : Value} {d : D} {pl : Sem Bool} {Q : Value × List Value → Shared → Prop} {E : Value → Shared → Prop} (MK : MethK c.K name f) (X : c.K.In s.heap) (hs : Sub g s.heap) (r : Rep g v (.ins d))
    (k : Q (.ref f, [v]) s) : wpAny (model c.prog c.w) A (getMethod v name pl) Q E s := by
  obtain ⟨x, dx, hh, tk, m, w, rfl, q1, q2, r⟩ := r.inv
  ·
    have I : InstAt s.heap x (instObj 231 dx) 231 (some { cls := .type "dict", data := .dict #[⟨hh, .str "_headers" tk, w⟩] m }) := ⟨hs _ _ q1, rfl, rfl, hs _ _ q2⟩
    exact method_fn X I HKK.ga HKK.gn MK.find MK.type (MK.plain _ _ _ _) k

theorem Ev.conv {o e : Expr} {b : Bool} {kk : Nat} {kp kpos apos pos : Pos} {f g : List D → Option D} (HKK : HdrK c.K) (MK : MethK c.K "_convert_string_type" 132) (hc : CallK c n (.ref 132) convArgs Fconv) (ho : Ev c n sc vars o f) (hv : Ev c n sc vars e g)
    (hst : ∀ env, starEach [e] env = (false, eval e env) :: starEach [] env)
    (he : ∀ env, ∃ pl, eval (.Call (.Attribute o "_convert_string_type" apos) [e] [⟨some "name", .Constant (.bool b) kk kp, kpos⟩] pos) env = (do
      let ov ← eval o env
      standAt apos.atName
      let (f, first) ← holding [ov] (getMethod ov "_convert_string_type" pl)
      callWith pos f first (backTo pos (starEach [e] env)) (backToKw pos (keywordEach [⟨some "name", .Constant (.bool b) kk kp, kpos⟩] env)))) :
    Ev c n sc vars (.Call (.Attribute o "_convert_string_type" apos) [e] [⟨some "name", .Constant (.bool b) kk kp, kpos⟩] pos) (convE b f g) := by
  intro env A s gh ρ d Q E ok G hs V hp e' k
  unfold convE at e'
  split at e'
  · rename_i d0 h0
    split at e'
    · rename_i x hx
      obtain ⟨pl, he⟩ := he env
      rw [he]
      refine wpAny_bind (ho env A s gh ρ _ _ E ok G hs V hp h0 fun v h1 g1 t1 x1 r1 p1 => ?_)
      refine wpAny_bind (wpAny_standAt (wpAny_bind (wpAny_holding ?_)))
      refine insMethod (HKK := HKK) MK (G.keeps x1.keep).k x1.sub r1 ?_
      dsimp only
      refine callWith_of (P := c.K.In) (by rw [hst]; rfl) (keeps_K MK.keep) ?_
      rw [hst]
      refine evalArgs_kw (by rfl) ?_
      refine Calls.spliced_cons ?_
      refine hv env A _ g1 ρ _ _ E ok (G.keeps x1.keep) x1.sub (V.ext x1) p1 hx fun w h2 g2 t2 x2 r2 p2 => ?_
      refine Calls.spliced_nil ?_
      refine wpAny_evalAll_cons ?_
      refine wpAny_bind (wpAny_Constant_bool (wpAny_bind (wpAny_standAt (wpAny_pure ?_))))
      refine wpAny_evalAll_nil ?_
      have x12 := x1.trans x2
      refine ⟨(G.keeps x12.keep).k, ?_⟩
      exact toksT p2 (hc A { s with heap := h2, toks := t2 } g2 [v, w, .bool b] [.ins d0, x, .bool b] d _ E ok (G.keeps x12.keep) x2.sub (.cons (x2.rep r1) (.cons r2 (.cons (.bool b) .nil))) p2 e' fun u h3 g3 t3 x3 r3 p3 => k u h3 g3 t3 (x12.trans x3) r3 p3)
    · cases e'
  · cases e'

/-- a method of a Headers, called with plain arguments -/
noncomputable def insMethE (F : List D → Option D) (f : List D → Option D) (g : List D → Option (List D)) : List D → Option D := fun ρ => match f ρ with
  | some (.ins d) => match g ρ with
    | some ds => F (.ins d :: ds)
    | none => none
  | _ => none
theorem Ev.insMeth {o : Expr} {name : Str} {fa : Addr} {apos pos : Pos} {es : List Expr} {f : List D → Option D} {g : List D → Option (List D)} {F : List D → Option D} (HKK : HdrK c.K) (MK : MethK c.K name fa) (hc : CallOk c n (.ref fa) F) (ho : Ev c n sc vars o f) (hargs : EvL c n sc vars es g)
    (hplain : ∀ env, (backTo pos (starEach es env)).any (·.1) = false)
    (he : ∀ env, ∃ pl, eval (.Call (.Attribute o name apos) es [] pos) env = (do
      let ov ← eval o env
      standAt apos.atName
      let (f, first) ← holding [ov] (getMethod ov name pl)
      callWith pos f first (backTo pos (starEach es env)) [])) : Ev c n sc vars (.Call (.Attribute o name apos) es [] pos) (insMethE F f g) := by
  intro env A s gh ρ d Q E ok G hs V hp e k
  unfold insMethE at e
  split at e
  · split at e
    · obtain ⟨pl, he⟩ := he env
      refine MethodCall_ (pl := pl) ?_ he
      refine ho env A s gh ρ _ _ E ok G hs V hp (by assumption) fun v h1 g1 t1 x1 r1 p1 => ?_
      refine insMethod (HKK := HKK) MK (G.keeps x1.keep).k x1.sub r1 ?_
      refine callWith_callee (c := c) (.kept MK.keep) (hplain env) ?_
      refine hargs env A _ g1 ρ _ _ _ E ok (G.keeps x1.keep) x1.sub (V.ext x1) p1 (by assumption) fun vs h2 g2 t2 x2 r2 p2 => ?_
      have x12 := x1.trans x2
      exact ⟨(G.keeps x12.keep).k, toksT p2 (hc A _ g2 _ _ d _ E ok (G.keeps x12.keep) x2.sub (.cons (x2.rep r1) r2) p2 e fun w h3 g3 t3 x3 r3 p3 => k w h3 g3 t3 (x12.trans x3) r3 p3)⟩
    · cases e
  · cases e
end

theorem methConv (P : Params) : MethK (Mine.heap0 P) "_convert_string_type" 132 := ⟨rfl, rfl, rfl, fun _ _ _ _ => rfl⟩
theorem methGet (P : Params) : MethK (Mine.heap0 P) "get_all" 170 := ⟨rfl, rfl, rfl, fun _ _ _ _ => rfl⟩
theorem methAdd (P : Params) : MethK (Mine.heap0 P) "add_header" 228 := ⟨rfl, rfl, rfl, fun _ _ _ _ => rfl⟩

noncomputable def noArgs : List D → Option (List D) := fun _ => some []
noncomputable def BgetAll : List D → Option Out :=
  seqX (asgX none 1 (convE true (getv 0) (methE lowerF (getv 1) noArgs)))
    (seqX (retX none (compF none [1] (un1 itemsOf (un1 insF (getv 0))) (cmpT eqF (methE lowerF (bin2 itmF (getv 0) (fun _ => some (.int 0))) noArgs) (getv 1)) (bin2 itmF (getv 0) (fun _ => some (.int 1))))) nxtX)
noncomputable def FgetAll : List D → Option D := fnF 2 0 BgetAll
theorem fngetAll {w : World} {mg mb : Str → Option Value} {n : Nat} : CallOk (cx w mg mb) (n + 2) (.ref 170) FgetAll :=
  fn_ok (n := n + 1) (vars := ["self", "name"]) (ns := ["self", "name"]) (o' := none) (f := BgetAll) 2 0 rfl rfl rfl rfl rfl rfl rfl
    (Ex.cons (St.asg ⟨rfl, .inr rfl, by decide⟩ (Ev.conv (hdrK w.params) (methConv w.params) fnconv (Ev.var (i := 0) rfl rfl rfl) (Ev.meth m_lower lowerOk hF_lowerF (Ev.cell (i := 1) rfl rfl rfl) EvL.nil (fun _ => rfl) (fun _ => ⟨_, rfl⟩)) (fun _ => rfl) (fun _ => ⟨_, rfl⟩)) (fun env h => by cases env; cases h; rfl))
      (Ex.cons (St.ret (Ev.comp (tns := ["kv"]) (cns := ["name"]) (caps := [1]) (ItE.name (Ev.hattr (hdrK w.params) (Ev.var (i := 0) rfl rfl rfl))) CTgt.one
        (Tests.one (Te.cmp (Ev.meth m_lower lowerOk hF_lowerF (Ev.item (Ev.var (i := 0) rfl rfl rfl) Ev.int (fun _ _ => ⟨_, rfl⟩)) EvL.nil (fun _ => rfl) (fun _ => ⟨_, rfl⟩)) (Ev.cell (i := 1) rfl rfl rfl) eqOk rfl))
        (Ev.item (Ev.var (i := 0) rfl rfl rfl) Ev.int (fun _ _ => ⟨_, rfl⟩)) rfl (fun _ _ => rfl))) Ex.nil))
    (bindsLen2 fun a b => rfl) ⟨_, rfl⟩ rfl rfl (by decide) (locs_ (by decide)) (noFree (by decide)) rfl rfl rfl
end Mine

/-! UHdr5 -/
namespace Mine

section
variable {c : Cx} {n : Nat} {sc : Scope} {vars : List Str} {ob o o1 o' : Option Nat}

/-- one statement, then whatever is left -/
theorem St.then {st : Stmt} {rest : List Stmt} {f : List D → Option Out} (h : St c n sc vars none o o1 st f) {env : Env} {A : Around} {s : Shared} {R : Addr → Prop} {P g0 g : Gh} {ρ ρ' : List D} {Q : Flow → Shared → Prop} {E : Value → Shared → Prop}
    (ok : Ok A n) (G : GdP c P) (F : Fm sc env vars R P g0 o ρ g s.heap) (hp : 0 < s.toks) (e : f ρ = some (.nxt ρ'))
    (k : ∀ g' h' tk', Fm sc env vars R P g0 o1 ρ' g' h' → 0 < tk' → wpAny (model c.prog c.w) A (execs rest env) Q E { s with heap := h', toks := tk' }) : wpAny (model c.prog c.w) A (execs (st :: rest) env) Q E s :=
  wpAny_execs_cons (h env A s R P g0 g ρ (.nxt ρ') _ E ok G F hp e fun g' h' tk' F' p => k g' h' tk' F' p)

noncomputable def isnF : D → D → Option D
  | .str _, .none => some (.bool true)
  | .none, .none => some (.bool false)
  | _, _ => none
theorem isnOk : OpOk c n (compareOp .IsNot) isnF := by
  intro A s g a b d u v Q E o hs ra rb e k
  unfold isnF at e
  split at e
  · cases e; obtain ⟨_, rfl⟩ := ra.inv; obtain ⟨_, rfl⟩ := rb.inv; exact isnot_str_none (post_here hs k (.bool _) s.toks)
  · cases e; obtain ⟨_, rfl⟩ := ra.inv; obtain ⟨_, rfl⟩ := rb.inv; exact wpAny_isNot_self rfl (post_here hs k (.bool _) s.toks)
  · cases e

theorem m_join : MethV "join" "str.join" isStr := meth_str fun _ _ _ _ _ _ _ _ k => GM.join k
noncomputable def textsOf : List D → Option (List Str)
  | [] => some []
  | .str x :: r => (textsOf r).map (x :: ·)
  | _ => none
theorem textsOf_vals {g : Gh} : ∀ {l : List D} {xs : List Str} {vs : List Value}, textsOf l = some xs → RepL g vs l → ∃ ps : List (Str × Tok), vs = strValues ps ∧ ps.map (·.1) = xs
  | [], xs, vs, e, r => by cases e; cases r; exact ⟨[], rfl, rfl⟩
  | .str x :: l, xs, vs, e, r => by
    obtain ⟨ys, e1, rfl⟩ := Option.map_eq_some_iff.mp e
    obtain ⟨_, _, rfl, r1, r2⟩ := r.consInv
    ·
      obtain ⟨_, rfl⟩ := r1.inv
      rename_i t
      obtain ⟨ps, rfl, h2⟩ := textsOf_vals e1 r2
      exact ⟨(x, t) :: ps, rfl, by simp [h2]⟩
  | .undef :: _, _, _, e, _ | .none :: _, _, _, e, _ | .bool _ :: _, _, _, e, _ | .int _ :: _, _, _, e, _ | .flt _ :: _, _, _, e, _ | .tup _ :: _, _, _, e, _ | .lst _ :: _, _, _, e, _ | .rng .. :: _, _, _, e, _ | .dct _ :: _, _, _, e, _ | .slc .. :: _, _, _, e, _ | .obj _ :: _, _, _, e, _ | .ins _ :: _, _, _, e, _ => by cases e
noncomputable def joinF : List D → Option D
  | [.str x, .lst l] => match textsOf l with
    | some xs => if JoinOk x xs then some (.str (Txt.join x xs)) else none
    | none => none
  | _ => none
theorem joinOk : CallOk c n (.builtin "str.join") joinF := by
  intro A s g vs ds d Q E o G hs r hp e k
  unfold joinF at e
  split at e
  · split at e
    · rename_i xs hxs
      split at e
      · rename_i hj
        cases e
        obtain ⟨v, w, rfl, r1, r2⟩ := r.two
        obtain ⟨_, rfl⟩ := r1.inv
        obtain ⟨a1, vs1, n1, rfl, ha, r⟩ := r2.inv
        ·
          obtain ⟨ps, rfl, h2⟩ := textsOf_vals hxs r
          exact SC.join ⟨_, hs _ _ ha, rfl, n1, rfl⟩ h2 hj fun t' q => post_here hs k (.str _ _) _
      · cases e
    · cases e
  · cases e
theorem hF_joinF (d : D) (ds : List D) (e : D) (h : joinF (d :: ds) = some e) : isStr d = true := by
  unfold joinF at h
  split at h
  · rename_i q; cases q; rfl
  · cases h

theorem entry_itemiter_iter : entryFor table "dict_itemiterator.__iter__" = some Builtin.«dict_keyiterator.__iter__» :=
  entryFor_alias (id' := "dict_keyiterator.__iter__") (by kernel_rfl) rfl (by decide +kernel) (by kernel_rfl)
theorem pyIter_itemiter {prog : Program} {w : World} {A : Around} {E : Value → Shared → Prop} {s : Shared} {it d : Addr} {i n ep : Nat} {ok ov : Value} {Q : Value → Shared → Prop} (hit : IsItemIter s.heap it d i n ep ok ov) (h : Q (.ref it) s) : wpAny (model prog w) A (pyIter (.ref it)) Q E s := by
  have hT : s.TypeIs (.ref it) "dict_itemiterator" := ⟨_, hit, rfl⟩
  refine wpAny_pyIter_slot hT F.slot_dict_itemiterator_iter (wpAny_call_entry F.slot_dict_itemiterator_iter hT entry_itemiter_iter ?_ (F.args_dict_itemiterator_iter_1 _))
  show wpAny _ _ (ret (.ref it)) _ _ s
  exact wpAny_pure ⟨_, rfl, "dict_itemiterator", _, hT, F.slot_dict_itemiterator_next.lookup, h⟩
noncomputable def noItems : D → Option (List D)
  | .dct [] => some []
  | _ => none
theorem ItE.items {es : List Expr} {kk : Nat} {tp apos pos : Pos} {o : Expr} {f : List D → Option D} (h : Ev c n sc vars o f)
    (he : ∀ env, ∃ pl, eval (.Call (.Attribute o "items" apos) [] [] pos) env = (do
      let ov ← eval o env
      standAt apos.atName
      let (f, first) ← holding [ov] (getMethod ov "items" pl)
      callWith pos f first (backTo pos (starEach [] env)) [])) : ItE c n sc vars (.Tuple es kk tp) (.Call (.Attribute o "items" apos) [] [] pos) (un1 noItems f) := by
  intro env A s g ρ ds Q E ok G hs V hp e' k
  obtain ⟨d, e1, e2⟩ := un1_some e'
  obtain ⟨pl, he⟩ := he env
  refine MethodCall_ (pl := pl) ?_ he
  refine h env A s g ρ d _ E ok G hs V hp e1 fun v h1 g1 t1 x1 r1 p1 => ?_
  unfold noItems at e2
  split at e2
  · cases e2
    obtain ⟨a, oo, es', m, rfl, hsy, ha, hx, hd, r, hnd⟩ := r1.inv
    ·
      cases r
      have hoo := x1.sub _ _ ha
      have hD : h1.DictAt (intKind c.prog c.w) a [] m := ⟨oo, #[], hoo, hx, hd, fun e he => by simp at he, .nil, List.nodup_nil⟩
      have hT : Shared.TypeIs { s with heap := h1, toks := t1 } (.ref a) "dict" := ⟨oo, hoo, hx.1⟩
      refine getMethod_builtin hT F.plainAttrs_dict F.slot_dict_items F.type_dict_items (fun a' e => by cases e; exact ⟨oo, hoo, hx.2.1⟩) ?_
      refine callWith_callee (c := c) (.builtin _) rfl (args_nil ⟨(G.keeps x1.keep).k, ?_⟩)
      refine call_meetsIn F.slot_dict_items hT F.entry_dict_items (F.args_dict_items_1 _) (meets_dict_items (intKind c.prog c.w) a (by simpa using hsy)) ⟨⟨[], hD.dictOf⟩, ?_⟩
      have x2 := x1.trans (Ext.pushBare x1.sub { cls := .type "dict_items", data := .fields #[.ref a] })
      have hview : Heap.IsItemsView (h1.push { cls := .type "dict_items", data := .fields #[.ref a] }) h1.objs.size a := ⟨_, Heap.get?_push_size _ rfl, rfl, rfl⟩
      have hD2 := hD.push { cls := .type "dict_items", data := .fields #[.ref a] }
      refine wpAny_pyIter_items (s := { s with heap := h1.push { cls := .type "dict_items", data := .fields #[.ref a] }, toks := t1 }) hview hD2 ?_
      generalize hH : h1.push { cls := .type "dict_items", data := .fields #[.ref a] } = H at *
      have hnew := none_at_size H (Nat.le_refl _)
      have gnew := x2.sub.gnone (Nat.le_refl _)
      have snew := get_none_of_keep x2.keep hnew
      have x3 := x2.trans (Ext.pushBare x2.sub { cls := .type "dict_itemiterator", data := .fields #[.none, .bool false, .ref a, .int 0 0, .int ([] : List (Int × Value)).length 0, .int m 0, .none, .none] })
      refine k _ [H.objs.size] (fun _ h => IsItemIter h H.objs.size a 0 0 m .none .none ∧ Sub g1 h) (fun _ _ _ => True) _ g1 t1 x3 ⟨fun i h st => one_live ⟨_, st.1⟩, fun i h h' st hk hs' => ⟨hk _ (by simp) _ st.1, hs'⟩,
        fun i d s Q E hd => by simp at hd, fun i d v s Q E hd => by simp at hd, fun s' Q E st hs' hp' hQ => ?_, fun i s' Q E st hQ => ?_⟩ ⟨Heap.get?_push_size _ rfl, x3.sub⟩ (one_heap snew) (one_none gnew) p1
      · have hD3 : s'.heap.DictAt (intKind c.prog c.w) a [] m := ⟨oo, #[], hs' _ _ ha, hx, hd, fun e he => by simp at he, .nil, List.nodup_nil⟩
        refine toksT hp' (wpAny_pyNext_items_end (kvs := []) ok.h st.1 hD3 rfl fun h' hx' q => hQ h' s'.toks (fun b o hb e => hx' b o (fun q => hb (by simp [q])) e) q)
      · exact pyIter_itemiter st.1 hQ
  · cases e2
end
end Mine

/-! UHdr6 -/
namespace Mine

section
variable {c : Cx} {n : Nat}

theorem toksN {α : Type} {M : Model} {A : Around} {s : Shared} {t : Sem α} {Q : α → Shared → Prop} {E : Value → Shared → Prop} {n : Nat} (hp : n ≤ s.toks)
    (h : wpAny M A t (fun a s' => n ≤ s'.toks → Q a s') E s) : wpAny M A t Q E s :=
  wpAny_with_toks (n := n) hp (wpAny_mono h (fun _ _ q h => q h) fun _ _ q _ => q)
theorem fn_enterT {a : Addr} {fd : FuncData} {sc : Scope} {vars ns : List Str} {body : List Stmt} {args : Args} {A : Around} {s : Shared} {g : Gh} {ds : List D} {R : Result → Shared → Prop} (t0 : Nat) (k m : Nat)
    (hfd : fdOf c.K a = some fd) (hbody : fd.body = .stmts body) (hcl : fd.closure = []) (hgl : fd.globals = mainGlobals) (hbn : fd.builtins = builtinsNs) (hsc : fd.scope = sc) (hcode : codeIn c.K fd.code fd.qualname = true)
    (hvars : ∃ rest, vars = ns ++ rest) (hk : ns.length = k) (hlen : vars.length = k + m) (hnd : vars.Nodup)
    (hns : ∀ x ∈ ns, sc.names.lookup x = some .local ∨ sc.names.lookup x = some .cell) (hnf : ∀ x, sc.names.lookup x ≠ some .free)
    (hco : sc.isCoroutine = false) (hgen : sc.isGenerator = false) (hkd : sc.kind = .function)
    (ok : Ok A (n + 1)) (G : Gd c.K c.mg c.mb s.heap) (hdl : ds.length = k)
    (hbind : ∀ E1 : Value → Shared → Prop, wpAny (model c.prog c.w) A.in1 (bindArgs fd args) (fun binds s1 => ∃ h1 g1 tk1 vs, s1 = { s with heap := h1, toks := tk1 } ∧ binds = ns.zip vs ∧ Ext s.heap g h1 g1 ∧ RepL g1 vs ds ∧ t0 ≤ tk1) E1 s)
    (hb : ∀ env h1 g1 tk1 (E1 : Value → Shared → Prop), Ok (A.deeper env) n → Fm sc env vars (fun _ => False) s.heap.get? g1 none (ds ++ List.replicate m .undef) g1 h1 → (∀ b o, g b = some o → g1 b = some o) → (∀ b o, g1 b = some o → g b = some o ∨ s.heap.get? b = none) → t0 ≤ tk1 →
      wpAny (model c.prog c.w) (A.deeper env) (execs body env) (fun f s' => R (.ok (.ret (match f with | .ret v => v | _ => .none))) s') E1 { s with heap := h1, toks := tk1 }) :
    codeAny (model c.prog c.w) A (.call (.ref a) args) R s := by
  obtain ⟨rest, hvars⟩ := hvars
  subst hsc
  unfold fdOf at hfd
  split at hfd
  · rename_i oc od fd' osl hlook
    cases hfd
    have hO := G.k _ _ hlook
    refine codeAny_call_function ok.room hO rfl hco hgen hbody (codeRec_of G.k hcode) ?_
    refine wpAny_mono (hbind _) ?_ fun _ _ q => q
    rintro binds s1 ⟨h1, g1, tk1, vs, rfl, rfl, xb, r, hp⟩
    have hvl : vs.length = k := by rw [r.length]; exact hdl
    have hns' : ∀ x ∈ ns.zip vs, fd.scope.names.lookup x.1 = some .local ∨ (fd.scope.names.lookup x.1 = some .cell ∧ ((cellsFrom (h1.objs.size + 1) fd.scope.names []).lookup x.1).isSome = true) := fun x hx => by
      have := hns x.1 (List.of_mem_zip hx).1
      exact this.imp id fun h => ⟨h, cellsFrom_has _ _ _ _ (.inl h)⟩
    rw [hcl]
    refine toksN hp (wpAny_newFunctionEnv_cells hkd hns' fun env he s' x hp' => ?_)
    have hnl : s'.heap.NoLimit := (G.keeps xb.keep).nl.keeps x.toInCall.keep
    refine ⟨hnl, codeAny_func ?_⟩
    obtain ⟨h2, tk2, rfl⟩ := x.toInCall.same
    have hes : env.scope = fd.scope := by rw [he]; rfl
    have hL : h1.objs.size ≤ env.locals := x.toInCall.fresh
    have hLn : h1.get? env.locals = none := none_at_size _ hL
    have above : ∀ y c', env.cells.lookup y = some c' → env.locals < c' := fun y c' e => x.above y c' (mem_of_lookup e)
    have sub1 : Sub g1 h2 := fun b o e => x.toInCall.keep _ _ (xb.sub _ _ e)
    have hcells : env.cells = cellsFrom (h1.objs.size + 1) fd.scope.names [] := by rw [he]; rfl
    have F : Fm fd.scope env vars (fun _ => False) h1.get? g1 none (ds ++ List.replicate m .undef) g1 h2 := by
      refine ⟨hes, hkd, by rw [he]; exact hgl, by rw [he]; exact hbn, hnd, by rw [List.length_append, List.length_replicate, hdl, hlen], fun _ _ e => e, sub1, x.toInCall.keep, fun _ _ e => .inl e, hLn, xb.sub.none hLn, fun q => q, fun _ q => q.elim, fun _ q => q.elim,
        ⟨_, x.toInCall.ns, fun i y d' a1 b1 c1 e1 _ => ?_, fun _ e => nomatch e⟩, fun y hy => ?_, fun y c' e => ?_, fun y z c' e1 e2 => pairwise_cells x.apart e1 e2, fun i y d' a1 b1 c1 e1 => ?_, hnf⟩
      · by_cases hi : i < ds.length
        · rw [List.getElem?_append_left hi] at b1
          obtain ⟨v, hv, hr⟩ := r.get b1
          rw [hvars, List.getElem?_append_left (by rw [hk, ← hdl]; exact hi)] at a1
          exact ⟨v, bindL_get ns vs _ (by rw [hvars] at hnd; exact (List.nodup_append.mp hnd).1) (fun z hz => by show env.scope.names.lookup z = _ ∨ env.scope.names.lookup z = _; rw [hes]; exact hns z hz) i y v a1 hv (by show env.scope.names.lookup y = _; rw [hes]; exact e1) (by rw [hk, hvl]), hr⟩
        · rw [List.getElem?_append_right (Nat.le_of_not_lt hi), List.getElem?_replicate] at b1
          split at b1
          · cases b1; cases c1
          · cases b1
      · obtain ⟨c', hc'⟩ := Option.isSome_iff_exists.mp (cellsFrom_has y fd.scope.names (h1.objs.size + 1) [] (.inl hy))
        exact ⟨c', by rw [hcells]; exact hc'⟩
      · have habove := above y c' e
        have hn' : h1.get? c' = none := none_at_size _ (Nat.le_trans hL (Nat.le_of_lt habove))
        exact ⟨fun q => q, xb.sub.none hn', hn', Nat.ne_of_gt habove, _, x.cell y c' e⟩
      · by_cases hi : i < ds.length
        · rw [List.getElem?_append_left hi] at b1
          obtain ⟨v, hv, hr⟩ := r.get b1
          rw [hvars, List.getElem?_append_left (by rw [hk, ← hdl]; exact hi)] at a1
          obtain ⟨c', hc'⟩ := Option.isSome_iff_exists.mp (cellsFrom_has y fd.scope.names (h1.objs.size + 1) [] (.inl e1))
          rw [← hcells] at hc'
          have := x.cell y c' hc'
          rw [bindC_get ns vs _ (by rw [hvars] at hnd; exact (List.nodup_append.mp hnd).1) i y v a1 hv (by show env.scope.names.lookup y = _; rw [hes]; exact e1) (by rw [hk, hvl])] at this
          exact ⟨c', v, hc', this, hr⟩
        · rw [List.getElem?_append_right (Nat.le_of_not_lt hi), List.getElem?_replicate] at b1
          split at b1
          · cases b1; cases c1
          · cases b1
    exact wpAny_mono (hb env h2 g1 tk2 _ ok.deeper (F.less (fun _ q => q) xb.keep) xb.le xb.fresh hp') (fun _ _ q => q) fun _ _ q => q
  · cases hfd
theorem fn_enterC {a : Addr} {fd : FuncData} {sc : Scope} {vars ns : List Str} {body : List Stmt} {args : Args} {A : Around} {s : Shared} {g : Gh} {ds : List D} {R : Result → Shared → Prop} (k m : Nat)
    (hfd : fdOf c.K a = some fd) (hbody : fd.body = .stmts body) (hcl : fd.closure = []) (hgl : fd.globals = mainGlobals) (hbn : fd.builtins = builtinsNs) (hsc : fd.scope = sc) (hcode : codeIn c.K fd.code fd.qualname = true)
    (hvars : ∃ rest, vars = ns ++ rest) (hk : ns.length = k) (hlen : vars.length = k + m) (hnd : vars.Nodup)
    (hns : ∀ x ∈ ns, sc.names.lookup x = some .local ∨ sc.names.lookup x = some .cell) (hnf : ∀ x, sc.names.lookup x ≠ some .free)
    (hco : sc.isCoroutine = false) (hgen : sc.isGenerator = false) (hkd : sc.kind = .function)
    (ok : Ok A (n + 1)) (G : Gd c.K c.mg c.mb s.heap) (hdl : ds.length = k)
    (hbind : ∀ E1 : Value → Shared → Prop, wpAny (model c.prog c.w) A.in1 (bindArgs fd args) (fun binds s1 => ∃ h1 g1 tk1 vs, s1 = { s with heap := h1, toks := tk1 } ∧ binds = ns.zip vs ∧ Ext s.heap g h1 g1 ∧ RepL g1 vs ds ∧ 0 < tk1) E1 s)
    (hb : ∀ env h1 g1 tk1 (E1 : Value → Shared → Prop), Ok (A.deeper env) n → Fm sc env vars (fun _ => False) s.heap.get? g1 none (ds ++ List.replicate m .undef) g1 h1 → (∀ b o, g b = some o → g1 b = some o) → (∀ b o, g1 b = some o → g b = some o ∨ s.heap.get? b = none) → 0 < tk1 →
      wpAny (model c.prog c.w) (A.deeper env) (execs body env) (fun f s' => R (.ok (.ret (match f with | .ret v => v | _ => .none))) s') E1 { s with heap := h1, toks := tk1 }) :
    codeAny (model c.prog c.w) A (.call (.ref a) args) R s :=
  fn_enterT (c := c) (n := n) (g := g) (ds := ds) 1 k m hfd hbody hcl hgl hbn hsc hcode hvars hk hlen hnd hns hnf hco hgen hkd ok G hdl hbind hb

theorem fn_enter {a : Addr} {fd : FuncData} {sc : Scope} {vars ns : List Str} {body : List Stmt} {args : Args} {A : Around} {s : Shared} {g : Gh} {ds : List D} {Q : Value → Shared → Prop} {E : Value → Shared → Prop} (k m : Nat)
    (hfd : fdOf c.K a = some fd) (hbody : fd.body = .stmts body) (hcl : fd.closure = []) (hgl : fd.globals = mainGlobals) (hbn : fd.builtins = builtinsNs) (hsc : fd.scope = sc) (hcode : codeIn c.K fd.code fd.qualname = true)
    (hvars : ∃ rest, vars = ns ++ rest) (hk : ns.length = k) (hlen : vars.length = k + m) (hnd : vars.Nodup)
    (hns : ∀ x ∈ ns, sc.names.lookup x = some .local ∨ sc.names.lookup x = some .cell) (hnf : ∀ x, sc.names.lookup x ≠ some .free)
    (hco : sc.isCoroutine = false) (hgen : sc.isGenerator = false) (hkd : sc.kind = .function)
    (ok : Ok A (n + 1)) (G : Gd c.K c.mg c.mb s.heap) (hdl : ds.length = k)
    (hbind : ∀ E1 : Value → Shared → Prop, wpAny (model c.prog c.w) A.in1 (bindArgs fd args) (fun binds s1 => ∃ h1 g1 tk1 vs, s1 = { s with heap := h1, toks := tk1 } ∧ binds = ns.zip vs ∧ Ext s.heap g h1 g1 ∧ RepL g1 vs ds ∧ 0 < tk1) E1 s)
    (hb : ∀ env h1 g1 tk1 (E1 : Value → Shared → Prop), Ok (A.deeper env) n → Fm sc env vars (fun _ => False) s.heap.get? g1 none (ds ++ List.replicate m .undef) g1 h1 → (∀ b o, g b = some o → g1 b = some o) → (∀ b o, g1 b = some o → g b = some o ∨ s.heap.get? b = none) → 0 < tk1 →
      wpAny (model c.prog c.w) (A.deeper env) (execs body env) (fun f s' => Q (match f with | .ret v => v | _ => .none) s') E1 { s with heap := h1, toks := tk1 }) :
    wpAny (model c.prog c.w) A (call (.ref a) args.pos args.kw) Q E s :=
  wpAny_call (fn_enterC (c := c) (n := n) (g := g) (ds := ds) k m hfd hbody hcl hgl hbn hsc hcode hvars hk hlen hnd hns hnf hco hgen hkd ok G hdl hbind hb)
end
end Mine

/-! UHdr7 -/
namespace Mine

theorem bindAdd {w : World} {mg mb : Str → Option Value} {fd : FuncData} (h : fdOf (cx w mg mb).K 228 = some fd) (a b d : Value) : bindArgs fd ⟨[a, b, d], []⟩ = (do let kw ← newDict; pure [("self", a), ("_name", b), ("_value", d), ("_params", kw)]) := by
  cases h
  rfl

noncomputable def addS1 : List D → Option Out := ownX 4 (fun _ => some [])
noncomputable def addS2 : List D → Option Out := iteX (cmpT isnF (getv 2) (fun _ => some .none)) (seqX (asgX (some 4) 2 (convE false (getv 0) (getv 2))) (seqX (pushX 4 (getv 2)) nxtX)) nxtX
noncomputable def addS3 : List D → Option Out := forX (some 4) (.many [5, 6]) (un1 noItems (getv 3)) (seqX nevX (seqX nevX nxtX))
noncomputable def addT : List D → Option D := tupE (consE (convE true (getv 0) (getv 1)) (consE (methE joinF (fun _ => some (.str "; ")) (consE (getv 4) (fun _ => some []))) (fun _ => some [])))
noncomputable def nxtOf : Option Out → Option (List D)
  | some (.nxt ρ) => some ρ
  | _ => none
theorem nxtOf_some {o : Option Out} {ρ : List D} (e : nxtOf o = some ρ) : o = some (.nxt ρ) := by
  unfold nxtOf at e
  split at e
  · cases e; rfl
  · cases e
noncomputable def objOf : Option D → Option Addr
  | some (.obj a) => some a
  | _ => none
theorem objOf_some {o : Option D} {a : Addr} (e : objOf o = some a) : o = some (.obj a) := by
  unfold objOf at e
  split at e
  · cases e; rfl
  · cases e
noncomputable def addHF (d0 d1 d2 : D) : Option (Addr × D) :=
  (nxtOf (addS1 [d0, d1, d2, .dct [], .undef, .undef, .undef])).bind fun ρ1 => (nxtOf (addS2 ρ1)).bind fun ρ2 => (nxtOf (addS3 ρ2)).bind fun ρ3 => (objOf (un1 insF (getv 0) ρ3)).bind fun a => (addT ρ3).map fun d => (a, d)

theorem call_add {w : World} {mg mb : Str → Option Value} {n : Nat} {A : Around} {s : Shared} {g : Gh} {v0 v1 v2 : Value} {d0 d1 d2 d : D} {hl : Addr} {vs : List Value} {m : Nat} {l : List D} {Q : Value → Shared → Prop} {E : Value → Shared → Prop}
    (ok : Ok A (n + 2)) (G : Gd (cx w mg mb).K (cx w mg mb).mg (cx w mg mb).mb s.heap) (hs : Sub g s.heap) (r0 : Rep g v0 d0) (r1 : Rep g v1 d1) (r2 : Rep g v2 d2) (hp : 0 < s.toks)
    (e : addHF d0 d1 d2 = some (hl, d)) (hL : s.heap.get? hl = some { cls := .type "list", dict := none, data := .seq vs.toArray m, slots := #[] }) (hg : g hl = none) (rl : RepL g vs l) (hlen : l.length ≤ 1000)
    (k : ∀ h' g' tk' v m', (∀ b o, b ≠ hl → s.heap.get? b = some o → h'.get? b = some o) → (∀ b o, g b = some o → g' b = some o) → Sub g' h' → (∀ b o, g' b = some o → g b = some o ∨ s.heap.get? b = none) →
      h'.get? hl = some { cls := .type "list", dict := none, data := .seq (vs ++ [v]).toArray m', slots := #[] } → Rep g' v d → 0 < tk' → Q .none { s with heap := h', toks := tk' }) :
    wpAny (model (cx w mg mb).prog (cx w mg mb).w) A (call (.ref 228) [v0, v1, v2] []) Q E s := by
  unfold addHF at e
  obtain ⟨ρ1, e1, e⟩ := Option.bind_eq_some_iff.mp e
  obtain ⟨ρ2, e2, e⟩ := Option.bind_eq_some_iff.mp e
  obtain ⟨ρ3, e3, e⟩ := Option.bind_eq_some_iff.mp e
  obtain ⟨hl', e4, e⟩ := Option.bind_eq_some_iff.mp e
  obtain ⟨d', e5, e⟩ := Option.map_eq_some_iff.mp e
  cases e
  refine fn_enter (c := cx w mg mb) (n := n + 1) (g := g) (args := ⟨[v0, v1, v2], []⟩) (ds := [d0, d1, d2, .dct []]) (vars := ["self", "_name", "_value", "_params", "parts", "k", "v"]) (ns := ["self", "_name", "_value", "_params"]) 4 3 rfl rfl rfl rfl rfl rfl rfl
    ⟨_, rfl⟩ rfl rfl (by decide) (locs_ (by decide)) (noFree (by decide)) rfl rfl rfl ok G rfl (fun E1 => ?_) ?_
  · rw [bindAdd (w := w) (mg := mg) (mb := mb) rfl]
    refine wpAny_bind (wpAny_newObj_type (wpAny_pure ⟨_, gput g s.heap.objs.size _, s.toks, [v0, v1, v2, .ref s.heap.objs.size], rfl, rfl, Ext.push hs _, ?_, hp⟩))
    have x := Ext.push hs { cls := .type "dict", data := .dict #[] }
    refine .cons (x.rep r0) (.cons (x.rep r1) (.cons (x.rep r2) (.cons (.dct (es := []) (n := 0) ?_ (gput_self ..) ⟨rfl, rfl, rfl⟩ rfl .nil List.nodup_nil) .nil)))
    intro q
    obtain ⟨o, _, _, e, _⟩ := G.g
    have := Heap.lt_size e
    rw [q] at this
    exact absurd (Nat.lt_trans (by decide : sysModules < mainGlobals) this) (Nat.lt_irrefl _)
  · intro env h1 g1 tk1 E1 ok1 F hle hfr hp1
    have GP : GdP (cx w mg mb) s.heap.get? := fun h hk => G.keeps hk
    refine St.then (St.fresh ⟨rfl, .inl rfl, by decide⟩ rfl EvF.nil (fun env h => by cases env; cases h; rfl)) ok1 GP F hp1 (nxtOf_some e1) fun g2 h2 tk2 F2 hp2 => ?_
    refine St.then (St.ite (Te.cmp (Ev.var (i := 2) rfl rfl rfl) Ev.nonec isnOk rfl) (Ex.cons (St.asg ⟨rfl, .inl rfl, by decide⟩ (Ev.conv (hdrK w.params) (methConv w.params) fnconv (Ev.var (i := 0) rfl rfl rfl) (Ev.var (i := 2) rfl rfl rfl) (fun _ => rfl) (fun _ => ⟨_, rfl⟩)) (fun env h => by cases env; cases h; rfl))
      (Ex.cons (St.append rfl rfl rfl (Ev.var (i := 2) rfl rfl rfl) (fun _ => rfl) (fun _ => ⟨_, rfl⟩) (fun env h => by cases env; cases h; rfl) (fun _ => rfl)) Ex.nil)) Ex.nil) ok1 GP F2 hp2 (nxtOf_some e2) fun g3 h3 tk3 F3 hp3 => ?_
    refine St.then (c := cx w mg mb) (s := { s with heap := h3, toks := tk3 }) (St.for (TgtOk.many (NL.cons ⟨rfl, .inl rfl, by decide⟩ (NL.cons ⟨rfl, .inl rfl, by decide⟩ NL.nil))) (ItE.items (Ev.var (i := 3) rfl rfl rfl) (fun _ => ⟨_, rfl⟩)) (Ex.cons (St.never (o' := some 4)) (Ex.cons (St.never (o' := some 4)) Ex.nil)) (fun _ _ => rfl)) ok1 GP F3 hp3 (nxtOf_some e3) fun g4 h4 tk4 F4 hp4 => ?_
    refine wpAny_execs_cons (wpAny_Expr ?_ (by obtain h := F4.es; cases env; cases h; rfl) rfl)
    obtain ⟨g5, hg5, F5⟩ := F4.freeze
    refine MethodCall_ (pl := _) ?_ rfl
    refine Ev.hattr (c := cx w mg mb) (n := n + 1) (hdrK w.params) (Ev.var (i := 0) rfl rfl rfl) env _ { s with heap := h4, toks := tk4 } g5 ρ3 (.obj hl) _ _ ok1 (GP _ F5.keep) F5.sub F5.view hp4 (objOf_some e4) fun v h5 g6 tk5 x5 r5 hp5 => ?_
    obtain ⟨_, rfl⟩ := r5.inv
    have hL5 : h5.get? hl = _ := x5.keep _ _ (F5.keep _ _ hL)
    refine Calls.getMethod_list_append hL5 rfl rfl ?_
    refine callWith_callee (c := cx w mg mb) (.builtin _) rfl ?_
    refine args_cons ?_ rfl
    refine Ev.tup (c := cx w mg mb) (n := n + 1) (EvL.cons (Ev.conv (hdrK w.params) (methConv w.params) fnconv (Ev.var (i := 0) rfl rfl rfl) (Ev.var (i := 1) rfl rfl rfl) (fun _ => rfl) (fun _ => ⟨_, rfl⟩)) (EvL.cons (Ev.meth m_join joinOk hF_joinF Ev.strc (EvL.cons (Ev.var (i := 4) rfl rfl rfl) EvL.nil (fun _ => rfl)) (fun _ => rfl) (fun _ => ⟨_, rfl⟩)) EvL.nil (fun _ => rfl)) (fun _ => rfl))
      env _ { s with heap := h5, toks := tk5 } g6 ρ3 d _ _ ok1 (GP _ (F5.ext x5).keep) x5.sub (F5.ext x5).view hp5 e5 fun v h6 g7 tk6 x6 r6 hp6 => ?_
    have F6 := (F5.ext x5).ext x6
    refine args_nil ⟨(GP _ F6.keep).k, ?_⟩
    refine toksT hp6 (wpAny_list_append_plain (items := vs.toArray) ⟨m, x6.keep _ _ hL5⟩ (fun h7 ⟨m2, hp7⟩ hs7 q => ?_) (by simp only [List.size_toArray]; rw [rl.length]; exact size_ok hlen))
    have hgn : g7 hl = none := by
      cases q : g7 hl with
      | none => rfl
      | some o =>
        rcases F6.fresh _ _ q with u | u
        · rcases hfr _ _ u with u | u
          · rw [hg] at u; cases u
          · rw [hL] at u; cases u
        · rw [hL] at u; cases u
    refine wpAny_execs_nil (k h7 g7 tk6 v m2 (fun b o hb e => (hs7.2 b hb).trans (F6.keep _ _ e)) (fun b o e => F6.le _ _ (hle _ _ e)) (fun b o e => ?_) (fun b o e => ?_) (by rw [hp7]; simp) r6 q)
    · refine (hs7.2 b fun q => ?_).trans (F6.sub _ _ e)
      rw [q, hgn] at e; cases e
    · rcases F6.fresh _ _ e with u | u
      · exact hfr _ _ u
      · exact .inr u
end Mine

/-! UHdr8 -/
namespace Mine

section
variable {c : Cx} {n : Nat} {sc : Scope} {vars : List Str} {ob o : Option Nat}

theorem Ev.debug {p : Pos} : Ev c n sc vars (.Name "__debug__" p) (fun _ => some (.bool true)) := by
  intro env A s g ρ d Q E ok G hs V hp e k
  cases e
  show wpAny _ _ (do standAt p; debugConstant) _ _ _
  exact wpAny_bind (wpAny_standAt (wpAny_bind (wpAny_rule (wpAny_pure (k _ s.heap g s.toks (Ext.refl hs) (.bool true) hp)))))

noncomputable def allBut (env : Env) (h : Heap) : Gh := fun b => open Classical in if b = env.locals ∨ ∃ x, env.cells.lookup x = some b then none else h.get? b
/-- the frame of now: all that is there is kept -/
theorem Fm.whole {env : Env} {R : Addr → Prop} {P g0 g : Gh} {ρ : List D} {h : Heap} (F : Fm sc env vars R P g0 none ρ g h) :
    Fm sc env vars (fun _ => False) (allBut env h) g none ρ g h := by
  refine ⟨F.es, F.fn, F.gl, F.bn, F.nd, F.len, fun _ _ e => e, F.sub, fun b o e => ?_, fun _ _ e => .inl e, if_pos (.inl rfl), F.gL, fun q => q, fun _ q => q.elim, fun _ q => q.elim, F.ns.imp fun m q => ⟨q.1, q.2.1, fun _ e => nomatch e⟩, F.ch, fun x c e => ?_, F.cd, F.cl, F.nf⟩
  · unfold allBut at e
    split at e
    · cases e
    · exact e
  · have C := F.ca x c e
    exact ⟨fun q => q, C.gc, if_pos (.inr ⟨x, e⟩), C.lc, C.is⟩
theorem allBut_of {env : Env} {h : Heap} {b : Addr} {o : Obj} (e : h.get? b = some o) (h1 : b ≠ env.locals) (h2 : ∀ x, env.cells.lookup x ≠ some b) : allBut env h b = some o := by
  unfold allBut
  rw [if_neg]
  · exact e
  · rintro (q | ⟨x, q⟩)
    · exact h1 q
    · exact h2 x q

noncomputable def iteFF (ft : List D → Option Bool) (f : List D → Option (List D)) : List D → Option (List D) := fun ρ => match ft ρ with
  | some false => f ρ
  | _ => none
theorem EvF.iteFalse {t a b : Expr} {p : Pos} {ft : List D → Option Bool} {f : List D → Option (List D)} (ht : Te c n sc vars t ft) (hb : EvF c n sc vars b f) : EvF c n sc vars (.IfExp t a b p) (iteFF ft f) := by
  intro env A s g ρ ds Q E ok G hs V hp e k
  unfold iteFF at e
  split at e
  · rename_i e1
    refine wpAny_IfExp (ht env A s g ρ false _ E ok G hs V hp e1 fun h1 g1 t1 x1 p1 => ?_)
    exact hb env A _ g1 ρ ds Q E ok (G.keeps x1.keep) x1.sub (V.ext x1) p1 e fun a vs m h' g' tk' x2 ha => k a vs m h' g' tk' (x1.trans x2) (get_none_of_keep x1.keep ha)
  · cases e

noncomputable def isLstN (f : List D → Option D) : List D → Option Bool := fun ρ => match f ρ with
  | some (.lst _) => some false
  | _ => none
theorem Te.notList {x y : Str} {e : Expr} {p1 p2 p3 p4 : Pos} {f : List D → Option D} (h : Ev c n sc vars e f) (hx : NameV c sc x (.type "type")) (hdx : (x == ("__debug__" : Str)) = false) (hy : NameV c sc y (.type "list")) (hdy : (y == ("__debug__" : Str)) = false)
    (hst : ∀ env, starEach [e] env = (false, eval e env) :: starEach [] env) : Te c n sc vars (.Compare (.Call (.Name x p1) [e] [] p2) [.IsNot] [.Name y p3] p4) (isLstN f) := by
  intro env A s gh ρ b Q E ok G hs V hp e' k
  unfold isLstN at e'
  split at e'
  · rename_i z hz
    cases e'
    refine wpAny_isTrue_Compare1 ?_ rfl
    refine wpAny_Call_Name_kw (evalName hx hdx G V ?_)
    refine callWith_callee (c := c) (.type _) (by rw [hst]; rfl) ?_
    refine args_cons ?_ (hst env)
    refine h env A s gh ρ _ _ E ok G hs V hp hz fun v h1 g1 t1 x1 r1 p1 => ?_
    obtain ⟨a, vs, m, rfl, ha, r⟩ := r1.inv
    refine args_nil ⟨(G.keeps x1.keep).k, ?_⟩
    refine call_type_of (Tx := "list") ⟨_, x1.sub _ _ ha, rfl⟩ (by decide) ?_
    refine evalName hy hdy (G.keeps x1.keep) (V.ext x1) ?_
    refine wpAny_isNot_plain rfl ?_
    have : (Value.type "list" == Value.type "list") = true := by simp
    rw [this]
    exact wpAny_truthy_bool (k _ _ _ x1 p1)
  · cases e'
end
end Mine

/-! UHdr9 -/
section
open Builtin Builtin.ObjectAttr
namespace Mine

theorem store_headers {w : World} {mg mb : Str → Option Value} {A : Around} {s : Shared} {x dx : Addr} {v : Value} {Q : Unit → Shared → Prop} {E : Value → Shared → Prop} (X : (Mine.heap0 w.params).In s.heap)
    (hx : s.heap.get? x = some (instObj 231 dx)) (hd : s.heap.get? dx = some emptyDict)
    (k : ∀ h' hh tk m, h'.get? dx = some { cls := .type "dict", data := .dict #[⟨hh, .str "_headers" tk, v⟩] m } → (∀ b, b ≠ dx → h'.get? b = s.heap.get? b) → Q () { s with heap := h', toks := s.toks + 1 + 1 }) :
    wpAny (model (cx w mg mb).prog w) A (setAttr (.ref x) "_headers" v) Q E s := by
  have I : InstAt s.heap x (instObj 231 dx) 231 (some emptyDict) := ⟨hx, rfl, rfl, hd⟩
  refine set_plain (K := Mine.heap0 w.params) X I rfl ?_
  refine osa_open (s := { s with toks := s.toks + 1 }) X I rfl (r := none) rfl fun b => ?_
  obtain ⟨cd, hc, hd'⟩ := any_some (show (clsIn (Mine.heap0 w.params) 231).any (·.hasDict) = true from rfl)
  refine wpAny_bind (wpAny_pure (wpAny_bind (wpAny_bind (wpAny_loadPart (s := { s with toks := s.toks + 1 }) hx (wpAny_bind ((looks_clsIn (h := s.heap) X hc).here (s := { s with toks := s.toks + 1 }) ?_))))))
  rw [hd']
  refine wpAny_pure (a := some dx) (wpAny_bind (wpAny_pure (wpAny_bind ?_)))
  unfold nsSet
  refine wpAny_bind (wpAny_bind (wpAny_askSetting (wpAny_pure (wpAny_bind (wpAny_mkText (wpAny_bind (wpAny_loadPart (s := { s with toks := s.toks + 1 + 1 }) hd ?_)))))))
  dsimp only
  refine wpAny_updatePart (s := { s with toks := s.toks + 1 + 1 }) hd ?_
  have D' := Heap.get?_update_self (h := s.heap) (a := dx) (Obj.putName "_headers" (PyData.keyHash w.params "_headers") (.str "_headers" (s.toks + 1)) v) hd rfl
  refine wpAny_bind (wpAny_lookBehind D' (by exact pastItsLine_dict (Nat.le_add_left 1 _)) ?_)
  exact wpAny_pure (k _ _ _ _ D' fun b hb => Heap.get?_update_ne _ _ _ _ hb)
end Mine
end

/-! UHdrA -/
namespace Mine

theorem Ok.under {A : Around} {n : Nat} {v : Addr} (o : Ok A (n + 1)) : Ok (A.under (.builtin "type.__call__" ⟨[.ref v], []⟩)) n := by
  have h1 : Code.weight (.builtin "type.__call__" ⟨[.ref v], []⟩) = 1 := by kernel_rfl
  have h2 : Code.cUnits (.builtin "type.__call__" ⟨[.ref v], []⟩) = 1 := by kernel_rfl
  have := o.d
  have := o.u
  refine ⟨o.h, ?_, ?_⟩
  · show A.depth + Code.weight _ + n ≤ 500
    rw [h1]; omega
  · show A.units + Code.cUnits _ + 10 * n ≤ 5000
    rw [h2]; omega

theorem bindInit {w : World} {mg mb : Str → Option Value} {fd : FuncData} (h : fdOf (cx w mg mb).K 125 = some fd) {s : Shared} (X : (cx w mg mb).K.In s.heap) (a : Value) : BindsTo s fd ⟨[a], []⟩ [("self", a), ("headers", .none)] := by
  cases h
  exact .of_defaults rfl (X 118 _ rfl) rfl rfl rfl

theorem Fm.touch {sc : Scope} {vars : List Str} {env : Env} {P g0 g : Gh} {own : Option Nat} {ρ : List D} {h h' : Heap} {dx : Addr} {o : Obj} (F : Fm sc env vars (fun _ => False) P g0 own ρ g h) (hp : P dx = some o) (hg : g dx = none)
    (hk : ∀ b, b ≠ dx → h'.get? b = h.get? b) (hl : ∃ o, h'.get? dx = some o) : Fm sc env vars (fun b => False ∨ b ∈ [dx]) (fun b => if b = dx then none else P b) g0 own ρ g h' := by
  refine ((F.away (wr := [dx]) (fun b hb => ?_) (fun b hb => ?_) (fun hb => ?_) (fun x c e hb => ?_) (fun i x d a m _ _ O hb => ?_)).less (R' := fun b => False ∨ b ∈ [dx]) (P' := fun b => if b = dx then none else P b) (fun _ q => q) (fun b o e => ?_)).but (wr := [dx]) (fun b hb => .inr hb) (fun b hb => ?_) (fun b o hb e => ?_) (fun b hb => ?_)
  · rw [List.mem_singleton.mp hb]; exact hg
  · rw [List.mem_singleton.mp hb]; exact ⟨_, F.keep _ _ hp⟩
  · have := F.pL; rw [List.mem_singleton.mp hb, hp] at this; cases this
  · have := (F.ca x c e).pc; rw [List.mem_singleton.mp hb, hp] at this; cases this
  · have := O.pa; rw [List.mem_singleton.mp hb, hp] at this; cases this
  · split at e
    · cases e
    · exact e
  · exact if_pos (List.mem_singleton.mp hb)
  · rw [hk b (fun q => hb (by rw [q]; exact List.mem_singleton_self _))]; exact e
  · rw [List.mem_singleton.mp hb]; exact hl

theorem call_headers {w : World} {mg mb : Str → Option Value} {n : Nat} {A : Around} {s : Shared} {g : Gh} {Q : Value → Shared → Prop} {E : Value → Shared → Prop}
    (ok : Ok A (n + 2)) (G : Gd (cx w mg mb).K (cx w mg mb).mg (cx w mg mb).mb s.heap) (hs : Sub g s.heap) (hp : 0 < s.toks)
    (k : ∀ x hl h' g' tk' m, Ext s.heap g h' g' → g' hl = none → s.heap.get? hl = none → h'.get? hl = some { cls := .type "list", dict := none, data := .seq #[] m, slots := #[] } → Rep g' (.ref x) (.ins (.obj hl)) → 0 < tk' → Q (.ref x) { s with heap := h', toks := tk' }) :
    wpAny (model (cx w mg mb).prog (cx w mg mb).w) A (call (.ref 231) [] []) Q E s := by
  refine wpAny_call ?_
  obtain ⟨h, gg, dd, t, os⟩ := s
  dsimp only at hs hp k
  have X : (Mine.heap0 w.params).In h := G.k
  have kH : ∀ b o, h.get? b = some o → ((h.push emptyDict).push (instObj 231 h.objs.size)).get? b = some o := fun b o e => Heap.get?_push_of_some _ (Heap.get?_push_of_some _ e)
  have hx : ((h.push emptyDict).push (instObj 231 h.objs.size)).get? (h.objs.size + 1) = some (instObj 231 h.objs.size) := by heap_get
  have hd : ((h.push emptyDict).push (instObj 231 h.objs.size)).get? h.objs.size = some emptyDict := by heap_get
  have GH := G.keeps kH
  refine make_core (C := 231) (init := .ref 125) (makes_of X rfl) (looks_findIn X rfl) (fun self => bind_fn X self rfl) (.inl rfl) ?_
  generalize (h.push emptyDict).push (instObj 231 h.objs.size) = H at *
  have n0 : h.get? h.objs.size = none := none_at_size h (Nat.le_refl _)
  have n1 : h.get? (h.objs.size + 1) = none := none_at_size h (Nat.le_succ _)
  generalize hdx : h.objs.size = dx at *
  refine fn_enterC (c := cx w mg mb) (n := n) (g := g) (args := ⟨[.ref (dx + 1)], []⟩) (ds := [.obj (dx + 1), .none]) (vars := ["self", "headers", "k", "v"]) (ns := ["self", "headers"]) 2 2 rfl rfl rfl rfl rfl rfl rfl
    ⟨_, rfl⟩ rfl rfl (by decide) (locs_ (by decide)) (noFree (by decide)) rfl rfl rfl (Ok.under ok) GH rfl (fun E1 => ?_) ?_
  · refine bindInit (w := w) (mg := mg) (mb := mb) rfl GH.k _ _ _ _ _ ⟨H, g, t, [.ref (dx + 1), .none], rfl, rfl, Ext.refl (fun b o e => kH b o (hs b o e)), .cons (.obj _) (.cons .none .nil), hp⟩
  · intro env h1 g1 tk1 E1 ok1 F hle hfr hp1
    have GP : GdP (cx w mg mb) H.get? := fun h hk => GH.keeps hk
    refine St.then (St.fresh (j := 1) ⟨rfl, .inl rfl, by decide⟩ rfl (EvF.iteFalse (Te.cmp (Ev.var (i := 1) rfl rfl rfl) Ev.nonec isnOk rfl) EvF.nil) (fun env h => by cases env; cases h; rfl)) ok1 GP F hp1 rfl fun g2 h2 tk2 F2 hp2 => ?_
    refine St.then (c := cx w mg mb) (St.ite (Te.notList (Ev.var (i := 1) rfl rfl rfl) (.boot rfl rfl (by decide +kernel) (by decide)) rfl (.boot rfl rfl (by decide +kernel) (by decide)) rfl (fun _ => rfl)) (Ex.cons (St.never (o' := some 1)) Ex.nil) Ex.nil) ok1 GP F2 hp2 rfl fun g3 h3 tk3 F3 hp3 => ?_
    refine wpAny_execs_cons (plainObj_wpAny_Assign_Attribute ?_ rfl)
    obtain ⟨x', d0, hl, q1, q2, q3, q4, hn, O⟩ := F3.owned
    cases q1
    cases q2
    refine F3.nameOwn rfl rfl hn O ?_
    refine F3.run ok1 GP hp3 (Ev.var (i := 0) rfl rfl rfl) (d := .obj (dx + 1)) rfl fun v g4 h4 tk4 F4 hk4 hg4 r4 hp4 => ?_
    obtain ⟨_, rfl⟩ := r4.inv
    refine store_headers (w := w) (mg := mg) (mb := mb) (dx := dx) (GP _ F4.keep).k (F4.keep _ _ hx) (F4.keep _ _ hd) fun h5 hh tk m h5d h5k => ?_
    have g4d : g4 dx = none := by
      cases q : g4 dx with
      | none => rfl
      | some o =>
        rcases F4.fresh _ _ q with u | u
        · rcases hfr _ _ u with u | u
          · have := hs _ _ u; rw [n0] at this; cases this
          · rw [hd] at u; cases u
        · rw [hd] at u; cases u
    obtain ⟨O4, hn4⟩ := O.later F4 hn hk4 rfl rfl
    have F5 := F4.touch hd g4d h5k ⟨_, h5d⟩
    obtain ⟨g6, hg6, F6⟩ := F5.freeze
    have W := F6.whole
    have cdx : ∀ x, env.cells.lookup x ≠ some dx := fun x e => by have := (F4.ca x _ e).pc; rw [hd] at this; cases this
    have cx1 : ∀ x, env.cells.lookup x ≠ some (dx + 1) := fun x e => by have := (F4.ca x _ e).pc; rw [hx] at this; cases this
    have kk : ∀ b o, b ≠ dx → H.get? b = some o → allBut env h5 b = some o := fun b o q e =>
      allBut_of ((h5k b q).trans (F4.keep _ _ e)) (fun q => by have := F4.pL; rw [← q, e] at this; cases this) (fun x q => by have := (F4.ca x _ q).pc; rw [e] at this; cases this)
    have nh : ∀ b o, h.get? b = some o → b ≠ dx := fun b o e q => by rw [q, n0] at e; cases e
    have GP2 : GdP (cx w mg mb) (allBut env h5) := fun h' hk => G.keeps (h' := h') fun b o e => hk _ _ (kk b o (nh b o e) (kH _ _ e))
    have hlx : hl ≠ dx := fun q => by have := O4.pa; rw [q, hd] at this; cases this
    have hl1 : hl ≠ dx + 1 := fun q => by have := O4.pa; rw [q, hx] at this; cases this
    have hl5 : ∃ m, h5.get? hl = some { cls := .type "list", dict := none, data := .seq #[] m, slots := #[] } := by
      have hob := O4.ob
      cases hob with
      | @lst vs m ds ho hr => cases hr; exact ⟨m, (h5k _ hlx).trans ho⟩
    obtain ⟨m5, hl5⟩ := hl5
    have hlA : allBut env h5 hl = _ := allBut_of hl5 O4.la (fun x e => O4.ca x _ e rfl)
    have dxA : allBut env h5 dx = _ := allBut_of h5d (fun q => by have := F4.pL; rw [← q, hd] at this; cases this) (fun x e => by have := (F4.ca x _ e).pc; rw [hd] at this; cases this)
    show wpAny _ _ (execs _ env) _ _ _
    refine St.then (c := cx w mg mb) (St.ite (Te.val Ev.boolc trOk (fun _ _ => rfl)) (Ex.cons (St.for (TgtOk.many (NL.cons (j := 2) ⟨rfl, .inl rfl, by decide⟩ (NL.cons (j := 3) ⟨rfl, .inl rfl, by decide⟩ NL.nil))) (ItE.pair (Ev.var (i := 1) rfl rfl rfl)) (Ex.cons (St.never (o' := none)) (Ex.cons (St.never (o' := none)) Ex.nil)) (fun _ _ => rfl)) Ex.nil) Ex.nil) ok1 GP2 W (Nat.succ_pos _) rfl fun g7 h7 tk7 F7 hp7 => ?_
    have keep7 : ∀ b o, h.get? b = some o → h7.get? b = some o := fun b o e => F7.keep _ _ (kk b o (nh b o e) (kH _ _ e))
    have hx7 := F7.keep _ _ (kk (dx + 1) _ (Nat.succ_ne_self _) hx)
    have hd7 := F7.keep _ _ dxA
    have ga : g dx = none := hs.none n0
    have ga1 : g (dx + 1) = none := hs.none n1
    have gb1 : gput g dx { cls := .type "dict", data := .dict #[⟨hh, .str "_headers" tk, .ref hl⟩] m } (dx + 1) = none := by
      unfold gput; rw [if_neg (Nat.succ_ne_self _)]; exact ga1
    have ghl : g hl = none := hs.none (by
      cases q : h.get? hl with
      | none => rfl
      | some o => have := O4.pa; rw [kH _ _ q] at this; cases this)
    have h0l : h.get? hl = none := by
      cases q : h.get? hl with
      | none => rfl
      | some o => have := O4.pa; rw [kH _ _ q] at this; cases this
    refine wpAny_execs_nil ⟨rfl, k (dx + 1) hl h7 (gput (gput g dx { cls := .type "dict", data := .dict #[⟨hh, .str "_headers" tk, .ref hl⟩] m }) (dx + 1) (instObj 231 dx)) tk7 m5 ⟨?_, ?_, keep7, ?_⟩ ?_ h0l (F7.keep _ _ hlA) ?_ hp7⟩
    · exact fun b o e => gput_le gb1 _ _ (gput_le ga _ _ e)
    · intro b o e
      unfold gput at e
      split at e
      · rename_i q; cases e; rw [q]; exact hx7
      · split at e
        · rename_i q; cases e; rw [q]; exact hd7
        · exact keep7 _ _ (hs _ _ e)
    · intro b o e
      unfold gput at e
      split at e
      · rename_i q; rw [q]; exact .inr n1
      · split at e
        · rename_i q; rw [q]; exact .inr n0
        · exact .inl e
    · unfold gput
      rw [if_neg hl1, if_neg hlx]
      exact ghl
    · exact .ins (gput_self ..) (gput_le gb1 _ _ (gput_self ..)) (.obj hl)
end Mine

/-! UHdrB -/
namespace Mine

noncomputable def codeN : Array Nat := #[14, 10, 4, 1, 1, 22, 0, 31, 16, 127, 0, 13, 7, 22, 0, 31, 16, 127, 0, 1]
noncomputable def codeV : Array Nat := #[14, 14, 4, 1, 1, 9, 4294966783, 0, 0, 2147483648, 0, 0, 0, 0, 0, 13, 11, 9, 4294966783, 0, 0, 2147483648, 0, 0, 0, 0, 0, 1]
/-- the row that add_header lays for a name and a value -/
noncomputable def rowG (x y : Str) : Option D := if failsB codeV y then (if failsB codeN x then (joinF [.str "; ", .lst [.str y]]).map fun j => .tup [.str x, j] else none) else none
theorem conv_true (d : D) (x : Str) : Fconv [.ins d, .str x, .bool true] = if failsB codeN x then some (.str x) else none := by
  cases h : failsB codeN x <;> simp [Fconv, fnF, outD, Bconv, seqX, iteX, isStrT, getv, asgX, evS, iteE, un1, trB, searchF, codesOf, retX, nevX, nxtX, List.set, codeN] at h ⊢ <;> simp [h]
theorem conv_false (d : D) (x : Str) : Fconv [.ins d, .str x, .bool false] = if failsB codeV x then some (.str x) else none := by
  cases h : failsB codeV x <;> simp [Fconv, fnF, outD, Bconv, seqX, iteX, isStrT, getv, asgX, evS, iteE, un1, trB, searchF, codesOf, retX, nevX, nxtX, List.set, codeV] at h ⊢ <;> simp [h]
theorem addHF_eq (a : Addr) (x y : Str) : addHF (.ins (.obj a)) (.str x) (.str y) = (rowG x y).map fun d => (a, d) := by
  have g0 : ∀ l, getv 0 (D.ins (.obj a) :: l) = some (.ins (.obj a)) := fun _ => rfl
  unfold rowG
  cases h1 : failsB codeV y with
  | false => simp [addHF, addS1, addS2, addS3, addT, nxtOf, ownX, iteX, cmpT, isnF, getv, seqX, asgX, convE, evS, conv_false, conv_true, h1, toB, bin2, D.isSet, List.set]
  | true =>
    cases h2 : failsB codeN x with
    | false => simp [addHF, addS1, addS2, addS3, addT, nxtOf, objOf, un1, insF, nxtX, nevX, noItems, forX, forL, pushX, tupE, consE, methE, ownX, iteX, cmpT, isnF, getv, seqX, asgX, convE, evS, conv_false, conv_true, h1, h2, toB, bin2, D.isSet, List.set, imm, hid]
    | true =>
      cases h3 : joinF [.str "; ", .lst [.str y]] <;>
      simp [addHF, addS1, addS2, addS3, addT, nxtOf, objOf, un1, insF, nxtX, nevX, noItems, forX, forL, pushX, tupE, consE, methE, ownX, iteX, cmpT, isnF, getv, seqX, asgX, convE, evS, conv_false, conv_true, h1, h2, h3, toB, bin2, D.isSet, List.set, imm, hid]
end Mine

/-! UHdrC -/
namespace Mine

section
variable {c : Cx} {n : Nat} {sc : Scope} {vars : List Str} {env : Env} {R : Addr → Prop} {P g0 g : Gh} {own : Option Nat} {ρ : List D} {h : Heap}

/-- something has run that changed what the frame keeps away from, and made new things -/
theorem Fm.growBut {g' : Gh} {h' : Heap} {wr : List Addr} (F : Fm sc env vars R P g0 own ρ g h) (hw : ∀ b ∈ wr, R b) (hP : ∀ b ∈ wr, P b = none) (hk : ∀ b o, b ∉ wr → h.get? b = some o → h'.get? b = some o) (hl : ∀ b ∈ wr, ∃ o, h'.get? b = some o)
    (hg : ∀ b o, g b = some o → g' b = some o) (hs : Sub g' h') (hf : ∀ b o, g' b = some o → g b = some o ∨ h.get? b = none) : Fm sc env vars R P g0 own ρ g' h' := by
  have stay : ∀ b o, h.get? b = some o → g b = none → g' b = none := fun b o e q => by
    cases r : g' b with
    | none => rfl
    | some y =>
      rcases hf b y r with u | u
      · rw [q] at u; cases u
      · rw [e] at u; cases u
  have nw : ∀ b, ¬ R b → b ∉ wr := fun b q e => q (hw b e)
  obtain ⟨m, hn, hv, ho⟩ := F.ns
  refine ⟨F.es, F.fn, F.gl, F.bn, F.nd, F.len, fun a o e => hg _ _ (F.le _ _ e), hs, fun b o e => hk _ _ (fun q => ?_) (F.keep _ _ e), fun b o e => ?_, F.pL, ?_, F.rL, fun b hb => ?_, fun b hb => ?_, ⟨m, ?_, fun i x d a b c e u => ?_, fun i e => ?_⟩, F.ch, fun x c e => ?_, F.cd, fun i x d a b c e => ?_, F.nf⟩
  · rw [hP b q] at e; cases e
  · rcases hf b o e with u | u
    · exact F.fresh _ _ u
    · right
      cases r : P b with
      | none => rfl
      | some y => rw [F.keep _ _ r] at u; cases u
  · obtain ⟨o, _, _, e, _⟩ := hn
    exact stay _ _ e F.gL
  · obtain ⟨o, e⟩ := F.rl b hb
    exact stay _ _ e (F.rg b hb)
  · by_cases q : b ∈ wr
    · exact hl b q
    · obtain ⟨o, e⟩ := F.rl b hb
      exact ⟨o, hk _ _ q e⟩
  · obtain ⟨o, es, ep, e, r⟩ := hn
    exact ⟨o, es, ep, hk _ _ (nw _ F.rL) e, r⟩
  · obtain ⟨v, p, q⟩ := hv i x d a b c e u
    exact ⟨v, p, q.mono fun b y e _ => hg b y e⟩
  · obtain ⟨x, d, a, hx, hd, hset, hl, O⟩ := ho i e
    obtain ⟨o, ho⟩ := O.ob.live
    exact ⟨x, d, a, hx, hd, hset, hl, O.ra, O.mx, O.ob.moved hg fun y e => hk _ _ (nw _ O.ra) e, stay _ _ ho O.ga, O.pa, O.la, O.ca⟩
  · have C := F.ca x c e
    obtain ⟨ov, o, ho, hd⟩ := C.is
    exact ⟨C.rc, stay _ _ ho C.gc, C.pc, C.lc, ov, o, hk _ _ (nw _ C.rc) ho, hd⟩
  · obtain ⟨k, v, p, ⟨o, q1, q2⟩, r⟩ := F.cl i x d a b c e
    exact ⟨k, v, p, ⟨o, hk _ _ (nw _ (F.ca _ _ p).rc) q1, q2⟩, r.mono fun b y e _ => hg b y e⟩

/-- a list that was filled is frozen, and what held it holds a list from now on -/
theorem Fm.freezeAway {j : Nat} {x : Str} {hl : Addr} {vs : List Value} {l : List D} {m : Nat} (F : Fm sc env vars (fun b => R b ∨ b ∈ [hl]) P g0 none ρ g h) (nR : ¬ R hl) (hP : P hl = none) (hx : vars[j]? = some x) (hk : sc.names.lookup x = some .cell)
    (hj : ρ[j]? = some (.ins (.obj hl))) (hL : h.get? hl = some { cls := .type "list", dict := none, data := .seq vs.toArray m, slots := #[] }) (r : RepL g vs l) :
    Fm sc env vars R P g0 none (ρ.set j (.ins (.lst l))) (gput g hl { cls := .type "list", dict := none, data := .seq vs.toArray m, slots := #[] }) h := by
  have ga : g hl = none := F.rg hl (.inr (List.mem_singleton_self _))
  have le := gput_le (o := { cls := .type "list", dict := none, data := .seq vs.toArray m, slots := #[] }) ga
  have stay : ∀ b, b ≠ hl → g b = none → gput g hl { cls := .type "list", dict := none, data := .seq vs.toArray m, slots := #[] } b = none := fun b q e => by unfold gput; rw [if_neg q]; exact e
  obtain ⟨m', hn, hv, ho⟩ := F.ns
  refine ⟨F.es, F.fn, F.gl, F.bn, F.nd, by rw [List.length_set]; exact F.len, fun b y e => le _ _ (F.le _ _ e), fun b y e => ?_, F.keep, fun b y e => ?_, F.pL, stay _ (fun q => F.rL (.inr (by rw [q]; exact List.mem_singleton_self _))) F.gL, fun q => F.rL (.inl q),
    fun b hb => stay _ (fun q => nR (q ▸ hb)) (F.rg b (.inl hb)), fun b hb => F.rl b (.inl hb), ⟨m', hn, fun i y d a b c e u => ?_, fun _ e => nomatch e⟩, F.ch, fun y c e => ?_, F.cd, fun i y d a b c e => ?_, F.nf⟩
  · unfold gput at e
    split at e
    · rename_i q; cases e; rw [q]; exact hL
    · exact F.sub _ _ e
  · unfold gput at e
    split at e
    · rename_i q; rw [q]; exact .inr hP
    · exact F.fresh _ _ e
  · by_cases q : j = i
    · subst q
      rw [hx] at a; cases a
      rw [hk] at e; cases e
    · rw [List.getElem?_set_ne q] at b
      obtain ⟨v, p1, p2⟩ := hv i y d a b c e u
      exact ⟨v, p1, p2.mono fun b y e _ => le b y e⟩
  · have C := F.ca y c e
    exact ⟨fun q => C.rc (.inl q), stay _ (fun q => C.rc (.inr (by rw [q]; exact List.mem_singleton_self _))) C.gc, C.pc, C.lc, C.is⟩
  · by_cases q : j = i
    · subst q
      rw [hx] at a; cases a
      obtain ⟨k, v, p1, p2, p3⟩ := F.cl j x _ hx hj rfl hk
      rw [List.getElem?_set_self (by rw [List.getElem?_eq_some_iff] at hj; exact hj.1)] at b
      cases b
      refine ⟨k, v, p1, p2, ?_⟩
      cases p3 with
      | ins q1 q2 r' =>
        cases r'
        exact .ins (le _ _ q1) (le _ _ q2) (.lst (gput_self ..) (r.mono fun b y e _ => le b y e))
    · rw [List.getElem?_set_ne q] at b
      obtain ⟨k, v, p1, p2, p3⟩ := F.cl i y d a b c e
      exact ⟨k, v, p1, p2, p3.mono fun b y e _ => le b y e⟩
end
end Mine

/-! UHdrD -/
namespace Mine

noncomputable abbrev listObj (vs : List Value) (m : Nat) : Obj := { cls := .type "list", dict := none, data := .seq vs.toArray m, slots := #[] }

noncomputable def rowsL (row : D → Option D) : List D → Option (List D)
  | [] => some []
  | d :: ds => match row d, rowsL row ds with
    | some r, some rs => some (r :: rs)
    | _, _ => none
noncomputable def lastD : D → List D → D
  | d, [] => d
  | _, d :: ds => lastD d ds

section
variable {c : Cx} {n : Nat} {sc : Scope} {vars : List Str}

/-- a body that lays one more row into a list that the frame keeps away from -/
noncomputable def Lays (c : Cx) (n : Nat) (sc : Scope) (vars : List Str) (body : List Stmt) (jt j : Nat) (row : D → Option D) : Prop :=
  ∀ (env : Env) (A : Around) (s : Shared) (R : Addr → Prop) (P g0 g : Gh) (ρ : List D) (hl : Addr) (vs : List Value) (m : Nat) (l : List D) (d r : D) (Q : Flow → Shared → Prop) (E : Value → Shared → Prop),
    Ok A n → GdP c P → Fm sc env vars R P g0 none ρ g s.heap → 0 < s.toks → R hl → P hl = none → s.heap.get? hl = some (listObj vs m) → RepL g vs l → l.length ≤ 900 → ρ[jt]? = some (.ins (.obj hl)) → ρ[j]? = some d → row d = some r →
    (∀ g' h' tk' v m', Fm sc env vars R P g0 none ρ g' h' → (∀ b o, R b → b ≠ hl → s.heap.get? b = some o → h'.get? b = some o) → (∀ b o, g b = some o → g' b = some o) → h'.get? hl = some (listObj (vs ++ [v]) m') → Rep g' v r → 0 < tk' → Q .next { s with heap := h', toks := tk' }) →
    wpAny (model c.prog c.w) A (execs body env) Q E s

/-- where a loop that fills a list stands -/
inductive FillI (sc : Scope) (env : Env) (vars : List Str) (R : Addr → Prop) (P g0 : Gh) (wr : List Addr) (g' : Gh) (S : Nat → Heap → Prop) (ds l rows : List D) (row : D → Option D) (hl : Addr) (jt j : Nat) (ρ : List D) (s : Shared) : Nat → Shared → Prop
  | mk (i : Nat) (ρ' : List D) (g2 : Gh) (h2 : Heap) (tk2 : Nat) (vs2 : List Value) (m2 : Nat) (l2 rest : List D) (F2 : Fm sc env vars (fun b => R b ∨ b ∈ wr) P g0 none ρ' g2 h2) (hg2 : ∀ a o, g' a = some o → g2 a = some o) (hst2 : S i h2) (hp2 : 0 < tk2) (hle : i ≤ ds.length)
      (hj2 : ρ'[jt]? = some (.ins (.obj hl))) (hL2 : h2.get? hl = some (listObj vs2 m2)) (rl2 : RepL g2 vs2 l2) (hlen2 : l2.length + (ds.length - i) ≤ 900) (er : rowsL row (ds.drop i) = some rest) (el : l2 ++ rest = l ++ rows) (hjl : j < ρ'.length)
      (elast : (if ds.drop i = [] then ρ' else ρ'.set j (lastD .undef (ds.drop i))) = (if ds = [] then ρ else ρ.set j (lastD .undef ds))) :
      FillI sc env vars R P g0 wr g' S ds l rows row hl jt j ρ s (ds.length - i) { s with heap := h2, toks := tk2 }
theorem fill_loop {x : Str} {px : Pos} {iter : Expr} {body : List Stmt} {p : Pos} {fi : List D → Option (List D)} {jt j : Nat} {row : D → Option D} {env : Env} {A : Around} {s : Shared} {R : Addr → Prop} {P g0 g : Gh} {ρ : List D} {hl : Addr} {vs : List Value} {m : Nat} {l rows : List D} {ds : List D}
    {Q : Flow → Shared → Prop} {E : Value → Shared → Prop} (hv : Var sc vars none x j) (hjt : jt ≠ j) (hi : ItE c n sc vars (.Name x px) iter fi) (hb : Lays c n sc vars body jt j row) (hs : ∀ env x, foldedSetIterable iter env x = pure x)
    (ok : Ok A n) (G : GdP c P) (F : Fm sc env vars R P g0 none ρ g s.heap) (hp : 0 < s.toks) (hR : R hl) (hPl : P hl = none) (hL : s.heap.get? hl = some (listObj vs m)) (rl : RepL g vs l) (hj : ρ[jt]? = some (.ins (.obj hl)))
    (e1 : fi ρ = some ds) (e2 : rowsL row ds = some rows) (hlen : l.length + ds.length ≤ 900)
    (k : ∀ g' h' tk' vs' m', Fm sc env vars R P g0 none (if ds = [] then ρ else ρ.set j (lastD .undef ds)) g' h' → (∀ b o, g b = some o → g' b = some o) → h'.get? hl = some (listObj vs' m') → RepL g' vs' (l ++ rows) → 0 < tk' → Q .next { s with heap := h', toks := tk' }) :
    wpAny (model c.prog c.w) A (exec (.For (.Name x px) iter body [] p) env) Q E s := by
  refine wpAny_For (hi env A s g _ ds _ E ok (G _ F.keep) F.sub F.view hp e1 fun I wr S M h' g' tk' x W hst hn hg hp' => ?_) (hs env)
  have hP : ∀ b ∈ wr, P b = none := fun b hb => by
    cases q : P b with
    | none => rfl
    | some o => have := hn b hb; rw [F.keep _ _ q] at this; cases this
  have hnl : hl ∉ wr := fun q => by have := hn _ q; rw [hL] at this; cases this
  have F1 := F.growAway x hn hg (W.live 0 _ hst)
  have hjl0 : j < ρ.length := by
    rw [F.len]
    have := hv.hx
    rw [List.getElem?_eq_some_iff] at this
    exact this.1
  refine codeAny_forLoop_any (FillI sc env vars R P g0 wr g' S ds l rows row hl jt j ρ s) ?_ ds.length
    (.mk 0 ρ g' h' tk' vs m l rows F1 (fun _ _ e => e) hst hp' (Nat.zero_le _) hj (x.keep _ _ hL) (x.repL rl) hlen e2 rfl hjl0 rfl)
  rintro kk s' ⟨i, ρ', g2, h2, tk2, vs2, m2, l2, rest, F2, hg2, hst2, hp2, hle, hj2, hL2, rl2, hlen2, er, el, hjl, elast⟩
  have hsub2 : Sub g' h2 := fun a o e => F2.sub _ _ (hg2 _ _ e)
  by_cases hlt : i < ds.length
  · rw [List.drop_eq_getElem_cons hlt] at er elast
    refine W.item i ds[i] { s with heap := h2, toks := tk2 } _ _ (List.getElem?_eq_getElem hlt) hst2 hsub2 hp2 fun v hm tk3 hmid hkm hp3 => ?_
    have hsubm : Sub g' hm := fun a o e => hkm a o (fun q => by have := hg a q; rw [e] at this; cases this) (hsub2 a o e)
    refine W.go i ds[i] v { s with heap := hm, toks := tk3 } _ _ (List.getElem?_eq_getElem hlt) hmid hsubm fun h3 hva hst3 hkg => ?_
    have hk3 : ∀ b o, b ∉ wr → h2.get? b = some o → h3.get? b = some o := fun b o q e => hkg b o q (hkm b o q e)
    have F3 := F2.but (wr := wr) (fun b hb => .inr hb) hP hk3 (W.live _ _ hst3)
    have hva' : Rep g2 v ds[i] := Rep.mono (fun b o e _ => hg2 _ _ e) (show Rep g' v ds[i] from hva)
    refine wpAny_assign_Name (F3.store hp3 hv.hx hv.hk hv.ho hva' fun h4 tk4 F4 hR4 hp4 => ?_)
    have hst4 : S (i + 1) h4 := W.frame _ _ _ hst3 (fun b hb o e => hR4 b o (.inr hb) e) fun a o e => F4.sub _ _ (hg2 _ _ e)
    unfold rowsL at er
    split at er
    · rename_i r rs hr hrs
      cases er
      refine hb env A { s with heap := h4, toks := tk4 } _ P g0 g2 _ hl vs2 m2 l2 ds[i] r _ _ ok G F4 hp4 (.inl hR) hPl (hR4 _ _ (.inl hR) (hk3 _ _ hnl hL2)) rl2 (by omega) (by rw [List.getElem?_set_ne (Ne.symm hjt)]; exact hj2) (List.getElem?_set_self hjl) hr fun g5 h5 tk5 v5 m5 F5 hR5 hg5 hL5 r5 hp5 => ?_
      refine ⟨ds.length - (i + 1), by omega, .mk (i + 1) _ g5 h5 tk5 _ m5 (l2 ++ [r]) rs F5 (fun a o e => hg5 _ _ (hg2 _ _ e)) (W.frame _ _ _ hst4 (fun b hb o e => hR5 b o (.inr hb) (fun q => hnl (q ▸ hb)) e) (fun a o e => F5.sub _ _ (hg5 _ _ (hg2 _ _ e)))) hp5 hlt ?_ hL5 ((rl2.mono fun b o e _ => hg5 b o e).append (.cons r5 .nil)) ?_ hrs ?_ ?_ ?_⟩
      · rw [List.getElem?_set_ne (Ne.symm hjt)]; exact hj2
      · rw [List.length_append]; simp only [List.length_cons, List.length_nil]; omega
      · rw [← el]; simp
      · rw [List.length_set]; exact hjl
      · rw [if_neg (List.cons_ne_nil _ _)] at elast
        rw [← elast]
        split
        · rename_i q; rw [q]; rfl
        · rename_i q
          rw [List.set_set]
          cases q2 : ds.drop (i + 1) with
          | nil => exact absurd q2 q
          | cons a b => rfl
    · cases er
  · have hi' : i = ds.length := Nat.le_antisymm hle (Nat.le_of_not_lt hlt)
    subst hi'
    rw [List.drop_length] at er elast
    cases er
    refine W.done { s with heap := h2, toks := tk2 } _ _ hst2 hsub2 hp2 fun h3 tk3 hk3 hp3 => ?_
    have nR : ∀ b ∈ wr, ¬ R b := fun b hb q => by
      obtain ⟨o, e⟩ := F.rl b q
      rw [hn b hb] at e; cases e
    rw [if_pos rfl] at elast
    refine wpAny_execs_nil (k g2 h3 tk3 vs2 m2 (elast ▸ F2.drop hP nR hk3) (fun b o e => hg2 _ _ (x.le _ _ e)) (hk3 _ _ hnl hL2) ?_ hp3)
    rw [← el, List.append_nil]; exact rl2
end
end Mine

/-! UHdrE -/
namespace Mine

noncomputable def rowK : D → Option D
  | .str y => match replF "." "" (.str y) with
    | some (.str x) => rowG x y
    | _ => none
  | _ => none
noncomputable def kindsC : List D → Option D := compF none [1] (un1 itemsOf (tupE (consE (fun _ => some (D.str "")) (consE (fun _ => some (D.str "R")) (consE (fun _ => some (D.str "g")) (consE (fun _ => some (D.str "rG")) (consE (fun _ => some (D.str "b")) (consE (fun _ => some (D.str "Rb")) (consE (fun _ => some (D.str "gB")) (consE (fun _ => some (D.str "rGb")) (fun _ => some [])))))))))))
  (fun _ => some true) (insMethE FgetAll (getv 1) (consE (getv 0) (fun _ => some [])))
noncomputable def F_law_kinds : List D → Option D
  | [.lst forms] => match rowsL rowK forms with
    | some rows => if forms.length ≤ 900 then kindsC ((if forms = [] then [D.lst forms, .undef, .undef] else [D.lst forms, .undef, lastD .undef forms]).set 1 (.ins (.lst rows))) else none
    | none => none
  | _ => none

theorem fn_law_kinds {w : World} {mg mb : Str → Option Value} {n : Nat} : CallOk (cx w mg mb) (n + 4) (.ref 280) F_law_kinds := by
  intro A s g vs ds d Q E ok G hs r hp e k
  unfold F_law_kinds at e
  split at e
  · rename_i forms
    split at e
    · rename_i rows hrows
      split at e
      · rename_i hlen
        refine fn_enter (c := cx w mg mb) (n := n + 3) (g := g) (args := ⟨vs, []⟩) (ds := [.lst forms]) (vars := ["laid", "table", "form"]) (ns := ["laid"]) 1 2 rfl rfl rfl rfl rfl rfl rfl
          ⟨_, rfl⟩ rfl rfl (by decide) (locs_ (by decide)) (noFree (by decide)) rfl rfl rfl ok G rfl (fun E1 => ?_) ?_
        · obtain ⟨v, rfl, r1⟩ := RepL.one r
          exact wpAny_pure ⟨s.heap, g, s.toks, [v], rfl, rfl, Ext.refl hs, r, hp⟩
        · intro env h1 g1 tk1 E1 ok1 F hle hfr hp1
          have GP : GdP (cx w mg mb) s.heap.get? := fun h hk => G.keeps hk
          refine wpAny_execs_cons (wpAny_Assign_Name ?_ (by obtain h := F.es; cases env; cases h; rfl))
          refine wpAny_Call_Name_kw (evalName (c := cx w mg mb) (.glob (fv := .ref 231) rfl rfl) rfl (GP _ F.keep) F.view ?_)
          refine callWith_callee (c := cx w mg mb) (.kept rfl) rfl ?_
          refine args_nil ⟨(GP _ F.keep).k, ?_⟩
          refine call_headers (w := w) (mg := mg) (mb := mb) (n := n) (g := g1) (s := { s with heap := h1, toks := tk1 }) (ok1.low (by omega)) (GP _ F.keep) F.sub hp1 fun x hl h2 g2 tk2 m x2 hg2 hn2 hL2 r2 hp2 => ?_
          have F2 := F.growAway (wr := [hl]) x2 (fun b hb => by rw [List.mem_singleton.mp hb]; exact hn2) (fun b hb => by rw [List.mem_singleton.mp hb]; exact hg2) (fun b hb => by rw [List.mem_singleton.mp hb]; exact ⟨_, hL2⟩)
          refine F2.store (s := { s with heap := h2, toks := tk2 }) (j := 1) (d := .ins (.obj hl)) hp2 rfl (.inr rfl) (fun q => nomatch q) r2 fun h3 tk3 F3 hR3 hp3 => ?_
          have hPl : s.heap.get? hl = none := by
            cases q : s.heap.get? hl with
            | none => rfl
            | some o => have := F.keep _ _ q; rw [hn2] at this; cases this
          refine wpAny_execs_cons ?_
          refine fill_loop (c := cx w mg mb) (n := n + 3) (s := { s with heap := h3, toks := tk3 }) (vs := []) (m := m) (l := []) (jt := 1) (j := 2) (row := rowK) (rows := rows) (ds := forms) ⟨rfl, .inl rfl, by decide⟩ (by decide) (ItE.name (Ev.var (i := 0) rfl rfl rfl)) ?_ (fun _ _ => rfl)
            ok1 GP F3 hp3 (.inr (List.mem_singleton_self _)) hPl (hR3 _ _ (.inr (List.mem_singleton_self _)) hL2) .nil rfl rfl hrows (by simpa using hlen) fun g4 h4 tk4 vs4 m4 F4 hg4 hL4 rl4 hp4 => ?_
          · intro env A s R P g0 g ρ hl vs m l d r Q E ok G F hp hR hPl hL rl hlen hjt hj hr k
            unfold rowK at hr
            split at hr
            · rename_i y
              split at hr
              · rename_i x hx
                refine wpAny_execs_cons (wpAny_Expr ?_ (by obtain h := F.es; cases env; cases h; rfl) rfl)
                refine MethodCall_ (pl := _) ?_ rfl
                refine Ev.cell (c := cx w mg mb) (n := n + 3) (i := 1) rfl rfl rfl env _ s g ρ (.ins (.obj hl)) _ _ ok (G _ F.keep) F.sub F.view hp (by show getv 1 ρ = _; unfold getv; rw [hjt]) fun v h1 g1 t1 x1 r1 p1 => ?_
                have F1 := F.ext x1
                refine insMethod (c := cx w mg mb) (HKK := hdrK w.params) (methAdd w.params) (G _ F1.keep).k x1.sub r1 ?_
                refine callWith_callee (c := cx w mg mb) (.kept rfl) rfl ?_
                refine (EvL.cons (Ev.repl (Ev.var (i := 2) rfl rfl rfl) (fun _ => ⟨_, rfl⟩)) (EvL.cons (Ev.var (i := 2) rfl rfl rfl) EvL.nil (fun _ => rfl)) (fun _ => rfl) : EvL (cx w mg mb) (n + 3) _ ["laid", "table", "form"] _ _) env _ { s with heap := h1, toks := t1 } g1 ρ [.str x, .str y] _ _ _ ok (G _ F1.keep) x1.sub F1.view p1 ?_ fun ws h2 g2 t2 x2 r2 p2 => ?_
                · have e2 : getv 2 ρ = some (.str y) := by unfold getv; rw [hj]
                  simp only [consE, un1, hid, e2, hx]
                · obtain ⟨w1, w2, rfl, q1, q2⟩ := r2.two
                  have F2 := F1.ext x2
                  refine ⟨(G _ F2.keep).k, ?_⟩
                  refine toksT p2 (call_add (w := w) (mg := mg) (mb := mb) (n := n) (g := g2) (s := { s with heap := h2, toks := t2 }) (d0 := .ins (.obj hl)) (d1 := .str x) (d2 := .str y) (d := r) (hl := hl) (vs := vs) (m := m) (l := l) (ok.low (by omega)) (G _ F2.keep) F2.sub (x2.rep r1) q1 q2 p2
                    (by rw [addHF_eq, hr]; rfl) (x2.keep _ _ (x1.keep _ _ hL)) (F2.rg hl hR) (x2.repL (x1.repL rl)) (by omega) fun h3 g3 tk3 v3 m3 hk3 hle3 hs3 hf3 hL3 r3 p3 => ?_)
                  refine fun _ => ?_
                  show wpAny _ _ (execs [] env) _ _ _
                  refine wpAny_execs_nil (k g3 h3 tk3 v3 m3 (F2.growBut (wr := [hl]) (fun b hb => by rw [List.mem_singleton.mp hb]; exact hR) (fun b hb => by rw [List.mem_singleton.mp hb]; exact hPl) (fun b o hb e => hk3 b o (fun q => hb (by rw [q]; exact List.mem_singleton_self _)) e) (fun b hb => by rw [List.mem_singleton.mp hb]; exact ⟨_, hL3⟩) hle3 hs3 hf3) ?_ ?_ hL3 r3 p3)
                  · exact fun b o _ hb e => hk3 b o hb (x2.keep _ _ (x1.keep _ _ e))
                  · exact fun b o e => hle3 _ _ (x2.le _ _ (x1.le _ _ e))
              · cases hr
            · cases hr
          · have F5 := F4.freezeAway (j := 1) (x := "table") (hl := hl) (vs := vs4) (l := rows) (m := m4) (fun q => q) hPl rfl rfl (by split <;> rfl) hL4 (by simpa using rl4)
            show wpAny _ _ (execs _ env) _ _ _
            refine wpAny_execs_cons (wpAny_Return_some (F5.run (c := cx w mg mb) (n := n + 3) (s := { s with heap := h4, toks := tk4 }) (f := kindsC) (d := d) ok1 GP hp4
              (Ev.comp (tns := ["name"]) (cns := ["table"]) (caps := [1]) (ItE.name (Ev.tup (EvL.cons Ev.strc (EvL.cons Ev.strc (EvL.cons Ev.strc (EvL.cons Ev.strc (EvL.cons Ev.strc (EvL.cons Ev.strc (EvL.cons Ev.strc (EvL.cons Ev.strc EvL.nil (fun _ => rfl)) (fun _ => rfl)) (fun _ => rfl)) (fun _ => rfl)) (fun _ => rfl)) (fun _ => rfl)) (fun _ => rfl)) (fun _ => rfl)))) CTgt.one
                Tests.nil (Ev.insMeth (hdrK w.params) (methGet w.params) fngetAll (Ev.cell (i := 1) rfl rfl rfl) (EvL.cons (Ev.var (i := 0) rfl rfl rfl) EvL.nil (fun _ => rfl)) (fun _ => rfl) (fun _ => ⟨_, rfl⟩)) rfl (fun _ _ => rfl))
              (by
                show kindsC _ = some d
                by_cases q : forms = []
                · rw [if_pos q] at e ⊢; exact e
                · rw [if_neg q] at e ⊢; exact e) fun v g' h' tk' F' _ hg' r p => ?_))
            exact k v h' g' tk' ⟨fun b o e => F'.le _ _ (hle _ _ e), F'.sub, F'.keep, fun b o e => (F'.fresh b o e).elim (fun u => hfr b o u) .inr⟩ r
      · cases e
    · cases e
  · cases e
end Mine

/-! ULaw -/
namespace Mine
noncomputable def L2 : List D → Option Out := (asgX none 2 (bin2 modF (bin2 addF (callE sumF (consE (bin2 itmF (getv 1) (slcE (un1 partF (fun _ => some (D.int 0))) (fun _ => some none) (un1 partF (fun _ => some (D.int 2))))) (fun _ => some []))) (fun _ => some (D.int 107))) (fun _ => some (D.int 256))))
noncomputable def L3 : List D → Option Out := (asgX none 3 (bin2 modF (bin2 addF (callE sumF (consE (bin2 itmF (getv 1) (slcE (un1 partF (fun _ => some (D.int 1))) (fun _ => some none) (un1 partF (fun _ => some (D.int 2))))) (fun _ => some []))) (fun _ => some (D.int 110))) (fun _ => some (D.int 256))))
noncomputable def L4 : List D → Option Out := (asgX none 4 (lstE (consE (fun _ => some (D.int 1)) (consE (fun _ => some (D.int 3)) (consE (fun _ => some (D.int 2)) (consE (fun _ => some (D.int 6)) (consE (fun _ => some (D.int 4)) (consE (fun _ => some (D.int 5)) (consE (fun _ => some (D.int 7)) (consE (fun _ => some (D.int 0)) (fun _ => some [])))))))))))
noncomputable def L5 : List D → Option Out := (asgX none 5 (callE F_law_forms (fun _ => some [])))
noncomputable def L6 : List D → Option Out := (asgX none 6 (compF none [5] (un1 itemsOf (callE rngF (consE (fun _ => some (D.int 8)) (fun _ => some [])))) (fun _ => some true) (bin2 itmF (getv 1) (bin2 addF (fun _ => some (D.int 56)) (getv 0)))))
noncomputable def L7 : List D → Option Out := (asgCompX 7 0 (compD none [] (un1 itemsOf (callE rngF (consE (fun _ => some (D.int 8)) (fun _ => some [])))) (fun _ => some true) (callE F_law_paint (consE (getv 0) (fun _ => some [])))))
noncomputable def L8 : List D → Option Out := (iteX (cmpT neF (compF none [] (un1 itemsOf (getv 7)) (fun _ => some true) (callE F_law_word (consE (getv 0) (fun _ => some [])))) (compF none [6] (un1 itemsOf (getv 4)) (fun _ => some true) (bin2 itmF (getv 1) (getv 0)))) (seqX (retX none (fun _ => some (D.bool false)))
  (fun ρ => some (Out.nxt ρ))) (fun ρ => some (Out.nxt ρ)))
noncomputable def L9 : List D → Option Out := (asgX none 8 (compF (some 2) [2] (enumE (getv 4)) (un1 trB (bin2 andF (bin2 shrF (getv 2) (getv 0)) (fun _ => some (D.int 1)))) (getv 1)))
noncomputable def L10 : List D → Option Out := (asgX none 9 (compF (some 2) [3] (enumE (getv 4)) (un1 trB (bin2 andF (bin2 shrF (getv 2) (getv 0)) (fun _ => some (D.int 1)))) (getv 1)))
noncomputable def L11 : List D → Option Out := (asgX none 10 (callE F_law_grounds (consE (getv 5) (consE (compF none [6, 8] (un1 itemsOf (callE rngF (consE (fun _ => some (D.int 8)) (fun _ => some [])))) (cmpT ninF (getv 0) (getv 2)) (bin2 itmF (getv 1) (getv 0))) (fun _ => some [])))))
noncomputable def L12 : List D → Option Out := (asgX none 11 (callE F_law_grounds (consE (getv 5) (consE (compF none [6, 9] (un1 itemsOf (callE rngF (consE (fun _ => some (D.int 8)) (fun _ => some [])))) (cmpT ninF (getv 0) (getv 2)) (bin2 itmF (getv 1) (getv 0))) (fun _ => some [])))))
noncomputable def L13 : List D → Option Out := (asgX none 12 (callE F_law_kinds (consE (getv 10) (fun _ => some []))))
noncomputable def L14 : List D → Option Out := (asgX none 13 (callE F_law_kinds (consE (getv 11) (fun _ => some []))))
noncomputable def L15 : List D → Option Out := (iteX (cmpT neF (fun ρ => (comp2D [] (un1 itemsOf (bin2 addF (getv 12) (getv 13))) (un1 itemsOf (getv 0)) (getv 1) ρ).map D.lst) (bin2 addF (getv 10) (getv 11))) (seqX (retX none (fun _ => some (D.bool false)))
  (fun ρ => some (Out.nxt ρ))) (fun ρ => some (Out.nxt ρ)))
noncomputable def L16 : List D → Option Out := (asgX none 14 (callE F_law_box (consE (getv 5) (consE (getv 12) (consE (getv 13) (fun _ => some []))))))
noncomputable def L17 : List D → Option Out := (iteX (cmpT neF (getv 14) (callE F_law_plain (consE (getv 8) (consE (getv 9) (fun _ => some []))))) (seqX (retX none (fun _ => some (D.bool false)))
  (fun ρ => some (Out.nxt ρ))) (fun ρ => some (Out.nxt ρ)))
noncomputable def L18 : List D → Option Out := (asgCompX 15 0 (compD none [6] (un1 itemsOf (getv 8)) (fun _ => some true) (bin2 itmF (getv 1) (getv 0))))
noncomputable def L19 : List D → Option Out := (asgCompX 16 0 (compD none [6] (un1 itemsOf (getv 9)) (fun _ => some true) (bin2 itmF (getv 1) (getv 0))))
noncomputable def L20 : List D → Option Out := (asgX none 17 (callE F_law_facing (consE (getv 7) (consE (getv 15) (consE (getv 16) (fun _ => some []))))))
noncomputable def L21 : List D → Option Out := (iteX (cmpT neF (getv 17) (compF none [6, 9] (un1 itemsOf (getv 8)) (cmpT inF (bin2 subF (fun _ => some (D.int 7)) (getv 0)) (getv 2)) (tupE (consE (bin2 itmF (getv 1) (getv 0)) (consE (bin2 itmF (getv 1) (bin2 subF (fun _ => some (D.int 7)) (getv 0))) (fun _ => some [])))))) (seqX (retX none (fun _ => some (D.bool false)))
  (fun ρ => some (Out.nxt ρ))) (fun ρ => some (Out.nxt ρ)))
noncomputable def L22 : List D → Option Out := (asgCompX 18 0 (compD (some 2) [] (un1 itemsTup (bin2 addF (getv 17) (lzipE (getv 15) (getv 16)))) (fun _ => some true) (callE F_levenshtein_distance (consE (getv 0) (consE (getv 1) (consE (fun _ => some (D.int 3)) (fun _ => some [])))))))
noncomputable def L23 : List D → Option Out := (iteX (cmpT neF (getv 18) (bin2 addF (bin2 mulF (lstE (consE (fun _ => some (D.int 3)) (fun _ => some []))) (callE lenF (consE (getv 17) (fun _ => some [])))) (compF (some 2) [] (zipE (getv 8) (getv 9)) (fun _ => some true) (bin2 itmF (tupE (consE (fun _ => some (D.int 0)) (consE (fun _ => some (D.int 1)) (consE (fun _ => some (D.int 1)) (consE (fun _ => some (D.int 2)) (consE (fun _ => some (D.int 1)) (consE (fun _ => some (D.int 2)) (consE (fun _ => some (D.int 2)) (consE (fun _ => some (D.int 3)) (fun _ => some [])))))))))) (bin2 xorF (getv 0) (getv 1)))))) (seqX (retX none (fun _ => some (D.bool false)))
  (fun ρ => some (Out.nxt ρ))) (fun ρ => some (Out.nxt ρ)))
noncomputable def L24 : List D → Option Out := (forX none (Tg.one 19) (un1 itemsOf (getv 10)) (seqX (iteX (cmpT neF (callE F_ellipsis_match (consE (getv 19) (consE (bin2 addF (bin2 addF (fun _ => some (D.str "-")) (un1 (replF "." "") (getv 19))) (fun _ => some (D.str "-"))) (fun _ => some [])))) (bin2 eqF (bin2 addF (bin2 itmF (getv 19) (fun _ => some (D.int 0))) (bin2 itmF (getv 19) (un1 negF (fun _ => some (D.int 1))))) (fun _ => some (D.str "..")))) (seqX (retX none (fun _ => some (D.bool false)))
  (fun ρ => some (Out.nxt ρ))) (fun ρ => some (Out.nxt ρ)))
  (fun ρ => some (Out.nxt ρ))))
noncomputable def L25 : List D → Option Out := (forX none (Tg.one 20) (un1 itemsOf (bin2 itmF (getv 12) (fun _ => some (D.int 7)))) (seqX (iteX (orT (un1 trB (callE F_ellipsis_match (consE (bin2 addF (bin2 addF (getv 20) (fun _ => some (D.str "..."))) (getv 20)) (consE (getv 20) (fun _ => some []))))) (orT (un1 trB (callE F_ellipsis_match (consE (bin2 addF (bin2 addF (bin2 addF (bin2 addF (fun _ => some (D.str "...")) (bin2 itmF (getv 20) (fun _ => some (D.int 2)))) (fun _ => some (D.str "..."))) (bin2 itmF (getv 20) (fun _ => some (D.int 0)))) (fun _ => some (D.str "..."))) (consE (getv 20) (fun _ => some []))))) (fun _ => some false))) (seqX (retX none (fun _ => some (D.bool false)))
  (fun ρ => some (Out.nxt ρ))) (fun ρ => some (Out.nxt ρ)))
  (fun ρ => some (Out.nxt ρ))))
noncomputable def L26 : List D → Option Out := (iteX (cmpT gtF (callE lenF (consE (getv 14) (fun _ => some []))) (callE lenF (consE (callE F_law_facing (consE (getv 7) (consE (getv 16) (consE (getv 15) (fun _ => some []))))) (fun _ => some [])))) (seqX (retX none (fun _ => some (D.bool false)))
  (fun ρ => some (Out.nxt ρ))) (fun ρ => some (Out.nxt ρ)))
noncomputable def L27 : List D → Option Out := (asgCompX 21 0 (compD none [6, 12] (un1 itemsOf (callE rngF (consE (fun _ => some (D.int 8)) (fun _ => some [])))) (cmpT inF (bin2 itmF (getv 1) (getv 0)) (bin2 itmF (getv 2) (fun _ => some (D.int 7)))) (getv 0)))
noncomputable def L28 : List D → Option Out := (asgCompX 22 0 (compD none [6, 13] (un1 itemsOf (callE rngF (consE (fun _ => some (D.int 8)) (fun _ => some [])))) (cmpT inF (bin2 itmF (getv 1) (getv 0)) (bin2 itmF (getv 2) (fun _ => some (D.int 7)))) (getv 0)))
noncomputable def L29 : List D → Option Out := (asgCompX 23 0 (compD none [] (un1 itemsOf (bin2 itmF (bin2 addF (getv 1) (lstE (consE (fun _ => some (D.int 0)) (consE (fun _ => some (D.int 1)) (consE (fun _ => some (D.int 2)) (consE (fun _ => some (D.int 3)) (consE (fun _ => some (D.int 4)) (consE (fun _ => some (D.int 5)) (fun _ => some []))))))))) (slcE (fun _ => some none) (un1 partF (fun _ => some (D.int 6))) (fun _ => some none)))) (fun _ => some true) (bin2 addF (fun _ => some (D.int 1)) (bin2 modF (getv 0) (fun _ => some (D.int 1000))))))
noncomputable def L30 : List D → Option Out := (retX none (bin2 leF (bin2 mulF (callE F_law_weight (consE (getv 23) (consE (getv 14) (fun _ => some [])))) (callE F_law_weight (consE (getv 23) (consE (callE rngF (consE (fun _ => some (D.int 8)) (fun _ => some []))) (fun _ => some []))))) (bin2 mulF (callE F_law_weight (consE (getv 23) (consE (getv 21) (fun _ => some [])))) (callE F_law_weight (consE (getv 23) (consE (getv 22) (fun _ => some [])))))))
noncomputable def Blaw : List D → Option Out := (seqX L2 (seqX L3 (seqX L4 (seqX L5 (seqX L6 (seqX L7 (seqX L8 (seqX L9 (seqX L10 (seqX L11 (seqX L12 (seqX L13 (seqX L14 (seqX L15 (seqX L16 (seqX L17 (seqX L18 (seqX L19 (seqX L20 (seqX L21 (seqX L22 (seqX L23 (seqX L24 (seqX L25 (seqX L26 (seqX L27 (seqX L28 (seqX L29 (seqX L30 (fun ρ => some (Out.nxt ρ)))))))))))))))))))))))))))))))
theorem call_law {w : World} {mg mb : Str → Option Value} {A : Around} {s : Shared} {g : Gh} {v : Value} {ds : List D} {dd d : D} {Q : Value → Shared → Prop} {E : Value → Shared → Prop} (ok : Ok A 6)
    (G : Gd (cx w mg mb).K (cx w mg mb).mg (cx w mg mb).mb s.heap) (hs : Sub g s.heap) (r : Rep g v (.lst ds)) (e1 : itmF (.lst ds) (.slc none (some 63) none) = some dd) (e2 : Blaw ([.lst ds, dd] ++ List.replicate 22 .undef) = some (.ret d))
    (k : Post s g d Q) : wpAny (model (cx w mg mb).prog (cx w mg mb).w) A (call (.ref 323) [v] []) Q E s := by
  refine wpAny_call (fn_enterT (c := cx w mg mb) (n := 5) (g := g) (args := ⟨[v], []⟩) (ds := [.lst ds]) (vars := ["script", "drawn", "left", "right", "wheel", "shapes", "words", "spots", "firsts", "seconds", "grounds", "replies", "reasons", "counters", "told", "near", "far", "faced", "spans", "ground", "plain", "own", "theirs", "loads"]) (ns := ["script"]) 0 1 23 rfl rfl rfl rfl rfl rfl rfl
    ⟨_, rfl⟩ rfl rfl (by decide) (locs_ (by decide)) (noFree (by decide)) rfl rfl rfl ok G rfl (fun E1 => ?_) ?_)
  · exact wpAny_pure ⟨s.heap, g, s.toks, [v], rfl, rfl, Ext.refl hs, .cons r .nil, Nat.zero_le _⟩
  · intro env h1 g1 tk1 E1 ok1 F hle hfr hp1
    have GP : GdP (cx w mg mb) s.heap.get? := fun h hk => G.keeps hk
    refine wpAny_execs_cons (wpAny_Assign_Name ?_ (by obtain h := F.es; cases env; cases h; rfl))
    refine Subscript_ ?_
    refine wpAny_Name (F.load (c := cx w mg mb) (s := { s with heap := h1, toks := tk1 }) (j := 0) ⟨rfl, .inl rfl, by decide⟩ rfl rfl fun u ru => ?_) rfl
    refine wpAny_Slice ?_
    refine wpAny_pure ?_
    refine (show wpAny _ _ (eval (.Constant (.int 63) 0 { line := 316, col := 20, endLine := 316, endCol := 22 }) env) _ _ _ from wpAny_Constant_int ?_)
    refine wpAny_pure ?_
    have x := Ext.push F.sub { cls := .type "slice", data := .fields #[.none, .int 63 tk1, .none] }
    have F2 := F.ext x
    refine toksT (Nat.succ_pos _) (itmTail (c := cx w mg mb) (n := 5) (fun _ _ => ⟨_, rfl⟩) _ _ _ (.lst ds) (.slc none (some 63) none) dd _ _ _ _ ok1 F2.sub (x.rep ru) (.slc (gput_self ..) .none (.int _ _) .none) e1 fun v3 h3 g3 t3 x3 r3 p3 => ?_)
    refine (F2.ext x3).store (j := 1) p3 rfl (.inl rfl) (by decide) r3 fun h4 t4 F4 _ p4 => ?_
    refine (show Ex (cx w mg mb) 5 _ ["script", "drawn", "left", "right", "wheel", "shapes", "words", "spots", "firsts", "seconds", "grounds", "replies", "reasons", "counters", "told", "near", "far", "faced", "spans", "ground", "plain", "own", "theirs", "loads"] none none none _ Blaw from
      (Ex.cons (St.asg ⟨rfl, .inr rfl, by decide⟩ (Ev.bin (Ev.bin (Ev.call (.boot rfl rfl boot_sum (by decide)) rfl (EvL.cons (Ev.item (Ev.var (i := 1) rfl rfl rfl) (Ev.slice (EvO.some Ev.int) EvO.none (EvO.some Ev.int)) (fun _ _ => ⟨_, rfl⟩)) EvL.nil (fun _ => rfl)) (.builtin _) sumOk (fun _ => rfl)) Ev.int addOk) Ev.int modOk) (fun env h => by cases env; cases h; rfl))
      (Ex.cons (St.asg ⟨rfl, .inr rfl, by decide⟩ (Ev.bin (Ev.bin (Ev.call (.boot rfl rfl boot_sum (by decide)) rfl (EvL.cons (Ev.item (Ev.var (i := 1) rfl rfl rfl) (Ev.slice (EvO.some Ev.int) EvO.none (EvO.some Ev.int)) (fun _ _ => ⟨_, rfl⟩)) EvL.nil (fun _ => rfl)) (.builtin _) sumOk (fun _ => rfl)) Ev.int addOk) Ev.int modOk) (fun env h => by cases env; cases h; rfl))
      (Ex.cons (St.asg ⟨rfl, .inl rfl, by decide⟩ (Ev.lst (EvL.cons Ev.int (EvL.cons Ev.int (EvL.cons Ev.int (EvL.cons Ev.int (EvL.cons Ev.int (EvL.cons Ev.int (EvL.cons Ev.int (EvL.cons Ev.int EvL.nil (fun _ => rfl)) (fun _ => rfl)) (fun _ => rfl)) (fun _ => rfl)) (fun _ => rfl)) (fun _ => rfl)) (fun _ => rfl)) (fun _ => rfl))) (fun env h => by cases env; cases h; rfl))
      (Ex.cons (St.asg ⟨rfl, .inr rfl, by decide⟩ (Ev.call (.glob rfl rfl) rfl EvL.nil (.kept rfl) fn_law_forms (fun _ => rfl)) (fun env h => by cases env; cases h; rfl))
      (Ex.cons (St.asg ⟨rfl, .inr rfl, by decide⟩ (Ev.comp (tns := ["corner"]) (cns := ["shapes"]) (caps := [5]) (ItE.name (Ev.call (.boot rfl rfl boot_range (by decide)) rfl (EvL.cons Ev.int EvL.nil (fun _ => rfl)) (.type _) rngOk (fun _ => rfl))) CTgt.one Tests.nil (Ev.item (Ev.cell (i := 1) rfl rfl rfl) (Ev.bin Ev.int (Ev.var (i := 0) rfl rfl rfl) addOk) (fun _ _ => ⟨_, rfl⟩)) rfl (fun _ _ => rfl)) (fun env h => by cases env; cases h; rfl))
      (Ex.cons (St.asgComp ⟨rfl, .inl rfl, by decide⟩ (tns := ["at"]) (cns := []) (caps := []) (ItE.name (Ev.call (.boot rfl rfl boot_range (by decide)) rfl (EvL.cons Ev.int EvL.nil (fun _ => rfl)) (.type _) rngOk (fun _ => rfl))) CTgt.one Tests.nil (Ev.call (.glob rfl rfl) rfl (EvL.cons (Ev.var (i := 0) rfl rfl rfl) EvL.nil (fun _ => rfl)) (.kept rfl) fn_law_paint (fun _ => rfl)) rfl (fun _ _ => rfl) (fun env h => by cases env; cases h; rfl))
      (Ex.cons (St.ite (Te.cmp (Ev.comp (tns := ["spot"]) (cns := []) (caps := []) (ItE.name (Ev.var (i := 7) rfl rfl rfl)) CTgt.one Tests.nil (Ev.call (.glob rfl rfl) rfl (EvL.cons (Ev.var (i := 0) rfl rfl rfl) EvL.nil (fun _ => rfl)) (.kept rfl) fn_law_word (fun _ => rfl)) rfl (fun _ _ => rfl)) (Ev.comp (tns := ["corner"]) (cns := ["words"]) (caps := [6]) (ItE.name (Ev.var (i := 4) rfl rfl rfl)) CTgt.one Tests.nil (Ev.item (Ev.cell (i := 1) rfl rfl rfl) (Ev.var (i := 0) rfl rfl rfl) (fun _ _ => ⟨_, rfl⟩)) rfl (fun _ _ => rfl)) neOk rfl) (Ex.cons (St.ret Ev.boolc)
  Ex.nil) Ex.nil)
      (Ex.cons (St.asg ⟨rfl, .inr rfl, by decide⟩ (Ev.comp (tns := ["at", "corner"]) (cns := ["left"]) (caps := [2]) (ItE.enum (Ev.var (i := 4) rfl rfl rfl) (.boot rfl rfl boot_enumerate (by decide)) rfl (fun _ => rfl)) (CTgt.many (NE.cons (NE.cons NE.nil)) rfl) (Tests.one (Te.val (Ev.bin (Ev.bin (Ev.cell (i := 2) rfl rfl rfl) (Ev.var (i := 0) rfl rfl rfl) shrOk) Ev.int andOk) trOk (fun _ _ => rfl))) (Ev.var (i := 1) rfl rfl rfl) rfl (fun _ _ => rfl)) (fun env h => by cases env; cases h; rfl))
      (Ex.cons (St.asg ⟨rfl, .inr rfl, by decide⟩ (Ev.comp (tns := ["at", "corner"]) (cns := ["right"]) (caps := [3]) (ItE.enum (Ev.var (i := 4) rfl rfl rfl) (.boot rfl rfl boot_enumerate (by decide)) rfl (fun _ => rfl)) (CTgt.many (NE.cons (NE.cons NE.nil)) rfl) (Tests.one (Te.val (Ev.bin (Ev.bin (Ev.cell (i := 2) rfl rfl rfl) (Ev.var (i := 0) rfl rfl rfl) shrOk) Ev.int andOk) trOk (fun _ _ => rfl))) (Ev.var (i := 1) rfl rfl rfl) rfl (fun _ _ => rfl)) (fun env h => by cases env; cases h; rfl))
      (Ex.cons (St.asg ⟨rfl, .inl rfl, by decide⟩ (Ev.call (.glob rfl rfl) rfl (EvL.cons (Ev.cell (i := 5) rfl rfl rfl) (EvL.cons (Ev.comp (tns := ["corner"]) (cns := ["words", "firsts"]) (caps := [6, 8]) (ItE.name (Ev.call (.boot rfl rfl boot_range (by decide)) rfl (EvL.cons Ev.int EvL.nil (fun _ => rfl)) (.type _) rngOk (fun _ => rfl))) CTgt.one (Tests.one (Te.cmp (Ev.var (i := 0) rfl rfl rfl) (Ev.cell (i := 2) rfl rfl rfl) ninOk rfl)) (Ev.item (Ev.cell (i := 1) rfl rfl rfl) (Ev.var (i := 0) rfl rfl rfl) (fun _ _ => ⟨_, rfl⟩)) rfl (fun _ _ => rfl)) EvL.nil (fun _ => rfl)) (fun _ => rfl)) (.kept rfl) fn_law_grounds (fun _ => rfl)) (fun env h => by cases env; cases h; rfl))
      (Ex.cons (St.asg ⟨rfl, .inl rfl, by decide⟩ (Ev.call (.glob rfl rfl) rfl (EvL.cons (Ev.cell (i := 5) rfl rfl rfl) (EvL.cons (Ev.comp (tns := ["corner"]) (cns := ["words", "seconds"]) (caps := [6, 9]) (ItE.name (Ev.call (.boot rfl rfl boot_range (by decide)) rfl (EvL.cons Ev.int EvL.nil (fun _ => rfl)) (.type _) rngOk (fun _ => rfl))) CTgt.one (Tests.one (Te.cmp (Ev.var (i := 0) rfl rfl rfl) (Ev.cell (i := 2) rfl rfl rfl) ninOk rfl)) (Ev.item (Ev.cell (i := 1) rfl rfl rfl) (Ev.var (i := 0) rfl rfl rfl) (fun _ _ => ⟨_, rfl⟩)) rfl (fun _ _ => rfl)) EvL.nil (fun _ => rfl)) (fun _ => rfl)) (.kept rfl) fn_law_grounds (fun _ => rfl)) (fun env h => by cases env; cases h; rfl))
      (Ex.cons (St.asg ⟨rfl, .inr rfl, by decide⟩ (Ev.call (.glob rfl rfl) rfl (EvL.cons (Ev.var (i := 10) rfl rfl rfl) EvL.nil (fun _ => rfl)) (.kept rfl) fn_law_kinds (fun _ => rfl)) (fun env h => by cases env; cases h; rfl))
      (Ex.cons (St.asg ⟨rfl, .inr rfl, by decide⟩ (Ev.call (.glob rfl rfl) rfl (EvL.cons (Ev.var (i := 11) rfl rfl rfl) EvL.nil (fun _ => rfl)) (.kept rfl) fn_law_kinds (fun _ => rfl)) (fun env h => by cases env; cases h; rfl))
      (Ex.cons (St.ite (Te.cmp (Ev.comp2 (cns := []) (caps := []) (ItE.name (Ev.bin (Ev.cell (i := 12) rfl rfl rfl) (Ev.cell (i := 13) rfl rfl rfl) addOk)) (ItE.name (Ev.var (i := 0) rfl rfl rfl)) (Ev.var (i := 1) rfl rfl rfl) rfl (fun _ _ => rfl) (fun _ _ => rfl)) (Ev.bin (Ev.var (i := 10) rfl rfl rfl) (Ev.var (i := 11) rfl rfl rfl) addOk) neOk rfl) (Ex.cons (St.ret Ev.boolc)
  Ex.nil) Ex.nil)
      (Ex.cons (St.asg ⟨rfl, .inl rfl, by decide⟩ (Ev.call (.glob rfl rfl) rfl (EvL.cons (Ev.cell (i := 5) rfl rfl rfl) (EvL.cons (Ev.cell (i := 12) rfl rfl rfl) (EvL.cons (Ev.cell (i := 13) rfl rfl rfl) EvL.nil (fun _ => rfl)) (fun _ => rfl)) (fun _ => rfl)) (.kept rfl) fn_law_box (fun _ => rfl)) (fun env h => by cases env; cases h; rfl))
      (Ex.cons (St.ite (Te.cmp (Ev.var (i := 14) rfl rfl rfl) (Ev.call (.glob rfl rfl) rfl (EvL.cons (Ev.cell (i := 8) rfl rfl rfl) (EvL.cons (Ev.cell (i := 9) rfl rfl rfl) EvL.nil (fun _ => rfl)) (fun _ => rfl)) (.kept rfl) fn_law_plain (fun _ => rfl)) neOk rfl) (Ex.cons (St.ret Ev.boolc)
  Ex.nil) Ex.nil)
      (Ex.cons (St.asgComp ⟨rfl, .inl rfl, by decide⟩ (tns := ["corner"]) (cns := ["words"]) (caps := [6]) (ItE.name (Ev.cell (i := 8) rfl rfl rfl)) CTgt.one Tests.nil (Ev.item (Ev.cell (i := 1) rfl rfl rfl) (Ev.var (i := 0) rfl rfl rfl) (fun _ _ => ⟨_, rfl⟩)) rfl (fun _ _ => rfl) (fun env h => by cases env; cases h; rfl))
      (Ex.cons (St.asgComp ⟨rfl, .inl rfl, by decide⟩ (tns := ["corner"]) (cns := ["words"]) (caps := [6]) (ItE.name (Ev.cell (i := 9) rfl rfl rfl)) CTgt.one Tests.nil (Ev.item (Ev.cell (i := 1) rfl rfl rfl) (Ev.var (i := 0) rfl rfl rfl) (fun _ _ => ⟨_, rfl⟩)) rfl (fun _ _ => rfl) (fun env h => by cases env; cases h; rfl))
      (Ex.cons (St.asg ⟨rfl, .inl rfl, by decide⟩ (Ev.call (.glob rfl rfl) rfl (EvL.cons (Ev.var (i := 7) rfl rfl rfl) (EvL.cons (Ev.var (i := 15) rfl rfl rfl) (EvL.cons (Ev.var (i := 16) rfl rfl rfl) EvL.nil (fun _ => rfl)) (fun _ => rfl)) (fun _ => rfl)) (.kept rfl) fn_law_facing (fun _ => rfl)) (fun env h => by cases env; cases h; rfl))
      (Ex.cons (St.ite (Te.cmp (Ev.var (i := 17) rfl rfl rfl) (Ev.comp (tns := ["corner"]) (cns := ["words", "seconds"]) (caps := [6, 9]) (ItE.name (Ev.cell (i := 8) rfl rfl rfl)) CTgt.one (Tests.one (Te.cmp (Ev.bin Ev.int (Ev.var (i := 0) rfl rfl rfl) subOk) (Ev.cell (i := 2) rfl rfl rfl) inOk rfl)) (Ev.tup (EvL.cons (Ev.item (Ev.cell (i := 1) rfl rfl rfl) (Ev.var (i := 0) rfl rfl rfl) (fun _ _ => ⟨_, rfl⟩)) (EvL.cons (Ev.item (Ev.cell (i := 1) rfl rfl rfl) (Ev.bin Ev.int (Ev.var (i := 0) rfl rfl rfl) subOk) (fun _ _ => ⟨_, rfl⟩)) EvL.nil (fun _ => rfl)) (fun _ => rfl))) rfl (fun _ _ => rfl)) neOk rfl) (Ex.cons (St.ret Ev.boolc)
  Ex.nil) Ex.nil)
      (Ex.cons (St.asgComp ⟨rfl, .inl rfl, by decide⟩ (tns := ["one", "other"]) (cns := []) (caps := []) (ItE.pair (Ev.bin (Ev.var (i := 17) rfl rfl rfl) (Ev.listZip (Ev.var (i := 15) rfl rfl rfl) (Ev.var (i := 16) rfl rfl rfl) (.boot rfl rfl boot_list (by decide)) rfl (.boot rfl rfl boot_zip (by decide)) rfl (fun _ => rfl) (fun _ => rfl) (fun _ => rfl)) addOk)) (CTgt.many (NE.cons (NE.cons NE.nil)) rfl) Tests.nil (Ev.call (.glob rfl rfl) rfl (EvL.cons (Ev.var (i := 0) rfl rfl rfl) (EvL.cons (Ev.var (i := 1) rfl rfl rfl) (EvL.cons Ev.int EvL.nil (fun _ => rfl)) (fun _ => rfl)) (fun _ => rfl)) (.kept rfl) fn_levenshtein_distance (fun _ => rfl)) rfl (fun _ _ => rfl) (fun env h => by cases env; cases h; rfl))
      (Ex.cons (St.ite (Te.cmp (Ev.var (i := 18) rfl rfl rfl) (Ev.bin (Ev.bin (Ev.lst (EvL.cons Ev.int EvL.nil (fun _ => rfl))) (Ev.call (.boot rfl rfl boot_len (by decide)) rfl (EvL.cons (Ev.var (i := 17) rfl rfl rfl) EvL.nil (fun _ => rfl)) (.builtin _) lenOk (fun _ => rfl)) mulOk) (Ev.comp (tns := ["x", "y"]) (cns := []) (caps := []) (ItE.zip (Ev.cell (i := 8) rfl rfl rfl) (Ev.cell (i := 9) rfl rfl rfl) (.boot rfl rfl boot_zip (by decide)) rfl (fun _ => rfl) (fun _ => rfl)) (CTgt.many (NE.cons (NE.cons NE.nil)) rfl) Tests.nil (Ev.item (Ev.tup (EvL.cons Ev.int (EvL.cons Ev.int (EvL.cons Ev.int (EvL.cons Ev.int (EvL.cons Ev.int (EvL.cons Ev.int (EvL.cons Ev.int (EvL.cons Ev.int EvL.nil (fun _ => rfl)) (fun _ => rfl)) (fun _ => rfl)) (fun _ => rfl)) (fun _ => rfl)) (fun _ => rfl)) (fun _ => rfl)) (fun _ => rfl))) (Ev.bin (Ev.var (i := 0) rfl rfl rfl) (Ev.var (i := 1) rfl rfl rfl) xorOk) (fun _ _ => ⟨_, rfl⟩)) rfl (fun _ _ => rfl)) addOk) neOk rfl) (Ex.cons (St.ret Ev.boolc)
  Ex.nil) Ex.nil)
      (Ex.cons (St.for (TgtOk.one ⟨rfl, .inl rfl, by decide⟩) (ItE.name (Ev.var (i := 10) rfl rfl rfl)) (Ex.cons (St.ite (Te.cmp (Ev.call (.glob rfl rfl) rfl (EvL.cons (Ev.var (i := 19) rfl rfl rfl) (EvL.cons (Ev.bin (Ev.bin Ev.strc (Ev.repl (Ev.var (i := 19) rfl rfl rfl) (fun _ => ⟨_, rfl⟩)) addOk) Ev.strc addOk) EvL.nil (fun _ => rfl)) (fun _ => rfl)) (.kept rfl) fn_ellipsis_match (fun _ => rfl)) (Ev.cmp (Ev.bin (Ev.item (Ev.var (i := 19) rfl rfl rfl) Ev.int (fun _ _ => ⟨_, rfl⟩)) (Ev.item (Ev.var (i := 19) rfl rfl rfl) (Ev.neg Ev.int) (fun _ _ => ⟨_, rfl⟩)) addOk) Ev.strc eqOk rfl) neOk rfl) (Ex.cons (St.ret Ev.boolc)
  Ex.nil) Ex.nil)
  Ex.nil) (fun _ _ => rfl))
      (Ex.cons (St.for (TgtOk.one ⟨rfl, .inl rfl, by decide⟩) (ItE.name (Ev.item (Ev.cell (i := 12) rfl rfl rfl) Ev.int (fun _ _ => ⟨_, rfl⟩))) (Ex.cons (St.ite (Te.bool (TeAll.or_cons (Te.val (Ev.call (.glob rfl rfl) rfl (EvL.cons (Ev.bin (Ev.bin (Ev.var (i := 20) rfl rfl rfl) Ev.strc addOk) (Ev.var (i := 20) rfl rfl rfl) addOk) (EvL.cons (Ev.var (i := 20) rfl rfl rfl) EvL.nil (fun _ => rfl)) (fun _ => rfl)) (.kept rfl) fn_ellipsis_match (fun _ => rfl)) trOk (fun _ _ => rfl)) (TeAll.or_cons (Te.val (Ev.call (.glob rfl rfl) rfl (EvL.cons (Ev.bin (Ev.bin (Ev.bin (Ev.bin Ev.strc (Ev.item (Ev.var (i := 20) rfl rfl rfl) Ev.int (fun _ _ => ⟨_, rfl⟩)) addOk) Ev.strc addOk) (Ev.item (Ev.var (i := 20) rfl rfl rfl) Ev.int (fun _ _ => ⟨_, rfl⟩)) addOk) Ev.strc addOk) (EvL.cons (Ev.var (i := 20) rfl rfl rfl) EvL.nil (fun _ => rfl)) (fun _ => rfl)) (.kept rfl) fn_ellipsis_match (fun _ => rfl)) trOk (fun _ _ => rfl)) TeAll.or_nil))) (Ex.cons (St.ret Ev.boolc)
  Ex.nil) Ex.nil)
  Ex.nil) (fun _ _ => rfl))
      (Ex.cons (St.ite (Te.cmp (Ev.call (.boot rfl rfl boot_len (by decide)) rfl (EvL.cons (Ev.var (i := 14) rfl rfl rfl) EvL.nil (fun _ => rfl)) (.builtin _) lenOk (fun _ => rfl)) (Ev.call (.boot rfl rfl boot_len (by decide)) rfl (EvL.cons (Ev.call (.glob rfl rfl) rfl (EvL.cons (Ev.var (i := 7) rfl rfl rfl) (EvL.cons (Ev.var (i := 16) rfl rfl rfl) (EvL.cons (Ev.var (i := 15) rfl rfl rfl) EvL.nil (fun _ => rfl)) (fun _ => rfl)) (fun _ => rfl)) (.kept rfl) fn_law_facing (fun _ => rfl)) EvL.nil (fun _ => rfl)) (.builtin _) lenOk (fun _ => rfl)) gtOk rfl) (Ex.cons (St.ret Ev.boolc)
  Ex.nil) Ex.nil)
      (Ex.cons (St.asgComp ⟨rfl, .inl rfl, by decide⟩ (tns := ["corner"]) (cns := ["words", "reasons"]) (caps := [6, 12]) (ItE.name (Ev.call (.boot rfl rfl boot_range (by decide)) rfl (EvL.cons Ev.int EvL.nil (fun _ => rfl)) (.type _) rngOk (fun _ => rfl))) CTgt.one (Tests.one (Te.cmp (Ev.item (Ev.cell (i := 1) rfl rfl rfl) (Ev.var (i := 0) rfl rfl rfl) (fun _ _ => ⟨_, rfl⟩)) (Ev.item (Ev.cell (i := 2) rfl rfl rfl) Ev.int (fun _ _ => ⟨_, rfl⟩)) inOk rfl)) (Ev.var (i := 0) rfl rfl rfl) rfl (fun _ _ => rfl) (fun env h => by cases env; cases h; rfl))
      (Ex.cons (St.asgComp ⟨rfl, .inl rfl, by decide⟩ (tns := ["corner"]) (cns := ["words", "counters"]) (caps := [6, 13]) (ItE.name (Ev.call (.boot rfl rfl boot_range (by decide)) rfl (EvL.cons Ev.int EvL.nil (fun _ => rfl)) (.type _) rngOk (fun _ => rfl))) CTgt.one (Tests.one (Te.cmp (Ev.item (Ev.cell (i := 1) rfl rfl rfl) (Ev.var (i := 0) rfl rfl rfl) (fun _ _ => ⟨_, rfl⟩)) (Ev.item (Ev.cell (i := 2) rfl rfl rfl) Ev.int (fun _ _ => ⟨_, rfl⟩)) inOk rfl)) (Ev.var (i := 0) rfl rfl rfl) rfl (fun _ _ => rfl) (fun env h => by cases env; cases h; rfl))
      (Ex.cons (St.asgComp ⟨rfl, .inl rfl, by decide⟩ (tns := ["number"]) (cns := []) (caps := []) (ItE.name (Ev.item (Ev.bin (Ev.var (i := 1) rfl rfl rfl) (Ev.lst (EvL.cons Ev.int (EvL.cons Ev.int (EvL.cons Ev.int (EvL.cons Ev.int (EvL.cons Ev.int (EvL.cons Ev.int EvL.nil (fun _ => rfl)) (fun _ => rfl)) (fun _ => rfl)) (fun _ => rfl)) (fun _ => rfl)) (fun _ => rfl))) addOk) (Ev.slice EvO.none (EvO.some Ev.int) EvO.none) (fun _ _ => ⟨_, rfl⟩))) CTgt.one Tests.nil (Ev.bin Ev.int (Ev.bin (Ev.var (i := 0) rfl rfl rfl) Ev.int modOk) addOk) rfl (fun _ _ => rfl) (fun env h => by cases env; cases h; rfl))
      (Ex.cons (St.ret (Ev.cmp (Ev.bin (Ev.call (.glob rfl rfl) rfl (EvL.cons (Ev.var (i := 23) rfl rfl rfl) (EvL.cons (Ev.var (i := 14) rfl rfl rfl) EvL.nil (fun _ => rfl)) (fun _ => rfl)) (.kept rfl) fn_law_weight (fun _ => rfl)) (Ev.call (.glob rfl rfl) rfl (EvL.cons (Ev.var (i := 23) rfl rfl rfl) (EvL.cons (Ev.call (.boot rfl rfl boot_range (by decide)) rfl (EvL.cons Ev.int EvL.nil (fun _ => rfl)) (.type _) rngOk (fun _ => rfl)) EvL.nil (fun _ => rfl)) (fun _ => rfl)) (.kept rfl) fn_law_weight (fun _ => rfl)) mulOk) (Ev.bin (Ev.call (.glob rfl rfl) rfl (EvL.cons (Ev.var (i := 23) rfl rfl rfl) (EvL.cons (Ev.var (i := 21) rfl rfl rfl) EvL.nil (fun _ => rfl)) (fun _ => rfl)) (.kept rfl) fn_law_weight (fun _ => rfl)) (Ev.call (.glob rfl rfl) rfl (EvL.cons (Ev.var (i := 23) rfl rfl rfl) (EvL.cons (Ev.var (i := 22) rfl rfl rfl) EvL.nil (fun _ => rfl)) (fun _ => rfl)) (.kept rfl) fn_law_weight (fun _ => rfl)) mulOk) leOk rfl))
      Ex.nil)))))))))))))))))))))))))))))) env _ { s with heap := h4, toks := t4 } _ s.heap.get? g1 g3 _ (.ret d) _ _ ok1 GP F4 p4 e2 ?_
    intro v5 g5 h5 t5 Fg r5 p5
    exact k v5 h5 g5 t5 ⟨fun b o e => Fg.le _ _ (hle _ _ e), Fg.sub, Fg.keep, fun b o e => (Fg.fresh b o e).elim (fun q => hfr b o q) .inr⟩ r5

end Mine

/-! UEnd -/
namespace Mine

theorem repL_well {P : Params} {h : Heap} {g : Gh} : ∀ {xs : List Int} {vs : List Value}, WellAll P h vs (ofPys (xs.map PyData.int)) → RepL g vs (xs.map D.int)
  | [], _, h => by cases h; exact .nil
  | x :: xs, _, h => by
    cases h with
    | cons a b => cases a; exact .cons (.int _ _) (repL_well b)
theorem rep_well {P : Params} {h : Heap} {l : Addr} {xs : List Int} (W : Well P h (.ref l) (ofPy (.list (xs.map PyData.int)))) : ∃ o, h.get? l = some o ∧ ∀ g : Gh, g l = some o → Rep g (.ref l) (.lst (xs.map D.int)) := by
  have W' : Well P h (.ref l) (.list (ofPys (xs.map PyData.int))) := W
  cases W' with
  | list h1 h2 => exact ⟨_, h1, fun g hg => .lst hg (repL_well h2)⟩

noncomputable def Law : Prop := ∀ xs : List Int, xs.length ≤ 63 → ∃ dd, itmF (.lst (xs.map D.int)) (.slc none (some 63) none) = some dd ∧ Blaw ([.lst (xs.map D.int), dd] ++ List.replicate 22 .undef) = some (.ret (.bool true))

theorem ok_caller : Ok callerA 6 := ⟨rfl, by decide +kernel, by decide +kernel⟩

theorem law_call (HL : Law) {w : World} {mg mb : Str → Option Value} {s : Shared} {l : Addr} {xs : List Int} {Q : Value → Shared → Prop} {E : Value → Shared → Prop} (KX : (Mine.heap0 w.params).In s.heap) (hg : s.heap.Ns mainGlobals mg) (hb : s.heap.Ns builtinsNs mb) (hn : s.heap.NoLimit)
    (hbi : ∀ x : Str, x ≠ "__name__" → mb x = bootBuiltins x) (W : Well w.params s.heap (.ref l) (ofPy (.list (xs.map PyData.int)))) (hlen : ¬ ((63 : Nat) : Int) < ((xs.length : Nat) : Int))
    (hQ : ∀ h' tk', (∀ b o, s.heap.get? b = some o → h'.get? b = some o) → Q (.bool true) { s with heap := h', toks := tk' }) :
    wpAny (model PySem.Challenge.rw_uj0010_01.row.prog w) callerA (call (.ref 323) [.ref l]) Q E s := by
  obtain ⟨o, h1, h2⟩ := rep_well W
  obtain ⟨dd, e1, e2⟩ := HL xs (by omega)
  refine call_law (w := w) (mg := mg) (mb := mb) (g := gput (fun _ => none) l o) (d := .bool true) ok_caller ⟨KX, hg, hb, hn, hbi⟩ (fun b x e => ?_) (h2 _ (gput_self ..)) e1 e2 fun v h' g' tk' x r => ?_
  · unfold gput at e
    split at e
    · rename_i q; cases e; rw [q]; exact h1
    · cases e
  · cases r
    exact hQ h' tk' x.keep

theorem well0 : PySem.Challenge.rw_uj0010_01.wellSaid = true := by
  unfold OpenLaw.wellSaid OpenRow.wellSaid OpenRow.partSaid looksOpen
  repeat' with_reducible refine look_both ?_ ?_
  all_goals decide +kernel
theorem closes (HL : Law) : PySem.Challenge.rw_uj0010_01.Holds := by
  w_on
  refine holds_law well0 fun said => ?_
  refine holds_open (q := view0) (loose := loose0) (Xt := fun s => xlAt view0 [] s && recOk (RowW.records PySem.Challenge.rw_uj0010_01.row.toRowW) s) (XP := XL view0 []) (Yf := Hook.obs hook0) (Ya := Hook.val hook0) (YP := Hook.says hook0) (N := 3738) left0 (Hook.of hook0) (Hook.keeps hook0)
    (fun s e => xl_of s (Bool.and_eq_true_iff.mp e).1) XL.keeps (by rfl) (by rfl) (by rfl) (fun s e => recFacts_of (Bool.and_eq_true_iff.mp e).2) (by rfl) (by assumption) (by decide +kernel) ⟨rfl, rfl, rfl, rfl, rfl, by decide +kernel⟩ ?hw ?hc
  case hw => w_witness2
  case hc =>
    intro w s₀ s₁ mg mb G Y fa o pm cd doc dV kV ho hd hcd hD hmg hg args vals as hpre hlay hrd hwl hlo
    have KX := kIn_of Y
    refine Ground.open G ?_
    intro T B D TE TW
    have hF := mg_of KX T.g (n := "law") (v := .ref 323) (by rfl)
    have hfa : Value.ref fa = Value.ref 323 := Option.some.inj (hmg.symm.trans hF)
    cases hfa
    clear hmg ho hd hcd hD
    wrow_args hpre hlay hrd hwl hlo
    refine law_call HL KX T.g T.b T.nolimit T.builtins (by assumption) (by assumption) fun h' tk' hk => ?_
    exact GoodW.toG ⟨.inl ⟨.bool true, .bool true, [], rfl, raisesW_false (by wrow_none_raised), .bool true, by wrow_post, unshared_nil⟩, hk, rfl, hg⟩
end Mine

/-! UP1 -/
namespace Mine

/-! running the functions on data: rules -/
theorem seqX_nxt {f g : List D → Option Out} {ρ ρ' : List D} (h : f ρ = some (.nxt ρ')) : seqX f g ρ = g ρ' := by unfold seqX; rw [h]
theorem seqX_ret {f g : List D → Option Out} {ρ : List D} {d : D} (h : f ρ = some (.ret d)) : seqX f g ρ = some (.ret d) := by unfold seqX; rw [h]
theorem asgX_of {j : Nat} {f : List D → Option D} {ρ : List D} {d : D} (h : f ρ = some d) : asgX none j f ρ = some (.nxt (ρ.set j d)) := by unfold asgX evS; rw [h]; rfl
theorem asgXo_of {i j : Nat} {f : List D → Option D} {ρ : List D} {d : D} (h : f ρ = some d) (hi : imm d = true) : asgX (some i) j f ρ = some (.nxt (ρ.set j d)) := by
  unfold asgX evS; simp only [h, hi, if_true]; rfl
theorem asgCompX_of {j k : Nat} {f : List D → Option (List D)} {ρ ys : List D} (h : f ρ = some ys) : asgCompX j k f ρ = some (.nxt (ρ.set j (.lst ys))) := by unfold asgCompX; rw [h]; rfl
theorem iteX_false {t : List D → Option Bool} {f g : List D → Option Out} {ρ : List D} (h : t ρ = some false) : iteX t f g ρ = g ρ := by unfold iteX; rw [h]
theorem iteX_true {t : List D → Option Bool} {f g : List D → Option Out} {ρ : List D} (h : t ρ = some true) : iteX t f g ρ = f ρ := by unfold iteX; rw [h]
theorem bin2_of {op : D → D → Option D} {f g : List D → Option D} {ρ : List D} {a b : D} (h1 : f ρ = some a) (h2 : g ρ = some b) : bin2 op f g ρ = op a b := by unfold bin2; rw [h1, h2]
theorem un1_of {α : Type} {op : D → Option α} {f : List D → Option D} {ρ : List D} {a : D} (h : f ρ = some a) : un1 op f ρ = op a := by unfold un1; rw [h]
theorem callE_of {F : List D → Option D} {f : List D → Option (List D)} {ρ ds : List D} (h : f ρ = some ds) : callE F f ρ = F ds := by unfold callE; rw [h]
theorem consE_of {f : List D → Option D} {g : List D → Option (List D)} {ρ l : List D} {a : D} (h1 : f ρ = some a) (h2 : g ρ = some l) : consE f g ρ = some (a :: l) := by unfold consE; rw [h1, h2]
theorem cmpT_of {o : D → D → Option D} {f g : List D → Option D} {ρ : List D} {b : Bool} (h : bin2 o f g ρ = some (.bool b)) : cmpT o f g ρ = some b := by unfold cmpT; rw [h]; rfl
theorem andT_of {f g : List D → Option Bool} {ρ : List D} {a b : Bool} (h1 : f ρ = some a) (h2 : a = true → g ρ = some b) : andT f g ρ = some (a && b) := by
  unfold andT; rw [h1]
  cases a with
  | false => rfl
  | true => rw [h2 rfl]; rfl
theorem orT_of {f g : List D → Option Bool} {ρ : List D} {a b : Bool} (h1 : f ρ = some a) (h2 : g ρ = some b) : orT f g ρ = some (a || b) := by
  unfold orT; rw [h1]
  cases a with
  | false => rw [h2]; rfl
  | true => rfl
theorem forX_none {tg : Tg} {fi : List D → Option (List D)} {fb : List D → Option Out} {ρ ds : List D} (h : fi ρ = some ds) : forX none tg fi fb ρ = forL tg fb ds ρ := by
  unfold forX; rw [show hid none ρ = ρ from rfl, h]
theorem forX_own {i : Nat} {tg : Tg} {fi : List D → Option (List D)} {fb : List D → Option Out} {ρ ds : List D} (h : fi (ρ.set i .undef) = some ds) : forX (some i) tg fi fb ρ = forL tg fb ds ρ := by
  unfold forX; rw [show hid (some i) ρ = ρ.set i .undef from rfl, h]
theorem pushX_of {j : Nat} {f : List D → Option D} {ρ l : List D} {d : D} (h1 : getv j ρ = some (.lst l)) (hl : l.length ≤ 1000) (h2 : evS (some j) f ρ = some d) : pushX j f ρ = some (.nxt (ρ.set j (.lst (l ++ [d])))) := by
  unfold pushX; rw [h1]; simp only [hl, if_true, h2]; rfl
theorem fnF_ret {k m : Nat} {f : List D → Option Out} {ds : List D} {d : D} (hk : ds.length = k) (h : f (ds ++ List.replicate m .undef) = some (.ret d)) : fnF k m f ds = some d := by
  unfold fnF; rw [if_pos hk, h]; rfl
theorem retX_of {f : List D → Option D} {ρ : List D} {d : D} (h : f ρ = some d) : retX none f ρ = some (.ret d) := by unfold retX evS; rw [h]; rfl

theorem compL_of {α : Type} {tk : Option Nat} {cs : List D} {ft : List D → Option Bool} {fe : List D → Option D} {mk e : α → D} {ts : α → List D} {t : α → Bool} : ∀ {l : List α},
    (∀ a ∈ l, tgtVals tk (mk a) = some (ts a) ∧ ft (ts a ++ cs) = some (t a) ∧ (t a = true → fe (ts a ++ cs) = some (e a))) → compL tk cs ft fe (l.map mk) = some ((l.filter t).map e)
  | [], _ => rfl
  | a :: l, h => by
    obtain ⟨h1, h2, h3⟩ := h a List.mem_cons_self
    have ih := compL_of fun b hb => h b (List.mem_cons_of_mem _ hb)
    rw [List.map_cons]
    unfold compL
    rw [h1]
    dsimp only
    rw [h2]
    cases ht : t a with
    | false => rw [List.filter_cons_of_neg (by rw [ht]; exact Bool.false_ne_true)]; exact ih
    | true =>
      rw [List.filter_cons_of_pos ht]
      dsimp only
      rw [h3 ht, ih]
      rfl
theorem compD_of {α : Type} {tk : Option Nat} {caps : List Nat} {cs ρ : List D} {fi : List D → Option (List D)} {ft : List D → Option Bool} {fe : List D → Option D} (mk e : α → D) (ts : α → List D) (t : α → Bool) {l : List α}
    (hi : fi ρ = some (l.map mk)) (hl : l.length ≤ 1000) (hc : capD caps ρ = some cs)
    (h : ∀ a ∈ l, tgtVals tk (mk a) = some (ts a) ∧ ft (ts a ++ cs) = some (t a) ∧ (t a = true → fe (ts a ++ cs) = some (e a))) : compD tk caps fi ft fe ρ = some ((l.filter t).map e) := by
  unfold compD
  rw [hi]
  simp only [List.length_map, hl, if_true, hc]
  exact compL_of h
theorem compF_of {α : Type} {tk : Option Nat} {caps : List Nat} {cs ρ : List D} {fi : List D → Option (List D)} {ft : List D → Option Bool} {fe : List D → Option D} (mk e : α → D) (ts : α → List D) (t : α → Bool) {l : List α}
    (hi : fi ρ = some (l.map mk)) (hl : l.length ≤ 1000) (hc : capD caps ρ = some cs)
    (h : ∀ a ∈ l, tgtVals tk (mk a) = some (ts a) ∧ ft (ts a ++ cs) = some (t a) ∧ (t a = true → fe (ts a ++ cs) = some (e a))) : compF tk caps fi ft fe ρ = some (.lst ((l.filter t).map e)) := by
  unfold compF
  rw [compD_of mk e ts t hi hl hc h]; rfl
theorem filter_true {α : Type} (l : List α) : l.filter (fun _ => true) = l := List.filter_eq_self.mpr fun _ _ => rfl
/-- all items -/
theorem compD_all {α : Type} {tk : Option Nat} {caps : List Nat} {cs ρ : List D} {fi : List D → Option (List D)} {fe : List D → Option D} (mk e : α → D) (ts : α → List D) {l : List α}
    (hi : fi ρ = some (l.map mk)) (hl : l.length ≤ 1000) (hc : capD caps ρ = some cs)
    (h : ∀ a ∈ l, tgtVals tk (mk a) = some (ts a) ∧ fe (ts a ++ cs) = some (e a)) : compD tk caps fi (fun _ => some true) fe ρ = some (l.map e) := by
  rw [compD_of mk e ts (fun _ => true) hi hl hc fun a ha => ⟨(h a ha).1, rfl, fun _ => (h a ha).2⟩, filter_true]
theorem compF_all {α : Type} {tk : Option Nat} {caps : List Nat} {cs ρ : List D} {fi : List D → Option (List D)} {fe : List D → Option D} (mk e : α → D) (ts : α → List D) {l : List α}
    (hi : fi ρ = some (l.map mk)) (hl : l.length ≤ 1000) (hc : capD caps ρ = some cs)
    (h : ∀ a ∈ l, tgtVals tk (mk a) = some (ts a) ∧ fe (ts a ++ cs) = some (e a)) : compF tk caps fi (fun _ => some true) fe ρ = some (.lst (l.map e)) := by
  unfold compF
  rw [compD_all mk e ts hi hl hc h]; rfl

theorem forL_cons {j : Nat} {fb : List D → Option Out} {d : D} {ds ρ ρ' : List D} (h : fb (ρ.set j d) = some (.nxt ρ')) : forL (.one j) fb (d :: ds) ρ = forL (.one j) fb ds ρ' := by
  simp only [forL.eq_2, setT, h]
theorem forL_ret {j : Nat} {fb : List D → Option Out} {d e : D} {ds ρ : List D} (h : fb (ρ.set j d) = some (.ret e)) : forL (.one j) fb (d :: ds) ρ = some (.ret e) := by
  simp only [forL.eq_2, setT, h]
theorem forL_brk {j : Nat} {fb : List D → Option Out} {d : D} {ds ρ ρ' : List D} (h : fb (ρ.set j d) = some (.brk ρ')) : forL (.one j) fb (d :: ds) ρ = some (.nxt ρ') := by
  simp only [forL.eq_2, setT, h]
/-- a loop that only looks -/
theorem forL_skip {j : Nat} {fb : List D → Option Out} {ρ : List D} : ∀ {l : List D}, (∀ d ∈ l, fb (ρ.set j d) = some (.nxt (ρ.set j d))) → ∀ x0, ∃ x, forL (.one j) fb l (ρ.set j x0) = some (.nxt (ρ.set j x))
  | [], _, x0 => ⟨x0, rfl⟩
  | d :: l, h, x0 => by
    have h1 : fb ((ρ.set j x0).set j d) = some (.nxt (ρ.set j d)) := by rw [List.set_set]; exact h d List.mem_cons_self
    rw [forL_cons h1]
    exact forL_skip (fun e he => h e (List.mem_cons_of_mem _ he)) d
/-- a loop that looks for the first item that ends the call -/
theorem forL_find {j : Nat} {fb : List D → Option Out} {ρ : List D} {r : D} {t : D → Bool} : ∀ {l : List D}, (∀ d ∈ l, fb (ρ.set j d) = if t d then some (.ret r) else some (.nxt (ρ.set j d))) → ∀ x0,
    (l.any t = true ∧ forL (.one j) fb l (ρ.set j x0) = some (.ret r)) ∨ (l.any t = false ∧ ∃ x, forL (.one j) fb l (ρ.set j x0) = some (.nxt (ρ.set j x)))
  | [], _, x0 => .inr ⟨rfl, x0, rfl⟩
  | d :: l, h, x0 => by
    have h0 := h d List.mem_cons_self
    cases ht : t d with
    | true =>
      rw [ht, if_pos rfl] at h0
      exact .inl ⟨by rw [List.any_cons, ht]; rfl, forL_ret (by rw [List.set_set]; exact h0)⟩
    | false =>
      rw [ht, if_neg Bool.false_ne_true] at h0
      have h1 : fb ((ρ.set j x0).set j d) = some (.nxt (ρ.set j d)) := by rw [List.set_set]; exact h0
      rw [forL_cons h1, List.any_cons, ht, Bool.false_or]
      exact forL_find (fun e he => h e (List.mem_cons_of_mem _ he)) d

/-! equality and membership -/
theorem eqvAll_refl : ∀ {ps : List PyData}, (∀ p ∈ ps, PyData.eqv p p = true) → PyData.eqvAll ps ps = true
  | [], _ => by unfold PyData.eqvAll; rfl
  | p :: ps, h => by
    unfold PyData.eqvAll
    rw [h p List.mem_cons_self, eqvAll_refl fun q hq => h q (List.mem_cons_of_mem _ hq)]; rfl
theorem canLayAll_of {ps : List PyData} (h : ∀ p ∈ ps, PyData.canLay0 p = true) : PyData.canLayAll0 ps = true := by
  induction ps with
  | nil => unfold PyData.canLayAll0; rfl
  | cons p ps ih =>
    unfold PyData.canLayAll0
    rw [h p List.mem_cons_self, ih fun q hq => h q (List.mem_cons_of_mem _ hq)]; rfl
theorem toPys_map {α : Type} {f : D → Option PyData} {mk : α → D} {p : α → PyData} : ∀ {l : List α}, (∀ a ∈ l, f (mk a) = some (p a)) → toPys f (l.map mk) = some (l.map p)
  | [], _ => rfl
  | a :: l, h => by
    rw [List.map_cons]
    unfold toPys
    rw [h a List.mem_cons_self, toPys_map fun b hb => h b (List.mem_cons_of_mem _ hb)]
    rfl
/-- two lists of the same data are equal -/
theorem neF_same {α : Type} {mk : α → D} {p : α → PyData} {l : List α} (h : ∀ a ∈ l, toPy 3 (mk a) = some (p a) ∧ PyData.canLay0 (p a) = true ∧ PyData.eqv (p a) (p a) = true) : neF (.lst (l.map mk)) (.lst (l.map mk)) = some (.bool false) := by
  have e : toPy 4 (.lst (l.map mk)) = some (.list (l.map p)) := by
    show (toPys (toPy 3) (l.map mk)).map PyData.list = _
    rw [toPys_map fun a ha => (h a ha).1]; rfl
  have c : (PyData.list (l.map p)).canLay0 = true := by
    unfold PyData.canLay0
    refine canLayAll_of fun q hq => ?_
    obtain ⟨a, ha, rfl⟩ := List.mem_map.mp hq
    exact (h a ha).2.1
  have v : PyData.eqv (.list (l.map p)) (.list (l.map p)) = true := by
    unfold PyData.eqv
    refine eqvAll_refl fun q hq => ?_
    obtain ⟨a, ha, rfl⟩ := List.mem_map.mp hq
    exact (h a ha).2.2
  show (eqB (.lst (l.map mk)) (.lst (l.map mk))).map _ = _
  have : eqB (.lst (l.map mk)) (.lst (l.map mk)) = some true := by
    show (match toPy 4 (.lst (l.map mk)), toPy 4 (.lst (l.map mk)) with | some p, some q => if p.canLay0 && q.canLay0 then some (PyData.eqv p q) else none | _, _ => none) = _
    rw [e]
    simp only [c, Bool.and_self, if_true, v]
  rw [this]; rfl
/-- membership in a list of data -/
theorem inB_of {α : Type} {mk : α → D} {p : α → PyData} {l : List α} {a : D} {q : PyData} (ha : ∀ x, a ≠ .str x ∨ True) (h1 : toPy 4 a = some q) (h2 : PyData.canLay0 q = true) (h : ∀ b ∈ l, toPy 4 (mk b) = some (p b) ∧ PyData.canLay0 (p b) = true) :
    inF a (.lst (l.map mk)) = some (.bool (l.any fun b => PyData.eqv (p b) q)) ∧ ninF a (.lst (l.map mk)) = some (.bool (!(l.any fun b => PyData.eqv (p b) q))) := by
  have e : inB a (.lst (l.map mk)) = some (l.any fun b => PyData.eqv (p b) q) := by
    have : inB a (.lst (l.map mk)) = match toPy 4 a, toPys (toPy 4) (l.map mk) with
      | some p, some qs => if p.canLay0 && PyData.canLayAll0 qs then some (qs.any fun y => PyData.eqv y p) else none
      | _, _ => none := by cases a <;> rfl
    rw [this, h1, toPys_map fun b hb => (h b hb).1]
    have c : PyData.canLayAll0 (l.map p) = true := canLayAll_of fun r hr => by
      obtain ⟨b, hb, rfl⟩ := List.mem_map.mp hr
      exact (h b hb).2
    simp only [h2, c, Bool.and_self, if_true, List.any_map]
    rfl
  constructor
  · unfold inF; rw [e]; rfl
  · unfold ninF; rw [e]; rfl
noncomputable def I (n : Nat) : D := .int (Int.ofNat n)
noncomputable def S (x : Str) : D := .str x
noncomputable def nats (l : List Nat) : D := .lst (l.map I)
theorem inF_nats {l : List Nat} {n : Nat} : inF (I n) (nats l) = some (.bool (l.contains n)) ∧ ninF (I n) (nats l) = some (.bool (!l.contains n)) := by
  have := inB_of (mk := I) (p := fun m => .int (Int.ofNat m)) (l := l) (a := I n) (q := .int (Int.ofNat n)) (fun _ => .inr trivial) rfl rfl fun b _ => ⟨rfl, rfl⟩
  have e : (l.any fun b => PyData.eqv (.int (Int.ofNat b)) (.int (Int.ofNat n))) = l.contains n := by
    rw [List.contains_eq_any_beq]
    congr 1
    funext b
    show (Int.ofNat b == Int.ofNat n) = (n == b)
    rw [Bool.eq_iff_iff, beq_iff_eq, beq_iff_eq]
    exact ⟨fun h => (Int.ofNat.inj h).symm, fun h => by rw [h]⟩
  rw [e] at this
  exact this
end Mine

/-! UP2 -/
namespace Mine

/-- the forms, by their keys: eight times the letters kept, and which of them are great -/
noncomputable def forms27 : List (Nat × Str) := [(0, "..."), (8, "r..."), (9, "R..."), (16, "...g..."), (18, "...G..."), (24, "rg..."), (25, "Rg..."), (26, "rG..."), (27, "RG..."),
  (32, "...b"), (36, "...B"), (40, "r...b"), (41, "R...b"), (44, "r...B"), (45, "R...B"), (48, "...gb"), (50, "...Gb"), (52, "...gB"), (54, "...GB"),
  (56, "rgb"), (57, "Rgb"), (58, "rGb"), (59, "RGb"), (60, "rgB"), (61, "RgB"), (62, "rGB"), (63, "RGB")]
noncomputable def K27 : List Nat := [0, 8, 9, 16, 18, 24, 25, 26, 27, 32, 36, 40, 41, 44, 45, 48, 50, 52, 54, 56, 57, 58, 59, 60, 61, 62, 63]
noncomputable def fm (n : Nat) : Str := match forms27.find? (·.1 == n) with
  | some p => p.2
  | none => ""
noncomputable def W8 : List Nat := [0, 1, 2, 3, 4, 5, 6, 7]
noncomputable def wheel : List Nat := [1, 3, 2, 6, 4, 5, 7, 0]
noncomputable def word (c : Nat) : Str := fm (56 + c)
noncomputable def FS (n : Nat) : D := .str (fm n)
noncomputable def WS (c : Nat) : D := .str (word c)
noncomputable def shapesD : D := .dct (K27.map fun n => (Int.ofNat n, FS n))
theorem forms_eq : F_law_forms [] = some shapesD := by kernel_rfl

/-- a word goes with a form -/
noncomputable def goes (n x : Nat) : Bool := x &&& (n / 8) == n % 8
theorem match_tab0 : (K27.all fun n => W8.all fun x => toB (F_ellipsis_match [FS n, WS x]) == some (goes n x)) = true := by decide +kernel
theorem match_tab {n x : Nat} (hn : n ∈ K27) (hx : x ∈ W8) : F_ellipsis_match [FS n, WS x] = some (.bool (goes n x)) :=
  toB_some (beq_iff_eq.mp (List.all_eq_true.mp (List.all_eq_true.mp match_tab0 n hn) x hx))

theorem forL_findA {α : Type} {j : Nat} {fb : List D → Option Out} {ρ : List D} {r : D} {mk : α → D} {t : α → Bool} : ∀ {l : List α}, (∀ a ∈ l, fb (ρ.set j (mk a)) = if t a then some (.ret r) else some (.nxt (ρ.set j (mk a)))) → ∀ x0,
    (l.any t = true ∧ forL (.one j) fb (l.map mk) (ρ.set j x0) = some (.ret r)) ∨ (l.any t = false ∧ ∃ x, forL (.one j) fb (l.map mk) (ρ.set j x0) = some (.nxt (ρ.set j x)))
  | [], _, x0 => .inr ⟨rfl, x0, rfl⟩
  | d :: l, h, x0 => by
    have h0 := h d List.mem_cons_self
    rw [List.map_cons]
    cases ht : t d with
    | true =>
      rw [ht, if_pos rfl] at h0
      exact .inl ⟨by rw [List.any_cons, ht]; rfl, forL_ret (by rw [List.set_set]; exact h0)⟩
    | false =>
      rw [ht, if_neg Bool.false_ne_true] at h0
      have h1 : fb ((ρ.set j x0).set j (mk d)) = some (.nxt (ρ.set j (mk d))) := by rw [List.set_set]; exact h0
      rw [forL_cons h1, List.any_cons, ht, Bool.false_or]
      exact forL_findA (fun e he => h e (List.mem_cons_of_mem _ he)) (mk d)

theorem takes_none {n : Nat} {ws : List Nat} (hn : n ∈ K27) (hw : ∀ x ∈ ws, x ∈ W8) : F_law_takes_none [FS n, .lst (ws.map WS)] = some (.bool (!ws.any (goes n))) := by
  refine fnF_ret rfl ?_
  have body : ∀ x ∈ ws, (seqX (iteX (un1 trB (callE F_ellipsis_match (consE (getv 0) (consE (getv 2) (fun _ => some []))))) (seqX (retX none (fun _ => some (D.bool false)))
      (fun ρ => some (Out.nxt ρ))) (fun ρ => some (Out.nxt ρ))) (fun ρ => some (Out.nxt ρ))) ([FS n, .lst (ws.map WS), .undef].set 2 (WS x)) = if goes n x then some (.ret (.bool false)) else some (.nxt ([FS n, .lst (ws.map WS), .undef].set 2 (WS x))) := by
    intro x hx
    have t : (un1 trB (callE F_ellipsis_match (consE (getv 0) (consE (getv 2) (fun _ => some []))))) ([FS n, .lst (ws.map WS), .undef].set 2 (WS x)) = some (goes n x) := by
      exact (un1_of ((callE_of (ds := [FS n, WS x]) (consE_of (by rfl) (consE_of (by rfl) (by rfl)))).trans (match_tab hn (hw x hx)))).trans rfl
    cases hg : goes n x with
    | true => rw [hg] at t; rw [if_pos rfl]; exact seqX_ret ((iteX_true t).trans (seqX_ret (retX_of rfl)))
    | false => rw [hg] at t; rw [if_neg Bool.false_ne_true]; exact (seqX_nxt (iteX_false t)).trans rfl
  show B_law_takes_none [FS n, .lst (ws.map WS), .undef] = _
  unfold B_law_takes_none
  rcases forL_findA body .undef with ⟨h1, h2⟩ | ⟨h1, x, h2⟩
  · rw [h1]
    exact seqX_ret ((forX_none (ds := ws.map WS) (by rfl)).trans h2)
  · rw [h1]
    exact (seqX_nxt ((forX_none (ds := ws.map WS) (by rfl)).trans h2)).trans (seqX_ret (retX_of (by rfl)))

theorem K27_len : ∀ {l : List Nat} (f : Nat → Bool), l = K27.filter f → l.length ≤ 27 := fun f h => by
  rw [h]
  exact Nat.le_trans (List.length_filter_le ..) (by decide)
theorem grounds_eq {ws : List Nat} (hw : ∀ x ∈ ws, x ∈ W8) : F_law_grounds [shapesD, .lst (ws.map WS)] = some (.lst ((K27.filter fun n => !ws.any (goes n)).map FS)) := by
  refine fnF_ret rfl ?_
  show B_law_grounds [shapesD, .lst (ws.map WS)] = _
  unfold B_law_grounds
  refine seqX_ret (retX_of ?_)
  refine compF_of (mk := FS) (e := FS) (ts := fun n => [FS n]) (t := fun n => !ws.any (goes n)) (l := K27) (cs := [.lst (ws.map WS)]) ?_ (by decide) rfl fun n hn => ⟨rfl, ?_, fun _ => rfl⟩
  · rw [un1_of (a := shapesD) rfl]
    show some _ = some _
    rw [List.map_map]; rfl
  · exact (un1_of ((callE_of (ds := [FS n, .lst (ws.map WS)]) (consE_of (by rfl) (consE_of (by rfl) (by rfl)))).trans (takes_none hn hw))).trans rfl
noncomputable def kindOf (l : List Nat) (k : Nat) : D := .lst ((l.filter fun n => n / 8 == k).map FS)
end Mine

/-! UP4 -/
namespace Mine

/-- all words that go with the form are in the set -/
noncomputable def cube (p : Nat → Bool) (n : Nat) : Bool := W8.all fun x => !goes n x || p x
noncomputable def G (p : Nat → Bool) : List Nat := K27.filter (cube p)
noncomputable def two (p q : Nat → Bool) (x k : Nat) : Bool := cube p (8 * k + (x &&& k)) && cube q (8 * (7 - k) + (x &&& (7 - k)))
noncomputable def told (p q : Nat → Bool) : List Nat := W8.filter fun x => W8.any (two p q x)

noncomputable def asStr : Option D → Option Str
  | some (.str a) => some a
  | _ => none
theorem asStr_some {o : Option D} {a : Str} (e : asStr o = some a) : o = some (.str a) := by
  unfold asStr at e
  split at e
  · cases e; rfl
  · cases e
noncomputable def dgetS (n : Nat) : Option D := itmF shapesD (I n)
theorem all_W8 {P : Nat → Prop} (h0 : P 0) (h1 : P 1) (h2 : P 2) (h3 : P 3) (h4 : P 4) (h5 : P 5) (h6 : P 6) (h7 : P 7) : ∀ k ∈ W8, P k := by
  intro k hk
  simp only [W8, List.mem_cons, List.not_mem_nil, or_false] at hk
  rcases hk with rfl | rfl | rfl | rfl | rfl | rfl | rfl | rfl <;> assumption

theorem FS_lay0 : (K27.all fun n => PyData.canLay0 (.str (fm n)) && K27.all fun m => (fm m == fm n) == (m == n)) = true := by decide +kernel
theorem FS_lay {n : Nat} (hn : n ∈ K27) : PyData.canLay0 (.str (fm n)) = true := (Bool.and_eq_true_iff.mp (List.all_eq_true.mp FS_lay0 n hn)).1
theorem FS_inj {n m : Nat} (hn : n ∈ K27) (hm : m ∈ K27) : (fm m == fm n) = (m == n) :=
  beq_iff_eq.mp (List.all_eq_true.mp (Bool.and_eq_true_iff.mp (List.all_eq_true.mp FS_lay0 n hn)).2 m hm)
theorem any_congr' {α : Type} {l : List α} {f g : α → Bool} (h : ∀ a ∈ l, f a = g a) : l.any f = l.any g := by
  induction l with
  | nil => rfl
  | cons a l ih => rw [List.any_cons, List.any_cons, h a List.mem_cons_self, ih fun b hb => h b (List.mem_cons_of_mem _ hb)]
theorem in_FS {l : List Nat} {n : Nat} (hl : ∀ m ∈ l, m ∈ K27) (hn : n ∈ K27) : inF (FS n) (.lst (l.map FS)) = some (.bool (l.contains n)) ∧ ninF (FS n) (.lst (l.map FS)) = some (.bool (!l.contains n)) := by
  have := inB_of (mk := FS) (p := fun m => .str (fm m)) (l := l) (a := FS n) (q := .str (fm n)) (fun _ => .inr trivial) rfl (FS_lay hn) fun b hb => ⟨rfl, FS_lay (hl b hb)⟩
  have e : (l.any fun b => PyData.eqv (.str (fm b)) (.str (fm n))) = l.contains n := by
    rw [List.contains_eq_any_beq]
    refine any_congr' fun b hb => ?_
    show (fm b == fm n) = (n == b)
    rw [FS_inj hn (hl b hb), Bool.eq_iff_iff, beq_iff_eq, beq_iff_eq]
    exact eq_comm
  rw [e] at this
  exact this
theorem contains_filter {l : List Nat} {f : Nat → Bool} {n : Nat} (h : n ∈ l) : (l.filter f).contains n = f n := by
  rw [Bool.eq_iff_iff, List.contains_iff_mem, List.mem_filter]
  exact ⟨fun q => q.2, fun q => ⟨h, q⟩⟩
theorem in_kind {f : Nat → Bool} {n k : Nat} (hn : n ∈ K27) (hk : n / 8 = k) : inF (FS n) (kindOf (K27.filter f) k) = some (.bool (f n)) := by
  unfold kindOf
  rw [(in_FS (fun m hm => (List.mem_filter.mp (List.mem_filter.mp hm).1).1) hn).1, List.filter_filter, contains_filter hn, hk, beq_self_eq_true, Bool.true_and]

theorem key_tab0 : (W8.all fun x => W8.all fun k => K27.contains (8 * k + (x &&& k)) && (8 * k + (x &&& k)) / 8 == k && (Builtin.bitAnd (Int.ofNat x) (Int.ofNat k) == Int.ofNat (x &&& k)) && asStr (dgetS (8 * k + (x &&& k))) == some (fm (8 * k + (x &&& k)))) = true := by decide +kernel
theorem key_tab {x k : Nat} (hx : x ∈ W8) (hk : k ∈ W8) : (8 * k + (x &&& k)) ∈ K27 ∧ (8 * k + (x &&& k)) / 8 = k ∧ Builtin.bitAnd (Int.ofNat x) (Int.ofNat k) = Int.ofNat (x &&& k) ∧ itmF shapesD (I (8 * k + (x &&& k))) = some (FS (8 * k + (x &&& k))) := by
  obtain ⟨h123, h4⟩ := Bool.and_eq_true_iff.mp (List.all_eq_true.mp (List.all_eq_true.mp key_tab0 x hx) k hk)
  obtain ⟨h12, h3⟩ := Bool.and_eq_true_iff.mp h123
  obtain ⟨h1, h2⟩ := Bool.and_eq_true_iff.mp h12
  exact ⟨List.contains_iff_mem.mp h1, beq_iff_eq.mp h2, beq_iff_eq.mp h3, asStr_some (beq_iff_eq.mp h4)⟩
theorem mul8 {k : Nat} : mulF (.int 8) (I k) = some (I (8 * k)) := by
  unfold mulF I
  simp only [show bnd 8 = true from by decide, Bool.true_or, if_true]
  rfl
theorem add_I {a b : Nat} : addF (I a) (I b) = some (I (a + b)) := rfl
theorem itm_W8 {α : Nat → D} : ∀ k ∈ W8, itmF (.lst (W8.map α)) (I k) = some (α k) :=
  all_W8 rfl rfl rfl rfl rfl rfl rfl rfl
theorem sub7 : ∀ k ∈ W8, subF (.int 7) (I k) = some (I (7 - k)) ∧ 7 - k ∈ W8 := all_W8 ⟨rfl, by decide⟩ ⟨rfl, by decide⟩ ⟨rfl, by decide⟩ ⟨rfl, by decide⟩ ⟨rfl, by decide⟩ ⟨rfl, by decide⟩ ⟨rfl, by decide⟩ ⟨rfl, by decide⟩

/-! the box -/
theorem seqX_brk {f g : List D → Option Out} {ρ ρ' : List D} (h : f ρ = some (.brk ρ')) : seqX f g ρ = some (.brk ρ') := by unfold seqX; rw [h]
noncomputable def boxT1 (i : Nat) (j : Nat) : List D → Option Bool := cmpT inF (bin2 itmF (getv 0) (bin2 addF (bin2 mulF (fun _ => some (D.int 8)) (getv i)) (bin2 andF (getv 4) (getv i)))) (bin2 itmF (getv j) (getv i))
theorem boxT1_eq {f : Nat → Bool} {x k i j : Nat} {ρ : List D} (hx : x ∈ W8) (hk : k ∈ W8) (h0 : getv 0 ρ = some shapesD) (h4 : getv 4 ρ = some (I x)) (hi : getv i ρ = some (I k)) (hj : getv j ρ = some (.lst (W8.map (kindOf (K27.filter f))))) :
    boxT1 i j ρ = some (f (8 * k + (x &&& k))) := by
  obtain ⟨a1, a2, a3, a4⟩ := key_tab hx hk
  refine cmpT_of ((bin2_of (a := FS (8 * k + (x &&& k))) (b := kindOf (K27.filter f) k) ((bin2_of h0 ((bin2_of ((bin2_of (by rfl) hi).trans mul8) ((bin2_of h4 hi).trans ?_)).trans add_I)).trans a4) ((bin2_of hj hi).trans (itm_W8 k hk))).trans (in_kind a1 a2))
  show some (D.int (Builtin.bitAnd (Int.ofNat x) (Int.ofNat k))) = _
  rw [a3]; rfl
noncomputable def boxIn : List D → Option Out := (seqX (asgX (some 3) 6 (bin2 subF (fun _ => some (D.int 7)) (getv 5)))
  (seqX (iteX (andT (boxT1 5 1) (andT (boxT1 6 2) (fun _ => some true))) (seqX (pushX 3 (getv 4))
  (seqX (fun ρ => some (Out.brk ρ))
  (fun ρ => some (Out.nxt ρ)))) (fun ρ => some (Out.nxt ρ)))
  (fun ρ => some (Out.nxt ρ))))
noncomputable def boxSt (p q : Nat → Bool) (b : List Nat) (x k r : D) : List D := [shapesD, .lst (W8.map (kindOf (G p))), .lst (W8.map (kindOf (G q))), nats b, x, k, r]
theorem boxIn_eq {p q : Nat → Bool} {b : List Nat} {x k : Nat} {r : D} (hx : x ∈ W8) (hk : k ∈ W8) (hb : b.length ≤ 900) :
    boxIn (boxSt p q b (I x) (I k) r) = if two p q x k then some (.brk (boxSt p q (b ++ [x]) (I x) (I k) (I (7 - k)))) else some (.nxt (boxSt p q b (I x) (I k) (I (7 - k)))) := by
  obtain ⟨e7, h7⟩ := sub7 k hk
  unfold boxIn
  refine (seqX_nxt (asgXo_of (d := I (7 - k)) ((bin2_of (by rfl) (by rfl)).trans e7) (by rfl))).trans ?_
  have t : andT (boxT1 5 1) (andT (boxT1 6 2) (fun _ => some true)) (boxSt p q b (I x) (I k) (I (7 - k))) = some (cube p (8 * k + (x &&& k)) && (cube q (8 * (7 - k) + (x &&& (7 - k))) && true)) :=
    andT_of (boxT1_eq hx hk (by rfl) (by rfl) (by rfl) (by rfl)) fun _ => andT_of (boxT1_eq hx h7 (by rfl) (by rfl) (by rfl) (by rfl)) fun _ => rfl
  rw [Bool.and_true] at t
  show seqX _ _ (boxSt p q b (I x) (I k) (I (7 - k))) = _
  unfold two
  cases hc : cube p (8 * k + (x &&& k)) && cube q (8 * (7 - k) + (x &&& (7 - k))) with
  | false =>
    rw [hc] at t
    rw [if_neg Bool.false_ne_true]
    exact (seqX_nxt (iteX_false t)).trans rfl
  | true =>
    rw [hc] at t
    rw [if_pos rfl]
    have e : seqX (pushX 3 (getv 4)) (seqX (fun ρ => some (Out.brk ρ)) (fun ρ => some (Out.nxt ρ))) (boxSt p q b (I x) (I k) (I (7 - k))) = some (.brk (boxSt p q (b ++ [x]) (I x) (I k) (I (7 - k)))) := by
      refine (seqX_nxt (pushX_of (l := b.map I) (d := I x) rfl (by rw [List.length_map]; omega) rfl)).trans ?_
      show some (Out.brk [shapesD, .lst (W8.map (kindOf (G p))), .lst (W8.map (kindOf (G q))), .lst (b.map I ++ [I x]), I x, I k, I (7 - k)]) = _
      unfold boxSt nats
      rw [List.map_append]; rfl
    exact seqX_brk ((iteX_true t).trans e)

theorem boxLoopIn {p q : Nat → Bool} {b : List Nat} {x : Nat} (hx : x ∈ W8) (hb : b.length ≤ 900) : ∀ {ks : List Nat}, (∀ k ∈ ks, k ∈ W8) → ∀ k0 r0, ∃ k1 r1, forL (.one 5) boxIn (ks.map I) (boxSt p q b (I x) k0 r0) = some (.nxt (boxSt p q (if ks.any (two p q x) then b ++ [x] else b) (I x) k1 r1))
  | [], _, k0, r0 => ⟨k0, r0, rfl⟩
  | k :: ks, h, k0, r0 => by
    have h0 := boxIn_eq (p := p) (q := q) (r := r0) hx (h k List.mem_cons_self) hb
    rw [List.map_cons, List.any_cons]
    cases ht : two p q x k with
    | true =>
      rw [ht, if_pos rfl] at h0
      exact ⟨I k, I (7 - k), forL_brk h0⟩
    | false =>
      rw [ht, if_neg Bool.false_ne_true] at h0
      rw [Bool.false_or, forL_cons (ρ' := boxSt p q b (I x) (I k) (I (7 - k))) h0]
      exact boxLoopIn hx hb (fun e he => h e (List.mem_cons_of_mem _ he)) _ _
noncomputable def boxOut : List D → Option Out := (seqX (forX (some 3) (Tg.one 5) (un1 itemsOf (callE rngF (consE (fun _ => some (D.int 8)) (fun _ => some [])))) boxIn)
  (fun ρ => some (Out.nxt ρ)))
theorem range8 {ρ : List D} : un1 itemsOf (callE rngF (consE (fun _ => some (D.int 8)) (fun _ => some []))) ρ = some (W8.map I) := by rfl
theorem boxLoopOut {p q : Nat → Bool} : ∀ {xs : List Nat} {b : List Nat}, (∀ x ∈ xs, x ∈ W8) → b.length + xs.length ≤ 900 → ∀ x0 k0 r0, ∃ x1 k1 r1, forL (.one 4) boxOut (xs.map I) (boxSt p q b x0 k0 r0) = some (.nxt (boxSt p q (b ++ xs.filter fun x => W8.any (two p q x)) x1 k1 r1))
  | [], b, _, _, x0, k0, r0 => ⟨x0, k0, r0, by rw [List.filter_nil, List.append_nil]; rfl⟩
  | x :: xs, b, h, hl, x0, k0, r0 => by
    rw [List.length_cons] at hl
    obtain ⟨k1, r1, h1⟩ := boxLoopIn (p := p) (q := q) (b := b) (h x List.mem_cons_self) (by omega) (ks := W8) (fun _ q => q) k0 r0
    have h2 : boxOut ((boxSt p q b x0 k0 r0).set 4 (I x)) = some (.nxt (boxSt p q (if W8.any (two p q x) then b ++ [x] else b) (I x) k1 r1)) := by
      unfold boxOut
      exact (seqX_nxt ((forX_own (ds := W8.map I) range8).trans h1)).trans rfl
    rw [List.map_cons, forL_cons h2]
    cases ht : W8.any (two p q x) with
    | true =>
      obtain ⟨x2, k2, r2, h3⟩ := boxLoopOut (p := p) (q := q) (xs := xs) (b := b ++ [x]) (fun e he => h e (List.mem_cons_of_mem _ he)) (by rw [List.length_append]; simp only [List.length_cons, List.length_nil]; omega) (I x) k1 r1
      refine ⟨x2, k2, r2, ?_⟩
      rw [if_pos rfl, h3, List.filter_cons_of_pos (p := fun x => W8.any (two p q x)) ht, List.append_assoc]; rfl
    | false =>
      obtain ⟨x2, k2, r2, h3⟩ := boxLoopOut (p := p) (q := q) (xs := xs) (b := b) (fun e he => h e (List.mem_cons_of_mem _ he)) (by omega) (I x) k1 r1
      refine ⟨x2, k2, r2, ?_⟩
      rw [if_neg Bool.false_ne_true, h3, List.filter_cons_of_neg (p := fun x => W8.any (two p q x)) (by rw [ht]; exact Bool.false_ne_true)]
theorem box_eq (p q : Nat → Bool) : F_law_box [shapesD, .lst (W8.map (kindOf (G p))), .lst (W8.map (kindOf (G q)))] = some (nats (told p q)) := by
  refine fnF_ret rfl ?_
  obtain ⟨x1, k1, r1, h1⟩ := boxLoopOut (p := p) (q := q) (xs := W8) (b := []) (fun _ q => q) (by decide) .undef .undef .undef
  show (seqX (ownX 3 (fun _ => some [])) (seqX (forX (some 3) (Tg.one 4) (un1 itemsOf (callE rngF (consE (fun _ => some (D.int 8)) (fun _ => some [])))) boxOut) (seqX (retX none (getv 3)) (fun ρ => some (Out.nxt ρ)))))
    [shapesD, .lst (W8.map (kindOf (G p))), .lst (W8.map (kindOf (G q))), .undef, .undef, .undef, .undef] = _
  refine (seqX_nxt (ρ' := boxSt p q [] .undef .undef .undef) rfl).trans ?_
  refine (seqX_nxt ((forX_own (ds := W8.map I) range8).trans h1)).trans (seqX_ret (retX_of ?_))
  rfl
end Mine

/-! UP5 -/
namespace Mine

noncomputable def near (x k y : Nat) : Bool := (x ^^^ y) &&& k == 0
noncomputable def pw : List Nat := [1, 2, 2, 4, 2, 4, 4, 8]
theorem xor_tab0 : (W8.all fun x => W8.all fun y => (Builtin.bitXor (Int.ofNat x) (Int.ofNat y) == Int.ofNat (x ^^^ y)) && W8.contains (x ^^^ y)) = true := by decide +kernel
theorem xor_tab {x y : Nat} (hx : x ∈ W8) (hy : y ∈ W8) : Builtin.bitXor (Int.ofNat x) (Int.ofNat y) = Int.ofNat (x ^^^ y) ∧ (x ^^^ y) ∈ W8 := by
  obtain ⟨h1, h2⟩ := Bool.and_eq_true_iff.mp (List.all_eq_true.mp (List.all_eq_true.mp xor_tab0 x hx) y hy)
  exact ⟨beq_iff_eq.mp h1, List.contains_iff_mem.mp h2⟩
theorem eqF_int {a b : Int} : eqF (.int a) (.int b) = some (.bool (a == b)) := rfl
theorem ofNat_beq {a b : Nat} : (Int.ofNat a == Int.ofNat b) = (a == b) := by
  rw [Bool.eq_iff_iff, beq_iff_eq, beq_iff_eq]
  exact ⟨Int.ofNat.inj, fun h => by rw [h]⟩
noncomputable def pwD : D := .tup [.int 1, .int 2, .int 2, .int 4, .int 2, .int 4, .int 4, .int 8]
theorem pw_tab : ∀ k ∈ W8, itmF pwD (I k) = some (I (pw.getD k 0)) := all_W8 rfl rfl rfl rfl rfl rfl rfl rfl
theorem pwE {ρ : List D} : tupE (consE (fun _ => some (D.int 1)) (consE (fun _ => some (D.int 2)) (consE (fun _ => some (D.int 2)) (consE (fun _ => some (D.int 4)) (consE (fun _ => some (D.int 2)) (consE (fun _ => some (D.int 4)) (consE (fun _ => some (D.int 4)) (consE (fun _ => some (D.int 8)) (fun _ => some [])))))))))  ρ = some pwD := by rfl

theorem whole_eq0 {own : List Nat} {x k : Nat} (ho : ∀ y ∈ own, y ∈ W8) (hl : own.length ≤ 900) (hx : x ∈ W8) (hk : k ∈ W8) : F_law_whole [nats own, I x, I k] = some (.bool ((own.filter (near x k)).length == pw.getD (7 - k) 0)) := by
  obtain ⟨e7, h7⟩ := sub7 k hk
  refine fnF_ret rfl ?_
  show B_law_whole [nats own, I x, I k, .undef] = _
  unfold B_law_whole
  refine (seqX_nxt (asgCompX_of (ys := (own.filter (near x k)).map I) ?_)).trans ?_
  · refine compD_of (mk := I) (e := I) (ts := fun y => [I y]) (t := near x k) (l := own) (cs := [I x, I k]) (by rfl) (by omega) (by rfl) fun y hy => ⟨rfl, ?_, fun _ => rfl⟩
    obtain ⟨x1, x2⟩ := xor_tab hx (ho y hy)
    obtain ⟨_, _, a3, _⟩ := key_tab x2 hk
    refine cmpT_of ((bin2_of (a := I ((x ^^^ y) &&& k)) (b := .int 0) ((bin2_of (a := I (x ^^^ y)) (b := I k) ((bin2_of (a := I x) (b := I y) (by rfl) (by rfl)).trans ?_) (by rfl)).trans ?_) (by rfl)).trans ?_)
    · show some (D.int (Builtin.bitXor (Int.ofNat x) (Int.ofNat y))) = _
      rw [x1]; rfl
    · show some (D.int (Builtin.bitAnd (Int.ofNat (x ^^^ y)) (Int.ofNat k))) = _
      rw [a3]; rfl
    · show some (D.bool (Int.ofNat ((x ^^^ y) &&& k) == Int.ofNat 0)) = _
      rw [ofNat_beq]; rfl
  · refine seqX_ret (retX_of ((bin2_of (a := I (own.filter (near x k)).length) (b := I (pw.getD (7 - k) 0)) ?_ ((bin2_of (a := pwD) (b := I (7 - k)) pwE ((bin2_of (by rfl) (by rfl)).trans e7)).trans (pw_tab _ h7))).trans ?_))
    · refine (callE_of (ds := [nats (own.filter (near x k))]) (consE_of (by rfl) (by rfl))).trans ?_
      show (if ((own.filter (near x k)).map I).length ≤ 1000 then some (D.int (((own.filter (near x k)).map I).length : Nat)) else none) = _
      rw [List.length_map, if_pos]
      · rfl
      · have := List.length_filter_le (near x k) own
        omega
    · show some (D.bool (Int.ofNat _ == Int.ofNat _)) = _
      rw [ofNat_beq]

theorem wheel_sub : (wheel.all fun x => W8.contains x) = true := by decide
theorem W8_sub : (W8.all fun x => wheel.contains x) = true := by decide
theorem mem_wheel {x : Nat} : x ∈ wheel ↔ x ∈ W8 :=
  ⟨fun h => List.contains_iff_mem.mp (List.all_eq_true.mp wheel_sub x h), fun h => List.contains_iff_mem.mp (List.all_eq_true.mp W8_sub x h)⟩
theorem near_tab0 : (W8.all fun x => W8.all fun k => ((wheel.filter (near x k)).length == pw.getD (7 - k) 0) && W8.all fun y => near x k y == goes (8 * k + (x &&& k)) y) = true := by decide +kernel
theorem near_tab {x k : Nat} (hx : x ∈ W8) (hk : k ∈ W8) : (wheel.filter (near x k)).length = pw.getD (7 - k) 0 ∧ ∀ y ∈ W8, near x k y = goes (8 * k + (x &&& k)) y := by
  obtain ⟨h1, h2⟩ := Bool.and_eq_true_iff.mp (List.all_eq_true.mp (List.all_eq_true.mp near_tab0 x hx) k hk)
  exact ⟨beq_iff_eq.mp h1, fun y hy => beq_iff_eq.mp (List.all_eq_true.mp h2 y hy)⟩
/-- the corners of a set, in the wheel's order -/
noncomputable def corners (p : Nat → Bool) : List Nat := wheel.filter p
theorem corners_W8 {p : Nat → Bool} : ∀ y ∈ corners p, y ∈ W8 := fun y hy => mem_wheel.mp (List.mem_filter.mp hy).1
theorem corners_len {p : Nat → Bool} : (corners p).length ≤ 8 := List.length_filter_le p wheel
theorem whole_eq {p : Nat → Bool} {x k : Nat} (hx : x ∈ W8) (hk : k ∈ W8) : F_law_whole [nats (corners p), I x, I k] = some (.bool (cube p (8 * k + (x &&& k)))) := by
  rw [whole_eq0 corners_W8 (by have := corners_len (p := p); omega) hx hk]
  obtain ⟨n1, n2⟩ := near_tab hx hk
  have e : (corners p).filter (near x k) = (wheel.filter (near x k)).filter p := by
    unfold corners
    rw [List.filter_filter, List.filter_filter]
    congr 1
    funext y
    exact Bool.and_comm ..
  rw [e, ← n1]
  congr 2
  rw [Bool.eq_iff_iff, beq_iff_eq, List.length_filter_eq_length_iff]
  unfold cube
  rw [List.all_eq_true]
  constructor
  · intro h y hy
    cases hg : goes (8 * k + (x &&& k)) y with
    | false => rfl
    | true => rw [h y (List.mem_filter.mpr ⟨mem_wheel.mpr hy, by rw [n2 y hy]; exact hg⟩)]; rfl
  · intro h y hy
    obtain ⟨h1, h2⟩ := List.mem_filter.mp hy
    have hy8 := mem_wheel.mp h1
    have := h y hy8
    rw [← n2 y hy8, h2] at this
    simpa using this

theorem apart_eq {p q : Nat → Bool} {x : Nat} (hx : x ∈ W8) : F_law_apart [nats (corners p), nats (corners q), I x] = some (.bool (W8.any (two p q x))) := by
  refine fnF_ret rfl ?_
  show B_law_apart [nats (corners p), nats (corners q), I x, .undef] = _
  unfold B_law_apart
  have body : ∀ k ∈ W8, (seqX (iteX (andT (un1 trB (callE F_law_whole (consE (getv 0) (consE (getv 2) (consE (getv 3) (fun _ => some [])))))) (andT (un1 trB (callE F_law_whole (consE (getv 1) (consE (getv 2) (consE (bin2 subF (fun _ => some (D.int 7)) (getv 3)) (fun _ => some [])))))) (fun _ => some true))) (seqX (retX none (fun _ => some (D.bool true)))
      (fun ρ => some (Out.nxt ρ))) (fun ρ => some (Out.nxt ρ))) (fun ρ => some (Out.nxt ρ))) ([nats (corners p), nats (corners q), I x, .undef].set 3 (I k)) = if two p q x k then some (.ret (.bool true)) else some (.nxt ([nats (corners p), nats (corners q), I x, .undef].set 3 (I k))) := by
    intro k hk
    obtain ⟨e7, h7⟩ := sub7 k hk
    have t : (andT (un1 trB (callE F_law_whole (consE (getv 0) (consE (getv 2) (consE (getv 3) (fun _ => some [])))))) (andT (un1 trB (callE F_law_whole (consE (getv 1) (consE (getv 2) (consE (bin2 subF (fun _ => some (D.int 7)) (getv 3)) (fun _ => some [])))))) (fun _ => some true)))
        ([nats (corners p), nats (corners q), I x, .undef].set 3 (I k)) = some (cube p (8 * k + (x &&& k)) && (cube q (8 * (7 - k) + (x &&& (7 - k))) && true)) :=
      andT_of ((un1_of ((callE_of (ds := [nats (corners p), I x, I k]) (consE_of (by rfl) (consE_of (by rfl) (consE_of (by rfl) (by rfl))))).trans (whole_eq hx hk))).trans rfl)
        fun _ => andT_of ((un1_of ((callE_of (ds := [nats (corners q), I x, I (7 - k)]) (consE_of (by rfl) (consE_of (by rfl) (consE_of ((bin2_of (by rfl) (by rfl)).trans e7) (by rfl))))).trans (whole_eq hx h7))).trans rfl) fun _ => rfl
    rw [Bool.and_true] at t
    unfold two
    cases hc : cube p (8 * k + (x &&& k)) && cube q (8 * (7 - k) + (x &&& (7 - k))) with
    | true => rw [hc] at t; rw [if_pos rfl]; exact seqX_ret ((iteX_true t).trans (seqX_ret (retX_of rfl)))
    | false => rw [hc] at t; rw [if_neg Bool.false_ne_true]; exact (seqX_nxt (iteX_false t)).trans rfl
  rcases forL_findA body .undef with ⟨h1, h2⟩ | ⟨h1, y, h2⟩
  · rw [h1]
    exact seqX_ret ((forX_none (ds := W8.map I) range8).trans h2)
  · rw [h1]
    exact (seqX_nxt ((forX_none (ds := W8.map I) range8).trans h2)).trans (seqX_ret (retX_of (by rfl)))
theorem cube_self0 : (W8.all fun x => W8.all fun k => goes (8 * k + (x &&& k)) x) = true := by decide +kernel
theorem cube_self {p : Nat → Bool} {x k : Nat} (hx : x ∈ W8) (hk : k ∈ W8) (h : cube p (8 * k + (x &&& k)) = true) : p x = true := by
  have := List.all_eq_true.mp h x hx
  rw [List.all_eq_true.mp (List.all_eq_true.mp cube_self0 x hx) k hk] at this
  simpa using this
theorem two_mem {p q : Nat → Bool} {x k : Nat} (hx : x ∈ W8) (hk : k ∈ W8) (h : two p q x k = true) : p x = true ∧ q x = true := by
  obtain ⟨h1, h2⟩ := Bool.and_eq_true_iff.mp h
  exact ⟨cube_self hx hk h1, cube_self hx (sub7 k hk).2 h2⟩
theorem corners_contains {p : Nat → Bool} {x : Nat} (hx : x ∈ W8) : (corners p).contains x = p x := contains_filter (mem_wheel.mpr hx)
theorem plain_eq (p q : Nat → Bool) : F_law_plain [nats (corners p), nats (corners q)] = some (nats (told p q)) := by
  refine fnF_ret rfl ?_
  show B_law_plain [nats (corners p), nats (corners q)] = _
  unfold B_law_plain
  refine seqX_ret (retX_of ?_)
  refine compF_of (mk := I) (e := I) (ts := fun y => [I y]) (t := fun x => W8.any (two p q x)) (l := W8) (cs := [nats (corners p), nats (corners q)]) range8 (by decide) (by rfl) fun x hx => ⟨rfl, ?_, fun _ => rfl⟩
  refine (andT_of (a := (corners p).contains x) (b := (corners q).contains x && (W8.any (two p q x) && true)) (cmpT_of ((bin2_of (by rfl) (by rfl)).trans inF_nats.1)) fun _ =>
    andT_of (cmpT_of ((bin2_of (by rfl) (by rfl)).trans inF_nats.1)) fun _ => andT_of ((un1_of ((callE_of (ds := [nats (corners p), nats (corners q), I x]) (consE_of (by rfl) (consE_of (by rfl) (consE_of (by rfl) (by rfl))))).trans (apart_eq hx))).trans rfl) fun _ => rfl).trans ?_
  rw [corners_contains hx, corners_contains hx, Bool.and_true]
  congr 1
  cases h : W8.any (two p q x) with
  | false => rw [Bool.and_false, Bool.and_false]
  | true =>
    obtain ⟨k, hk, hc⟩ := List.any_eq_true.mp h
    obtain ⟨h1, h2⟩ := two_mem hx hk hc
    rw [h1, h2]; rfl
end Mine

/-! UP6 -/
namespace Mine

noncomputable def spotAt (i : Nat) : D := (F_law_paint [I i]).getD .undef
noncomputable def SP (c : Nat) : D := spotAt (wheel.idxOf c)
noncomputable def NG (c : Nat) : D := (F_law_negative [SP c]).getD .undef
noncomputable def spotsD : D := .lst (wheel.map SP)
theorem spots_wheel : W8.map spotAt = wheel.map SP := by rfl
theorem isSome_get {o : Option D} (h : o.isSome = true) : o = some (o.getD .undef) := by
  cases o with
  | none => cases h
  | some d => rfl
theorem paint_tab0 : (W8.all fun i => (F_law_paint [I i]).isSome) = true := by decide +kernel
theorem paint_tab {i : Nat} (hi : i ∈ W8) : F_law_paint [I i] = some (spotAt i) := isSome_get (List.all_eq_true.mp paint_tab0 i hi)
theorem getv_of {i : Nat} {ρ : List D} {d : D} (h : ρ[i]? = some d) (hd : d.isSet = true) : getv i ρ = some d := by
  unfold getv
  rw [h]
  cases d <;> first | rfl | cases hd
theorem spot_set0 : (wheel.all fun c => (SP c).isSet) = true := by decide +kernel
theorem spot_set {c : Nat} (hc : c ∈ wheel) : (SP c).isSet = true := List.all_eq_true.mp spot_set0 c hc
theorem spot_tab0 : (wheel.all fun c => asStr (F_law_word [SP c]) == some (word c) && (F_law_negative [SP c]).isSome && asStr (F_law_word [NG c]) == some (word (7 - c))) = true := by decide +kernel
theorem spot_tab {c : Nat} (hc : c ∈ wheel) : F_law_word [SP c] = some (WS c) ∧ F_law_negative [SP c] = some (NG c) ∧ F_law_word [NG c] = some (WS (7 - c)) := by
  obtain ⟨h12, h3⟩ := Bool.and_eq_true_iff.mp (List.all_eq_true.mp spot_tab0 c hc)
  obtain ⟨h1, h2⟩ := Bool.and_eq_true_iff.mp h12
  exact ⟨asStr_some (beq_iff_eq.mp h1), isSome_get h2, asStr_some (beq_iff_eq.mp h3)⟩

theorem WS_lay0 : (W8.all fun n => PyData.canLay0 (.str (word n)) && W8.all fun m => (word m == word n) == (m == n)) = true := by decide +kernel
theorem WS_lay {n : Nat} (hn : n ∈ W8) : PyData.canLay0 (.str (word n)) = true := (Bool.and_eq_true_iff.mp (List.all_eq_true.mp WS_lay0 n hn)).1
theorem WS_inj {n m : Nat} (hn : n ∈ W8) (hm : m ∈ W8) : (word m == word n) = (m == n) :=
  beq_iff_eq.mp (List.all_eq_true.mp (Bool.and_eq_true_iff.mp (List.all_eq_true.mp WS_lay0 n hn)).2 m hm)
theorem in_WS {l : List Nat} {n : Nat} (hl : ∀ m ∈ l, m ∈ W8) (hn : n ∈ W8) : inF (WS n) (.lst (l.map WS)) = some (.bool (l.contains n)) := by
  have := inB_of (mk := WS) (p := fun m => .str (word m)) (l := l) (a := WS n) (q := .str (word n)) (fun _ => .inr trivial) rfl (WS_lay hn) fun b hb => ⟨rfl, WS_lay (hl b hb)⟩
  have e : (l.any fun b => PyData.eqv (.str (word b)) (.str (word n))) = l.contains n := by
    rw [List.contains_eq_any_beq]
    refine any_congr' fun b hb => ?_
    show (word b == word n) = (n == b)
    rw [WS_inj hn (hl b hb), Bool.eq_iff_iff, beq_iff_eq, beq_iff_eq]
    exact eq_comm
  rw [e] at this
  exact this.1

/-! facing -/
noncomputable def pr (c d : Nat) : D := .tup [WS c, WS d]
noncomputable def faceB : List D → Option Out := (seqX (asgX (some 3) 5 (callE F_law_word (consE (getv 4) (fun _ => some []))))
  (seqX (iteX (cmpT inF (getv 5) (getv 1)) (seqX (asgX (some 3) 6 (callE F_law_word (consE (callE F_law_negative (consE (getv 4) (fun _ => some []))) (fun _ => some []))))
  (seqX (iteX (cmpT inF (getv 6) (getv 2)) (seqX (pushX 3 (tupE (consE (getv 5) (consE (getv 6) (fun _ => some [])))))
  (fun ρ => some (Out.nxt ρ))) (fun ρ => some (Out.nxt ρ)))
  (fun ρ => some (Out.nxt ρ)))) (fun ρ => some (Out.nxt ρ)))
  (fun ρ => some (Out.nxt ρ))))
noncomputable def faceSt (p q : Nat → Bool) (acc : List Nat) (a b c : D) : List D := [spotsD, .lst ((corners p).map WS), .lst ((corners q).map WS), .lst (acc.map fun c => pr c (7 - c)), a, b, c]
theorem faceB_eq {p q : Nat → Bool} {acc : List Nat} {c : Nat} {b d : D} (hc : c ∈ wheel) (ha : acc.length ≤ 900) : ∃ b' d', faceB (faceSt p q acc (SP c) b d) = some (.nxt (faceSt p q (if p c && q (7 - c) then acc ++ [c] else acc) (SP c) b' d')) := by
  obtain ⟨s1, s2, s3⟩ := spot_tab hc
  have hc8 := mem_wheel.mp hc
  obtain ⟨_, h7⟩ := sub7 c hc8
  have e1 : faceB (faceSt p q acc (SP c) b d) = (seqX (iteX (cmpT inF (getv 5) (getv 1)) (seqX (asgX (some 3) 6 (callE F_law_word (consE (callE F_law_negative (consE (getv 4) (fun _ => some []))) (fun _ => some []))))
      (seqX (iteX (cmpT inF (getv 6) (getv 2)) (seqX (pushX 3 (tupE (consE (getv 5) (consE (getv 6) (fun _ => some []))))) (fun ρ => some (Out.nxt ρ))) (fun ρ => some (Out.nxt ρ)))
      (fun ρ => some (Out.nxt ρ)))) (fun ρ => some (Out.nxt ρ))) (fun ρ => some (Out.nxt ρ))) (faceSt p q acc (SP c) (WS c) d) := by
    unfold faceB
    exact seqX_nxt (asgXo_of (d := WS c) ((callE_of (ds := [SP c]) (consE_of (getv_of (by rfl) (spot_set hc)) (by rfl))).trans s1) (by rfl))
  have t1 : cmpT inF (getv 5) (getv 1) (faceSt p q acc (SP c) (WS c) d) = some (p c) := by
    refine cmpT_of ((bin2_of (a := WS c) (b := .lst ((corners p).map WS)) (by rfl) (by rfl)).trans ?_)
    rw [in_WS corners_W8 hc8, corners_contains hc8]
  rw [e1]
  cases hp : p c with
  | false =>
    rw [hp] at t1
    refine ⟨WS c, d, ?_⟩
    rw [Bool.false_and, if_neg Bool.false_ne_true]
    exact (seqX_nxt (iteX_false t1)).trans rfl
  | true =>
    rw [hp] at t1
    have e2 : (seqX (asgX (some 3) 6 (callE F_law_word (consE (callE F_law_negative (consE (getv 4) (fun _ => some []))) (fun _ => some []))))
      (seqX (iteX (cmpT inF (getv 6) (getv 2)) (seqX (pushX 3 (tupE (consE (getv 5) (consE (getv 6) (fun _ => some []))))) (fun ρ => some (Out.nxt ρ))) (fun ρ => some (Out.nxt ρ)))
      (fun ρ => some (Out.nxt ρ)))) (faceSt p q acc (SP c) (WS c) d) = some (.nxt (faceSt p q (if true && q (7 - c) then acc ++ [c] else acc) (SP c) (WS c) (WS (7 - c)))) := by
      refine (seqX_nxt (ρ' := faceSt p q acc (SP c) (WS c) (WS (7 - c))) (asgXo_of (d := WS (7 - c)) ((callE_of (ds := [NG c]) (consE_of ((callE_of (ds := [SP c]) (consE_of (getv_of (by rfl) (spot_set hc)) (by rfl))).trans s2) (by rfl))).trans s3) (by rfl))).trans ?_
      have t2 : cmpT inF (getv 6) (getv 2) (faceSt p q acc (SP c) (WS c) (WS (7 - c))) = some (q (7 - c)) := by
        refine cmpT_of ((bin2_of (a := WS (7 - c)) (b := .lst ((corners q).map WS)) (by rfl) (by rfl)).trans ?_)
        rw [in_WS corners_W8 h7, corners_contains h7]
      rw [Bool.true_and]
      cases hq : q (7 - c) with
      | false =>
        rw [hq] at t2
        rw [if_neg Bool.false_ne_true]
        exact (seqX_nxt (iteX_false t2)).trans rfl
      | true =>
        rw [hq] at t2
        rw [if_pos rfl]
        refine (seqX_nxt (ρ' := faceSt p q (acc ++ [c]) (SP c) (WS c) (WS (7 - c))) ((iteX_true t2).trans ((seqX_nxt (pushX_of (l := acc.map fun c => pr c (7 - c)) (d := pr c (7 - c)) (by rfl) (by rw [List.length_map]; omega) (by rfl))).trans ?_))).trans rfl
        show some (Out.nxt [spotsD, .lst ((corners p).map WS), .lst ((corners q).map WS), .lst ((acc.map fun c => pr c (7 - c)) ++ [pr c (7 - c)]), SP c, WS c, WS (7 - c)]) = _
        unfold faceSt
        rw [List.map_append]; rfl
    exact ⟨_, _, (seqX_nxt ((iteX_true t1).trans e2)).trans rfl⟩
theorem faceLoop {p q : Nat → Bool} : ∀ {cs acc : List Nat}, (∀ c ∈ cs, c ∈ wheel) → acc.length + cs.length ≤ 900 → ∀ a b d, ∃ a' b' d', forL (.one 4) faceB (cs.map SP) (faceSt p q acc a b d) = some (.nxt (faceSt p q (acc ++ cs.filter fun c => p c && q (7 - c)) a' b' d'))
  | [], acc, _, _, a, b, d => ⟨a, b, d, by rw [List.filter_nil, List.append_nil]; rfl⟩
  | c :: cs, acc, h, hl, a, b, d => by
    rw [List.length_cons] at hl
    obtain ⟨b1, d1, h1⟩ := faceB_eq (p := p) (q := q) (acc := acc) (b := b) (d := d) (h c List.mem_cons_self) (by omega)
    rw [List.map_cons, forL_cons (ρ := faceSt p q acc a b d) h1]
    cases ht : p c && q (7 - c) with
    | true =>
      obtain ⟨a2, b2, d2, h3⟩ := faceLoop (p := p) (q := q) (cs := cs) (acc := acc ++ [c]) (fun e he => h e (List.mem_cons_of_mem _ he)) (by rw [List.length_append]; simp only [List.length_cons, List.length_nil]; omega) (SP c) b1 d1
      refine ⟨a2, b2, d2, ?_⟩
      rw [if_pos rfl, h3, List.filter_cons_of_pos (p := fun c => p c && q (7 - c)) ht, List.append_assoc]; rfl
    | false =>
      obtain ⟨a2, b2, d2, h3⟩ := faceLoop (p := p) (q := q) (cs := cs) (acc := acc) (fun e he => h e (List.mem_cons_of_mem _ he)) (by omega) (SP c) b1 d1
      refine ⟨a2, b2, d2, ?_⟩
      rw [if_neg Bool.false_ne_true, h3, List.filter_cons_of_neg (p := fun c => p c && q (7 - c)) (by rw [ht]; exact Bool.false_ne_true)]
noncomputable def faced (p q : Nat → Bool) : List Nat := wheel.filter fun c => p c && q (7 - c)
theorem facing_eq (p q : Nat → Bool) : F_law_facing [spotsD, .lst ((corners p).map WS), .lst ((corners q).map WS)] = some (.lst ((faced p q).map fun c => pr c (7 - c))) := by
  refine fnF_ret rfl ?_
  obtain ⟨a, b, d, h1⟩ := faceLoop (p := p) (q := q) (cs := wheel) (acc := []) (fun _ q => q) (by decide) .undef .undef .undef
  show (seqX (ownX 3 (fun _ => some [])) (seqX (forX (some 3) (Tg.one 4) (un1 itemsOf (getv 0)) faceB) (seqX (retX none (getv 3)) (fun ρ => some (Out.nxt ρ))))) [spotsD, .lst ((corners p).map WS), .lst ((corners q).map WS), .undef, .undef, .undef, .undef] = _
  refine (seqX_nxt (ρ' := faceSt p q [] .undef .undef .undef) rfl).trans ?_
  exact (seqX_nxt ((forX_own (ds := wheel.map SP) (by rfl)).trans h1)).trans (seqX_ret (retX_of (by rfl)))

/-! how far two words lie apart -/
noncomputable def dist (x y : Nat) : Nat := ([0, 1, 1, 2, 1, 2, 2, 3] : List Nat).getD (x ^^^ y) 0
noncomputable def asInt : Option D → Option Int
  | some (.int a) => some a
  | _ => none
theorem asInt_some {o : Option D} {a : Int} (e : asInt o = some a) : o = some (.int a) := by
  unfold asInt at e
  split at e
  · cases e; rfl
  · cases e
theorem lev_tab0 : (W8.all fun x => W8.all fun y => asInt (F_levenshtein_distance [WS x, WS y, .int 3]) == some (Int.ofNat (dist x y))) = true := by decide +kernel
theorem lev_tab {x y : Nat} (hx : x ∈ W8) (hy : y ∈ W8) : F_levenshtein_distance [WS x, WS y, .int 3] = some (I (dist x y)) := asInt_some (beq_iff_eq.mp (List.all_eq_true.mp (List.all_eq_true.mp lev_tab0 x hx) y hy))
end Mine

/-! UP7 -/
namespace Mine

structure Ld where
  a0 : Int
  a1 : Int
  b0 : Int
  b1 : Int
  c0 : Int
  c1 : Int
noncomputable def Ld.list (w : Ld) : List Int := [w.a0, w.a1, w.b0, w.b1, w.c0, w.c1]
noncomputable def Ld.d (w : Ld) : D := .lst (w.list.map D.int)
noncomputable def bit0 (x : Nat) : Bool := x % 2 == 1
noncomputable def bit1 (x : Nat) : Bool := x / 2 % 2 == 1
noncomputable def bit2 (x : Nat) : Bool := x / 4 % 2 == 1
noncomputable def Ld.u (w : Ld) (x : Nat) : Int := bif bit0 x then w.a1 else w.a0
noncomputable def Ld.v (w : Ld) (x : Nat) : Int := bif bit1 x then w.b1 else w.b0
noncomputable def Ld.z (w : Ld) (x : Nat) : Int := bif bit2 x then w.c1 else w.c0
noncomputable def Ld.wt (w : Ld) (x : Nat) : Int := w.u x * w.v x * w.z x
noncomputable def Ld.sum (w : Ld) : List Nat → Int
  | [] => 0
  | x :: l => w.wt x + w.sum l
structure Ld.Ok (w : Ld) : Prop where
  h : ∀ i ∈ w.list, 1 ≤ i ∧ i ≤ 1000
theorem bnd_small {i : Int} (h0 : 0 ≤ i) (h1 : i ≤ 10 ^ 18) : bnd i = true := by
  unfold bnd
  rw [Bool.and_eq_true]
  exact ⟨decide_eq_true (by omega), decide_eq_true (by omega)⟩
theorem Ld.Ok.u {w : Ld} (h : w.Ok) (x : Nat) : 1 ≤ w.u x ∧ w.u x ≤ 1000 := by
  unfold Ld.u
  cases bit0 x with
  | true => exact h.h _ (by simp [Ld.list])
  | false => exact h.h _ (by simp [Ld.list])
theorem Ld.Ok.v {w : Ld} (h : w.Ok) (x : Nat) : 1 ≤ w.v x ∧ w.v x ≤ 1000 := by
  unfold Ld.v
  cases bit1 x with
  | true => exact h.h _ (by simp [Ld.list])
  | false => exact h.h _ (by simp [Ld.list])
theorem Ld.Ok.z {w : Ld} (h : w.Ok) (x : Nat) : 1 ≤ w.z x ∧ w.z x ≤ 1000 := by
  unfold Ld.z
  cases bit2 x with
  | true => exact h.h _ (by simp [Ld.list])
  | false => exact h.h _ (by simp [Ld.list])
theorem Ld.Ok.wt {w : Ld} (h : w.Ok) (x : Nat) : 0 ≤ w.wt x ∧ w.wt x ≤ 10 ^ 9 := by
  obtain ⟨u1, u2⟩ := h.u x
  obtain ⟨v1, v2⟩ := h.v x
  obtain ⟨z1, z2⟩ := h.z x
  unfold Ld.wt
  have a1 : 0 ≤ w.u x * w.v x := Int.mul_nonneg (by omega) (by omega)
  have a2 : w.u x * w.v x ≤ 1000 * 1000 := Int.mul_le_mul u2 v2 (by omega) (by omega)
  have b1 : 0 ≤ w.u x * w.v x * w.z x := Int.mul_nonneg a1 (by omega)
  have b2 : w.u x * w.v x * w.z x ≤ 1000 * 1000 * 1000 := Int.mul_le_mul a2 z2 (by omega) (by omega)
  exact ⟨b1, by omega⟩
theorem Ld.Ok.sum {w : Ld} (h : w.Ok) : ∀ l : List Nat, 0 ≤ w.sum l ∧ w.sum l ≤ 10 ^ 9 * (l.length : Int)
  | [] => ⟨Int.le_refl _, by simp [Ld.sum]⟩
  | x :: l => by
    have h1 := h.wt x
    have h2 := h.sum l
    unfold Ld.sum
    rw [List.length_cons]
    constructor
    · omega
    · have : ((l.length + 1 : Nat) : Int) = (l.length : Int) + 1 := by omega
      rw [this]; omega
noncomputable def wtE : List D → Option D := (bin2 mulF (bin2 mulF (bin2 itmF (getv 0) (bin2 andF (getv 3) (fun _ => some (D.int 1)))) (bin2 itmF (getv 0) (bin2 addF (fun _ => some (D.int 2)) (bin2 andF (bin2 shrF (getv 3) (fun _ => some (D.int 1))) (fun _ => some (D.int 1)))))) (bin2 itmF (getv 0) (bin2 addF (fun _ => some (D.int 4)) (bin2 shrF (getv 3) (fun _ => some (D.int 2))))))
theorem wt_items (w : Ld) (d t : D) : ∀ x ∈ W8, (bin2 itmF (getv 0) (bin2 andF (getv 3) (fun _ => some (D.int 1)))) [w.d, d, t, I x] = some (.int (w.u x)) ∧
    (bin2 itmF (getv 0) (bin2 addF (fun _ => some (D.int 2)) (bin2 andF (bin2 shrF (getv 3) (fun _ => some (D.int 1))) (fun _ => some (D.int 1))))) [w.d, d, t, I x] = some (.int (w.v x)) ∧
    (bin2 itmF (getv 0) (bin2 addF (fun _ => some (D.int 4)) (bin2 shrF (getv 3) (fun _ => some (D.int 2))))) [w.d, d, t, I x] = some (.int (w.z x)) :=
  all_W8 ⟨rfl, rfl, rfl⟩ ⟨rfl, rfl, rfl⟩ ⟨rfl, rfl, rfl⟩ ⟨rfl, rfl, rfl⟩ ⟨rfl, rfl, rfl⟩ ⟨rfl, rfl, rfl⟩ ⟨rfl, rfl, rfl⟩ ⟨rfl, rfl, rfl⟩
theorem wtE_eq {w : Ld} (h : w.Ok) {d t : D} {x : Nat} (hx : x ∈ W8) : wtE [w.d, d, t, I x] = some (.int (w.wt x)) := by
  obtain ⟨i1, i2, i3⟩ := wt_items w d t x hx
  obtain ⟨v1, v2⟩ := h.v x
  obtain ⟨z1, z2⟩ := h.z x
  unfold wtE
  refine (bin2_of (a := .int (w.u x * w.v x)) (b := .int (w.z x)) ((bin2_of i1 i2).trans ?_) i3).trans ?_
  · show (if (bnd (w.u x) || bnd (w.v x)) = true then some (D.int (w.u x * w.v x)) else none) = _
    rw [bnd_small (i := w.v x) (by omega) (by omega), Bool.or_true, if_pos rfl]
  · show (if (bnd (w.u x * w.v x) || bnd (w.z x)) = true then some (D.int (w.u x * w.v x * w.z x)) else none) = _
    rw [bnd_small (i := w.z x) (by omega) (by omega), Bool.or_true, if_pos rfl]; rfl
theorem augX_of {j : Nat} {op : D → D → Option D} {f : List D → Option D} {ρ : List D} {a b d : D} (h1 : getv j ρ = some a) (h2 : f ρ = some b) (h3 : op a b = some d) : augX none j op f ρ = some (.nxt (ρ.set j d)) := by
  unfold augX evS
  rw [h1]
  simp only [h2, h3]
  rfl
noncomputable def wtB : List D → Option Out := (seqX (augX none 2 iaddF wtE) (fun ρ => some (Out.nxt ρ)))
theorem wtLoop {w : Ld} (h : w.Ok) {d : D} : ∀ {l : List Nat} (t : Int) (a : D), (∀ x ∈ l, x ∈ W8) → ∃ a', forL (.one 3) wtB (l.map I) [w.d, d, .int t, a] = some (.nxt [w.d, d, .int (t + w.sum l), a'])
  | [], t, a, _ => ⟨a, by
    show some (Out.nxt [w.d, d, .int t, a]) = some (Out.nxt [w.d, d, .int (t + 0), a])
    rw [Int.add_zero]⟩
  | x :: l, t, a, hl => by
    have h1 : wtB ([w.d, d, .int t, a].set 3 (I x)) = some (.nxt [w.d, d, .int (t + w.wt x), I x]) := by
      show wtB [w.d, d, .int t, I x] = _
      unfold wtB
      have : augX none 2 iaddF wtE [w.d, d, .int t, I x] = some (.nxt [w.d, d, .int (t + w.wt x), I x]) := by
        exact augX_of (a := .int t) (b := .int (w.wt x)) rfl (wtE_eq h (hl x List.mem_cons_self)) rfl
      exact (seqX_nxt this).trans rfl
    obtain ⟨a', h2⟩ := wtLoop h (d := d) (l := l) (t + w.wt x) (I x) fun y hy => hl y (List.mem_cons_of_mem _ hy)
    refine ⟨a', ?_⟩
    rw [List.map_cons, forL_cons h1, h2]
    show some (Out.nxt [w.d, d, .int (t + w.wt x + w.sum l), a']) = some (Out.nxt [w.d, d, .int (t + (w.wt x + w.sum l)), a'])
    rw [Int.add_assoc]
theorem weight_eq {w : Ld} (h : w.Ok) {d : D} {l : List Nat} (hl : ∀ x ∈ l, x ∈ W8) (hd : un1 itemsOf (getv 1) [w.d, d, .int 0, .undef] = some (l.map I)) : F_law_weight [w.d, d] = some (.int (w.sum l)) := by
  refine fnF_ret rfl ?_
  obtain ⟨a, h1⟩ := wtLoop h (d := d) (l := l) 0 .undef hl
  show (seqX (asgX none 2 (fun _ => some (D.int 0))) (seqX (forX none (Tg.one 3) (un1 itemsOf (getv 1)) wtB) (seqX (retX none (getv 2)) (fun ρ => some (Out.nxt ρ))))) [w.d, d, .undef, .undef] = _
  refine (seqX_nxt (ρ' := [w.d, d, .int 0, .undef]) rfl).trans ((seqX_nxt ((forX_none hd).trans h1)).trans (seqX_ret (retX_of ?_)))
  rw [Int.zero_add]; rfl
end Mine

/-! UP8 -/
namespace Mine

/-! Reimer's inequality for subsets of a cube of three dimensions: by masks -/
noncomputable def maskB (b0 b1 b2 b3 b4 b5 b6 b7 : Bool) : Nat :=
  Nat.add (cond b0 1 0) (Nat.add (cond b1 2 0) (Nat.add (cond b2 4 0) (Nat.add (cond b3 8 0) (Nat.add (cond b4 16 0) (Nat.add (cond b5 32 0) (Nat.add (cond b6 64 0) (cond b7 128 0)))))))
noncomputable def maskOf (f : Nat → Bool) : Nat := maskB (f 0) (f 1) (f 2) (f 3) (f 4) (f 5) (f 6) (f 7)
theorem maskB_bit : ∀ b0 b1 b2 b3 b4 b5 b6 b7 : Bool, (maskB b0 b1 b2 b3 b4 b5 b6 b7).testBit 0 = b0 ∧ (maskB b0 b1 b2 b3 b4 b5 b6 b7).testBit 1 = b1 ∧ (maskB b0 b1 b2 b3 b4 b5 b6 b7).testBit 2 = b2 ∧ (maskB b0 b1 b2 b3 b4 b5 b6 b7).testBit 3 = b3 ∧
    (maskB b0 b1 b2 b3 b4 b5 b6 b7).testBit 4 = b4 ∧ (maskB b0 b1 b2 b3 b4 b5 b6 b7).testBit 5 = b5 ∧ (maskB b0 b1 b2 b3 b4 b5 b6 b7).testBit 6 = b6 ∧ (maskB b0 b1 b2 b3 b4 b5 b6 b7).testBit 7 = b7 ∧ maskB b0 b1 b2 b3 b4 b5 b6 b7 < 256 := by decide +kernel
theorem maskOf_bit (f : Nat → Bool) : ∀ x ∈ W8, (maskOf f).testBit x = f x := by
  obtain ⟨h0, h1, h2, h3, h4, h5, h6, h7, _⟩ := maskB_bit (f 0) (f 1) (f 2) (f 3) (f 4) (f 5) (f 6) (f 7)
  exact all_W8 h0 h1 h2 h3 h4 h5 h6 h7
theorem maskOf_lt (f : Nat → Bool) : maskOf f < 256 := (maskB_bit (f 0) (f 1) (f 2) (f 3) (f 4) (f 5) (f 6) (f 7)).2.2.2.2.2.2.2.2
structure Row where
  a : Nat
  r : Nat
  s0 : Nat
  s1 : Nat
  s2 : Nat
  s3 : Nat
  s4 : Nat
  s5 : Nat
  s6 : Nat
  s7 : Nat
noncomputable def sk (a k : Nat) : Nat := maskOf fun x => cube a.testBit (8 * k + (x &&& k))
noncomputable def mkRow (a : Nat) : Row := ⟨a, maskOf fun x => a.testBit (7 - x), sk a 0, sk a 1, sk a 2, sk a 3, sk a 4, sk a 5, sk a 6, sk a 7⟩
noncomputable def popN (m : Nat) : Nat := Nat.land (Nat.shiftRight 95125173855764218123276304889944061997689682402263585766959741291920687686033329201817409157123347502415384089435969498586180241031507595463600295898153685276653211633572815512294064538494957912327413386667662218713394765509704508661031522276467630197481635010039778342554499416459730172574551513689147646224 (Nat.mul 4 m)) 15
noncomputable def chk (x y : Row) : Bool := Nat.ble (popN (Nat.lor (Nat.land x.s0 y.s7) (Nat.lor (Nat.land x.s1 y.s6) (Nat.lor (Nat.land x.s2 y.s5) (Nat.lor (Nat.land x.s3 y.s4) (Nat.lor (Nat.land x.s4 y.s3) (Nat.lor (Nat.land x.s5 y.s2) (Nat.lor (Nat.land x.s6 y.s1) (Nat.land x.s7 y.s0))))))))) (popN (Nat.land x.a y.r))
noncomputable def allR (l : List Row) (f : Row → Bool) : Bool := List.rec (motive := fun _ => Bool) true (fun h _ ih => cond (f h) ih false) l
noncomputable def rows0 : List Row := [⟨0, 0, 0, 0, 0, 0, 0, 0, 0, 0⟩, ⟨1, 128, 0, 0, 0, 0, 0, 0, 0, 1⟩, ⟨2, 64, 0, 0, 0, 0, 0, 0, 0, 2⟩, ⟨3, 192, 0, 0, 0, 0, 0, 0, 3, 3⟩, ⟨4, 32, 0, 0, 0, 0, 0, 0, 0, 4⟩, ⟨5, 160, 0, 0, 0, 0, 0, 5, 0, 5⟩, ⟨6, 96, 0, 0, 0, 0, 0, 0, 0, 6⟩, ⟨7, 224, 0, 0, 0, 0, 0, 5, 3, 7⟩, ⟨8, 16, 0, 0, 0, 0, 0, 0, 0, 8⟩, ⟨9, 144, 0, 0, 0, 0, 0, 0, 0, 9⟩, ⟨10, 80, 0, 0, 0, 0, 0, 10, 0, 10⟩, ⟨11, 208, 0, 0, 0, 0, 0, 10, 3, 11⟩, ⟨12, 48, 0, 0, 0, 0, 0, 0, 12, 12⟩, ⟨13, 176, 0, 0, 0, 0, 0, 5, 12, 13⟩, ⟨14, 112, 0, 0, 0, 0, 0, 10, 12, 14⟩, ⟨15, 240, 0, 0, 0, 0, 15, 15, 15, 15⟩, ⟨16, 8, 0, 0, 0, 0, 0, 0, 0, 16⟩, ⟨17, 136, 0, 0, 0, 17, 0, 0, 0, 17⟩, ⟨18, 72, 0, 0, 0, 0, 0, 0, 0, 18⟩, ⟨19, 200, 0, 0, 0, 17, 0, 0, 3, 19⟩, ⟨20, 40, 0, 0, 0, 0, 0, 0, 0, 20⟩, ⟨21, 168, 0, 0, 0, 17, 0, 5, 0, 21⟩, ⟨22, 104, 0, 0, 0, 0, 0, 0, 0, 22⟩, ⟨23, 232, 0, 0, 0, 17, 0, 5, 3, 23⟩, ⟨24, 24, 0, 0, 0, 0, 0, 0, 0, 24⟩, ⟨25, 152, 0, 0, 0, 17, 0, 0, 0, 25⟩, ⟨26, 88, 0, 0, 0, 0, 0, 10, 0, 26⟩, ⟨27, 216, 0, 0, 0, 17, 0, 10, 3, 27⟩, ⟨28, 56, 0, 0, 0, 0, 0, 0, 12, 28⟩, ⟨29, 184, 0, 0, 0, 17, 0, 5, 12, 29⟩, ⟨30, 120, 0, 0, 0, 0, 0, 10, 12, 30⟩, ⟨31, 248, 0, 0, 0, 17, 15, 15, 15, 31⟩]
noncomputable def rows1 : List Row := [⟨32, 4, 0, 0, 0, 0, 0, 0, 0, 32⟩, ⟨33, 132, 0, 0, 0, 0, 0, 0, 0, 33⟩, ⟨34, 68, 0, 0, 0, 34, 0, 0, 0, 34⟩, ⟨35, 196, 0, 0, 0, 34, 0, 0, 3, 35⟩, ⟨36, 36, 0, 0, 0, 0, 0, 0, 0, 36⟩, ⟨37, 164, 0, 0, 0, 0, 0, 5, 0, 37⟩, ⟨38, 100, 0, 0, 0, 34, 0, 0, 0, 38⟩, ⟨39, 228, 0, 0, 0, 34, 0, 5, 3, 39⟩, ⟨40, 20, 0, 0, 0, 0, 0, 0, 0, 40⟩, ⟨41, 148, 0, 0, 0, 0, 0, 0, 0, 41⟩, ⟨42, 84, 0, 0, 0, 34, 0, 10, 0, 42⟩, ⟨43, 212, 0, 0, 0, 34, 0, 10, 3, 43⟩, ⟨44, 52, 0, 0, 0, 0, 0, 0, 12, 44⟩, ⟨45, 180, 0, 0, 0, 0, 0, 5, 12, 45⟩, ⟨46, 116, 0, 0, 0, 34, 0, 10, 12, 46⟩, ⟨47, 244, 0, 0, 0, 34, 15, 15, 15, 47⟩, ⟨48, 12, 0, 0, 0, 0, 0, 0, 48, 48⟩, ⟨49, 140, 0, 0, 0, 17, 0, 0, 48, 49⟩, ⟨50, 76, 0, 0, 0, 34, 0, 0, 48, 50⟩, ⟨51, 204, 0, 0, 51, 51, 0, 0, 51, 51⟩, ⟨52, 44, 0, 0, 0, 0, 0, 0, 48, 52⟩, ⟨53, 172, 0, 0, 0, 17, 0, 5, 48, 53⟩, ⟨54, 108, 0, 0, 0, 34, 0, 0, 48, 54⟩, ⟨55, 236, 0, 0, 51, 51, 0, 5, 51, 55⟩, ⟨56, 28, 0, 0, 0, 0, 0, 0, 48, 56⟩, ⟨57, 156, 0, 0, 0, 17, 0, 0, 48, 57⟩, ⟨58, 92, 0, 0, 0, 34, 0, 10, 48, 58⟩, ⟨59, 220, 0, 0, 51, 51, 0, 10, 51, 59⟩, ⟨60, 60, 0, 0, 0, 0, 0, 0, 60, 60⟩, ⟨61, 188, 0, 0, 0, 17, 0, 5, 60, 61⟩, ⟨62, 124, 0, 0, 0, 34, 0, 10, 60, 62⟩, ⟨63, 252, 0, 0, 51, 51, 15, 15, 63, 63⟩]
noncomputable def rows2 : List Row := [⟨64, 2, 0, 0, 0, 0, 0, 0, 0, 64⟩, ⟨65, 130, 0, 0, 0, 0, 0, 0, 0, 65⟩, ⟨66, 66, 0, 0, 0, 0, 0, 0, 0, 66⟩, ⟨67, 194, 0, 0, 0, 0, 0, 0, 3, 67⟩, ⟨68, 34, 0, 0, 0, 68, 0, 0, 0, 68⟩, ⟨69, 162, 0, 0, 0, 68, 0, 5, 0, 69⟩, ⟨70, 98, 0, 0, 0, 68, 0, 0, 0, 70⟩, ⟨71, 226, 0, 0, 0, 68, 0, 5, 3, 71⟩, ⟨72, 18, 0, 0, 0, 0, 0, 0, 0, 72⟩, ⟨73, 146, 0, 0, 0, 0, 0, 0, 0, 73⟩, ⟨74, 82, 0, 0, 0, 0, 0, 10, 0, 74⟩, ⟨75, 210, 0, 0, 0, 0, 0, 10, 3, 75⟩, ⟨76, 50, 0, 0, 0, 68, 0, 0, 12, 76⟩, ⟨77, 178, 0, 0, 0, 68, 0, 5, 12, 77⟩, ⟨78, 114, 0, 0, 0, 68, 0, 10, 12, 78⟩, ⟨79, 242, 0, 0, 0, 68, 15, 15, 15, 79⟩, ⟨80, 10, 0, 0, 0, 0, 0, 80, 0, 80⟩, ⟨81, 138, 0, 0, 0, 17, 0, 80, 0, 81⟩, ⟨82, 74, 0, 0, 0, 0, 0, 80, 0, 82⟩, ⟨83, 202, 0, 0, 0, 17, 0, 80, 3, 83⟩, ⟨84, 42, 0, 0, 0, 68, 0, 80, 0, 84⟩, ⟨85, 170, 0, 85, 0, 85, 0, 85, 0, 85⟩, ⟨86, 106, 0, 0, 0, 68, 0, 80, 0, 86⟩, ⟨87, 234, 0, 85, 0, 85, 0, 85, 3, 87⟩, ⟨88, 26, 0, 0, 0, 0, 0, 80, 0, 88⟩, ⟨89, 154, 0, 0, 0, 17, 0, 80, 0, 89⟩, ⟨90, 90, 0, 0, 0, 0, 0, 90, 0, 90⟩, ⟨91, 218, 0, 0, 0, 17, 0, 90, 3, 91⟩, ⟨92, 58, 0, 0, 0, 68, 0, 80, 12, 92⟩, ⟨93, 186, 0, 85, 0, 85, 0, 85, 12, 93⟩, ⟨94, 122, 0, 0, 0, 68, 0, 90, 12, 94⟩, ⟨95, 250, 0, 85, 0, 85, 15, 95, 15, 95⟩]
noncomputable def rows3 : List Row := [⟨96, 6, 0, 0, 0, 0, 0, 0, 0, 96⟩, ⟨97, 134, 0, 0, 0, 0, 0, 0, 0, 97⟩, ⟨98, 70, 0, 0, 0, 34, 0, 0, 0, 98⟩, ⟨99, 198, 0, 0, 0, 34, 0, 0, 3, 99⟩, ⟨100, 38, 0, 0, 0, 68, 0, 0, 0, 100⟩, ⟨101, 166, 0, 0, 0, 68, 0, 5, 0, 101⟩, ⟨102, 102, 0, 0, 0, 102, 0, 0, 0, 102⟩, ⟨103, 230, 0, 0, 0, 102, 0, 5, 3, 103⟩, ⟨104, 22, 0, 0, 0, 0, 0, 0, 0, 104⟩, ⟨105, 150, 0, 0, 0, 0, 0, 0, 0, 105⟩, ⟨106, 86, 0, 0, 0, 34, 0, 10, 0, 106⟩, ⟨107, 214, 0, 0, 0, 34, 0, 10, 3, 107⟩, ⟨108, 54, 0, 0, 0, 68, 0, 0, 12, 108⟩, ⟨109, 182, 0, 0, 0, 68, 0, 5, 12, 109⟩, ⟨110, 118, 0, 0, 0, 102, 0, 10, 12, 110⟩, ⟨111, 246, 0, 0, 0, 102, 15, 15, 15, 111⟩, ⟨112, 14, 0, 0, 0, 0, 0, 80, 48, 112⟩, ⟨113, 142, 0, 0, 0, 17, 0, 80, 48, 113⟩, ⟨114, 78, 0, 0, 0, 34, 0, 80, 48, 114⟩, ⟨115, 206, 0, 0, 51, 51, 0, 80, 51, 115⟩, ⟨116, 46, 0, 0, 0, 68, 0, 80, 48, 116⟩, ⟨117, 174, 0, 85, 0, 85, 0, 85, 48, 117⟩, ⟨118, 110, 0, 0, 0, 102, 0, 80, 48, 118⟩, ⟨119, 238, 0, 85, 51, 119, 0, 85, 51, 119⟩, ⟨120, 30, 0, 0, 0, 0, 0, 80, 48, 120⟩, ⟨121, 158, 0, 0, 0, 17, 0, 80, 48, 121⟩, ⟨122, 94, 0, 0, 0, 34, 0, 90, 48, 122⟩, ⟨123, 222, 0, 0, 51, 51, 0, 90, 51, 123⟩, ⟨124, 62, 0, 0, 0, 68, 0, 80, 60, 124⟩, ⟨125, 190, 0, 85, 0, 85, 0, 85, 60, 125⟩, ⟨126, 126, 0, 0, 0, 102, 0, 90, 60, 126⟩, ⟨127, 254, 0, 85, 51, 119, 15, 95, 63, 127⟩]
noncomputable def rows4 : List Row := [⟨128, 1, 0, 0, 0, 0, 0, 0, 0, 128⟩, ⟨129, 129, 0, 0, 0, 0, 0, 0, 0, 129⟩, ⟨130, 65, 0, 0, 0, 0, 0, 0, 0, 130⟩, ⟨131, 193, 0, 0, 0, 0, 0, 0, 3, 131⟩, ⟨132, 33, 0, 0, 0, 0, 0, 0, 0, 132⟩, ⟨133, 161, 0, 0, 0, 0, 0, 5, 0, 133⟩, ⟨134, 97, 0, 0, 0, 0, 0, 0, 0, 134⟩, ⟨135, 225, 0, 0, 0, 0, 0, 5, 3, 135⟩, ⟨136, 17, 0, 0, 0, 136, 0, 0, 0, 136⟩, ⟨137, 145, 0, 0, 0, 136, 0, 0, 0, 137⟩, ⟨138, 81, 0, 0, 0, 136, 0, 10, 0, 138⟩, ⟨139, 209, 0, 0, 0, 136, 0, 10, 3, 139⟩, ⟨140, 49, 0, 0, 0, 136, 0, 0, 12, 140⟩, ⟨141, 177, 0, 0, 0, 136, 0, 5, 12, 141⟩, ⟨142, 113, 0, 0, 0, 136, 0, 10, 12, 142⟩, ⟨143, 241, 0, 0, 0, 136, 15, 15, 15, 143⟩, ⟨144, 9, 0, 0, 0, 0, 0, 0, 0, 144⟩, ⟨145, 137, 0, 0, 0, 17, 0, 0, 0, 145⟩, ⟨146, 73, 0, 0, 0, 0, 0, 0, 0, 146⟩, ⟨147, 201, 0, 0, 0, 17, 0, 0, 3, 147⟩, ⟨148, 41, 0, 0, 0, 0, 0, 0, 0, 148⟩, ⟨149, 169, 0, 0, 0, 17, 0, 5, 0, 149⟩, ⟨150, 105, 0, 0, 0, 0, 0, 0, 0, 150⟩, ⟨151, 233, 0, 0, 0, 17, 0, 5, 3, 151⟩, ⟨152, 25, 0, 0, 0, 136, 0, 0, 0, 152⟩, ⟨153, 153, 0, 0, 0, 153, 0, 0, 0, 153⟩, ⟨154, 89, 0, 0, 0, 136, 0, 10, 0, 154⟩, ⟨155, 217, 0, 0, 0, 153, 0, 10, 3, 155⟩, ⟨156, 57, 0, 0, 0, 136, 0, 0, 12, 156⟩, ⟨157, 185, 0, 0, 0, 153, 0, 5, 12, 157⟩, ⟨158, 121, 0, 0, 0, 136, 0, 10, 12, 158⟩, ⟨159, 249, 0, 0, 0, 153, 15, 15, 15, 159⟩]
noncomputable def rows5 : List Row := [⟨160, 5, 0, 0, 0, 0, 0, 160, 0, 160⟩, ⟨161, 133, 0, 0, 0, 0, 0, 160, 0, 161⟩, ⟨162, 69, 0, 0, 0, 34, 0, 160, 0, 162⟩, ⟨163, 197, 0, 0, 0, 34, 0, 160, 3, 163⟩, ⟨164, 37, 0, 0, 0, 0, 0, 160, 0, 164⟩, ⟨165, 165, 0, 0, 0, 0, 0, 165, 0, 165⟩, ⟨166, 101, 0, 0, 0, 34, 0, 160, 0, 166⟩, ⟨167, 229, 0, 0, 0, 34, 0, 165, 3, 167⟩, ⟨168, 21, 0, 0, 0, 136, 0, 160, 0, 168⟩, ⟨169, 149, 0, 0, 0, 136, 0, 160, 0, 169⟩, ⟨170, 85, 0, 170, 0, 170, 0, 170, 0, 170⟩, ⟨171, 213, 0, 170, 0, 170, 0, 170, 3, 171⟩, ⟨172, 53, 0, 0, 0, 136, 0, 160, 12, 172⟩, ⟨173, 181, 0, 0, 0, 136, 0, 165, 12, 173⟩, ⟨174, 117, 0, 170, 0, 170, 0, 170, 12, 174⟩, ⟨175, 245, 0, 170, 0, 170, 15, 175, 15, 175⟩, ⟨176, 13, 0, 0, 0, 0, 0, 160, 48, 176⟩, ⟨177, 141, 0, 0, 0, 17, 0, 160, 48, 177⟩, ⟨178, 77, 0, 0, 0, 34, 0, 160, 48, 178⟩, ⟨179, 205, 0, 0, 51, 51, 0, 160, 51, 179⟩, ⟨180, 45, 0, 0, 0, 0, 0, 160, 48, 180⟩, ⟨181, 173, 0, 0, 0, 17, 0, 165, 48, 181⟩, ⟨182, 109, 0, 0, 0, 34, 0, 160, 48, 182⟩, ⟨183, 237, 0, 0, 51, 51, 0, 165, 51, 183⟩, ⟨184, 29, 0, 0, 0, 136, 0, 160, 48, 184⟩, ⟨185, 157, 0, 0, 0, 153, 0, 160, 48, 185⟩, ⟨186, 93, 0, 170, 0, 170, 0, 170, 48, 186⟩, ⟨187, 221, 0, 170, 51, 187, 0, 170, 51, 187⟩, ⟨188, 61, 0, 0, 0, 136, 0, 160, 60, 188⟩, ⟨189, 189, 0, 0, 0, 153, 0, 165, 60, 189⟩, ⟨190, 125, 0, 170, 0, 170, 0, 170, 60, 190⟩, ⟨191, 253, 0, 170, 51, 187, 15, 175, 63, 191⟩]
noncomputable def rows6 : List Row := [⟨192, 3, 0, 0, 0, 0, 0, 0, 192, 192⟩, ⟨193, 131, 0, 0, 0, 0, 0, 0, 192, 193⟩, ⟨194, 67, 0, 0, 0, 0, 0, 0, 192, 194⟩, ⟨195, 195, 0, 0, 0, 0, 0, 0, 195, 195⟩, ⟨196, 35, 0, 0, 0, 68, 0, 0, 192, 196⟩, ⟨197, 163, 0, 0, 0, 68, 0, 5, 192, 197⟩, ⟨198, 99, 0, 0, 0, 68, 0, 0, 192, 198⟩, ⟨199, 227, 0, 0, 0, 68, 0, 5, 195, 199⟩, ⟨200, 19, 0, 0, 0, 136, 0, 0, 192, 200⟩, ⟨201, 147, 0, 0, 0, 136, 0, 0, 192, 201⟩, ⟨202, 83, 0, 0, 0, 136, 0, 10, 192, 202⟩, ⟨203, 211, 0, 0, 0, 136, 0, 10, 195, 203⟩, ⟨204, 51, 0, 0, 204, 204, 0, 0, 204, 204⟩, ⟨205, 179, 0, 0, 204, 204, 0, 5, 204, 205⟩, ⟨206, 115, 0, 0, 204, 204, 0, 10, 204, 206⟩, ⟨207, 243, 0, 0, 204, 204, 15, 15, 207, 207⟩, ⟨208, 11, 0, 0, 0, 0, 0, 80, 192, 208⟩, ⟨209, 139, 0, 0, 0, 17, 0, 80, 192, 209⟩, ⟨210, 75, 0, 0, 0, 0, 0, 80, 192, 210⟩, ⟨211, 203, 0, 0, 0, 17, 0, 80, 195, 211⟩, ⟨212, 43, 0, 0, 0, 68, 0, 80, 192, 212⟩, ⟨213, 171, 0, 85, 0, 85, 0, 85, 192, 213⟩, ⟨214, 107, 0, 0, 0, 68, 0, 80, 192, 214⟩, ⟨215, 235, 0, 85, 0, 85, 0, 85, 195, 215⟩, ⟨216, 27, 0, 0, 0, 136, 0, 80, 192, 216⟩, ⟨217, 155, 0, 0, 0, 153, 0, 80, 192, 217⟩, ⟨218, 91, 0, 0, 0, 136, 0, 90, 192, 218⟩, ⟨219, 219, 0, 0, 0, 153, 0, 90, 195, 219⟩, ⟨220, 59, 0, 0, 204, 204, 0, 80, 204, 220⟩, ⟨221, 187, 0, 85, 204, 221, 0, 85, 204, 221⟩, ⟨222, 123, 0, 0, 204, 204, 0, 90, 204, 222⟩, ⟨223, 251, 0, 85, 204, 221, 15, 95, 207, 223⟩]
noncomputable def rows7 : List Row := [⟨224, 7, 0, 0, 0, 0, 0, 160, 192, 224⟩, ⟨225, 135, 0, 0, 0, 0, 0, 160, 192, 225⟩, ⟨226, 71, 0, 0, 0, 34, 0, 160, 192, 226⟩, ⟨227, 199, 0, 0, 0, 34, 0, 160, 195, 227⟩, ⟨228, 39, 0, 0, 0, 68, 0, 160, 192, 228⟩, ⟨229, 167, 0, 0, 0, 68, 0, 165, 192, 229⟩, ⟨230, 103, 0, 0, 0, 102, 0, 160, 192, 230⟩, ⟨231, 231, 0, 0, 0, 102, 0, 165, 195, 231⟩, ⟨232, 23, 0, 0, 0, 136, 0, 160, 192, 232⟩, ⟨233, 151, 0, 0, 0, 136, 0, 160, 192, 233⟩, ⟨234, 87, 0, 170, 0, 170, 0, 170, 192, 234⟩, ⟨235, 215, 0, 170, 0, 170, 0, 170, 195, 235⟩, ⟨236, 55, 0, 0, 204, 204, 0, 160, 204, 236⟩, ⟨237, 183, 0, 0, 204, 204, 0, 165, 204, 237⟩, ⟨238, 119, 0, 170, 204, 238, 0, 170, 204, 238⟩, ⟨239, 247, 0, 170, 204, 238, 15, 175, 207, 239⟩, ⟨240, 15, 0, 0, 0, 0, 240, 240, 240, 240⟩, ⟨241, 143, 0, 0, 0, 17, 240, 240, 240, 241⟩, ⟨242, 79, 0, 0, 0, 34, 240, 240, 240, 242⟩, ⟨243, 207, 0, 0, 51, 51, 240, 240, 243, 243⟩, ⟨244, 47, 0, 0, 0, 68, 240, 240, 240, 244⟩, ⟨245, 175, 0, 85, 0, 85, 240, 245, 240, 245⟩, ⟨246, 111, 0, 0, 0, 102, 240, 240, 240, 246⟩, ⟨247, 239, 0, 85, 51, 119, 240, 245, 243, 247⟩, ⟨248, 31, 0, 0, 0, 136, 240, 240, 240, 248⟩, ⟨249, 159, 0, 0, 0, 153, 240, 240, 240, 249⟩, ⟨250, 95, 0, 170, 0, 170, 240, 250, 240, 250⟩, ⟨251, 223, 0, 170, 51, 187, 240, 250, 243, 251⟩, ⟨252, 63, 0, 0, 204, 204, 240, 240, 252, 252⟩, ⟨253, 191, 0, 85, 204, 221, 240, 245, 252, 253⟩, ⟨254, 127, 0, 170, 204, 238, 240, 250, 252, 254⟩, ⟨255, 255, 255, 255, 255, 255, 255, 255, 255, 255⟩]
noncomputable def rows : List Row := rows0 ++ (rows1 ++ (rows2 ++ (rows3 ++ (rows4 ++ (rows5 ++ (rows6 ++ rows7))))))
theorem rows0_eq : rows0 = (List.range 32).map fun i => mkRow (0 + i) := by kernel_rfl
theorem rows1_eq : rows1 = (List.range 32).map fun i => mkRow (32 + i) := by kernel_rfl
theorem rows2_eq : rows2 = (List.range 32).map fun i => mkRow (64 + i) := by kernel_rfl
theorem rows3_eq : rows3 = (List.range 32).map fun i => mkRow (96 + i) := by kernel_rfl
theorem rows4_eq : rows4 = (List.range 32).map fun i => mkRow (128 + i) := by kernel_rfl
theorem rows5_eq : rows5 = (List.range 32).map fun i => mkRow (160 + i) := by kernel_rfl
theorem rows6_eq : rows6 = (List.range 32).map fun i => mkRow (192 + i) := by kernel_rfl
theorem rows7_eq : rows7 = (List.range 32).map fun i => mkRow (224 + i) := by kernel_rfl
theorem big0 : allR rows0 (fun x => allR rows (chk x)) = true := by decide +kernel
theorem big1 : allR rows1 (fun x => allR rows (chk x)) = true := by decide +kernel
theorem big2 : allR rows2 (fun x => allR rows (chk x)) = true := by decide +kernel
theorem big3 : allR rows3 (fun x => allR rows (chk x)) = true := by decide +kernel
theorem big4 : allR rows4 (fun x => allR rows (chk x)) = true := by decide +kernel
theorem big5 : allR rows5 (fun x => allR rows (chk x)) = true := by decide +kernel
theorem big6 : allR rows6 (fun x => allR rows (chk x)) = true := by decide +kernel
theorem big7 : allR rows7 (fun x => allR rows (chk x)) = true := by decide +kernel
end Mine

/-! UP9 -/
namespace Mine

theorem allR_all : ∀ {l : List Row} {f : Row → Bool}, allR l f = true → ∀ r ∈ l, f r = true
  | [], _, _, r, hr => by cases hr
  | x :: l, f, h, r, hr => by
    have h' : cond (f x) (allR l f) false = true := h
    cases hf : f x with
    | false => rw [hf] at h'; cases h'
    | true =>
      rw [hf] at h'
      rcases List.mem_cons.mp hr with rfl | hr
      · exact hf
      · exact allR_all h' r hr
theorem mem_rows {a : Nat} (ha : a < 256) : mkRow a ∈ rows := by
  have key : ∀ i j, j < 32 → a = 32 * i + j → mkRow a ∈ (List.range 32).map fun t => mkRow (32 * i + t) := fun i j hj e => List.mem_map.mpr ⟨j, List.mem_range.mpr hj, by rw [e]⟩
  have hj : a % 32 < 32 := Nat.mod_lt _ (by decide)
  have hd : a = 32 * (a / 32) + a % 32 := by omega
  have hi : a / 32 < 8 := by omega
  have := key (a / 32) (a % 32) hj hd
  unfold rows
  rw [rows0_eq, rows1_eq, rows2_eq, rows3_eq, rows4_eq, rows5_eq, rows6_eq, rows7_eq]
  simp only [List.mem_append]
  generalize a / 32 = i at this hi
  match i, hi with
  | 0, _ => exact .inl this
  | 1, _ => exact .inr (.inl this)
  | 2, _ => exact .inr (.inr (.inl this))
  | 3, _ => exact .inr (.inr (.inr (.inl this)))
  | 4, _ => exact .inr (.inr (.inr (.inr (.inl this))))
  | 5, _ => exact .inr (.inr (.inr (.inr (.inr (.inl this)))))
  | 6, _ => exact .inr (.inr (.inr (.inr (.inr (.inr (.inl this))))))
  | 7, _ => exact .inr (.inr (.inr (.inr (.inr (.inr (.inr this))))))
theorem big {a b : Nat} (ha : a < 256) (hb : b < 256) : chk (mkRow a) (mkRow b) = true := by
  have h : ∀ r ∈ rows, allR rows (chk r) = true := by
    intro r hr
    unfold rows at hr
    simp only [List.mem_append] at hr
    rcases hr with hr | hr | hr | hr | hr | hr | hr | hr
    · exact allR_all big0 r hr
    · exact allR_all big1 r hr
    · exact allR_all big2 r hr
    · exact allR_all big3 r hr
    · exact allR_all big4 r hr
    · exact allR_all big5 r hr
    · exact allR_all big6 r hr
    · exact allR_all big7 r hr
  exact allR_all (h _ (mem_rows ha)) _ (mem_rows hb)
theorem pop_tab0 : ((List.range 256).all fun m => popN m == (W8.filter m.testBit).length) = true := by decide +kernel
theorem pop_tab {m : Nat} (h : m < 256) : popN m = (W8.filter m.testBit).length := beq_iff_eq.mp (List.all_eq_true.mp pop_tab0 m (List.mem_range.mpr h))
theorem filter_congr' {l : List Nat} {f g : Nat → Bool} (h : ∀ x ∈ l, f x = g x) : l.filter f = l.filter g := by
  induction l with
  | nil => rfl
  | cons a l ih =>
    rw [List.filter_cons, List.filter_cons, h a List.mem_cons_self, ih fun b hb => h b (List.mem_cons_of_mem _ hb)]
theorem all_congr' {l : List Nat} {f g : Nat → Bool} (h : ∀ x ∈ l, f x = g x) : l.all f = l.all g := by
  induction l with
  | nil => rfl
  | cons a l ih => rw [List.all_cons, List.all_cons, h a List.mem_cons_self, ih fun b hb => h b (List.mem_cons_of_mem _ hb)]
theorem cube_congr {p p' : Nat → Bool} (h : ∀ x ∈ W8, p x = p' x) (n : Nat) : cube p n = cube p' n := all_congr' fun x hx => by rw [h x hx]
theorem two_congr {p p' q q' : Nat → Bool} (hp : ∀ x ∈ W8, p x = p' x) (hq : ∀ x ∈ W8, q x = q' x) (x k : Nat) : two p q x k = two p' q' x k := by
  unfold two
  rw [cube_congr hp, cube_congr hq]
theorem sk_bit {a k x : Nat} (hx : x ∈ W8) : (sk a k).testBit x = cube a.testBit (8 * k + (x &&& k)) := maskOf_bit _ x hx
theorem sk_lt {a k : Nat} : sk a k < 2 ^ 8 := maskOf_lt _
theorem reimer_mask {a b : Nat} (ha : a < 256) (hb : b < 256) : (W8.filter fun x => W8.any (two a.testBit b.testBit x)).length ≤ (W8.filter fun x => a.testBit x && b.testBit (7 - x)).length := by
  have h := Nat.le_of_ble_eq_true (big ha hb)
  have l1 : ∀ i j, sk a i &&& sk b j < 2 ^ 8 := fun i j => Nat.and_lt_two_pow _ sk_lt
  have hT : (sk a 0 &&& sk b 7 ||| (sk a 1 &&& sk b 6 ||| (sk a 2 &&& sk b 5 ||| (sk a 3 &&& sk b 4 ||| (sk a 4 &&& sk b 3 ||| (sk a 5 &&& sk b 2 ||| (sk a 6 &&& sk b 1 ||| sk a 7 &&& sk b 0))))))) < 2 ^ 8 :=
    Nat.or_lt_two_pow (l1 _ _) (Nat.or_lt_two_pow (l1 _ _) (Nat.or_lt_two_pow (l1 _ _) (Nat.or_lt_two_pow (l1 _ _) (Nat.or_lt_two_pow (l1 _ _) (Nat.or_lt_two_pow (l1 _ _) (Nat.or_lt_two_pow (l1 _ _) (l1 _ _)))))))
  have hR : a &&& maskOf (fun x => b.testBit (7 - x)) < 2 ^ 8 := Nat.and_lt_two_pow _ (maskOf_lt _)
  have h' : popN (sk a 0 &&& sk b 7 ||| (sk a 1 &&& sk b 6 ||| (sk a 2 &&& sk b 5 ||| (sk a 3 &&& sk b 4 ||| (sk a 4 &&& sk b 3 ||| (sk a 5 &&& sk b 2 ||| (sk a 6 &&& sk b 1 ||| sk a 7 &&& sk b 0))))))) ≤ popN (a &&& maskOf (fun x => b.testBit (7 - x))) := h
  rw [pop_tab hT, pop_tab hR] at h'
  rw [filter_congr' (f := fun x => W8.any (two a.testBit b.testBit x)) (g := (sk a 0 &&& sk b 7 ||| (sk a 1 &&& sk b 6 ||| (sk a 2 &&& sk b 5 ||| (sk a 3 &&& sk b 4 ||| (sk a 4 &&& sk b 3 ||| (sk a 5 &&& sk b 2 ||| (sk a 6 &&& sk b 1 ||| sk a 7 &&& sk b 0))))))).testBit),
    filter_congr' (f := fun x => a.testBit x && b.testBit (7 - x)) (g := (a &&& maskOf (fun x => b.testBit (7 - x))).testBit)]
  · exact h'
  · intro x hx
    rw [Nat.testBit_and, maskOf_bit _ x hx]
  · intro x hx
    simp only [Nat.testBit_or, Nat.testBit_and, sk_bit hx]
    unfold two W8
    simp only [List.any_cons, List.any_nil, Bool.or_false, Nat.sub_zero, Nat.reduceSub]
theorem reimer7 (p q : Nat → Bool) : (W8.filter fun x => W8.any (two p q x)).length ≤ (W8.filter fun x => p x && q (7 - x)).length := by
  have hp : ∀ x ∈ W8, p x = (maskOf p).testBit x := fun x hx => (maskOf_bit p x hx).symm
  have hq : ∀ x ∈ W8, q x = (maskOf q).testBit x := fun x hx => (maskOf_bit q x hx).symm
  have h := reimer_mask (maskOf_lt p) (maskOf_lt q)
  rw [filter_congr' (g := fun x => W8.any (two (maskOf p).testBit (maskOf q).testBit x)) fun x _ => by rw [show two p q x = two (maskOf p).testBit (maskOf q).testBit x from funext fun k => two_congr hp hq x k],
    filter_congr' (f := fun x => p x && q (7 - x)) (g := fun x => (maskOf p).testBit x && (maskOf q).testBit (7 - x)) fun x hx => by rw [hp x hx, hq _ (sub7 x hx).2]]
  exact h
end Mine

/-! UP10 -/
namespace Mine

noncomputable def ind (b : Bool) : Int := bif b then 1 else 0
noncomputable def indL (f : Nat → Bool) : List Nat → Int
  | [] => 0
  | x :: l => ind (f x) + indL f l
theorem len_indL (f : Nat → Bool) : ∀ l : List Nat, ((l.filter f).length : Int) = indL f l
  | [] => rfl
  | x :: l => by
    unfold indL
    rw [← len_indL f l]
    cases h : f x with
    | true => rw [List.filter_cons_of_pos h, List.length_cons]; show _ = (1 : Int) + _; omega
    | false => rw [List.filter_cons_of_neg (by rw [h]; exact Bool.false_ne_true)]; show _ = (0 : Int) + _; omega
theorem len_ind (f : Nat → Bool) : ((W8.filter f).length : Int) = ind (f 0) + ind (f 1) + ind (f 2) + ind (f 3) + ind (f 4) + ind (f 5) + ind (f 6) + ind (f 7) := by
  rw [len_indL]
  simp only [W8, indL]
  omega
noncomputable def wtL (w : Ld) (f : Nat → Int) : List Nat → Int
  | [] => 0
  | x :: l => w.wt x * f x + wtL w f l
theorem sum_wtL (w : Ld) (f : Nat → Bool) : ∀ l : List Nat, w.sum (l.filter f) = wtL w (fun x => ind (f x)) l
  | [] => rfl
  | x :: l => by
    unfold wtL
    rw [← sum_wtL w f l]
    cases h : f x with
    | true => rw [List.filter_cons_of_pos h]; show w.wt x + _ = w.wt x * 1 + _; rw [Int.mul_one]
    | false => rw [List.filter_cons_of_neg (by rw [h]; exact Bool.false_ne_true)]; show _ = w.wt x * 0 + _; rw [Int.mul_zero, Int.zero_add]
theorem len_mono {l : List Nat} {f g : Nat → Bool} (h : ∀ x ∈ l, f x = true → g x = true) : (l.filter f).length ≤ (l.filter g).length := by
  induction l with
  | nil => exact Nat.le_refl _
  | cons a l ih =>
    have ih := ih fun b hb => h b (List.mem_cons_of_mem _ hb)
    cases hf : f a with
    | true =>
      rw [List.filter_cons_of_pos hf, List.filter_cons_of_pos (h a List.mem_cons_self hf), List.length_cons, List.length_cons]
      exact Nat.succ_le_succ ih
    | false =>
      rw [List.filter_cons_of_neg (by rw [hf]; exact Bool.false_ne_true)]
      cases hg : g a with
      | true => rw [List.filter_cons_of_pos hg, List.length_cons]; exact Nat.le_succ_of_le ih
      | false => rw [List.filter_cons_of_neg (by rw [hg]; exact Bool.false_ne_true)]; exact ih

/-! a smaller cube, by a set that does not look at the other letters -/
noncomputable def put (M v x : Nat) : Nat := (x &&& M) ||| v
theorem put_tab0 : (W8.all fun M => W8.all fun v => !(v &&& M == 0) || W8.all fun x => W8.contains (put M v x) && (put M v (7 - x) == put M v x ^^^ M) && W8.all fun k => W8.all fun y => !goes (8 * k + (x &&& k)) y || goes (8 * k + (put M v x &&& k)) (put M v y)) = true := by decide +kernel
theorem put_tab {M v x : Nat} (hM : M ∈ W8) (hv : v ∈ W8) (hd : (v &&& M == 0) = true) (hx : x ∈ W8) : put M v x ∈ W8 ∧ put M v (7 - x) = put M v x ^^^ M ∧ ∀ k ∈ W8, ∀ y ∈ W8, goes (8 * k + (x &&& k)) y = true → goes (8 * k + (put M v x &&& k)) (put M v y) = true := by
  have h := List.all_eq_true.mp (List.all_eq_true.mp put_tab0 M hM) v hv
  rw [hd] at h
  obtain ⟨h12, h3⟩ := Bool.and_eq_true_iff.mp (List.all_eq_true.mp h x hx)
  obtain ⟨h1, h2⟩ := Bool.and_eq_true_iff.mp h12
  refine ⟨List.contains_iff_mem.mp h1, beq_iff_eq.mp h2, fun k hk y hy hg => ?_⟩
  have := List.all_eq_true.mp (List.all_eq_true.mp h3 k hk) y hy
  rw [hg] at this
  exact this
theorem cube_put {p : Nat → Bool} {M v x k : Nat} (hM : M ∈ W8) (hv : v ∈ W8) (hd : (v &&& M == 0) = true) (hx : x ∈ W8) (hk : k ∈ W8) (h : cube p (8 * k + (put M v x &&& k)) = true) : cube (fun y => p (put M v y)) (8 * k + (x &&& k)) = true := by
  unfold cube
  rw [List.all_eq_true]
  intro y hy
  cases hg : goes (8 * k + (x &&& k)) y with
  | false => rfl
  | true =>
    have h1 := (put_tab hM hv hd hx).2.2 k hk y hy hg
    have h2 := List.all_eq_true.mp h (put M v y) (put_tab hM hv hd hy).1
    rw [h1] at h2
    exact h2
noncomputable def tb (p q : Nat → Bool) (x : Nat) : Bool := W8.any (two p q x)
theorem reimerZ (p q : Nat → Bool) {M v : Nat} (hM : M ∈ W8) (hv : v ∈ W8) (hd : (v &&& M == 0) = true) :
    (W8.filter fun x => tb p q (put M v x)).length ≤ (W8.filter fun x => p (put M v x) && q (put M v x ^^^ M)).length := by
  refine Nat.le_trans (len_mono (g := fun x => W8.any (two (fun y => p (put M v y)) (fun y => q (put M v y)) x)) fun x hx h => ?_) ?_
  · obtain ⟨k, hk, hc⟩ := List.any_eq_true.mp h
    obtain ⟨h1, h2⟩ := Bool.and_eq_true_iff.mp hc
    refine List.any_eq_true.mpr ⟨k, hk, Bool.and_eq_true_iff.mpr ⟨cube_put hM hv hd hx hk h1, cube_put hM hv hd hx (sub7 k hk).2 h2⟩⟩
  · refine Nat.le_trans (reimer7 _ _) (Nat.le_of_eq (congrArg List.length (filter_congr' fun x hx => ?_)))
    show (p (put M v x) && q (put M v (7 - x))) = _
    rw [(put_tab hM hv hd hx).2.1]
theorem ind_and (a b : Bool) : ind (a && b) = ind a * ind b := by cases a <;> cases b <;> rfl
theorem reimerI (p q : Nat → Bool) {M v : Nat} (hM : M ∈ W8) (hv : v ∈ W8) (hd : (v &&& M == 0) = true) :
    ind (tb p q (put M v 0)) + ind (tb p q (put M v 1)) + ind (tb p q (put M v 2)) + ind (tb p q (put M v 3)) + ind (tb p q (put M v 4)) + ind (tb p q (put M v 5)) + ind (tb p q (put M v 6)) + ind (tb p q (put M v 7)) ≤
    ind (p (put M v 0)) * ind (q (put M v 0 ^^^ M)) + ind (p (put M v 1)) * ind (q (put M v 1 ^^^ M)) + ind (p (put M v 2)) * ind (q (put M v 2 ^^^ M)) + ind (p (put M v 3)) * ind (q (put M v 3 ^^^ M)) + ind (p (put M v 4)) * ind (q (put M v 4 ^^^ M)) + ind (p (put M v 5)) * ind (q (put M v 5 ^^^ M)) + ind (p (put M v 6)) * ind (q (put M v 6 ^^^ M)) + ind (p (put M v 7)) * ind (q (put M v 7 ^^^ M)) := by
  have h := Int.ofNat_le.mpr (reimerZ p q hM hv hd)
  rw [len_ind, len_ind] at h
  simp only [ind_and] at h
  exact h
theorem group_0_0 (p q : Nat → Bool) : ind (tb p q 0) ≤ ind (p 0) * ind (q 0) := by
  have h := reimerI p q (M := 0) (v := 0) (by decide) (by decide) rfl
  simp only [put, Nat.reduceAnd, Nat.reduceOr, Nat.reduceXor] at h
  omega
theorem group_0_1 (p q : Nat → Bool) : ind (tb p q 1) ≤ ind (p 1) * ind (q 1) := by
  have h := reimerI p q (M := 0) (v := 1) (by decide) (by decide) rfl
  simp only [put, Nat.reduceAnd, Nat.reduceOr, Nat.reduceXor] at h
  omega
theorem group_0_2 (p q : Nat → Bool) : ind (tb p q 2) ≤ ind (p 2) * ind (q 2) := by
  have h := reimerI p q (M := 0) (v := 2) (by decide) (by decide) rfl
  simp only [put, Nat.reduceAnd, Nat.reduceOr, Nat.reduceXor] at h
  omega
theorem group_0_3 (p q : Nat → Bool) : ind (tb p q 3) ≤ ind (p 3) * ind (q 3) := by
  have h := reimerI p q (M := 0) (v := 3) (by decide) (by decide) rfl
  simp only [put, Nat.reduceAnd, Nat.reduceOr, Nat.reduceXor] at h
  omega
theorem group_0_4 (p q : Nat → Bool) : ind (tb p q 4) ≤ ind (p 4) * ind (q 4) := by
  have h := reimerI p q (M := 0) (v := 4) (by decide) (by decide) rfl
  simp only [put, Nat.reduceAnd, Nat.reduceOr, Nat.reduceXor] at h
  omega
theorem group_0_5 (p q : Nat → Bool) : ind (tb p q 5) ≤ ind (p 5) * ind (q 5) := by
  have h := reimerI p q (M := 0) (v := 5) (by decide) (by decide) rfl
  simp only [put, Nat.reduceAnd, Nat.reduceOr, Nat.reduceXor] at h
  omega
theorem group_0_6 (p q : Nat → Bool) : ind (tb p q 6) ≤ ind (p 6) * ind (q 6) := by
  have h := reimerI p q (M := 0) (v := 6) (by decide) (by decide) rfl
  simp only [put, Nat.reduceAnd, Nat.reduceOr, Nat.reduceXor] at h
  omega
theorem group_0_7 (p q : Nat → Bool) : ind (tb p q 7) ≤ ind (p 7) * ind (q 7) := by
  have h := reimerI p q (M := 0) (v := 7) (by decide) (by decide) rfl
  simp only [put, Nat.reduceAnd, Nat.reduceOr, Nat.reduceXor] at h
  omega
theorem group_1_0 (p q : Nat → Bool) : ind (tb p q 0) + ind (tb p q 1) ≤ ind (p 0) * ind (q 1) + ind (p 1) * ind (q 0) := by
  have h := reimerI p q (M := 1) (v := 0) (by decide) (by decide) rfl
  simp only [put, Nat.reduceAnd, Nat.reduceOr, Nat.reduceXor] at h
  omega
theorem group_1_2 (p q : Nat → Bool) : ind (tb p q 2) + ind (tb p q 3) ≤ ind (p 2) * ind (q 3) + ind (p 3) * ind (q 2) := by
  have h := reimerI p q (M := 1) (v := 2) (by decide) (by decide) rfl
  simp only [put, Nat.reduceAnd, Nat.reduceOr, Nat.reduceXor] at h
  omega
theorem group_1_4 (p q : Nat → Bool) : ind (tb p q 4) + ind (tb p q 5) ≤ ind (p 4) * ind (q 5) + ind (p 5) * ind (q 4) := by
  have h := reimerI p q (M := 1) (v := 4) (by decide) (by decide) rfl
  simp only [put, Nat.reduceAnd, Nat.reduceOr, Nat.reduceXor] at h
  omega
theorem group_1_6 (p q : Nat → Bool) : ind (tb p q 6) + ind (tb p q 7) ≤ ind (p 6) * ind (q 7) + ind (p 7) * ind (q 6) := by
  have h := reimerI p q (M := 1) (v := 6) (by decide) (by decide) rfl
  simp only [put, Nat.reduceAnd, Nat.reduceOr, Nat.reduceXor] at h
  omega
theorem group_2_0 (p q : Nat → Bool) : ind (tb p q 0) + ind (tb p q 2) ≤ ind (p 0) * ind (q 2) + ind (p 2) * ind (q 0) := by
  have h := reimerI p q (M := 2) (v := 0) (by decide) (by decide) rfl
  simp only [put, Nat.reduceAnd, Nat.reduceOr, Nat.reduceXor] at h
  omega
theorem group_2_1 (p q : Nat → Bool) : ind (tb p q 1) + ind (tb p q 3) ≤ ind (p 1) * ind (q 3) + ind (p 3) * ind (q 1) := by
  have h := reimerI p q (M := 2) (v := 1) (by decide) (by decide) rfl
  simp only [put, Nat.reduceAnd, Nat.reduceOr, Nat.reduceXor] at h
  omega
theorem group_2_4 (p q : Nat → Bool) : ind (tb p q 4) + ind (tb p q 6) ≤ ind (p 4) * ind (q 6) + ind (p 6) * ind (q 4) := by
  have h := reimerI p q (M := 2) (v := 4) (by decide) (by decide) rfl
  simp only [put, Nat.reduceAnd, Nat.reduceOr, Nat.reduceXor] at h
  omega
theorem group_2_5 (p q : Nat → Bool) : ind (tb p q 5) + ind (tb p q 7) ≤ ind (p 5) * ind (q 7) + ind (p 7) * ind (q 5) := by
  have h := reimerI p q (M := 2) (v := 5) (by decide) (by decide) rfl
  simp only [put, Nat.reduceAnd, Nat.reduceOr, Nat.reduceXor] at h
  omega
theorem group_3_0 (p q : Nat → Bool) : ind (tb p q 0) + ind (tb p q 1) + ind (tb p q 2) + ind (tb p q 3) ≤ ind (p 0) * ind (q 3) + ind (p 1) * ind (q 2) + ind (p 2) * ind (q 1) + ind (p 3) * ind (q 0) := by
  have h := reimerI p q (M := 3) (v := 0) (by decide) (by decide) rfl
  simp only [put, Nat.reduceAnd, Nat.reduceOr, Nat.reduceXor] at h
  omega
theorem group_3_4 (p q : Nat → Bool) : ind (tb p q 4) + ind (tb p q 5) + ind (tb p q 6) + ind (tb p q 7) ≤ ind (p 4) * ind (q 7) + ind (p 5) * ind (q 6) + ind (p 6) * ind (q 5) + ind (p 7) * ind (q 4) := by
  have h := reimerI p q (M := 3) (v := 4) (by decide) (by decide) rfl
  simp only [put, Nat.reduceAnd, Nat.reduceOr, Nat.reduceXor] at h
  omega
theorem group_4_0 (p q : Nat → Bool) : ind (tb p q 0) + ind (tb p q 4) ≤ ind (p 0) * ind (q 4) + ind (p 4) * ind (q 0) := by
  have h := reimerI p q (M := 4) (v := 0) (by decide) (by decide) rfl
  simp only [put, Nat.reduceAnd, Nat.reduceOr, Nat.reduceXor] at h
  omega
theorem group_4_1 (p q : Nat → Bool) : ind (tb p q 1) + ind (tb p q 5) ≤ ind (p 1) * ind (q 5) + ind (p 5) * ind (q 1) := by
  have h := reimerI p q (M := 4) (v := 1) (by decide) (by decide) rfl
  simp only [put, Nat.reduceAnd, Nat.reduceOr, Nat.reduceXor] at h
  omega
theorem group_4_2 (p q : Nat → Bool) : ind (tb p q 2) + ind (tb p q 6) ≤ ind (p 2) * ind (q 6) + ind (p 6) * ind (q 2) := by
  have h := reimerI p q (M := 4) (v := 2) (by decide) (by decide) rfl
  simp only [put, Nat.reduceAnd, Nat.reduceOr, Nat.reduceXor] at h
  omega
theorem group_4_3 (p q : Nat → Bool) : ind (tb p q 3) + ind (tb p q 7) ≤ ind (p 3) * ind (q 7) + ind (p 7) * ind (q 3) := by
  have h := reimerI p q (M := 4) (v := 3) (by decide) (by decide) rfl
  simp only [put, Nat.reduceAnd, Nat.reduceOr, Nat.reduceXor] at h
  omega
theorem group_5_0 (p q : Nat → Bool) : ind (tb p q 0) + ind (tb p q 1) + ind (tb p q 4) + ind (tb p q 5) ≤ ind (p 0) * ind (q 5) + ind (p 1) * ind (q 4) + ind (p 4) * ind (q 1) + ind (p 5) * ind (q 0) := by
  have h := reimerI p q (M := 5) (v := 0) (by decide) (by decide) rfl
  simp only [put, Nat.reduceAnd, Nat.reduceOr, Nat.reduceXor] at h
  omega
theorem group_5_2 (p q : Nat → Bool) : ind (tb p q 2) + ind (tb p q 3) + ind (tb p q 6) + ind (tb p q 7) ≤ ind (p 2) * ind (q 7) + ind (p 3) * ind (q 6) + ind (p 6) * ind (q 3) + ind (p 7) * ind (q 2) := by
  have h := reimerI p q (M := 5) (v := 2) (by decide) (by decide) rfl
  simp only [put, Nat.reduceAnd, Nat.reduceOr, Nat.reduceXor] at h
  omega
theorem group_6_0 (p q : Nat → Bool) : ind (tb p q 0) + ind (tb p q 2) + ind (tb p q 4) + ind (tb p q 6) ≤ ind (p 0) * ind (q 6) + ind (p 2) * ind (q 4) + ind (p 4) * ind (q 2) + ind (p 6) * ind (q 0) := by
  have h := reimerI p q (M := 6) (v := 0) (by decide) (by decide) rfl
  simp only [put, Nat.reduceAnd, Nat.reduceOr, Nat.reduceXor] at h
  omega
theorem group_6_1 (p q : Nat → Bool) : ind (tb p q 1) + ind (tb p q 3) + ind (tb p q 5) + ind (tb p q 7) ≤ ind (p 1) * ind (q 7) + ind (p 3) * ind (q 5) + ind (p 5) * ind (q 3) + ind (p 7) * ind (q 1) := by
  have h := reimerI p q (M := 6) (v := 1) (by decide) (by decide) rfl
  simp only [put, Nat.reduceAnd, Nat.reduceOr, Nat.reduceXor] at h
  omega
theorem group_7_0 (p q : Nat → Bool) : ind (tb p q 0) + ind (tb p q 1) + ind (tb p q 2) + ind (tb p q 3) + ind (tb p q 4) + ind (tb p q 5) + ind (tb p q 6) + ind (tb p q 7) ≤ ind (p 0) * ind (q 7) + ind (p 1) * ind (q 6) + ind (p 2) * ind (q 5) + ind (p 3) * ind (q 4) + ind (p 4) * ind (q 3) + ind (p 5) * ind (q 2) + ind (p 6) * ind (q 1) + ind (p 7) * ind (q 0) := by
  have h := reimerI p q (M := 7) (v := 0) (by decide) (by decide) rfl
  simp only [put, Nat.reduceAnd, Nat.reduceOr, Nat.reduceXor] at h
  omega
theorem poly (a0 a1 b0 b1 c0 c1 : Int) (f g : Nat → Int) : ((a0 * b0 * c0) * f 0 + (a1 * b0 * c0) * f 1 + (a0 * b1 * c0) * f 2 + (a1 * b1 * c0) * f 3 + (a0 * b0 * c1) * f 4 + (a1 * b0 * c1) * f 5 + (a0 * b1 * c1) * f 6 + (a1 * b1 * c1) * f 7) * ((a0 * b0 * c0) * g 0 + (a1 * b0 * c0) * g 1 + (a0 * b1 * c0) * g 2 + (a1 * b1 * c0) * g 3 + (a0 * b0 * c1) * g 4 + (a1 * b0 * c1) * g 5 + (a0 * b1 * c1) * g 6 + (a1 * b1 * c1) * g 7) =
  ((a0 * a0) * (b0 * b0) * (c0 * c0)) * (f 0 * g 0) + ((a1 * a1) * (b0 * b0) * (c0 * c0)) * (f 1 * g 1) + ((a0 * a0) * (b1 * b1) * (c0 * c0)) * (f 2 * g 2) + ((a1 * a1) * (b1 * b1) * (c0 * c0)) * (f 3 * g 3) + ((a0 * a0) * (b0 * b0) * (c1 * c1)) * (f 4 * g 4) + ((a1 * a1) * (b0 * b0) * (c1 * c1)) * (f 5 * g 5) + ((a0 * a0) * (b1 * b1) * (c1 * c1)) * (f 6 * g 6) + ((a1 * a1) * (b1 * b1) * (c1 * c1)) * (f 7 * g 7) + ((a0 * a1) * (b0 * b0) * (c0 * c0)) * (f 0 * g 1 + f 1 * g 0) + ((a0 * a1) * (b1 * b1) * (c0 * c0)) * (f 2 * g 3 + f 3 * g 2) + ((a0 * a1) * (b0 * b0) * (c1 * c1)) * (f 4 * g 5 + f 5 * g 4) + ((a0 * a1) * (b1 * b1) * (c1 * c1)) * (f 6 * g 7 + f 7 * g 6) + ((a0 * a0) * (b0 * b1) * (c0 * c0)) * (f 0 * g 2 + f 2 * g 0) + ((a1 * a1) * (b0 * b1) * (c0 * c0)) * (f 1 * g 3 + f 3 * g 1) + ((a0 * a0) * (b0 * b1) * (c1 * c1)) * (f 4 * g 6 + f 6 * g 4) + ((a1 * a1) * (b0 * b1) * (c1 * c1)) * (f 5 * g 7 + f 7 * g 5) + ((a0 * a1) * (b0 * b1) * (c0 * c0)) * (f 0 * g 3 + f 1 * g 2 + f 2 * g 1 + f 3 * g 0) + ((a0 * a1) * (b0 * b1) * (c1 * c1)) * (f 4 * g 7 + f 5 * g 6 + f 6 * g 5 + f 7 * g 4) + ((a0 * a0) * (b0 * b0) * (c0 * c1)) * (f 0 * g 4 + f 4 * g 0) + ((a1 * a1) * (b0 * b0) * (c0 * c1)) * (f 1 * g 5 + f 5 * g 1) + ((a0 * a0) * (b1 * b1) * (c0 * c1)) * (f 2 * g 6 + f 6 * g 2) + ((a1 * a1) * (b1 * b1) * (c0 * c1)) * (f 3 * g 7 + f 7 * g 3) + ((a0 * a1) * (b0 * b0) * (c0 * c1)) * (f 0 * g 5 + f 1 * g 4 + f 4 * g 1 + f 5 * g 0) + ((a0 * a1) * (b1 * b1) * (c0 * c1)) * (f 2 * g 7 + f 3 * g 6 + f 6 * g 3 + f 7 * g 2) + ((a0 * a0) * (b0 * b1) * (c0 * c1)) * (f 0 * g 6 + f 2 * g 4 + f 4 * g 2 + f 6 * g 0) + ((a1 * a1) * (b0 * b1) * (c0 * c1)) * (f 1 * g 7 + f 3 * g 5 + f 5 * g 3 + f 7 * g 1) + ((a0 * a1) * (b0 * b1) * (c0 * c1)) * (f 0 * g 7 + f 1 * g 6 + f 2 * g 5 + f 3 * g 4 + f 4 * g 3 + f 5 * g 2 + f 6 * g 1 + f 7 * g 0) := by grind
theorem poly1 (a0 a1 b0 b1 c0 c1 : Int) (f : Nat → Int) : ((a0 * b0 * c0) * f 0 + (a1 * b0 * c0) * f 1 + (a0 * b1 * c0) * f 2 + (a1 * b1 * c0) * f 3 + (a0 * b0 * c1) * f 4 + (a1 * b0 * c1) * f 5 + (a0 * b1 * c1) * f 6 + (a1 * b1 * c1) * f 7) * ((a0 * b0 * c0) + (a1 * b0 * c0) + (a0 * b1 * c0) + (a1 * b1 * c0) + (a0 * b0 * c1) + (a1 * b0 * c1) + (a0 * b1 * c1) + (a1 * b1 * c1)) =
  ((a0 * a0) * (b0 * b0) * (c0 * c0)) * (f 0) + ((a1 * a1) * (b0 * b0) * (c0 * c0)) * (f 1) + ((a0 * a0) * (b1 * b1) * (c0 * c0)) * (f 2) + ((a1 * a1) * (b1 * b1) * (c0 * c0)) * (f 3) + ((a0 * a0) * (b0 * b0) * (c1 * c1)) * (f 4) + ((a1 * a1) * (b0 * b0) * (c1 * c1)) * (f 5) + ((a0 * a0) * (b1 * b1) * (c1 * c1)) * (f 6) + ((a1 * a1) * (b1 * b1) * (c1 * c1)) * (f 7) + ((a0 * a1) * (b0 * b0) * (c0 * c0)) * (f 0 + f 1) + ((a0 * a1) * (b1 * b1) * (c0 * c0)) * (f 2 + f 3) + ((a0 * a1) * (b0 * b0) * (c1 * c1)) * (f 4 + f 5) + ((a0 * a1) * (b1 * b1) * (c1 * c1)) * (f 6 + f 7) + ((a0 * a0) * (b0 * b1) * (c0 * c0)) * (f 0 + f 2) + ((a1 * a1) * (b0 * b1) * (c0 * c0)) * (f 1 + f 3) + ((a0 * a0) * (b0 * b1) * (c1 * c1)) * (f 4 + f 6) + ((a1 * a1) * (b0 * b1) * (c1 * c1)) * (f 5 + f 7) + ((a0 * a1) * (b0 * b1) * (c0 * c0)) * (f 0 + f 1 + f 2 + f 3) + ((a0 * a1) * (b0 * b1) * (c1 * c1)) * (f 4 + f 5 + f 6 + f 7) + ((a0 * a0) * (b0 * b0) * (c0 * c1)) * (f 0 + f 4) + ((a1 * a1) * (b0 * b0) * (c0 * c1)) * (f 1 + f 5) + ((a0 * a0) * (b1 * b1) * (c0 * c1)) * (f 2 + f 6) + ((a1 * a1) * (b1 * b1) * (c0 * c1)) * (f 3 + f 7) + ((a0 * a1) * (b0 * b0) * (c0 * c1)) * (f 0 + f 1 + f 4 + f 5) + ((a0 * a1) * (b1 * b1) * (c0 * c1)) * (f 2 + f 3 + f 6 + f 7) + ((a0 * a0) * (b0 * b1) * (c0 * c1)) * (f 0 + f 2 + f 4 + f 6) + ((a1 * a1) * (b0 * b1) * (c0 * c1)) * (f 1 + f 3 + f 5 + f 7) + ((a0 * a1) * (b0 * b1) * (c0 * c1)) * (f 0 + f 1 + f 2 + f 3 + f 4 + f 5 + f 6 + f 7) := by grind
theorem wtL_W8 (w : Ld) (f : Nat → Int) : wtL w f W8 = (w.a0 * w.b0 * w.c0) * f 0 + (w.a1 * w.b0 * w.c0) * f 1 + (w.a0 * w.b1 * w.c0) * f 2 + (w.a1 * w.b1 * w.c0) * f 3 + (w.a0 * w.b0 * w.c1) * f 4 + (w.a1 * w.b0 * w.c1) * f 5 + (w.a0 * w.b1 * w.c1) * f 6 + (w.a1 * w.b1 * w.c1) * f 7 := by
  show w.wt 0 * f 0 + (w.wt 1 * f 1 + (w.wt 2 * f 2 + (w.wt 3 * f 3 + (w.wt 4 * f 4 + (w.wt 5 * f 5 + (w.wt 6 * f 6 + (w.wt 7 * f 7 + 0))))))) = _
  rw [Int.add_zero]
  simp only [Int.add_assoc]
  rfl
theorem mulM {m x y : Int} (h0 : 0 ≤ m) (h : x ≤ y) : m * x ≤ m * y := Int.mul_le_mul_of_nonneg_left h h0
theorem pos3 {a b c d e f : Int} (ha : 0 ≤ a) (hb : 0 ≤ b) (hc : 0 ≤ c) (hd : 0 ≤ d) (he : 0 ≤ e) (hf : 0 ≤ f) : 0 ≤ (a * b) * (c * d) * (e * f) := Int.mul_nonneg (Int.mul_nonneg (Int.mul_nonneg ha hb) (Int.mul_nonneg hc hd)) (Int.mul_nonneg he hf)
theorem sumAll (w : Ld) : w.sum W8 = wtL w (fun _ => 1) W8 := by
  have := sum_wtL w (fun _ => true) W8
  rw [filter_true] at this
  exact this
theorem bk (p q : Nat → Bool) {w : Ld} (h : w.Ok) : w.sum (told p q) * w.sum W8 ≤ w.sum (W8.filter p) * w.sum (W8.filter q) := by
  have ha0 : 0 ≤ w.a0 := by have := h.h w.a0 (by simp [Ld.list]); omega
  have ha1 : 0 ≤ w.a1 := by have := h.h w.a1 (by simp [Ld.list]); omega
  have hb0 : 0 ≤ w.b0 := by have := h.h w.b0 (by simp [Ld.list]); omega
  have hb1 : 0 ≤ w.b1 := by have := h.h w.b1 (by simp [Ld.list]); omega
  have hc0 : 0 ≤ w.c0 := by have := h.h w.c0 (by simp [Ld.list]); omega
  have hc1 : 0 ≤ w.c1 := by have := h.h w.c1 (by simp [Ld.list]); omega
  rw [show told p q = W8.filter (tb p q) from rfl, sum_wtL, sum_wtL, sum_wtL, sumAll, wtL_W8, wtL_W8, wtL_W8, wtL_W8]
  have e1 := poly1 w.a0 w.a1 w.b0 w.b1 w.c0 w.c1 (fun x => ind (tb p q x))
  have e2 := poly w.a0 w.a1 w.b0 w.b1 w.c0 w.c1 (fun x => ind (p x)) (fun x => ind (q x))
  simp only [Int.mul_one] at e1 ⊢
  rw [e1, e2]
  exact (Int.add_le_add (Int.add_le_add (Int.add_le_add (Int.add_le_add (Int.add_le_add (Int.add_le_add (Int.add_le_add (Int.add_le_add (Int.add_le_add (Int.add_le_add (Int.add_le_add (Int.add_le_add (Int.add_le_add (Int.add_le_add (Int.add_le_add (Int.add_le_add (Int.add_le_add (Int.add_le_add (Int.add_le_add (Int.add_le_add (Int.add_le_add (Int.add_le_add (Int.add_le_add (Int.add_le_add (Int.add_le_add (Int.add_le_add (mulM (pos3 (by assumption) (by assumption) (by assumption) (by assumption) (by assumption) (by assumption)) (group_0_0 p q)) (mulM (pos3 (by assumption) (by assumption) (by assumption) (by assumption) (by assumption) (by assumption)) (group_0_1 p q))) (mulM (pos3 (by assumption) (by assumption) (by assumption) (by assumption) (by assumption) (by assumption)) (group_0_2 p q))) (mulM (pos3 (by assumption) (by assumption) (by assumption) (by assumption) (by assumption) (by assumption)) (group_0_3 p q))) (mulM (pos3 (by assumption) (by assumption) (by assumption) (by assumption) (by assumption) (by assumption)) (group_0_4 p q))) (mulM (pos3 (by assumption) (by assumption) (by assumption) (by assumption) (by assumption) (by assumption)) (group_0_5 p q))) (mulM (pos3 (by assumption) (by assumption) (by assumption) (by assumption) (by assumption) (by assumption)) (group_0_6 p q))) (mulM (pos3 (by assumption) (by assumption) (by assumption) (by assumption) (by assumption) (by assumption)) (group_0_7 p q))) (mulM (pos3 (by assumption) (by assumption) (by assumption) (by assumption) (by assumption) (by assumption)) (group_1_0 p q))) (mulM (pos3 (by assumption) (by assumption) (by assumption) (by assumption) (by assumption) (by assumption)) (group_1_2 p q))) (mulM (pos3 (by assumption) (by assumption) (by assumption) (by assumption) (by assumption) (by assumption)) (group_1_4 p q))) (mulM (pos3 (by assumption) (by assumption) (by assumption) (by assumption) (by assumption) (by assumption)) (group_1_6 p q))) (mulM (pos3 (by assumption) (by assumption) (by assumption) (by assumption) (by assumption) (by assumption)) (group_2_0 p q))) (mulM (pos3 (by assumption) (by assumption) (by assumption) (by assumption) (by assumption) (by assumption)) (group_2_1 p q))) (mulM (pos3 (by assumption) (by assumption) (by assumption) (by assumption) (by assumption) (by assumption)) (group_2_4 p q))) (mulM (pos3 (by assumption) (by assumption) (by assumption) (by assumption) (by assumption) (by assumption)) (group_2_5 p q))) (mulM (pos3 (by assumption) (by assumption) (by assumption) (by assumption) (by assumption) (by assumption)) (group_3_0 p q))) (mulM (pos3 (by assumption) (by assumption) (by assumption) (by assumption) (by assumption) (by assumption)) (group_3_4 p q))) (mulM (pos3 (by assumption) (by assumption) (by assumption) (by assumption) (by assumption) (by assumption)) (group_4_0 p q))) (mulM (pos3 (by assumption) (by assumption) (by assumption) (by assumption) (by assumption) (by assumption)) (group_4_1 p q))) (mulM (pos3 (by assumption) (by assumption) (by assumption) (by assumption) (by assumption) (by assumption)) (group_4_2 p q))) (mulM (pos3 (by assumption) (by assumption) (by assumption) (by assumption) (by assumption) (by assumption)) (group_4_3 p q))) (mulM (pos3 (by assumption) (by assumption) (by assumption) (by assumption) (by assumption) (by assumption)) (group_5_0 p q))) (mulM (pos3 (by assumption) (by assumption) (by assumption) (by assumption) (by assumption) (by assumption)) (group_5_2 p q))) (mulM (pos3 (by assumption) (by assumption) (by assumption) (by assumption) (by assumption) (by assumption)) (group_6_0 p q))) (mulM (pos3 (by assumption) (by assumption) (by assumption) (by assumption) (by assumption) (by assumption)) (group_6_1 p q))) (mulM (pos3 (by assumption) (by assumption) (by assumption) (by assumption) (by assumption) (by assumption)) (group_7_0 p q)))
end Mine

/-! UP3 -/
namespace Mine

noncomputable def nmK (n : Nat) : Str := ⟨(fm n).cps.filter (· != 46)⟩
noncomputable def rowOf (n : Nat) : D := .tup [.str (nmK n), FS n]
noncomputable def strPair : Option D → Option (Str × Str)
  | some (.tup [.str a, .str b]) => some (a, b)
  | _ => none
theorem strPair_some {o : Option D} {a b : Str} (e : strPair o = some (a, b)) : o = some (.tup [.str a, .str b]) := by
  unfold strPair at e
  split at e
  · cases e; rfl
  · cases e
theorem row_tab0 : (K27.all fun n => strPair (rowK (FS n)) == some (nmK n, fm n)) = true := by decide +kernel
theorem row_tab {n : Nat} (hn : n ∈ K27) : rowK (FS n) = some (rowOf n) := strPair_some (beq_iff_eq.mp (List.all_eq_true.mp row_tab0 n hn))
theorem rows_of : ∀ {l : List Nat}, (∀ n ∈ l, n ∈ K27) → rowsL rowK (l.map FS) = some (l.map rowOf)
  | [], _ => rfl
  | n :: l, h => by
    rw [List.map_cons]
    unfold rowsL
    rw [row_tab (h n List.mem_cons_self), rows_of fun m hm => h m (List.mem_cons_of_mem _ hm)]
    rfl

/-- the spelling in which get_all is asked for a choice of letters -/
noncomputable def ask (k : Nat) : Str := (["", "R", "g", "rG", "b", "Rb", "gB", "rGb"] : List Str).getD k ""
noncomputable def low (k : Nat) : Str := (["", "r", "g", "rg", "b", "rb", "gb", "rgb"] : List Str).getD k ""
theorem ask_tab0 : (W8.all fun k => asStr (lowerF [.str (ask k)]) == some (low k) && failsB codeN (low k)) = true := by decide +kernel
theorem ask_tab {k : Nat} (hk : k ∈ W8) : lowerF [.str (ask k)] = some (.str (low k)) ∧ failsB codeN (low k) = true := by
  have := Bool.and_eq_true_iff.mp (List.all_eq_true.mp ask_tab0 k hk)
  exact ⟨asStr_some (beq_iff_eq.mp this.1), this.2⟩
theorem name_tab0 : (K27.all fun n => asStr (lowerF [.str (nmK n)]) == some (low (n / 8)) && PyData.canLay0 (.str (low (n / 8))) && W8.all fun k => (low (n / 8) == low k) == (n / 8 == k)) = true := by decide +kernel
theorem name_tab {n : Nat} (hn : n ∈ K27) : lowerF [.str (nmK n)] = some (.str (low (n / 8))) ∧ PyData.canLay0 (.str (low (n / 8))) = true ∧ ∀ k ∈ W8, (low (n / 8) == low k) = (n / 8 == k) := by
  obtain ⟨h12, h3⟩ := Bool.and_eq_true_iff.mp (List.all_eq_true.mp name_tab0 n hn)
  obtain ⟨h1, h2⟩ := Bool.and_eq_true_iff.mp h12
  exact ⟨asStr_some (beq_iff_eq.mp h1), h2, fun k hk => beq_iff_eq.mp (List.all_eq_true.mp h3 k hk)⟩
theorem low_lay0 : (W8.all fun k => PyData.canLay0 (.str (low k))) = true := by decide +kernel
theorem eqF_str {x y : Str} (h1 : PyData.canLay0 (.str x) = true) (h2 : PyData.canLay0 (.str y) = true) : eqF (.str x) (.str y) = some (.bool (x == y)) := by
  unfold eqF eqB
  show Option.map D.bool (if (PyData.canLay0 (.str x) && PyData.canLay0 (.str y)) = true then some (PyData.eqv (.str x) (.str y)) else none) = _
  rw [h1, h2]; rfl

theorem getAll_eq {l : List Nat} {k : Nat} (hl : ∀ n ∈ l, n ∈ K27) (hlen : l.length ≤ 1000) (hk : k ∈ W8) : FgetAll [.ins (.lst (l.map rowOf)), .str (ask k)] = some (kindOf l k) := by
  refine fnF_ret rfl ?_
  show BgetAll [.ins (.lst (l.map rowOf)), .str (ask k)] = _
  unfold BgetAll
  obtain ⟨a1, a2⟩ := ask_tab hk
  have s1 : asgX none 1 (convE true (getv 0) (methE lowerF (getv 1) noArgs)) [.ins (.lst (l.map rowOf)), .str (ask k)] = some (.nxt [.ins (.lst (l.map rowOf)), .str (low k)]) := by
    refine asgX_of (ρ := [.ins (.lst (l.map rowOf)), .str (ask k)]) (d := .str (low k)) ?_
    have m1 : methE lowerF (getv 1) noArgs [.ins (.lst (l.map rowOf)), .str (ask k)] = some (.str (low k)) := a1
    show (match some (D.ins (.lst (l.map rowOf))) with | some (.ins d) => (match methE lowerF (getv 1) noArgs [.ins (.lst (l.map rowOf)), .str (ask k)] with | some x => Fconv [.ins d, x, .bool true] | none => none) | _ => none) = _
    rw [m1]
    show Fconv [.ins (.lst (l.map rowOf)), .str (low k), .bool true] = _
    rw [conv_true, a2]; rfl
  refine (seqX_nxt s1).trans (seqX_ret (retX_of ?_))
  refine compF_of (mk := rowOf) (e := FS) (ts := fun n => [rowOf n]) (t := fun n => n / 8 == k) (l := l) (cs := [.str (low k)]) rfl hlen rfl fun n hn => ⟨rfl, ?_, fun _ => rfl⟩
  obtain ⟨n1, n2, n3⟩ := name_tab (hl n hn)
  refine cmpT_of ?_
  refine (bin2_of (a := .str (low (n / 8))) (b := .str (low k)) ?_ rfl).trans ?_
  · show methE lowerF (bin2 itmF (getv 0) (fun _ => some (.int 0))) noArgs [rowOf n, .str (low k)] = _
    exact n1
  · rw [eqF_str n2 (List.all_eq_true.mp low_lay0 k hk), n3 k hk]

theorem kinds_eq {l : List Nat} (hl : ∀ n ∈ l, n ∈ K27) (hlen : l.length ≤ 900) : F_law_kinds [.lst (l.map FS)] = some (.lst (W8.map (kindOf l))) := by
  show (match rowsL rowK (l.map FS) with | some rows => if (l.map FS).length ≤ 900 then kindsC ((if l.map FS = [] then [D.lst (l.map FS), .undef, .undef] else [D.lst (l.map FS), .undef, lastD .undef (l.map FS)]).set 1 (.ins (.lst rows))) else none | none => none) = _
  rw [rows_of hl]
  dsimp only
  rw [if_pos (by rw [List.length_map]; exact hlen)]
  have key : ∀ x : D, kindsC ([D.lst (l.map FS), .undef, x].set 1 (.ins (.lst (l.map rowOf)))) = some (.lst (W8.map (kindOf l))) := by
    intro x
    show kindsC [D.lst (l.map FS), .ins (.lst (l.map rowOf)), x] = _
    unfold kindsC
    refine compF_all (mk := fun k => .str (ask k)) (e := kindOf l) (ts := fun k => [.str (ask k)]) (l := W8) (cs := [.ins (.lst (l.map rowOf))]) rfl (by decide) rfl fun k hk => ⟨rfl, ?_⟩
    show FgetAll [.ins (.lst (l.map rowOf)), .str (ask k)] = _
    exact getAll_eq hl (by omega) hk
  split
  · exact key _
  · exact key _
end Mine

/-! UP11 -/
namespace Mine

/-! the law's statements, one by one -/
theorem capD1 {i : Nat} {ρ : List D} {d : D} (h : getv i ρ = some d) : capD [i] ρ = some [d] := by
  unfold capD; rw [h]; rfl
theorem capD2 {i j : Nat} {ρ : List D} {d e : D} (h : getv i ρ = some d) (h2 : getv j ρ = some e) : capD [i, j] ρ = some [d, e] := by
  unfold capD; rw [h, capD1 h2]
theorem intsOf_map : ∀ l : List Int, intsOf (l.map D.int) = some l
  | [] => rfl
  | i :: l => by
    show (intsOf (l.map D.int)).map (i :: ·) = _
    rw [intsOf_map l]; rfl
theorem pick_map {l : List Int} : ∀ idx : List Nat, idx.filterMap ((l.map D.int)[·]?) = (idx.filterMap (l[·]?)).map D.int
  | [] => rfl
  | i :: idx => by
    rw [List.filterMap_cons, List.filterMap_cons, pick_map idx, List.getElem?_map]
    cases l[i]? <;> rfl
theorem slc_map {l : List Int} {lo hi st : Option Int} (hs : st ≠ some 0) (hl : l.length ≤ 1000) : itmF (.lst (l.map D.int)) (.slc lo hi st) = some (.lst (((sbs lo hi st l.length).filterMap (l[·]?)).map D.int)) := by
  show (if st ≠ some 0 ∧ (l.map D.int).length ≤ 1000 then some (D.lst ((sbs lo hi st (l.map D.int).length).filterMap ((l.map D.int)[·]?))) else none) = _
  rw [List.length_map, if_pos ⟨hs, hl⟩, pick_map]
/-- both numbers that the script gives -/
theorem half_eq {l : List Int} (hl : l.length ≤ 1000) {a k : Int} {ρ : List D} (h : getv 1 ρ = some (.lst (l.map D.int))) :
    ∃ n : Int, (bin2 modF (bin2 addF (callE sumF (consE (bin2 itmF (getv 1) (slcE (un1 partF (fun _ => some (D.int a))) (fun _ => some none) (un1 partF (fun _ => some (D.int 2))))) (fun _ => some []))) (fun _ => some (D.int k))) (fun _ => some (D.int 256))) ρ = some (.int n) := by
  refine ⟨(sumL ((sbs (some a) none (some 2) l.length).filterMap (l[·]?)) + k).fmod 256, (bin2_of (a := .int (sumL ((sbs (some a) none (some 2) l.length).filterMap (l[·]?)) + k)) (b := .int 256) ((bin2_of (a := .int (sumL ((sbs (some a) none (some 2) l.length).filterMap (l[·]?)))) (b := .int k)
    ((callE_of (consE_of ((bin2_of (b := .slc (some a) none (some 2)) h (by rfl)).trans (slc_map (by decide) hl)) (by rfl))).trans ?_) (by rfl)).trans ?_) (by rfl)).trans ?_⟩
  · show (intsOf _).map _ = _
    rw [intsOf_map]; rfl
  · rfl
  · rfl
theorem L2_eq {l : List Int} (hl : l.length ≤ 1000) {ρ : List D} (h : getv 1 ρ = some (.lst (l.map D.int))) : ∃ n : Int, L2 ρ = some (.nxt (ρ.set 2 (.int n))) := by
  obtain ⟨n, e⟩ := half_eq hl (a := 0) (k := 107) h
  exact ⟨n, asgX_of e⟩
theorem L3_eq {l : List Int} (hl : l.length ≤ 1000) {ρ : List D} (h : getv 1 ρ = some (.lst (l.map D.int))) : ∃ n : Int, L3 ρ = some (.nxt (ρ.set 3 (.int n))) := by
  obtain ⟨n, e⟩ := half_eq hl (a := 1) (k := 110) h
  exact ⟨n, asgX_of e⟩
noncomputable def wheelD : D := nats wheel
theorem L4_eq {ρ : List D} : L4 ρ = some (.nxt (ρ.set 4 wheelD)) := asgX_of (by rfl)
theorem L5_eq {ρ : List D} : L5 ρ = some (.nxt (ρ.set 5 shapesD)) := asgX_of ((callE_of (by rfl)).trans forms_eq)
noncomputable def wordsD : D := .lst (W8.map WS)
theorem word_tab0 : (W8.all fun c => asStr ((bin2 itmF (getv 1) (bin2 addF (fun _ => some (D.int 56)) (getv 0))) [I c, shapesD]) == some (word c)) = true := by decide +kernel
theorem L6_eq {ρ : List D} (h5 : getv 5 ρ = some shapesD) : L6 ρ = some (.nxt (ρ.set 6 wordsD)) :=
  asgX_of (compF_all (mk := I) (e := WS) (ts := fun c => [I c]) (l := W8) (cs := [shapesD]) range8 (by decide) (capD1 h5) fun c hc => ⟨rfl, asStr_some (beq_iff_eq.mp (List.all_eq_true.mp word_tab0 c hc))⟩)
theorem L7_eq {ρ : List D} : L7 ρ = some (.nxt (ρ.set 7 spotsD)) := by
  refine (asgCompX_of (ys := W8.map spotAt) (compD_all (mk := I) (e := spotAt) (ts := fun c => [I c]) (l := W8) (cs := []) range8 (by decide) (by rfl) fun c hc => ⟨rfl, (callE_of (ds := [I c]) (consE_of (by rfl) (by rfl))).trans (paint_tab hc)⟩)).trans ?_
  rw [spots_wheel]; rfl
theorem WS_same {l : List Nat} (hl : ∀ c ∈ l, c ∈ W8) : neF (.lst (l.map WS)) (.lst (l.map WS)) = some (.bool false) :=
  neF_same (mk := WS) (p := fun c => .str (word c)) fun c hc => ⟨rfl, WS_lay (hl c hc), by show (word c == word c) = true; exact beq_self_eq_true _⟩
theorem FS_same {l : List Nat} (hl : ∀ c ∈ l, c ∈ K27) : neF (.lst (l.map FS)) (.lst (l.map FS)) = some (.bool false) :=
  neF_same (mk := FS) (p := fun c => .str (fm c)) fun c hc => ⟨rfl, FS_lay (hl c hc), by show (fm c == fm c) = true; exact beq_self_eq_true _⟩
theorem I_same {l : List Nat} : neF (nats l) (nats l) = some (.bool false) :=
  neF_same (mk := I) (p := fun c => .int (Int.ofNat c)) fun c hc => ⟨rfl, rfl, by show (Int.ofNat c == Int.ofNat c) = true; exact beq_self_eq_true _⟩
theorem pr_same {l : List Nat} (hl : ∀ c ∈ l, c ∈ W8) : neF (.lst (l.map fun c => pr c (7 - c))) (.lst (l.map fun c => pr c (7 - c))) = some (.bool false) :=
  neF_same (mk := fun c => pr c (7 - c)) (p := fun c => .tuple [.str (word c), .str (word (7 - c))]) fun c hc => ⟨rfl, by
    show (PyData.canLay0 (.str (word c)) && (PyData.canLay0 (.str (word (7 - c))) && true)) = true
    rw [WS_lay (hl c hc), WS_lay (sub7 c (hl c hc)).2]; rfl, by
    show ((word c == word c) && ((word (7 - c) == word (7 - c)) && true)) = true
    rw [beq_self_eq_true, beq_self_eq_true]; rfl⟩
/-- a test that finds no fault -/
theorem pass_eq {t : List D → Option Bool} {f : List D → Option Out} {ρ : List D} (h : t ρ = some false) : iteX t f (fun ρ => some (Out.nxt ρ)) ρ = some (.nxt ρ) := iteX_false h
theorem word_at {c : Nat} {x : D} (hc : c ∈ W8) : (bin2 itmF (getv 1) (getv 0)) [I c, wordsD] = some (WS c) ∧ (bin2 itmF (getv 1) (getv 0)) [I c, wordsD, x] = some (WS c) :=
  ⟨(bin2_of (by rfl) (by rfl)).trans (itm_W8 c hc), (bin2_of (by rfl) (by rfl)).trans (itm_W8 c hc)⟩
theorem L8_eq {ρ : List D} (h7 : getv 7 ρ = some spotsD) (h6 : getv 6 ρ = some wordsD) (h4 : getv 4 ρ = some wheelD) : L8 ρ = some (.nxt ρ) := by
  refine pass_eq (cmpT_of ((bin2_of (a := .lst (wheel.map WS)) (b := .lst (wheel.map WS)) ?_ ?_).trans (WS_same fun c hc => mem_wheel.mp hc)))
  · exact compF_all (mk := SP) (e := WS) (ts := fun c => [SP c]) (l := wheel) (cs := []) ((un1_of h7).trans (by rfl)) (by decide) (by rfl) fun c hc => ⟨rfl, (callE_of (ds := [SP c]) (consE_of (getv_of (by rfl) (spot_set hc)) (by rfl))).trans (spot_tab hc).1⟩
  · exact compF_all (mk := I) (e := WS) (ts := fun c => [I c]) (l := wheel) (cs := [wordsD]) ((un1_of h4).trans (by rfl)) (by decide) (capD1 h6) fun c hc => ⟨rfl, (word_at (x := .none) (mem_wheel.mp hc)).1⟩

/-- which corners a number tells -/
noncomputable def inW (n : Int) (c : Nat) : Bool := Builtin.bitAnd (n.fdiv (2 ^ wheel.idxOf c)) 1 != 0
theorem shr_I {a : Int} {n : Nat} : shrF (.int a) (I n) = some (.int (a.fdiv (2 ^ n))) := by
  show (if (0 : Int) ≤ Int.ofNat n then some (D.int (a.fdiv (2 ^ (Int.ofNat n).toNat))) else none) = _
  rw [if_pos (show (0 : Int) ≤ Int.ofNat n from Int.natCast_nonneg n)]; rfl
theorem set_eq {j : Nat} {ρ : List D} {n : Int} (h4 : getv 4 ρ = some wheelD) (hj : getv j ρ = some (.int n)) :
    (compF (some 2) [j] (enumE (getv 4)) (un1 trB (bin2 andF (bin2 shrF (getv 2) (getv 0)) (fun _ => some (D.int 1)))) (getv 1)) ρ = some (nats (corners (inW n))) := by
  refine compF_of (mk := fun c => .tup [I (wheel.idxOf c), I c]) (e := I) (ts := fun c => [I (wheel.idxOf c), I c]) (t := inW n) (l := wheel) (cs := [.int n]) ?_ (by decide) (capD1 hj) fun c hc => ⟨rfl, ?_, fun _ => rfl⟩
  · unfold enumE
    rw [h4]; rfl
  · exact (un1_of ((bin2_of ((bin2_of (a := .int n) (b := I (wheel.idxOf c)) (by rfl) (by rfl)).trans shr_I) (by rfl)).trans (by rfl))).trans rfl
theorem L9_eq {ρ : List D} {n : Int} (h4 : getv 4 ρ = some wheelD) (h2 : getv 2 ρ = some (.int n)) : L9 ρ = some (.nxt (ρ.set 8 (nats (corners (inW n))))) := asgX_of (set_eq h4 h2)
theorem L10_eq {ρ : List D} {n : Int} (h4 : getv 4 ρ = some wheelD) (h3 : getv 3 ρ = some (.int n)) : L10 ρ = some (.nxt (ρ.set 9 (nats (corners (inW n))))) := asgX_of (set_eq h4 h3)

theorem G_mem {p : Nat → Bool} : ∀ n ∈ G p, n ∈ K27 := fun n hn => (List.mem_filter.mp hn).1
theorem G_len {p : Nat → Bool} : (G p).length ≤ 27 := List.length_filter_le _ _
theorem G_eq {p : Nat → Bool} : (K27.filter fun n => !(W8.filter fun c => !(corners p).contains c).any (goes n)) = G p := by
  unfold G
  congr 1
  funext n
  rw [List.any_filter, List.not_any_eq_all_not]
  refine all_congr' fun c hc => ?_
  rw [corners_contains hc]
  cases p c <;> cases goes n c <;> rfl

theorem strangers_eq {p : Nat → Bool} {j : Nat} {ρ : List D} (h6 : getv 6 ρ = some wordsD) (hj : getv j ρ = some (nats (corners p))) :
    (compF none [6, j] (un1 itemsOf (callE rngF (consE (fun _ => some (D.int 8)) (fun _ => some [])))) (cmpT ninF (getv 0) (getv 2)) (bin2 itmF (getv 1) (getv 0))) ρ = some (.lst ((W8.filter fun c => !(corners p).contains c).map WS)) :=
  compF_of (mk := I) (e := WS) (ts := fun c => [I c]) (t := fun c => !(corners p).contains c) (l := W8) (cs := [wordsD, nats (corners p)]) range8 (by decide) (capD2 h6 hj) fun c hc => ⟨rfl, cmpT_of ((bin2_of (a := I c) (b := nats (corners p)) (by rfl) (by rfl)).trans inF_nats.2), fun _ => (word_at hc).2⟩
theorem ground_eq {p : Nat → Bool} {j : Nat} {ρ : List D} (h5 : getv 5 ρ = some shapesD) (h6 : getv 6 ρ = some wordsD) (hj : getv j ρ = some (nats (corners p))) :
    (callE F_law_grounds (consE (getv 5) (consE (compF none [6, j] (un1 itemsOf (callE rngF (consE (fun _ => some (D.int 8)) (fun _ => some [])))) (cmpT ninF (getv 0) (getv 2)) (bin2 itmF (getv 1) (getv 0))) (fun _ => some [])))) ρ = some (.lst ((G p).map FS)) := by
  refine (callE_of (ds := [shapesD, .lst ((W8.filter fun c => !(corners p).contains c).map WS)]) (consE_of h5 (consE_of (strangers_eq h6 hj) (by rfl)))).trans ?_
  rw [grounds_eq fun x hx => (List.mem_filter.mp hx).1, G_eq]
theorem L11_eq {p : Nat → Bool} {ρ : List D} (h5 : getv 5 ρ = some shapesD) (h6 : getv 6 ρ = some wordsD) (hj : getv 8 ρ = some (nats (corners p))) : L11 ρ = some (.nxt (ρ.set 10 (.lst ((G p).map FS)))) := asgX_of (ground_eq h5 h6 hj)
theorem L12_eq {p : Nat → Bool} {ρ : List D} (h5 : getv 5 ρ = some shapesD) (h6 : getv 6 ρ = some wordsD) (hj : getv 9 ρ = some (nats (corners p))) : L12 ρ = some (.nxt (ρ.set 11 (.lst ((G p).map FS)))) := asgX_of (ground_eq h5 h6 hj)
noncomputable def kindsD (p : Nat → Bool) : D := .lst (W8.map (kindOf (G p)))
theorem L13_eq {p : Nat → Bool} {ρ : List D} (h : getv 10 ρ = some (.lst ((G p).map FS))) : L13 ρ = some (.nxt (ρ.set 12 (kindsD p))) :=
  asgX_of ((callE_of (ds := [.lst ((G p).map FS)]) (consE_of h (by rfl))).trans (kinds_eq G_mem (by have := G_len (p := p); omega)))
theorem L14_eq {p : Nat → Bool} {ρ : List D} (h : getv 11 ρ = some (.lst ((G p).map FS))) : L14 ρ = some (.nxt (ρ.set 13 (kindsD p))) :=
  asgX_of ((callE_of (ds := [.lst ((G p).map FS)]) (consE_of h (by rfl))).trans (kinds_eq G_mem (by have := G_len (p := p); omega)))

theorem inL_eq {d : D} : ∀ l : List Nat, inL [] (getv 1) d (l.map FS) = some (l.map FS)
  | [] => rfl
  | n :: l => by
    rw [List.map_cons]
    unfold inL
    rw [show getv 1 ([d, FS n] ++ []) = some (FS n) from rfl, inL_eq l]
theorem outL_eq : ∀ ls : List (List Nat), ls.flatten.length ≤ 1000 → outL [] (un1 itemsOf (getv 0)) (getv 1) (ls.map fun l => D.lst (l.map FS)) = some (ls.flatten.map FS)
  | [], _ => rfl
  | l :: ls, h => by
    rw [List.flatten_cons, List.length_append] at h
    rw [List.map_cons]
    unfold outL
    rw [show un1 itemsOf (getv 0) ([D.lst (l.map FS), D.undef] ++ []) = some (l.map FS) from rfl]
    dsimp only
    rw [inL_eq l]
    dsimp only
    rw [outL_eq ls (by omega)]
    dsimp only
    rw [List.length_map, List.length_map, if_pos h, List.flatten_cons, List.map_append]
theorem flat_kinds (f : Nat → Bool) : (W8.map fun k => (K27.filter f).filter fun n => n / 8 == k).flatten = K27.filter f := by
  have e : (W8.map fun k => (K27.filter f).filter fun n => n / 8 == k) = (W8.map fun k => K27.filter fun n => n / 8 == k).map (List.filter f) := by
    rw [List.map_map]
    refine List.map_congr_left fun k _ => ?_
    show _ = (K27.filter fun n => n / 8 == k).filter f
    rw [List.filter_filter, List.filter_filter]
    congr 1
    funext n
    exact Bool.and_comm ..
  rw [e, ← List.filter_flatten]
  rfl
theorem kinds_map (p : Nat → Bool) : W8.map (kindOf (G p)) = (W8.map fun k => (G p).filter fun n => n / 8 == k).map fun l => D.lst (l.map FS) := by
  rw [List.map_map]; rfl
theorem L15_eq {p q : Nat → Bool} {ρ : List D} (h10 : getv 10 ρ = some (.lst ((G p).map FS))) (h11 : getv 11 ρ = some (.lst ((G q).map FS))) (h12 : getv 12 ρ = some (kindsD p)) (h13 : getv 13 ρ = some (kindsD q)) : L15 ρ = some (.nxt ρ) := by
  have hp := G_len (p := p)
  have hq := G_len (p := q)
  refine pass_eq (cmpT_of ((bin2_of (a := .lst ((G p ++ G q).map FS)) (b := .lst ((G p ++ G q).map FS)) ?_ ((bin2_of h10 h11).trans ?_)).trans (FS_same fun c hc => (List.mem_append.mp hc).elim (G_mem c) (G_mem c))))
  · have e1 : un1 itemsOf (bin2 addF (getv 12) (getv 13)) ρ = some (((W8.map fun k => (G p).filter fun n => n / 8 == k) ++ (W8.map fun k => (G q).filter fun n => n / 8 == k)).map fun l => D.lst (l.map FS)) := by
      refine (un1_of (a := .lst (W8.map (kindOf (G p)) ++ W8.map (kindOf (G q)))) ((bin2_of h12 h13).trans (by rfl))).trans ?_
      rw [List.map_append, ← kinds_map, ← kinds_map]; rfl
    have e2 : ((W8.map fun k => (G p).filter fun n => n / 8 == k) ++ (W8.map fun k => (G q).filter fun n => n / 8 == k)).flatten = G p ++ G q := by
      rw [List.flatten_append]
      unfold G
      rw [flat_kinds, flat_kinds]
    show (comp2D [] (un1 itemsOf (bin2 addF (getv 12) (getv 13))) (un1 itemsOf (getv 0)) (getv 1) ρ).map D.lst = _
    unfold comp2D
    rw [e1]
    dsimp only
    rw [show capD [] ρ = some [] from rfl]
    dsimp only
    rw [outL_eq _ (by rw [e2, List.length_append]; omega), e2]; rfl
  · show (if ((G p).map FS).length + ((G q).map FS).length ≤ 1000 then some (D.lst ((G p).map FS ++ (G q).map FS)) else none) = _
    rw [List.length_map, List.length_map, if_pos (by omega), List.map_append]
theorem L16_eq {p q : Nat → Bool} {ρ : List D} (h5 : getv 5 ρ = some shapesD) (h12 : getv 12 ρ = some (kindsD p)) (h13 : getv 13 ρ = some (kindsD q)) : L16 ρ = some (.nxt (ρ.set 14 (nats (told p q)))) :=
  asgX_of ((callE_of (ds := [shapesD, kindsD p, kindsD q]) (consE_of h5 (consE_of h12 (consE_of h13 (by rfl))))).trans (box_eq p q))
theorem L17_eq {p q : Nat → Bool} {ρ : List D} (h14 : getv 14 ρ = some (nats (told p q))) (h8 : getv 8 ρ = some (nats (corners p))) (h9 : getv 9 ρ = some (nats (corners q))) : L17 ρ = some (.nxt ρ) :=
  pass_eq (cmpT_of ((bin2_of h14 ((callE_of (ds := [nats (corners p), nats (corners q)]) (consE_of h8 (consE_of h9 (by rfl)))).trans (plain_eq p q))).trans I_same))
end Mine

/-! UP12 -/
namespace Mine

theorem wordsOf_eq {p : Nat → Bool} {j : Nat} {ρ : List D} (h6 : getv 6 ρ = some wordsD) (hj : getv j ρ = some (nats (corners p))) :
    (compD none [6] (un1 itemsOf (getv j)) (fun _ => some true) (bin2 itmF (getv 1) (getv 0))) ρ = some ((corners p).map WS) :=
  compD_all (mk := I) (e := WS) (ts := fun c => [I c]) (l := corners p) (cs := [wordsD]) ((un1_of hj).trans (by rfl)) (by have := corners_len (p := p); omega) (capD1 h6) fun c hc => ⟨rfl, (word_at (x := .none) (corners_W8 c hc)).1⟩
noncomputable def wds (p : Nat → Bool) : D := .lst ((corners p).map WS)
theorem L18_eq {p : Nat → Bool} {ρ : List D} (h6 : getv 6 ρ = some wordsD) (h8 : getv 8 ρ = some (nats (corners p))) : L18 ρ = some (.nxt (ρ.set 15 (wds p))) := asgCompX_of (wordsOf_eq h6 h8)
theorem L19_eq {p : Nat → Bool} {ρ : List D} (h6 : getv 6 ρ = some wordsD) (h9 : getv 9 ρ = some (nats (corners p))) : L19 ρ = some (.nxt (ρ.set 16 (wds p))) := asgCompX_of (wordsOf_eq h6 h9)
noncomputable def facedD (p q : Nat → Bool) : D := .lst ((faced p q).map fun c => pr c (7 - c))
theorem face_call {p q : Nat → Bool} {i j : Nat} {ρ : List D} (h7 : getv 7 ρ = some spotsD) (hi : getv i ρ = some (wds p)) (hj : getv j ρ = some (wds q)) :
    (callE F_law_facing (consE (getv 7) (consE (getv i) (consE (getv j) (fun _ => some []))))) ρ = some (facedD p q) :=
  (callE_of (ds := [spotsD, wds p, wds q]) (consE_of h7 (consE_of hi (consE_of hj (by rfl))))).trans (facing_eq p q)
theorem L20_eq {p q : Nat → Bool} {ρ : List D} (h7 : getv 7 ρ = some spotsD) (h15 : getv 15 ρ = some (wds p)) (h16 : getv 16 ρ = some (wds q)) : L20 ρ = some (.nxt (ρ.set 17 (facedD p q))) := asgX_of (face_call h7 h15 h16)
theorem faced_W8 {p q : Nat → Bool} : ∀ c ∈ faced p q, c ∈ W8 := fun c hc => mem_wheel.mp (List.mem_filter.mp hc).1
theorem faced_len {p q : Nat → Bool} : (faced p q).length ≤ 8 := List.length_filter_le _ wheel
theorem faced_alt {p q : Nat → Bool} : (corners p).filter (fun c => q (7 - c)) = faced p q := by
  unfold corners faced
  rw [List.filter_filter]
  congr 1
  funext c
  exact Bool.and_comm ..
theorem tupE_of {f : List D → Option (List D)} {ρ l : List D} (h : f ρ = some l) (hl : l.length ≤ 1000) : tupE f ρ = some (.tup l) := by unfold tupE; rw [h]; simp only [hl, if_true]
theorem L21_eq {p q : Nat → Bool} {ρ : List D} (h17 : getv 17 ρ = some (facedD p q)) (h8 : getv 8 ρ = some (nats (corners p))) (h6 : getv 6 ρ = some wordsD) (h9 : getv 9 ρ = some (nats (corners q))) : L21 ρ = some (.nxt ρ) := by
  refine pass_eq (cmpT_of ((bin2_of h17 (b := facedD p q) ?_).trans (pr_same faced_W8)))
  refine (compF_of (mk := I) (e := fun c => pr c (7 - c)) (ts := fun c => [I c]) (t := fun c => q (7 - c)) (l := corners p) (cs := [wordsD, nats (corners q)]) ((un1_of h8).trans (by rfl)) (by have := corners_len (p := p); omega) (capD2 h6 h9) fun c hc => ⟨rfl, ?_, fun _ => ?_⟩).trans ?_
  · obtain ⟨e7, h7⟩ := sub7 c (corners_W8 c hc)
    refine cmpT_of ((bin2_of ((bin2_of (a := .int 7) (b := I c) (by rfl) (by rfl)).trans e7) (b := nats (corners q)) (by rfl)).trans ?_)
    rw [inF_nats.1, corners_contains h7]
  · obtain ⟨e7, h7⟩ := sub7 c (corners_W8 c hc)
    have e1 : (consE (bin2 itmF (getv 1) (getv 0)) (consE (bin2 itmF (getv 1) (bin2 subF (fun _ => some (D.int 7)) (getv 0))) (fun _ => some []))) [I c, wordsD, nats (corners q)] = some [WS c, WS (7 - c)] :=
      consE_of (word_at (corners_W8 c hc)).2 (consE_of ((bin2_of (a := wordsD) (by rfl) ((bin2_of (a := .int 7) (b := I c) (by rfl) (by rfl)).trans e7)).trans (itm_W8 _ h7)) (by rfl))
    exact tupE_of e1 (Nat.le_of_ble_eq_true rfl)
  · rw [faced_alt]; rfl

/-! the distances -/
noncomputable def pairs (p q : Nat → Bool) : List (Nat × Nat) := (faced p q).map (fun c => (c, 7 - c)) ++ (corners p).zip (corners q)
theorem zip_len {p q : Nat → Bool} : ((corners p).zip (corners q)).length ≤ 8 := by
  rw [List.length_zip]
  exact Nat.le_trans (Nat.min_le_left ..) corners_len
theorem zip_map {α : Type} (f : Nat → D) (a b : List Nat) (mk : Nat × Nat → D) (h : ∀ x, mk x = .tup [f x.1, f x.2]) : zipL (a.map f) (b.map f) = (a.zip b).map mk := by
  unfold zipL
  rw [List.zip_map, List.map_map]
  refine List.map_congr_left fun x _ => ?_
  rw [h]; rfl
theorem pairs_W8 {p q : Nat → Bool} : ∀ a ∈ pairs p q, a.1 ∈ W8 ∧ a.2 ∈ W8 := by
  intro a ha
  rcases List.mem_append.mp ha with h | h
  · obtain ⟨c, hc, rfl⟩ := List.mem_map.mp h
    exact ⟨faced_W8 c hc, (sub7 c (faced_W8 c hc)).2⟩
  · obtain ⟨h1, h2⟩ := List.of_mem_zip (show (a.1, a.2) ∈ _ from h)
    exact ⟨corners_W8 _ h1, corners_W8 _ h2⟩
theorem pairs_len {p q : Nat → Bool} : (pairs p q).length ≤ 16 := by
  unfold pairs
  rw [List.length_append, List.length_map]
  have h1 := faced_len (p := p) (q := q)
  have h2 := zip_len (p := p) (q := q)
  omega
noncomputable def spansD (p q : Nat → Bool) : D := .lst ((pairs p q).map fun a => I (dist a.1 a.2))
theorem L22_eq {p q : Nat → Bool} {ρ : List D} (h17 : getv 17 ρ = some (facedD p q)) (h15 : getv 15 ρ = some (wds p)) (h16 : getv 16 ρ = some (wds q)) : L22 ρ = some (.nxt (ρ.set 18 (spansD p q))) := by
  refine asgCompX_of (compD_all (mk := fun a => pr a.1 a.2) (e := fun a => I (dist a.1 a.2)) (ts := fun a => [WS a.1, WS a.2]) (l := pairs p q) (cs := []) ?_ (by have := pairs_len (p := p) (q := q); omega) (by rfl) fun a ha => ⟨rfl, (callE_of (ds := [WS a.1, WS a.2, .int 3]) (consE_of (by rfl) (consE_of (by rfl) (consE_of (by rfl) (by rfl))))).trans (lev_tab (pairs_W8 a ha).1 (pairs_W8 a ha).2)⟩)
  have hz : zipL ((corners p).map WS) ((corners q).map WS) = ((corners p).zip (corners q)).map fun a => pr a.1 a.2 := zip_map (α := Nat) WS _ _ _ fun _ => rfl
  have e1 : lzipE (getv 15) (getv 16) ρ = some (.lst (((corners p).zip (corners q)).map fun a => pr a.1 a.2)) := by
    unfold lzipE
    rw [h15, h16]
    show (if (zipL ((corners p).map WS) ((corners q).map WS)).length ≤ 1000 then some (D.lst (zipL ((corners p).map WS) ((corners q).map WS))) else none) = _
    rw [hz, List.length_map, if_pos]
    have := zip_len (p := p) (q := q)
    omega
  have e2 : bin2 addF (getv 17) (lzipE (getv 15) (getv 16)) ρ = some (.lst ((pairs p q).map fun a => pr a.1 a.2)) := by
    refine (bin2_of h17 e1).trans ?_
    show (if ((faced p q).map fun c => pr c (7 - c)).length + (((corners p).zip (corners q)).map fun a => pr a.1 a.2).length ≤ 1000 then some (D.lst (((faced p q).map fun c => pr c (7 - c)) ++ (((corners p).zip (corners q)).map fun a => pr a.1 a.2))) else none) = _
    rw [List.length_map, List.length_map, if_pos]
    · unfold pairs
      rw [List.map_append, List.map_map]; rfl
    · have h1 := faced_len (p := p) (q := q)
      have h2 := zip_len (p := p) (q := q)
      omega
  refine (un1_of e2).trans ?_
  show (if ((pairs p q).map fun a => pr a.1 a.2).all isTup then some ((pairs p q).map fun a => pr a.1 a.2) else none) = _
  rw [if_pos]
  rw [List.all_map, List.all_eq_true]
  exact fun _ _ => rfl
noncomputable def distD : D := .tup [.int 0, .int 1, .int 1, .int 2, .int 1, .int 2, .int 2, .int 3]
theorem dist_tab : ∀ k ∈ W8, itmF distD (I k) = some (I (([0, 1, 1, 2, 1, 2, 2, 3] : List Nat).getD k 0)) := all_W8 rfl rfl rfl rfl rfl rfl rfl rfl
theorem dist7 : ∀ c ∈ W8, dist c (7 - c) = 3 := all_W8 rfl rfl rfl rfl rfl rfl rfl rfl
theorem spans_alt {p q : Nat → Bool} : (pairs p q).map (fun a => I (dist a.1 a.2)) = List.replicate (faced p q).length (.int 3) ++ ((corners p).zip (corners q)).map fun a => I (dist a.1 a.2) := by
  unfold pairs
  rw [List.map_append, List.map_map]
  congr 1
  have : ∀ l : List Nat, (∀ c ∈ l, c ∈ W8) → l.map ((fun a : Nat × Nat => I (dist a.1 a.2)) ∘ fun c => (c, 7 - c)) = List.replicate l.length (.int 3) := by
    intro l
    induction l with
    | nil => intro _; rfl
    | cons c l ih =>
      intro h
      rw [List.map_cons, ih fun d hd => h d (List.mem_cons_of_mem _ hd), List.length_cons, List.replicate_succ]
      show I (dist c (7 - c)) :: _ = _
      rw [dist7 c (h c List.mem_cons_self)]; rfl
  exact this _ faced_W8
theorem span_same {p q : Nat → Bool} : neF (spansD p q) (spansD p q) = some (.bool false) :=
  neF_same (mk := fun a : Nat × Nat => I (dist a.1 a.2)) (p := fun a => .int (Int.ofNat (dist a.1 a.2))) fun a _ => ⟨rfl, rfl, by show (Int.ofNat _ == Int.ofNat _) = true; exact beq_self_eq_true _⟩
theorem len_of {l : List D} (h : l.length ≤ 1000) : lenF [.lst l] = some (I l.length) := by
  show (if l.length ≤ 1000 then some (D.int (l.length : Nat)) else none) = _
  rw [if_pos h]; rfl
theorem mul3 {n : Nat} (h : n ≤ 1000) : mulF (.lst [.int 3]) (I n) = some (.lst (List.replicate n (.int 3))) := by
  show (if (decide ((0 : Int) ≤ Int.ofNat n) && decide (Int.ofNat n ≤ 1000)) = true then some (D.lst (List.replicate (Int.ofNat n).toNat (D.int 3))) else none) = _
  have h1 : (0 : Int) ≤ Int.ofNat n := Int.natCast_nonneg n
  have h2 : Int.ofNat n ≤ 1000 := Int.ofNat_le.mpr h
  rw [decide_eq_true h1, decide_eq_true h2]; rfl
theorem L23_eq {p q : Nat → Bool} {ρ : List D} (h18 : getv 18 ρ = some (spansD p q)) (h17 : getv 17 ρ = some (facedD p q)) (h8 : getv 8 ρ = some (nats (corners p))) (h9 : getv 9 ρ = some (nats (corners q))) : L23 ρ = some (.nxt ρ) := by
  have f1 := faced_len (p := p) (q := q)
  have z1 := zip_len (p := p) (q := q)
  refine pass_eq (cmpT_of ((bin2_of h18 (b := spansD p q) ((bin2_of (a := .lst (List.replicate (faced p q).length (.int 3))) (b := .lst (((corners p).zip (corners q)).map fun a => I (dist a.1 a.2))) ?_ ?_).trans ?_)).trans span_same))
  · refine (bin2_of (a := .lst [.int 3]) (b := I (faced p q).length) (by rfl) ((callE_of (ds := [facedD p q]) (consE_of h17 (by rfl))).trans ?_)).trans (mul3 (by omega))
    unfold facedD
    rw [len_of (by rw [List.length_map]; omega), List.length_map]
  · refine compF_all (α := Nat × Nat) (tk := some 2) (caps := []) (ρ := ρ) (mk := fun a => .tup [I a.1, I a.2]) (e := fun a => I (dist a.1 a.2)) (ts := fun a => [I a.1, I a.2]) (l := (corners p).zip (corners q)) (cs := []) ?_ (by omega) (by rfl) fun a ha => ⟨rfl, ?_⟩
    · unfold zipE
      rw [h8, h9]
      show some (zipL ((corners p).map I) ((corners q).map I)) = _
      rw [zip_map (α := Nat) I _ _ (fun a => .tup [I a.1, I a.2]) fun _ => rfl]
    · obtain ⟨h1, h2⟩ := List.of_mem_zip (show (a.1, a.2) ∈ _ from ha)
      obtain ⟨x1, x2⟩ := xor_tab (corners_W8 _ h1) (corners_W8 _ h2)
      refine (bin2_of (a := distD) (b := I (a.1 ^^^ a.2)) (by rfl) ((bin2_of (a := I a.1) (b := I a.2) (by rfl) (by rfl)).trans ?_)).trans (dist_tab _ x2)
      show some (D.int (Builtin.bitXor (Int.ofNat a.1) (Int.ofNat a.2))) = _
      rw [x1]; rfl
  · show (if (List.replicate (faced p q).length (D.int 3)).length + (((corners p).zip (corners q)).map fun a => I (dist a.1 a.2)).length ≤ 1000 then some (D.lst (List.replicate (faced p q).length (D.int 3) ++ (((corners p).zip (corners q)).map fun a => I (dist a.1 a.2)))) else none) = _
    rw [List.length_replicate, List.length_map, if_pos (by omega), ← spans_alt]; rfl

/-! the forms between strokes; the plain words -/
noncomputable def g24 (o : Option D) : Option Bool := cmpT neF (callE F_ellipsis_match (consE (fun _ => o) (consE (bin2 addF (bin2 addF (fun _ => some (D.str "-")) (un1 (replF "." "") (fun _ => o))) (fun _ => some (D.str "-"))) (fun _ => some [])))) (bin2 eqF (bin2 addF (bin2 itmF (fun _ => o) (fun _ => some (D.int 0))) (bin2 itmF (fun _ => o) (un1 negF (fun _ => some (D.int 1))))) (fun _ => some (D.str ".."))) []
theorem tab24 : (K27.all fun n => g24 (some (FS n)) == some false) = true := by decide +kernel
theorem L24_eq {p : Nat → Bool} {ρ : List D} (h10 : getv 10 ρ = some (.lst ((G p).map FS))) (hl : 19 < ρ.length) (hs : ρ.set 19 .undef = ρ) : ∃ x, L24 ρ = some (.nxt (ρ.set 19 x)) := by
  have key := forL_skip (j := 19) (ρ := ρ) (fb := (seqX (iteX (cmpT neF (callE F_ellipsis_match (consE (getv 19) (consE (bin2 addF (bin2 addF (fun _ => some (D.str "-")) (un1 (replF "." "") (getv 19))) (fun _ => some (D.str "-"))) (fun _ => some [])))) (bin2 eqF (bin2 addF (bin2 itmF (getv 19) (fun _ => some (D.int 0))) (bin2 itmF (getv 19) (un1 negF (fun _ => some (D.int 1))))) (fun _ => some (D.str "..")))) (seqX (retX none (fun _ => some (D.bool false)))
    (fun ρ => some (Out.nxt ρ))) (fun ρ => some (Out.nxt ρ))) (fun ρ => some (Out.nxt ρ)))) (l := (G p).map FS) (fun d hd => by
      obtain ⟨n, hn, rfl⟩ := List.mem_map.mp hd
      have hg : getv 19 (ρ.set 19 (FS n)) = some (FS n) := getv_of (List.getElem?_set_self hl) rfl
      have t : g24 (getv 19 (ρ.set 19 (FS n))) = some false := by rw [hg]; exact beq_iff_eq.mp (List.all_eq_true.mp tab24 n (G_mem n hn))
      refine (seqX_nxt (iteX_false ?_)).trans rfl
      exact t) .undef
  obtain ⟨x, hx⟩ := key
  rw [hs] at hx
  exact ⟨x, (forX_none ((un1_of h10).trans (by rfl))).trans hx⟩
noncomputable def g25 (o : Option D) : Option Bool := orT (un1 trB (callE F_ellipsis_match (consE (bin2 addF (bin2 addF (fun _ => o) (fun _ => some (D.str "..."))) (fun _ => o)) (consE (fun _ => o) (fun _ => some []))))) (orT (un1 trB (callE F_ellipsis_match (consE (bin2 addF (bin2 addF (bin2 addF (bin2 addF (fun _ => some (D.str "...")) (bin2 itmF (fun _ => o) (fun _ => some (D.int 2)))) (fun _ => some (D.str "..."))) (bin2 itmF (fun _ => o) (fun _ => some (D.int 0)))) (fun _ => some (D.str "..."))) (consE (fun _ => o) (fun _ => some []))))) (fun _ => some false)) []
theorem tab25 : (K27.all fun n => !(n / 8 == 7) || g25 (some (FS n)) == some false) = true := by decide +kernel
theorem L25_eq {p : Nat → Bool} {ρ : List D} (h12 : getv 12 ρ = some (kindsD p)) (hl : 20 < ρ.length) (hs : ρ.set 20 .undef = ρ) : ∃ x, L25 ρ = some (.nxt (ρ.set 20 x)) := by
  have key := forL_skip (j := 20) (ρ := ρ) (fb := (seqX (iteX (orT (un1 trB (callE F_ellipsis_match (consE (bin2 addF (bin2 addF (getv 20) (fun _ => some (D.str "..."))) (getv 20)) (consE (getv 20) (fun _ => some []))))) (orT (un1 trB (callE F_ellipsis_match (consE (bin2 addF (bin2 addF (bin2 addF (bin2 addF (fun _ => some (D.str "...")) (bin2 itmF (getv 20) (fun _ => some (D.int 2)))) (fun _ => some (D.str "..."))) (bin2 itmF (getv 20) (fun _ => some (D.int 0)))) (fun _ => some (D.str "..."))) (consE (getv 20) (fun _ => some []))))) (fun _ => some false))) (seqX (retX none (fun _ => some (D.bool false)))
    (fun ρ => some (Out.nxt ρ))) (fun ρ => some (Out.nxt ρ))) (fun ρ => some (Out.nxt ρ)))) (l := ((G p).filter fun n => n / 8 == 7).map FS) (fun d hd => by
      obtain ⟨n, hn, rfl⟩ := List.mem_map.mp hd
      obtain ⟨hn1, hn2⟩ := List.mem_filter.mp hn
      have hg : getv 20 (ρ.set 20 (FS n)) = some (FS n) := getv_of (List.getElem?_set_self hl) rfl
      have t : g25 (getv 20 (ρ.set 20 (FS n))) = some false := by
        rw [hg]
        have := List.all_eq_true.mp tab25 n (G_mem n hn1)
        rw [hn2] at this
        exact beq_iff_eq.mp this
      refine (seqX_nxt (iteX_false ?_)).trans rfl
      exact t) .undef
  obtain ⟨x, hx⟩ := key
  rw [hs] at hx
  exact ⟨x, (forX_none ((un1_of ((bin2_of h12 (b := I 7) (by rfl)).trans (itm_W8 7 (by decide)))).trans (by rfl))).trans hx⟩

/-! how many, and how heavy -/
theorem told_le (p q : Nat → Bool) : (told p q).length ≤ (faced q p).length := by
  refine Nat.le_trans (reimer7 p q) (Nat.le_of_eq ?_)
  have h1 := len_ind (fun x => p x && q (7 - x))
  have h2 := len_indL (fun c => q c && p (7 - c)) wheel
  have h3 : indL (fun c => q c && p (7 - c)) wheel = indL (fun c => p (7 - c) && q c) wheel := by
    congr 1
    funext c
    exact Bool.and_comm ..
  rw [h3] at h2
  simp only [indL, wheel, Nat.reduceSub] at h2
  simp only [Nat.reduceSub] at h1
  unfold faced wheel
  omega
theorem told_W8 {p q : Nat → Bool} : ∀ x ∈ told p q, x ∈ W8 := fun x hx => (List.mem_filter.mp hx).1
theorem told_len {p q : Nat → Bool} : (told p q).length ≤ 8 := List.length_filter_le _ W8
theorem L26_eq {p q : Nat → Bool} {ρ : List D} (h14 : getv 14 ρ = some (nats (told p q))) (h7 : getv 7 ρ = some spotsD) (h15 : getv 15 ρ = some (wds p)) (h16 : getv 16 ρ = some (wds q)) : L26 ρ = some (.nxt ρ) := by
  have t1 := told_len (p := p) (q := q)
  have f1 := faced_len (p := q) (q := p)
  refine pass_eq (cmpT_of ((bin2_of (a := I (told p q).length) (b := I (faced q p).length) ((callE_of (ds := [nats (told p q)]) (consE_of h14 (by rfl))).trans ?_) ((callE_of (ds := [facedD q p]) (consE_of (face_call h7 h16 h15) (by rfl))).trans ?_)).trans ?_))
  · unfold nats
    rw [len_of (by rw [List.length_map]; omega), List.length_map]
  · unfold facedD
    rw [len_of (by rw [List.length_map]; omega), List.length_map]
  · show some (D.bool (decide (Int.ofNat (faced q p).length < Int.ofNat (told p q).length))) = _
    rw [decide_eq_false]
    have := told_le p q
    exact Int.not_lt.mpr (Int.ofNat_le.mpr this)
theorem own_tab0 : (W8.all fun c => K27.contains (56 + c) && ((56 + c) / 8 == 7) && W8.all fun x => goes (56 + c) x == (x == c)) = true := by decide +kernel
theorem own_tab {c : Nat} (hc : c ∈ W8) : (56 + c) ∈ K27 ∧ (56 + c) / 8 = 7 ∧ ∀ x ∈ W8, goes (56 + c) x = (x == c) := by
  obtain ⟨h12, h3⟩ := Bool.and_eq_true_iff.mp (List.all_eq_true.mp own_tab0 c hc)
  obtain ⟨h1, h2⟩ := Bool.and_eq_true_iff.mp h12
  exact ⟨List.contains_iff_mem.mp h1, beq_iff_eq.mp h2, fun x hx => beq_iff_eq.mp (List.all_eq_true.mp h3 x hx)⟩
theorem cube_word {p : Nat → Bool} {c : Nat} (hc : c ∈ W8) : cube p (56 + c) = p c := by
  obtain ⟨_, _, h⟩ := own_tab hc
  unfold cube
  rw [Bool.eq_iff_iff, List.all_eq_true]
  constructor
  · intro k
    have := k c hc
    rw [h c hc, beq_self_eq_true] at this
    exact this
  · intro hp x hx
    rw [h x hx]
    cases hxc : x == c with
    | false => rfl
    | true => rw [beq_iff_eq.mp hxc, hp]; rfl
theorem own_eq {p : Nat → Bool} {j : Nat} {ρ : List D} (h6 : getv 6 ρ = some wordsD) (hj : getv j ρ = some (kindsD p)) :
    (compD none [6, j] (un1 itemsOf (callE rngF (consE (fun _ => some (D.int 8)) (fun _ => some [])))) (cmpT inF (bin2 itmF (getv 1) (getv 0)) (bin2 itmF (getv 2) (fun _ => some (D.int 7)))) (getv 0)) ρ = some ((W8.filter p).map I) := by
  refine compD_of (mk := I) (e := I) (ts := fun c => [I c]) (t := p) (l := W8) (cs := [wordsD, kindsD p]) range8 (by decide) (capD2 h6 hj) fun c hc => ⟨rfl, ?_, fun _ => rfl⟩
  obtain ⟨o1, o2, _⟩ := own_tab hc
  refine cmpT_of ((bin2_of (a := WS c) (b := kindOf (G p) 7) (word_at hc).2 ((bin2_of (a := kindsD p) (b := I 7) (by rfl) (by rfl)).trans (itm_W8 7 (by decide)))).trans ?_)
  show inF (FS (56 + c)) (kindOf (K27.filter (cube p)) 7) = _
  rw [in_kind o1 o2, cube_word hc]
theorem L27_eq {p : Nat → Bool} {ρ : List D} (h6 : getv 6 ρ = some wordsD) (h : getv 12 ρ = some (kindsD p)) : L27 ρ = some (.nxt (ρ.set 21 (nats (W8.filter p)))) := asgCompX_of (own_eq h6 h)
theorem L28_eq {p : Nat → Bool} {ρ : List D} (h6 : getv 6 ρ = some wordsD) (h : getv 13 ρ = some (kindsD p)) : L28 ρ = some (.nxt (ρ.set 22 (nats (W8.filter p)))) := asgCompX_of (own_eq h6 h)

theorem six {Z : List Int} (h : 6 ≤ Z.length) : ∃ a b c d e f r, Z = a :: b :: c :: d :: e :: f :: r := by
  match Z, h with
  | a :: b :: c :: d :: e :: f :: r, _ => exact ⟨a, b, c, d, e, f, r, rfl⟩
theorem sbs6 : ((List.range 70).all fun n => decide (n < 6) || sbs none (some 6) none n == [0, 1, 2, 3, 4, 5]) = true := by decide +kernel
noncomputable def load (z : Int) : Int := 1 + z.fmod 1000
theorem load_ok (z : Int) : 1 ≤ load z ∧ load z ≤ 1000 := by
  have h1 := Int.fmod_nonneg_of_pos z (show (0 : Int) < 1000 by decide)
  have h2 := Int.fmod_lt_of_pos z (show (0 : Int) < 1000 by decide)
  unfold load
  omega
theorem L29_eq {l : List Int} (hl : l.length ≤ 63) {ρ : List D} (h1 : getv 1 ρ = some (.lst (l.map D.int))) : ∃ w : Ld, w.Ok ∧ L29 ρ = some (.nxt (ρ.set 23 w.d)) := by
  have hZ : (l ++ [0, 1, 2, 3, 4, 5]).length = l.length + 6 := by rw [List.length_append]; rfl
  obtain ⟨a, b, c, d, e, f, r, hz⟩ := six (Z := l ++ [0, 1, 2, 3, 4, 5]) (by omega)
  refine ⟨⟨load a, load b, load c, load d, load e, load f⟩, ⟨fun i hi => ?_⟩, asgCompX_of (ys := [a, b, c, d, e, f].map fun z => .int (load z)) ?_⟩
  · simp only [Ld.list, List.mem_cons, List.not_mem_nil, or_false] at hi
    rcases hi with rfl | rfl | rfl | rfl | rfl | rfl <;> exact load_ok _
  · refine compD_all (mk := D.int) (e := fun z => .int (load z)) (ts := fun z => [.int z]) (l := [a, b, c, d, e, f]) (cs := []) ?_ (Nat.le_of_ble_eq_true rfl) (by rfl) fun z _ => ⟨rfl, rfl⟩
    refine (un1_of (a := .lst ([a, b, c, d, e, f].map D.int)) ((bin2_of (a := .lst ((l ++ [0, 1, 2, 3, 4, 5]).map D.int)) (b := .slc none (some 6) none) ((bin2_of (b := .lst ([0, 1, 2, 3, 4, 5].map D.int)) h1 (by rfl)).trans ?_) (by rfl)).trans ((slc_map (by decide) (by omega)).trans ?_))).trans rfl
    · show (if (l.map D.int).length + ([0, 1, 2, 3, 4, 5].map D.int).length ≤ 1000 then some (D.lst (l.map D.int ++ [0, 1, 2, 3, 4, 5].map D.int)) else none) = _
      rw [List.length_map, if_pos (by simp only [List.length_map, List.length_cons, List.length_nil]; omega), List.map_append]
    · have h6 := List.all_eq_true.mp sbs6 (l.length + 6) (List.mem_range.mpr (by omega))
      rw [decide_eq_false (by omega), Bool.false_or] at h6
      rw [hZ, beq_iff_eq.mp h6, hz]; rfl
theorem L30_eq {p q : Nat → Bool} {w : Ld} (hw : w.Ok) {ρ : List D} (h23 : getv 23 ρ = some w.d) (h14 : getv 14 ρ = some (nats (told p q))) (h21 : getv 21 ρ = some (nats (W8.filter p))) (h22 : getv 22 ρ = some (nats (W8.filter q))) : L30 ρ = some (.ret (.bool true)) := by
  have fp : ∀ f : Nat → Bool, (W8.filter f).length ≤ 8 := fun f => List.length_filter_le f W8
  have wcall : ∀ {i : Nat} {l : List Nat}, getv i ρ = some (nats l) → (∀ x ∈ l, x ∈ W8) → callE F_law_weight (consE (getv 23) (consE (getv i) (fun _ => some []))) ρ = some (.int (w.sum l)) := fun {i l} hi hl =>
    (callE_of (ds := [w.d, nats l]) (consE_of h23 (consE_of hi (by rfl)))).trans (weight_eq hw hl (by rfl))
  have w8 : callE F_law_weight (consE (getv 23) (consE (callE rngF (consE (fun _ => some (D.int 8)) (fun _ => some []))) (fun _ => some []))) ρ = some (.int (w.sum W8)) :=
    (callE_of (ds := [w.d, .rng 8]) (consE_of h23 (consE_of (by rfl) (by rfl)))).trans (weight_eq hw (l := W8) (fun _ h => h) (by rfl))
  have mul : ∀ (l : List Nat) (y : Int), l.length ≤ 8 → mulF (.int (w.sum l)) (.int y) = some (.int (w.sum l * y)) := fun l y hl => by
    obtain ⟨b1, b2⟩ := hw.sum l
    show (if (bnd (w.sum l) || bnd y) = true then some (D.int (w.sum l * y)) else none) = _
    rw [bnd_small b1 (by omega), Bool.true_or, if_pos rfl]
  refine retX_of ((bin2_of (a := .int (w.sum (told p q) * w.sum W8)) (b := .int (w.sum (W8.filter p) * w.sum (W8.filter q))) ((bin2_of (wcall h14 told_W8) w8).trans (mul _ _ told_len)) ((bin2_of (wcall h21 fun x hx => (List.mem_filter.mp hx).1) (wcall h22 fun x hx => (List.mem_filter.mp hx).1)).trans (mul _ _ (fp p)))).trans ?_)
  show some (D.bool (decide (w.sum (told p q) * w.sum W8 ≤ w.sum (W8.filter p) * w.sum (W8.filter q)))) = _
  rw [decide_eq_true (bk p q hw)]
end Mine

/-! UP13 -/
namespace Mine

theorem sbs63 : ((List.range 64).all fun n => (sbs none (some 63) none n).length == n) = true := by decide +kernel
theorem law_plain : Law := by
  intro xs hxs
  have hd := slc_map (l := xs) (lo := none) (hi := some 63) (st := none) (by decide) (by omega)
  generalize hy : (sbs none (some 63) none xs.length).filterMap (xs[·]?) = ys at hd
  have hys : ys.length ≤ 63 := by
    have h1 := List.length_filterMap_le (xs[·]?) (sbs none (some 63) none xs.length)
    rw [hy, beq_iff_eq.mp (List.all_eq_true.mp sbs63 xs.length (List.mem_range.mpr (by omega)))] at h1
    omega
  refine ⟨_, hd, ?_⟩
  obtain ⟨n2, e2⟩ := L2_eq (l := ys) (by omega) (ρ := [D.lst (xs.map D.int), D.lst (ys.map D.int), .undef, .undef, .undef, .undef, .undef, .undef, .undef, .undef, .undef, .undef, .undef, .undef, .undef, .undef, .undef, .undef, .undef, .undef, .undef, .undef, .undef, .undef]) (by rfl)
  have s2 : L2 [D.lst (xs.map D.int), D.lst (ys.map D.int), .undef, .undef, .undef, .undef, .undef, .undef, .undef, .undef, .undef, .undef, .undef, .undef, .undef, .undef, .undef, .undef, .undef, .undef, .undef, .undef, .undef, .undef] = some (.nxt [D.lst (xs.map D.int), D.lst (ys.map D.int), .int n2, .undef, .undef, .undef, .undef, .undef, .undef, .undef, .undef, .undef, .undef, .undef, .undef, .undef, .undef, .undef, .undef, .undef, .undef, .undef, .undef, .undef]) := e2
  obtain ⟨n3, e3⟩ := L3_eq (l := ys) (by omega) (ρ := [D.lst (xs.map D.int), D.lst (ys.map D.int), .int n2, .undef, .undef, .undef, .undef, .undef, .undef, .undef, .undef, .undef, .undef, .undef, .undef, .undef, .undef, .undef, .undef, .undef, .undef, .undef, .undef, .undef]) (by rfl)
  have s3 : L3 [D.lst (xs.map D.int), D.lst (ys.map D.int), .int n2, .undef, .undef, .undef, .undef, .undef, .undef, .undef, .undef, .undef, .undef, .undef, .undef, .undef, .undef, .undef, .undef, .undef, .undef, .undef, .undef, .undef] = some (.nxt [D.lst (xs.map D.int), D.lst (ys.map D.int), .int n2, .int n3, .undef, .undef, .undef, .undef, .undef, .undef, .undef, .undef, .undef, .undef, .undef, .undef, .undef, .undef, .undef, .undef, .undef, .undef, .undef, .undef]) := e3
  have s4 : L4 [D.lst (xs.map D.int), D.lst (ys.map D.int), .int n2, .int n3, .undef, .undef, .undef, .undef, .undef, .undef, .undef, .undef, .undef, .undef, .undef, .undef, .undef, .undef, .undef, .undef, .undef, .undef, .undef, .undef] = some (.nxt [D.lst (xs.map D.int), D.lst (ys.map D.int), .int n2, .int n3, wheelD, .undef, .undef, .undef, .undef, .undef, .undef, .undef, .undef, .undef, .undef, .undef, .undef, .undef, .undef, .undef, .undef, .undef, .undef, .undef]) := L4_eq
  have s5 : L5 [D.lst (xs.map D.int), D.lst (ys.map D.int), .int n2, .int n3, wheelD, .undef, .undef, .undef, .undef, .undef, .undef, .undef, .undef, .undef, .undef, .undef, .undef, .undef, .undef, .undef, .undef, .undef, .undef, .undef] = some (.nxt [D.lst (xs.map D.int), D.lst (ys.map D.int), .int n2, .int n3, wheelD, shapesD, .undef, .undef, .undef, .undef, .undef, .undef, .undef, .undef, .undef, .undef, .undef, .undef, .undef, .undef, .undef, .undef, .undef, .undef]) := L5_eq
  have s6 : L6 [D.lst (xs.map D.int), D.lst (ys.map D.int), .int n2, .int n3, wheelD, shapesD, .undef, .undef, .undef, .undef, .undef, .undef, .undef, .undef, .undef, .undef, .undef, .undef, .undef, .undef, .undef, .undef, .undef, .undef] = some (.nxt [D.lst (xs.map D.int), D.lst (ys.map D.int), .int n2, .int n3, wheelD, shapesD, wordsD, .undef, .undef, .undef, .undef, .undef, .undef, .undef, .undef, .undef, .undef, .undef, .undef, .undef, .undef, .undef, .undef, .undef]) := L6_eq (by rfl)
  have s7 : L7 [D.lst (xs.map D.int), D.lst (ys.map D.int), .int n2, .int n3, wheelD, shapesD, wordsD, .undef, .undef, .undef, .undef, .undef, .undef, .undef, .undef, .undef, .undef, .undef, .undef, .undef, .undef, .undef, .undef, .undef] = some (.nxt [D.lst (xs.map D.int), D.lst (ys.map D.int), .int n2, .int n3, wheelD, shapesD, wordsD, spotsD, .undef, .undef, .undef, .undef, .undef, .undef, .undef, .undef, .undef, .undef, .undef, .undef, .undef, .undef, .undef, .undef]) := L7_eq
  have s8 : L8 [D.lst (xs.map D.int), D.lst (ys.map D.int), .int n2, .int n3, wheelD, shapesD, wordsD, spotsD, .undef, .undef, .undef, .undef, .undef, .undef, .undef, .undef, .undef, .undef, .undef, .undef, .undef, .undef, .undef, .undef] = some (.nxt [D.lst (xs.map D.int), D.lst (ys.map D.int), .int n2, .int n3, wheelD, shapesD, wordsD, spotsD, .undef, .undef, .undef, .undef, .undef, .undef, .undef, .undef, .undef, .undef, .undef, .undef, .undef, .undef, .undef, .undef]) := L8_eq (by rfl) (by rfl) (by rfl)
  have s9 : L9 [D.lst (xs.map D.int), D.lst (ys.map D.int), .int n2, .int n3, wheelD, shapesD, wordsD, spotsD, .undef, .undef, .undef, .undef, .undef, .undef, .undef, .undef, .undef, .undef, .undef, .undef, .undef, .undef, .undef, .undef] = some (.nxt [D.lst (xs.map D.int), D.lst (ys.map D.int), .int n2, .int n3, wheelD, shapesD, wordsD, spotsD, nats (corners (inW n2)), .undef, .undef, .undef, .undef, .undef, .undef, .undef, .undef, .undef, .undef, .undef, .undef, .undef, .undef, .undef]) := L9_eq (by rfl) (by rfl)
  have s10 : L10 [D.lst (xs.map D.int), D.lst (ys.map D.int), .int n2, .int n3, wheelD, shapesD, wordsD, spotsD, nats (corners (inW n2)), .undef, .undef, .undef, .undef, .undef, .undef, .undef, .undef, .undef, .undef, .undef, .undef, .undef, .undef, .undef] = some (.nxt [D.lst (xs.map D.int), D.lst (ys.map D.int), .int n2, .int n3, wheelD, shapesD, wordsD, spotsD, nats (corners (inW n2)), nats (corners (inW n3)), .undef, .undef, .undef, .undef, .undef, .undef, .undef, .undef, .undef, .undef, .undef, .undef, .undef, .undef]) := L10_eq (by rfl) (by rfl)
  have s11 : L11 [D.lst (xs.map D.int), D.lst (ys.map D.int), .int n2, .int n3, wheelD, shapesD, wordsD, spotsD, nats (corners (inW n2)), nats (corners (inW n3)), .undef, .undef, .undef, .undef, .undef, .undef, .undef, .undef, .undef, .undef, .undef, .undef, .undef, .undef] = some (.nxt [D.lst (xs.map D.int), D.lst (ys.map D.int), .int n2, .int n3, wheelD, shapesD, wordsD, spotsD, nats (corners (inW n2)), nats (corners (inW n3)), .lst ((G (inW n2)).map FS), .undef, .undef, .undef, .undef, .undef, .undef, .undef, .undef, .undef, .undef, .undef, .undef, .undef]) := L11_eq (by rfl) (by rfl) (by rfl)
  have s12 : L12 [D.lst (xs.map D.int), D.lst (ys.map D.int), .int n2, .int n3, wheelD, shapesD, wordsD, spotsD, nats (corners (inW n2)), nats (corners (inW n3)), .lst ((G (inW n2)).map FS), .undef, .undef, .undef, .undef, .undef, .undef, .undef, .undef, .undef, .undef, .undef, .undef, .undef] = some (.nxt [D.lst (xs.map D.int), D.lst (ys.map D.int), .int n2, .int n3, wheelD, shapesD, wordsD, spotsD, nats (corners (inW n2)), nats (corners (inW n3)), .lst ((G (inW n2)).map FS), .lst ((G (inW n3)).map FS), .undef, .undef, .undef, .undef, .undef, .undef, .undef, .undef, .undef, .undef, .undef, .undef]) := L12_eq (by rfl) (by rfl) (by rfl)
  have s13 : L13 [D.lst (xs.map D.int), D.lst (ys.map D.int), .int n2, .int n3, wheelD, shapesD, wordsD, spotsD, nats (corners (inW n2)), nats (corners (inW n3)), .lst ((G (inW n2)).map FS), .lst ((G (inW n3)).map FS), .undef, .undef, .undef, .undef, .undef, .undef, .undef, .undef, .undef, .undef, .undef, .undef] = some (.nxt [D.lst (xs.map D.int), D.lst (ys.map D.int), .int n2, .int n3, wheelD, shapesD, wordsD, spotsD, nats (corners (inW n2)), nats (corners (inW n3)), .lst ((G (inW n2)).map FS), .lst ((G (inW n3)).map FS), kindsD (inW n2), .undef, .undef, .undef, .undef, .undef, .undef, .undef, .undef, .undef, .undef, .undef]) := L13_eq (by rfl)
  have s14 : L14 [D.lst (xs.map D.int), D.lst (ys.map D.int), .int n2, .int n3, wheelD, shapesD, wordsD, spotsD, nats (corners (inW n2)), nats (corners (inW n3)), .lst ((G (inW n2)).map FS), .lst ((G (inW n3)).map FS), kindsD (inW n2), .undef, .undef, .undef, .undef, .undef, .undef, .undef, .undef, .undef, .undef, .undef] = some (.nxt [D.lst (xs.map D.int), D.lst (ys.map D.int), .int n2, .int n3, wheelD, shapesD, wordsD, spotsD, nats (corners (inW n2)), nats (corners (inW n3)), .lst ((G (inW n2)).map FS), .lst ((G (inW n3)).map FS), kindsD (inW n2), kindsD (inW n3), .undef, .undef, .undef, .undef, .undef, .undef, .undef, .undef, .undef, .undef]) := L14_eq (by rfl)
  have s15 : L15 [D.lst (xs.map D.int), D.lst (ys.map D.int), .int n2, .int n3, wheelD, shapesD, wordsD, spotsD, nats (corners (inW n2)), nats (corners (inW n3)), .lst ((G (inW n2)).map FS), .lst ((G (inW n3)).map FS), kindsD (inW n2), kindsD (inW n3), .undef, .undef, .undef, .undef, .undef, .undef, .undef, .undef, .undef, .undef] = some (.nxt [D.lst (xs.map D.int), D.lst (ys.map D.int), .int n2, .int n3, wheelD, shapesD, wordsD, spotsD, nats (corners (inW n2)), nats (corners (inW n3)), .lst ((G (inW n2)).map FS), .lst ((G (inW n3)).map FS), kindsD (inW n2), kindsD (inW n3), .undef, .undef, .undef, .undef, .undef, .undef, .undef, .undef, .undef, .undef]) := L15_eq (p := inW n2) (q := inW n3) (by rfl) (by rfl) (by rfl) (by rfl)
  have s16 : L16 [D.lst (xs.map D.int), D.lst (ys.map D.int), .int n2, .int n3, wheelD, shapesD, wordsD, spotsD, nats (corners (inW n2)), nats (corners (inW n3)), .lst ((G (inW n2)).map FS), .lst ((G (inW n3)).map FS), kindsD (inW n2), kindsD (inW n3), .undef, .undef, .undef, .undef, .undef, .undef, .undef, .undef, .undef, .undef] = some (.nxt [D.lst (xs.map D.int), D.lst (ys.map D.int), .int n2, .int n3, wheelD, shapesD, wordsD, spotsD, nats (corners (inW n2)), nats (corners (inW n3)), .lst ((G (inW n2)).map FS), .lst ((G (inW n3)).map FS), kindsD (inW n2), kindsD (inW n3), nats (told (inW n2) (inW n3)), .undef, .undef, .undef, .undef, .undef, .undef, .undef, .undef, .undef]) := L16_eq (by rfl) (by rfl) (by rfl)
  have s17 : L17 [D.lst (xs.map D.int), D.lst (ys.map D.int), .int n2, .int n3, wheelD, shapesD, wordsD, spotsD, nats (corners (inW n2)), nats (corners (inW n3)), .lst ((G (inW n2)).map FS), .lst ((G (inW n3)).map FS), kindsD (inW n2), kindsD (inW n3), nats (told (inW n2) (inW n3)), .undef, .undef, .undef, .undef, .undef, .undef, .undef, .undef, .undef] = some (.nxt [D.lst (xs.map D.int), D.lst (ys.map D.int), .int n2, .int n3, wheelD, shapesD, wordsD, spotsD, nats (corners (inW n2)), nats (corners (inW n3)), .lst ((G (inW n2)).map FS), .lst ((G (inW n3)).map FS), kindsD (inW n2), kindsD (inW n3), nats (told (inW n2) (inW n3)), .undef, .undef, .undef, .undef, .undef, .undef, .undef, .undef, .undef]) := L17_eq (p := inW n2) (q := inW n3) (by rfl) (by rfl) (by rfl)
  have s18 : L18 [D.lst (xs.map D.int), D.lst (ys.map D.int), .int n2, .int n3, wheelD, shapesD, wordsD, spotsD, nats (corners (inW n2)), nats (corners (inW n3)), .lst ((G (inW n2)).map FS), .lst ((G (inW n3)).map FS), kindsD (inW n2), kindsD (inW n3), nats (told (inW n2) (inW n3)), .undef, .undef, .undef, .undef, .undef, .undef, .undef, .undef, .undef] = some (.nxt [D.lst (xs.map D.int), D.lst (ys.map D.int), .int n2, .int n3, wheelD, shapesD, wordsD, spotsD, nats (corners (inW n2)), nats (corners (inW n3)), .lst ((G (inW n2)).map FS), .lst ((G (inW n3)).map FS), kindsD (inW n2), kindsD (inW n3), nats (told (inW n2) (inW n3)), wds (inW n2), .undef, .undef, .undef, .undef, .undef, .undef, .undef, .undef]) := L18_eq (by rfl) (by rfl)
  have s19 : L19 [D.lst (xs.map D.int), D.lst (ys.map D.int), .int n2, .int n3, wheelD, shapesD, wordsD, spotsD, nats (corners (inW n2)), nats (corners (inW n3)), .lst ((G (inW n2)).map FS), .lst ((G (inW n3)).map FS), kindsD (inW n2), kindsD (inW n3), nats (told (inW n2) (inW n3)), wds (inW n2), .undef, .undef, .undef, .undef, .undef, .undef, .undef, .undef] = some (.nxt [D.lst (xs.map D.int), D.lst (ys.map D.int), .int n2, .int n3, wheelD, shapesD, wordsD, spotsD, nats (corners (inW n2)), nats (corners (inW n3)), .lst ((G (inW n2)).map FS), .lst ((G (inW n3)).map FS), kindsD (inW n2), kindsD (inW n3), nats (told (inW n2) (inW n3)), wds (inW n2), wds (inW n3), .undef, .undef, .undef, .undef, .undef, .undef, .undef]) := L19_eq (by rfl) (by rfl)
  have s20 : L20 [D.lst (xs.map D.int), D.lst (ys.map D.int), .int n2, .int n3, wheelD, shapesD, wordsD, spotsD, nats (corners (inW n2)), nats (corners (inW n3)), .lst ((G (inW n2)).map FS), .lst ((G (inW n3)).map FS), kindsD (inW n2), kindsD (inW n3), nats (told (inW n2) (inW n3)), wds (inW n2), wds (inW n3), .undef, .undef, .undef, .undef, .undef, .undef, .undef] = some (.nxt [D.lst (xs.map D.int), D.lst (ys.map D.int), .int n2, .int n3, wheelD, shapesD, wordsD, spotsD, nats (corners (inW n2)), nats (corners (inW n3)), .lst ((G (inW n2)).map FS), .lst ((G (inW n3)).map FS), kindsD (inW n2), kindsD (inW n3), nats (told (inW n2) (inW n3)), wds (inW n2), wds (inW n3), facedD (inW n2) (inW n3), .undef, .undef, .undef, .undef, .undef, .undef]) := L20_eq (by rfl) (by rfl) (by rfl)
  have s21 : L21 [D.lst (xs.map D.int), D.lst (ys.map D.int), .int n2, .int n3, wheelD, shapesD, wordsD, spotsD, nats (corners (inW n2)), nats (corners (inW n3)), .lst ((G (inW n2)).map FS), .lst ((G (inW n3)).map FS), kindsD (inW n2), kindsD (inW n3), nats (told (inW n2) (inW n3)), wds (inW n2), wds (inW n3), facedD (inW n2) (inW n3), .undef, .undef, .undef, .undef, .undef, .undef] = some (.nxt [D.lst (xs.map D.int), D.lst (ys.map D.int), .int n2, .int n3, wheelD, shapesD, wordsD, spotsD, nats (corners (inW n2)), nats (corners (inW n3)), .lst ((G (inW n2)).map FS), .lst ((G (inW n3)).map FS), kindsD (inW n2), kindsD (inW n3), nats (told (inW n2) (inW n3)), wds (inW n2), wds (inW n3), facedD (inW n2) (inW n3), .undef, .undef, .undef, .undef, .undef, .undef]) := L21_eq (p := inW n2) (q := inW n3) (by rfl) (by rfl) (by rfl) (by rfl)
  have s22 : L22 [D.lst (xs.map D.int), D.lst (ys.map D.int), .int n2, .int n3, wheelD, shapesD, wordsD, spotsD, nats (corners (inW n2)), nats (corners (inW n3)), .lst ((G (inW n2)).map FS), .lst ((G (inW n3)).map FS), kindsD (inW n2), kindsD (inW n3), nats (told (inW n2) (inW n3)), wds (inW n2), wds (inW n3), facedD (inW n2) (inW n3), .undef, .undef, .undef, .undef, .undef, .undef] = some (.nxt [D.lst (xs.map D.int), D.lst (ys.map D.int), .int n2, .int n3, wheelD, shapesD, wordsD, spotsD, nats (corners (inW n2)), nats (corners (inW n3)), .lst ((G (inW n2)).map FS), .lst ((G (inW n3)).map FS), kindsD (inW n2), kindsD (inW n3), nats (told (inW n2) (inW n3)), wds (inW n2), wds (inW n3), facedD (inW n2) (inW n3), spansD (inW n2) (inW n3), .undef, .undef, .undef, .undef, .undef]) := L22_eq (by rfl) (by rfl) (by rfl)
  have s23 : L23 [D.lst (xs.map D.int), D.lst (ys.map D.int), .int n2, .int n3, wheelD, shapesD, wordsD, spotsD, nats (corners (inW n2)), nats (corners (inW n3)), .lst ((G (inW n2)).map FS), .lst ((G (inW n3)).map FS), kindsD (inW n2), kindsD (inW n3), nats (told (inW n2) (inW n3)), wds (inW n2), wds (inW n3), facedD (inW n2) (inW n3), spansD (inW n2) (inW n3), .undef, .undef, .undef, .undef, .undef] = some (.nxt [D.lst (xs.map D.int), D.lst (ys.map D.int), .int n2, .int n3, wheelD, shapesD, wordsD, spotsD, nats (corners (inW n2)), nats (corners (inW n3)), .lst ((G (inW n2)).map FS), .lst ((G (inW n3)).map FS), kindsD (inW n2), kindsD (inW n3), nats (told (inW n2) (inW n3)), wds (inW n2), wds (inW n3), facedD (inW n2) (inW n3), spansD (inW n2) (inW n3), .undef, .undef, .undef, .undef, .undef]) := L23_eq (p := inW n2) (q := inW n3) (by rfl) (by rfl) (by rfl) (by rfl)
  obtain ⟨x19, e24⟩ := L24_eq (p := inW n2) (ρ := [D.lst (xs.map D.int), D.lst (ys.map D.int), .int n2, .int n3, wheelD, shapesD, wordsD, spotsD, nats (corners (inW n2)), nats (corners (inW n3)), .lst ((G (inW n2)).map FS), .lst ((G (inW n3)).map FS), kindsD (inW n2), kindsD (inW n3), nats (told (inW n2) (inW n3)), wds (inW n2), wds (inW n3), facedD (inW n2) (inW n3), spansD (inW n2) (inW n3), .undef, .undef, .undef, .undef, .undef]) (by rfl) (Nat.le_of_ble_eq_true rfl) (by rfl)
  have s24 : L24 [D.lst (xs.map D.int), D.lst (ys.map D.int), .int n2, .int n3, wheelD, shapesD, wordsD, spotsD, nats (corners (inW n2)), nats (corners (inW n3)), .lst ((G (inW n2)).map FS), .lst ((G (inW n3)).map FS), kindsD (inW n2), kindsD (inW n3), nats (told (inW n2) (inW n3)), wds (inW n2), wds (inW n3), facedD (inW n2) (inW n3), spansD (inW n2) (inW n3), .undef, .undef, .undef, .undef, .undef] = some (.nxt [D.lst (xs.map D.int), D.lst (ys.map D.int), .int n2, .int n3, wheelD, shapesD, wordsD, spotsD, nats (corners (inW n2)), nats (corners (inW n3)), .lst ((G (inW n2)).map FS), .lst ((G (inW n3)).map FS), kindsD (inW n2), kindsD (inW n3), nats (told (inW n2) (inW n3)), wds (inW n2), wds (inW n3), facedD (inW n2) (inW n3), spansD (inW n2) (inW n3), x19, .undef, .undef, .undef, .undef]) := e24
  obtain ⟨x20, e25⟩ := L25_eq (p := inW n2) (ρ := [D.lst (xs.map D.int), D.lst (ys.map D.int), .int n2, .int n3, wheelD, shapesD, wordsD, spotsD, nats (corners (inW n2)), nats (corners (inW n3)), .lst ((G (inW n2)).map FS), .lst ((G (inW n3)).map FS), kindsD (inW n2), kindsD (inW n3), nats (told (inW n2) (inW n3)), wds (inW n2), wds (inW n3), facedD (inW n2) (inW n3), spansD (inW n2) (inW n3), x19, .undef, .undef, .undef, .undef]) (by rfl) (Nat.le_of_ble_eq_true rfl) (by rfl)
  have s25 : L25 [D.lst (xs.map D.int), D.lst (ys.map D.int), .int n2, .int n3, wheelD, shapesD, wordsD, spotsD, nats (corners (inW n2)), nats (corners (inW n3)), .lst ((G (inW n2)).map FS), .lst ((G (inW n3)).map FS), kindsD (inW n2), kindsD (inW n3), nats (told (inW n2) (inW n3)), wds (inW n2), wds (inW n3), facedD (inW n2) (inW n3), spansD (inW n2) (inW n3), x19, .undef, .undef, .undef, .undef] = some (.nxt [D.lst (xs.map D.int), D.lst (ys.map D.int), .int n2, .int n3, wheelD, shapesD, wordsD, spotsD, nats (corners (inW n2)), nats (corners (inW n3)), .lst ((G (inW n2)).map FS), .lst ((G (inW n3)).map FS), kindsD (inW n2), kindsD (inW n3), nats (told (inW n2) (inW n3)), wds (inW n2), wds (inW n3), facedD (inW n2) (inW n3), spansD (inW n2) (inW n3), x19, x20, .undef, .undef, .undef]) := e25
  have s26 : L26 [D.lst (xs.map D.int), D.lst (ys.map D.int), .int n2, .int n3, wheelD, shapesD, wordsD, spotsD, nats (corners (inW n2)), nats (corners (inW n3)), .lst ((G (inW n2)).map FS), .lst ((G (inW n3)).map FS), kindsD (inW n2), kindsD (inW n3), nats (told (inW n2) (inW n3)), wds (inW n2), wds (inW n3), facedD (inW n2) (inW n3), spansD (inW n2) (inW n3), x19, x20, .undef, .undef, .undef] = some (.nxt [D.lst (xs.map D.int), D.lst (ys.map D.int), .int n2, .int n3, wheelD, shapesD, wordsD, spotsD, nats (corners (inW n2)), nats (corners (inW n3)), .lst ((G (inW n2)).map FS), .lst ((G (inW n3)).map FS), kindsD (inW n2), kindsD (inW n3), nats (told (inW n2) (inW n3)), wds (inW n2), wds (inW n3), facedD (inW n2) (inW n3), spansD (inW n2) (inW n3), x19, x20, .undef, .undef, .undef]) := L26_eq (p := inW n2) (q := inW n3) (by rfl) (by rfl) (by rfl) (by rfl)
  have s27 : L27 [D.lst (xs.map D.int), D.lst (ys.map D.int), .int n2, .int n3, wheelD, shapesD, wordsD, spotsD, nats (corners (inW n2)), nats (corners (inW n3)), .lst ((G (inW n2)).map FS), .lst ((G (inW n3)).map FS), kindsD (inW n2), kindsD (inW n3), nats (told (inW n2) (inW n3)), wds (inW n2), wds (inW n3), facedD (inW n2) (inW n3), spansD (inW n2) (inW n3), x19, x20, .undef, .undef, .undef] = some (.nxt [D.lst (xs.map D.int), D.lst (ys.map D.int), .int n2, .int n3, wheelD, shapesD, wordsD, spotsD, nats (corners (inW n2)), nats (corners (inW n3)), .lst ((G (inW n2)).map FS), .lst ((G (inW n3)).map FS), kindsD (inW n2), kindsD (inW n3), nats (told (inW n2) (inW n3)), wds (inW n2), wds (inW n3), facedD (inW n2) (inW n3), spansD (inW n2) (inW n3), x19, x20, nats (W8.filter (inW n2)), .undef, .undef]) := L27_eq (by rfl) (by rfl)
  have s28 : L28 [D.lst (xs.map D.int), D.lst (ys.map D.int), .int n2, .int n3, wheelD, shapesD, wordsD, spotsD, nats (corners (inW n2)), nats (corners (inW n3)), .lst ((G (inW n2)).map FS), .lst ((G (inW n3)).map FS), kindsD (inW n2), kindsD (inW n3), nats (told (inW n2) (inW n3)), wds (inW n2), wds (inW n3), facedD (inW n2) (inW n3), spansD (inW n2) (inW n3), x19, x20, nats (W8.filter (inW n2)), .undef, .undef] = some (.nxt [D.lst (xs.map D.int), D.lst (ys.map D.int), .int n2, .int n3, wheelD, shapesD, wordsD, spotsD, nats (corners (inW n2)), nats (corners (inW n3)), .lst ((G (inW n2)).map FS), .lst ((G (inW n3)).map FS), kindsD (inW n2), kindsD (inW n3), nats (told (inW n2) (inW n3)), wds (inW n2), wds (inW n3), facedD (inW n2) (inW n3), spansD (inW n2) (inW n3), x19, x20, nats (W8.filter (inW n2)), nats (W8.filter (inW n3)), .undef]) := L28_eq (by rfl) (by rfl)
  obtain ⟨w, hw, e29⟩ := L29_eq (l := ys) (by omega) (ρ := [D.lst (xs.map D.int), D.lst (ys.map D.int), .int n2, .int n3, wheelD, shapesD, wordsD, spotsD, nats (corners (inW n2)), nats (corners (inW n3)), .lst ((G (inW n2)).map FS), .lst ((G (inW n3)).map FS), kindsD (inW n2), kindsD (inW n3), nats (told (inW n2) (inW n3)), wds (inW n2), wds (inW n3), facedD (inW n2) (inW n3), spansD (inW n2) (inW n3), x19, x20, nats (W8.filter (inW n2)), nats (W8.filter (inW n3)), .undef]) (by rfl)
  have s29 : L29 [D.lst (xs.map D.int), D.lst (ys.map D.int), .int n2, .int n3, wheelD, shapesD, wordsD, spotsD, nats (corners (inW n2)), nats (corners (inW n3)), .lst ((G (inW n2)).map FS), .lst ((G (inW n3)).map FS), kindsD (inW n2), kindsD (inW n3), nats (told (inW n2) (inW n3)), wds (inW n2), wds (inW n3), facedD (inW n2) (inW n3), spansD (inW n2) (inW n3), x19, x20, nats (W8.filter (inW n2)), nats (W8.filter (inW n3)), .undef] = some (.nxt [D.lst (xs.map D.int), D.lst (ys.map D.int), .int n2, .int n3, wheelD, shapesD, wordsD, spotsD, nats (corners (inW n2)), nats (corners (inW n3)), .lst ((G (inW n2)).map FS), .lst ((G (inW n3)).map FS), kindsD (inW n2), kindsD (inW n3), nats (told (inW n2) (inW n3)), wds (inW n2), wds (inW n3), facedD (inW n2) (inW n3), spansD (inW n2) (inW n3), x19, x20, nats (W8.filter (inW n2)), nats (W8.filter (inW n3)), w.d]) := e29
  have s30 : L30 [D.lst (xs.map D.int), D.lst (ys.map D.int), .int n2, .int n3, wheelD, shapesD, wordsD, spotsD, nats (corners (inW n2)), nats (corners (inW n3)), .lst ((G (inW n2)).map FS), .lst ((G (inW n3)).map FS), kindsD (inW n2), kindsD (inW n3), nats (told (inW n2) (inW n3)), wds (inW n2), wds (inW n3), facedD (inW n2) (inW n3), spansD (inW n2) (inW n3), x19, x20, nats (W8.filter (inW n2)), nats (W8.filter (inW n3)), w.d] = some (.ret (.bool true)) := L30_eq hw (by rfl) (by rfl) (by rfl) (by rfl)
  show Blaw [D.lst (xs.map D.int), D.lst (ys.map D.int), .undef, .undef, .undef, .undef, .undef, .undef, .undef, .undef, .undef, .undef, .undef, .undef, .undef, .undef, .undef, .undef, .undef, .undef, .undef, .undef, .undef, .undef] = _
  unfold Blaw
  exact ((seqX_nxt s2).trans ((seqX_nxt s3).trans ((seqX_nxt s4).trans ((seqX_nxt s5).trans ((seqX_nxt s6).trans ((seqX_nxt s7).trans ((seqX_nxt s8).trans ((seqX_nxt s9).trans ((seqX_nxt s10).trans ((seqX_nxt s11).trans ((seqX_nxt s12).trans ((seqX_nxt s13).trans ((seqX_nxt s14).trans ((seqX_nxt s15).trans ((seqX_nxt s16).trans ((seqX_nxt s17).trans ((seqX_nxt s18).trans ((seqX_nxt s19).trans ((seqX_nxt s20).trans ((seqX_nxt s21).trans ((seqX_nxt s22).trans ((seqX_nxt s23).trans ((seqX_nxt s24).trans ((seqX_nxt s25).trans ((seqX_nxt s26).trans ((seqX_nxt s27).trans ((seqX_nxt s28).trans ((seqX_nxt s29).trans (seqX_ret s30)))))))))))))))))))))))))))))
theorem whole : PySem.Challenge.rw_uj0010_01.Holds := closes law_plain
end Mine

theorem PySem.Challenge.cw_uj0010_01_holds : PySem.Challenge.rw_uj0010_01.Holds := by
  exact Mine.whole
