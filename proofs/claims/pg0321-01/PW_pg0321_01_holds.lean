import PyProof.Rows.All
import Wide.All
import OpenK.AllK
import Wide.FinOn
import Lean
import PySem.Challenge.RW_pg0321_01
set_option Elab.async false
set_option maxRecDepth 100000
set_option autoImplicit false
set_option linter.all false
set_option compiler.extract_closed false
set_option maxHeartbeats 0
namespace Mine
open PySem PySem.W PyProof.Rows
abbrev pw : Program := PySem.Challenge.pw_pg0321_01
noncomputable def kept (l : List Stmt) : List Stmt := l.take 9 ++ (l.drop 10).take 1 ++ l.drop 15
noncomputable def vw : Program := { pw with main := { pw.main with body := kept pw.main.body } }
noncomputable def lse : List Str := ["Whitespace", "tspecials", "_name_disallowed_re", "_value_disallowed_re", "_formatparam"]
noncomputable def topSt (i : Nat) : Option Stmt := pw.main.body[i]?
noncomputable def inCls (s : Option Stmt) (i : Nat) : Option Stmt := match s with
  | some (.ClassDef _ _ _ body _ _ _ _ _ _ _) => body[i]?
  | _ => none
noncomputable def fnO (s : Option Stmt) (qual : Str) (dV pm : Value) (cd : Addr) : Obj := match s with
  | some (.FunctionDef name args body _ _ _ scope _ _ _) => { cls := .type "function", data := .func (fnOf name qual args body scope dV .none .none pm none (.ref cd) .none) }
  | _ => { cls := .none, data := .plain }
noncomputable def KA : List Addr := [2, 3, 44, 45, 51, 52, 58, 59, 65, 66, 72, 73, 89, 90, 96, 97, 103, 104, 124, 125, 134, 135, 148, 149, 153, 154, 170, 176, 177, 183, 184, 190, 191, 221, 222, 279, 280, 282, 283, 293, 294, 298, 299, 305, 306, 310, 311, 317, 318, 322, 323, 327, 328, 332, 333, 337, 338, 342, 343, 349, 350]

noncomputable def KK (P : Params) : Frag :=
  (nat_lit 2, { cls := Value.none, data := Data.dict #[{ hash := PyData.keyHash P (Str.ofString "\x69mport.loaded._sre"), key := Value.str (Str.ofString "\x69mport.loaded._sre") 183, val := Value.bool true }, { hash := PyData.keyHash P (Str.ofString "class._frozen_importlib.BuiltinImporter"), key := Value.str (Str.ofString "class._frozen_importlib.BuiltinImporter") 185, val := Value.ref 14 }, { hash := PyData.keyHash P (Str.ofString "watched.\x69mport"), key := Value.str (Str.ofString "watched.\x69mport") 206, val := Value.ref 18 }, { hash := PyData.keyHash P (Str.ofString "class._frozen_importlib.ModuleSpec"), key := Value.str (Str.ofString "class._frozen_importlib.ModuleSpec") 216, val := Value.ref 22 }, { hash := PyData.keyHash P (Str.ofString "sys.modules.booked-epoch"), key := Value.str (Str.ofString "sys.modules.booked-epoch") 245, val := Value.int 3 0 }, { hash := PyData.keyHash P (Str.ofString "\x69mport.later-laid._sre"), key := Value.str (Str.ofString "\x69mport.later-laid._sre") 270, val := Value.bool true }, { hash := PyData.keyHash P (Str.ofString "watched.library"), key := Value.str (Str.ofString "watched.library") 272, val := Value.ref 27 }, { hash := PyData.keyHash P (Str.ofString "watched.library-objects"), key := Value.str (Str.ofString "watched.library-objects") 0, val := Value.str (Str.ofString "\x0c") 0 }, { hash := PyData.keyHash P (Str.ofString "watched.library-deep._sre"), key := Value.str (Str.ofString "watched.library-deep._sre") 273, val := Value.str (Str.ofString "\x04\x00\x00\x0b\x04\x00\x00\x0b\x04\x00\x00\x03\x04\x00\x00\x0b\x08\x04dict\x02") 0 }] 9 }) ::
  (nat_lit 3, { cls := Value.type "dict", data := Data.dict #[{ hash := PyData.keyHash P (Str.ofString "__name__"), key := Value.str (Str.ofString "__name__") 165, val := Value.str (Str.ofString "law_pg0321_01") 707 }, { hash := PyData.keyHash P (Str.ofString "__doc__"), key := Value.str (Str.ofString "__doc__") 166, val := Value.none }, { hash := PyData.keyHash P (Str.ofString "__package__"), key := Value.str (Str.ofString "__package__") 167, val := Value.none }, { hash := PyData.keyHash P (Str.ofString "__loader__"), key := Value.str (Str.ofString "__loader__") 168, val := Value.builtin "__main__.__loader__#opaque" }, { hash := PyData.keyHash P (Str.ofString "__spec__"), key := Value.str (Str.ofString "__spec__") 169, val := Value.none }, { hash := PyData.keyHash P (Str.ofString "__annotations__"), key := Value.str (Str.ofString "__annotations__") 170, val := Value.ref 6 }, { hash := PyData.keyHash P (Str.ofString "__builtins__"), key := Value.str (Str.ofString "__builtins__") 171, val := Value.ref 4 }, { hash := PyData.keyHash P (Str.ofString "__file__"), key := Value.str (Str.ofString "__file__") 173, val := Value.str (Str.ofString "/claim/cut.py") 172 }, { hash := PyData.keyHash P (Str.ofString "__cached__"), key := Value.str (Str.ofString "__cached__") 174, val := Value.none }, { hash := PyData.keyHash P (Str.ofString "_sre"), key := Value.str (Str.ofString "_sre") 275, val := Value.ref 12 }, { hash := PyData.keyHash P (Str.ofString "_wall"), key := Value.str (Str.ofString "_wall") 288, val := Value.ref 38 }, { hash := PyData.keyHash P (Str.ofString "heappush"), key := Value.str (Str.ofString "heappush") 298, val := Value.ref 45 }, { hash := PyData.keyHash P (Str.ofString "heappop"), key := Value.str (Str.ofString "heappop") 307, val := Value.ref 52 }, { hash := PyData.keyHash P (Str.ofString "heapreplace"), key := Value.str (Str.ofString "heapreplace") 316, val := Value.ref 59 }, { hash := PyData.keyHash P (Str.ofString "_siftdown"), key := Value.str (Str.ofString "_siftdown") 328, val := Value.ref 66 }, { hash := PyData.keyHash P (Str.ofString "_siftup"), key := Value.str (Str.ofString "_siftup") 341, val := Value.ref 73 }, { hash := PyData.keyHash P (Str.ofString "Whitespace"), key := Value.str (Str.ofString "Whitespace") 443, val := Value.ref 135 }, { hash := PyData.keyHash P (Str.ofString "tspecials"), key := Value.str (Str.ofString "tspecials") 479, val := Value.ref 144 }, { hash := PyData.keyHash P (Str.ofString "_name_disallowed_re"), key := Value.str (Str.ofString "_name_disallowed_re") 505, val := Value.ref 149 }, { hash := PyData.keyHash P (Str.ofString "_value_disallowed_re"), key := Value.str (Str.ofString "_value_disallowed_re") 539, val := Value.ref 154 }, { hash := PyData.keyHash P (Str.ofString "_formatparam"), key := Value.str (Str.ofString "_formatparam") 549, val := Value.ref 162 }, { hash := PyData.keyHash P (Str.ofString "Headers"), key := Value.str (Str.ofString "Headers") 706, val := Value.ref 283 }, { hash := PyData.keyHash P (Str.ofString "_law_ladder"), key := Value.str (Str.ofString "_law_ladder") 718, val := Value.ref 294 }, { hash := PyData.keyHash P (Str.ofString "_law_needs"), key := Value.str (Str.ofString "_law_needs") 724, val := Value.ref 299 }, { hash := PyData.keyHash P (Str.ofString "_law_woven"), key := Value.str (Str.ofString "_law_woven") 741, val := Value.ref 306 }, { hash := PyData.keyHash P (Str.ofString "_law_told"), key := Value.str (Str.ofString "_law_told") 747, val := Value.ref 311 }, { hash := PyData.keyHash P (Str.ofString "_law_columns"), key := Value.str (Str.ofString "_law_columns") 758, val := Value.ref 318 }, { hash := PyData.keyHash P (Str.ofString "_law_left"), key := Value.str (Str.ofString "_law_left") 764, val := Value.ref 323 }, { hash := PyData.keyHash P (Str.ofString "_law_all"), key := Value.str (Str.ofString "_law_all") 770, val := Value.ref 328 }, { hash := PyData.keyHash P (Str.ofString "_law_a_third"), key := Value.str (Str.ofString "_law_a_third") 776, val := Value.ref 333 }, { hash := PyData.keyHash P (Str.ofString "_law_help"), key := Value.str (Str.ofString "_law_help") 782, val := Value.ref 338 }, { hash := PyData.keyHash P (Str.ofString "_law_one_top"), key := Value.str (Str.ofString "_law_one_top") 788, val := Value.ref 343 }, { hash := PyData.keyHash P (Str.ofString "law"), key := Value.str (Str.ofString "law") 799, val := Value.ref 350 }] 33 }) ::
  (nat_lit 44, { cls := Value.type "code", data := Data.fields #[Value.str (Str.ofString "heappush") 291, Value.str (Str.ofString "heappush") 292, Value.str (Str.ofString "/claim/cut.py") 293, Value.int 6 0, Value.int 2 0, Value.int 0 0, Value.int 0 0, Value.int 3 0, Value.ref 39, Value.bool true, Value.int 276 0, Value.ref 40, Value.none, Value.ref 41, Value.ref 42, Value.ref 43, Value.int 296 0, Value.int 6 0, Value.str (Str.ofString "/claim/cut.py") 297] }) ::
  (nat_lit 45, fnO (topSt 3) "heappush" (Value.none) (Value.str (Str.ofString "cpy313.heapq") 289) 44) ::
  (nat_lit 51, { cls := Value.type "code", data := Data.fields #[Value.str (Str.ofString "heappop") 299, Value.str (Str.ofString "heappop") 300, Value.str (Str.ofString "/claim/cut.py") 301, Value.int 9 0, Value.int 1 0, Value.int 0 0, Value.int 0 0, Value.int 3 0, Value.ref 46, Value.bool true, Value.int 276 0, Value.ref 47, Value.none, Value.ref 48, Value.ref 49, Value.ref 50, Value.int 305 0, Value.int 9 0, Value.str (Str.ofString "/claim/cut.py") 306] }) ::
  (nat_lit 52, fnO (topSt 4) "heappop" (Value.none) (Value.str (Str.ofString "cpy313.heapq") 289) 51) ::
  (nat_lit 58, { cls := Value.type "code", data := Data.fields #[Value.str (Str.ofString "heapreplace") 308, Value.str (Str.ofString "heapreplace") 309, Value.str (Str.ofString "/claim/cut.py") 310, Value.int 17 0, Value.int 2 0, Value.int 0 0, Value.int 0 0, Value.int 3 0, Value.ref 53, Value.bool true, Value.int 276 0, Value.ref 54, Value.none, Value.ref 55, Value.ref 56, Value.ref 57, Value.int 314 0, Value.int 17 0, Value.str (Str.ofString "/claim/cut.py") 315] }) ::
  (nat_lit 59, fnO (topSt 5) "heapreplace" (Value.none) (Value.str (Str.ofString "cpy313.heapq") 289) 58) ::
  (nat_lit 65, { cls := Value.type "code", data := Data.fields #[Value.str (Str.ofString "_siftdown") 317, Value.str (Str.ofString "_siftdown") 318, Value.str (Str.ofString "/claim/cut.py") 319, Value.int 22 0, Value.int 3 0, Value.int 0 0, Value.int 0 0, Value.int 3 0, Value.ref 60, Value.bool true, Value.int 276 0, Value.ref 61, Value.none, Value.ref 62, Value.ref 63, Value.ref 64, Value.int 326 0, Value.int 22 0, Value.str (Str.ofString "/claim/cut.py") 327] }) ::
  (nat_lit 66, fnO (topSt 6) "_siftdown" (Value.none) (Value.str (Str.ofString "cpy313.heapq") 289) 65) ::
  (nat_lit 72, { cls := Value.type "code", data := Data.fields #[Value.str (Str.ofString "_siftup") 329, Value.str (Str.ofString "_siftup") 330, Value.str (Str.ofString "/claim/cut.py") 331, Value.int 33 0, Value.int 2 0, Value.int 0 0, Value.int 0 0, Value.int 3 0, Value.ref 67, Value.bool true, Value.int 276 0, Value.ref 68, Value.none, Value.ref 69, Value.ref 70, Value.ref 71, Value.int 339 0, Value.int 33 0, Value.str (Str.ofString "/claim/cut.py") 340] }) ::
  (nat_lit 73, fnO (topSt 7) "_siftup" (Value.none) (Value.str (Str.ofString "cpy313.heapq") 289) 72) ::
  (nat_lit 89, { cls := Value.type "code", data := Data.fields #[Value.str (Str.ofString "__init__") 361, Value.str (Str.ofString "Whitespace.__init__") 362, Value.str (Str.ofString "/claim/cut.py") 363, Value.int 51 0, Value.int 2 0, Value.int 0 0, Value.int 0 0, Value.int 3 0, Value.ref 84, Value.bool true, Value.int 276 0, Value.ref 85, Value.none, Value.ref 86, Value.ref 87, Value.ref 88, Value.int 373 0, Value.int 51 0, Value.str (Str.ofString "/claim/cut.py") 374] }) ::
  (nat_lit 90, fnO (inCls (topSt 9) 1) "Whitespace.__init__" (Value.none) (Value.str (Str.ofString "cpy313.tabnanny") 342) 89) ::
  (nat_lit 96, { cls := Value.type "code", data := Data.fields #[Value.str (Str.ofString "longest_run_of_spaces") 376, Value.str (Str.ofString "Whitespace.longest_run_of_spaces") 377, Value.str (Str.ofString "/claim/cut.py") 378, Value.int 74 0, Value.int 1 0, Value.int 0 0, Value.int 0 0, Value.int 3 0, Value.ref 91, Value.bool true, Value.int 276 0, Value.ref 92, Value.none, Value.ref 93, Value.ref 94, Value.ref 95, Value.int 382 0, Value.int 74 0, Value.str (Str.ofString "/claim/cut.py") 383] }) ::
  (nat_lit 97, fnO (inCls (topSt 9) 2) "Whitespace.longest_run_of_spaces" (Value.none) (Value.str (Str.ofString "cpy313.tabnanny") 342) 96) ::
  (nat_lit 103, { cls := Value.type "code", data := Data.fields #[Value.str (Str.ofString "indent_level") 385, Value.str (Str.ofString "Whitespace.indent_level") 386, Value.str (Str.ofString "/claim/cut.py") 387, Value.int 78 0, Value.int 2 0, Value.int 0 0, Value.int 0 0, Value.int 3 0, Value.ref 98, Value.bool true, Value.int 276 0, Value.ref 99, Value.none, Value.ref 100, Value.ref 101, Value.ref 102, Value.int 394 0, Value.int 78 0, Value.str (Str.ofString "/claim/cut.py") 395] }) ::
  (nat_lit 104, fnO (inCls (topSt 9) 3) "Whitespace.indent_level" (Value.none) (Value.str (Str.ofString "cpy313.tabnanny") 342) 103) ::
  (nat_lit 124, { cls := Value.type "code", data := Data.fields #[Value.str (Str.ofString "less") 413, Value.str (Str.ofString "Whitespace.less") 414, Value.str (Str.ofString "/claim/cut.py") 415, Value.int 91 0, Value.int 2 0, Value.int 0 0, Value.int 0 0, Value.int 3 0, Value.ref 119, Value.bool true, Value.int 276 0, Value.ref 120, Value.none, Value.ref 121, Value.ref 122, Value.ref 123, Value.int 420 0, Value.int 91 0, Value.str (Str.ofString "/claim/cut.py") 421] }) ::
  (nat_lit 125, fnO (inCls (topSt 9) 6) "Whitespace.less" (Value.none) (Value.str (Str.ofString "cpy313.tabnanny") 342) 124) ::
  (nat_lit 134, { cls := Value.type "dict", data := Data.dict #[{ hash := PyData.keyHash P (Str.ofString "__module__"), key := Value.str (Str.ofString "__module__") 351, val := Value.str (Str.ofString "cpy313.tabnanny") 342 }, { hash := PyData.keyHash P (Str.ofString "__firstlineno__"), key := Value.str (Str.ofString "__firstlineno__") 355, val := Value.int 48 354 }, { hash := PyData.keyHash P (Str.ofString "S"), key := Value.str (Str.ofString "S") 359, val := Value.str (Str.ofString " ") 357 }, { hash := PyData.keyHash P (Str.ofString "T"), key := Value.str (Str.ofString "T") 360, val := Value.str (Str.ofString "\t") 358 }, { hash := PyData.keyHash P (Str.ofString "__init__"), key := Value.str (Str.ofString "__init__") 375, val := Value.ref 90 }, { hash := PyData.keyHash P (Str.ofString "longest_run_of_spaces"), key := Value.str (Str.ofString "longest_run_of_spaces") 384, val := Value.ref 97 }, { hash := PyData.keyHash P (Str.ofString "indent_level"), key := Value.str (Str.ofString "indent_level") 396, val := Value.ref 104 }, { hash := PyData.keyHash P (Str.ofString "equal"), key := Value.str (Str.ofString "equal") 404, val := Value.ref 111 }, { hash := PyData.keyHash P (Str.ofString "not_equal_witness"), key := Value.str (Str.ofString "not_equal_witness") 412, val := Value.ref 118 }, { hash := PyData.keyHash P (Str.ofString "less"), key := Value.str (Str.ofString "less") 422, val := Value.ref 125 }, { hash := PyData.keyHash P (Str.ofString "not_less_witness"), key := Value.str (Str.ofString "not_less_witness") 430, val := Value.ref 132 }, { hash := PyData.keyHash P (Str.ofString "__static_attributes__"), key := Value.str (Str.ofString "__static_attributes__") 436, val := Value.ref 133 }, { hash := PyData.keyHash P (Str.ofString "__dict__"), key := Value.str (Str.ofString "__dict__") 438, val := Value.ref 136 }, { hash := PyData.keyHash P (Str.ofString "__weakref__"), key := Value.str (Str.ofString "__weakref__") 440, val := Value.ref 137 }, { hash := PyData.keyHash P (Str.ofString "__doc__"), key := Value.str (Str.ofString "__doc__") 441, val := Value.none }] 4 }) ::
  (nat_lit 135, { cls := Value.type "type", data := Data.cls { name := Str.ofString "Whitespace", bases := [Value.type "object"], mro := [Value.ref 135, Value.type "object"], ns := 134, qualname := Str.ofString "Whitespace" }, slots := #[none, none, some (Value.str (Str.ofString "Whitespace") 344), some (Value.str (Str.ofString "Whitespace") 352), some (Value.builtin "object.__new__"), some (Value.bool true)] }) ::
  (nat_lit 148, { cls := Value.type "tuple", data := Data.seq #[Value.int 14 0, Value.int 10 0, Value.int 4 0, Value.int 1 0, Value.int 1 0, Value.int 22 0, Value.int 0 0, Value.int 31 0, Value.int 16 0, Value.int 127 0, Value.int 0 0, Value.int 13 0, Value.int 7 0, Value.int 22 0, Value.int 0 0, Value.int 31 0, Value.int 16 0, Value.int 127 0, Value.int 0 0, Value.int 1 0] }) ::
  (nat_lit 149, { cls := Value.type "re.Pattern", data := Data.fields #[Value.str (Str.ofString "[\\x00-\\x1F\\x7F]") 481, Value.int 32 504, Value.int 0 0, Value.none, Value.none, Value.ref 148, Value.int 0 0] }) ::
  (nat_lit 153, { cls := Value.type "tuple", data := Data.seq #[Value.int 14 0, Value.int 14 0, Value.int 4 0, Value.int 1 0, Value.int 1 0, Value.int 9 0, Value.int 4294966783 0, Value.int 0 0, Value.int 0 0, Value.int 2147483648 0, Value.int 0 0, Value.int 0 0, Value.int 0 0, Value.int 0 0, Value.int 0 0, Value.int 13 0, Value.int 11 0, Value.int 9 0, Value.int 4294966783 0, Value.int 0 0, Value.int 0 0, Value.int 2147483648 0, Value.int 0 0, Value.int 0 0, Value.int 0 0, Value.int 0 0, Value.int 0 0, Value.int 1 0] }) ::
  (nat_lit 154, { cls := Value.type "re.Pattern", data := Data.fields #[Value.str (Str.ofString "[\\x00-\\x08\\x0A-\\x1F\\x7F]") 507, Value.int 32 538, Value.int 0 0, Value.none, Value.none, Value.ref 153, Value.int 0 0] }) ::
  (nat_lit 170, { cls := Value.type "tuple", data := Data.seq #[Value.none] }) ::
  (nat_lit 176, { cls := Value.type "code", data := Data.fields #[Value.str (Str.ofString "__init__") 562, Value.str (Str.ofString "Headers.__init__") 563, Value.str (Str.ofString "/claim/cut.py") 564, Value.int 119 0, Value.int 2 0, Value.int 0 0, Value.int 0 0, Value.int 3 0, Value.ref 171, Value.bool true, Value.int 276 0, Value.ref 172, Value.none, Value.ref 173, Value.ref 174, Value.ref 175, Value.int 569 0, Value.int 119 0, Value.str (Str.ofString "/claim/cut.py") 570] }) ::
  (nat_lit 177, fnO (inCls (topSt 15) 0) "Headers.__init__" (Value.ref 170) (Value.str (Str.ofString "cpy313.wsgiref.headers") 444) 176) ::
  (nat_lit 183, { cls := Value.type "code", data := Data.fields #[Value.str (Str.ofString "_convert_string_type") 572, Value.str (Str.ofString "Headers._convert_string_type") 573, Value.str (Str.ofString "/claim/cut.py") 574, Value.int 129 0, Value.int 2 0, Value.int 0 0, Value.int 1 0, Value.int 3 0, Value.ref 178, Value.bool true, Value.int 276 0, Value.ref 179, Value.none, Value.ref 180, Value.ref 181, Value.ref 182, Value.int 579 0, Value.int 129 0, Value.str (Str.ofString "/claim/cut.py") 580] }) ::
  (nat_lit 184, fnO (inCls (topSt 15) 1) "Headers._convert_string_type" (Value.none) (Value.str (Str.ofString "cpy313.wsgiref.headers") 444) 183) ::
  (nat_lit 190, { cls := Value.type "code", data := Data.fields #[Value.str (Str.ofString "__len__") 582, Value.str (Str.ofString "Headers.__len__") 583, Value.str (Str.ofString "/claim/cut.py") 584, Value.int 137 0, Value.int 1 0, Value.int 0 0, Value.int 0 0, Value.int 3 0, Value.ref 185, Value.bool true, Value.int 276 0, Value.ref 186, Value.none, Value.ref 187, Value.ref 188, Value.ref 189, Value.int 586 0, Value.int 137 0, Value.str (Str.ofString "/claim/cut.py") 587] }) ::
  (nat_lit 191, fnO (inCls (topSt 15) 2) "Headers.__len__" (Value.none) (Value.str (Str.ofString "cpy313.wsgiref.headers") 444) 190) ::
  (nat_lit 221, { cls := Value.type "code", data := Data.fields #[Value.str (Str.ofString "get_all") 620, Value.str (Str.ofString "Headers.get_all") 621, Value.str (Str.ofString "/claim/cut.py") 622, Value.int 154 0, Value.int 2 0, Value.int 0 0, Value.int 0 0, Value.int 3 0, Value.ref 218, Value.bool true, Value.int 276 0, Value.ref 219, Value.none, Value.none, Value.none, Value.ref 220, Value.int 623 0, Value.int 154 0, Value.str (Str.ofString "/claim/cut.py") 624] }) ::
  (nat_lit 222, fnO (inCls (topSt 15) 7) "Headers.get_all" (Value.none) (Value.str (Str.ofString "cpy313.wsgiref.headers") 444) 221) ::
  (nat_lit 279, { cls := Value.type "code", data := Data.fields #[Value.str (Str.ofString "add_header") 685, Value.str (Str.ofString "Headers.add_header") 686, Value.str (Str.ofString "/claim/cut.py") 687, Value.int 186 0, Value.int 3 0, Value.int 0 0, Value.int 0 0, Value.int 11 0, Value.ref 274, Value.bool true, Value.int 276 0, Value.ref 275, Value.none, Value.ref 276, Value.ref 277, Value.ref 278, Value.int 695 0, Value.int 186 0, Value.str (Str.ofString "/claim/cut.py") 696] }) ::
  (nat_lit 280, fnO (inCls (topSt 15) 16) "Headers.add_header" (Value.none) (Value.str (Str.ofString "cpy313.wsgiref.headers") 444) 279) ::
  (nat_lit 282, { cls := Value.type "dict", data := Data.dict #[{ hash := PyData.keyHash P (Str.ofString "__module__"), key := Value.str (Str.ofString "__module__") 557, val := Value.str (Str.ofString "cpy313.wsgiref.headers") 444 }, { hash := PyData.keyHash P (Str.ofString "__firstlineno__"), key := Value.str (Str.ofString "__firstlineno__") 561, val := Value.int 117 560 }, { hash := PyData.keyHash P (Str.ofString "__init__"), key := Value.str (Str.ofString "__init__") 571, val := Value.ref 177 }, { hash := PyData.keyHash P (Str.ofString "_convert_string_type"), key := Value.str (Str.ofString "_convert_string_type") 581, val := Value.ref 184 }, { hash := PyData.keyHash P (Str.ofString "__len__"), key := Value.str (Str.ofString "__len__") 588, val := Value.ref 191 }, { hash := PyData.keyHash P (Str.ofString "__setitem__"), key := Value.str (Str.ofString "__setitem__") 597, val := Value.ref 198 }, { hash := PyData.keyHash P (Str.ofString "__delitem__"), key := Value.str (Str.ofString "__delitem__") 603, val := Value.ref 203 }, { hash := PyData.keyHash P (Str.ofString "__getitem__"), key := Value.str (Str.ofString "__getitem__") 611, val := Value.ref 210 }, { hash := PyData.keyHash P (Str.ofString "__contains__"), key := Value.str (Str.ofString "__contains__") 619, val := Value.ref 217 }, { hash := PyData.keyHash P (Str.ofString "get_all"), key := Value.str (Str.ofString "get_all") 625, val := Value.ref 222 }, { hash := PyData.keyHash P (Str.ofString "get"), key := Value.str (Str.ofString "get") 636, val := Value.ref 230 }, { hash := PyData.keyHash P (Str.ofString "keys"), key := Value.str (Str.ofString "keys") 642, val := Value.ref 235 }, { hash := PyData.keyHash P (Str.ofString "values"), key := Value.str (Str.ofString "values") 648, val := Value.ref 240 }, { hash := PyData.keyHash P (Str.ofString "items"), key := Value.str (Str.ofString "items") 655, val := Value.ref 247 }, { hash := PyData.keyHash P (Str.ofString "__repr__"), key := Value.str (Str.ofString "__repr__") 662, val := Value.ref 254 }, { hash := PyData.keyHash P (Str.ofString "__str__"), key := Value.str (Str.ofString "__str__") 668, val := Value.ref 259 }, { hash := PyData.keyHash P (Str.ofString "__bytes__"), key := Value.str (Str.ofString "__bytes__") 675, val := Value.ref 266 }, { hash := PyData.keyHash P (Str.ofString "setdefault"), key := Value.str (Str.ofString "setdefault") 684, val := Value.ref 273 }, { hash := PyData.keyHash P (Str.ofString "add_header"), key := Value.str (Str.ofString "add_header") 697, val := Value.ref 280 }, { hash := PyData.keyHash P (Str.ofString "__static_attributes__"), key := Value.str (Str.ofString "__static_attributes__") 699, val := Value.ref 281 }, { hash := PyData.keyHash P (Str.ofString "__dict__"), key := Value.str (Str.ofString "__dict__") 701, val := Value.ref 284 }, { hash := PyData.keyHash P (Str.ofString "__weakref__"), key := Value.str (Str.ofString "__weakref__") 703, val := Value.ref 285 }, { hash := PyData.keyHash P (Str.ofString "__doc__"), key := Value.str (Str.ofString "__doc__") 704, val := Value.none }] 4 }) ::
  (nat_lit 283, { cls := Value.type "type", data := Data.cls { name := Str.ofString "Headers", bases := [Value.type "object"], mro := [Value.ref 283, Value.type "object"], ns := 282, qualname := Str.ofString "Headers" }, slots := #[none, none, some (Value.str (Str.ofString "Headers") 550), some (Value.str (Str.ofString "Headers") 558), some (Value.builtin "object.__new__"), some (Value.bool true)] }) ::
  (nat_lit 293, { cls := Value.type "code", data := Data.fields #[Value.str (Str.ofString "_law_ladder") 709, Value.str (Str.ofString "_law_ladder") 710, Value.str (Str.ofString "/claim/cut.py") 711, Value.int 200 0, Value.int 1 0, Value.int 0 0, Value.int 0 0, Value.int 3 0, Value.ref 288, Value.bool true, Value.int 276 0, Value.ref 289, Value.none, Value.ref 290, Value.ref 291, Value.ref 292, Value.int 716 0, Value.int 200 0, Value.str (Str.ofString "/claim/cut.py") 717] }) ::
  (nat_lit 294, fnO (topSt 17) "_law_ladder" (Value.none) (Value.str (Str.ofString "law_pg0321_01") 707) 293) ::
  (nat_lit 298, { cls := Value.type "code", data := Data.fields #[Value.str (Str.ofString "_law_needs") 719, Value.str (Str.ofString "_law_needs") 720, Value.str (Str.ofString "/claim/cut.py") 721, Value.int 207 0, Value.int 2 0, Value.int 0 0, Value.int 0 0, Value.int 3 0, Value.ref 295, Value.bool true, Value.int 276 0, Value.ref 296, Value.none, Value.none, Value.none, Value.ref 297, Value.int 722 0, Value.int 207 0, Value.str (Str.ofString "/claim/cut.py") 723] }) ::
  (nat_lit 299, fnO (topSt 18) "_law_needs" (Value.none) (Value.str (Str.ofString "law_pg0321_01") 707) 298) ::
  (nat_lit 305, { cls := Value.type "code", data := Data.fields #[Value.str (Str.ofString "_law_woven") 725, Value.str (Str.ofString "_law_woven") 726, Value.str (Str.ofString "/claim/cut.py") 727, Value.int 216 0, Value.int 2 0, Value.int 0 0, Value.int 0 0, Value.int 3 0, Value.ref 300, Value.bool true, Value.int 276 0, Value.ref 301, Value.none, Value.ref 302, Value.ref 303, Value.ref 304, Value.int 739 0, Value.int 216 0, Value.str (Str.ofString "/claim/cut.py") 740] }) ::
  (nat_lit 306, fnO (topSt 19) "_law_woven" (Value.none) (Value.str (Str.ofString "law_pg0321_01") 707) 305) ::
  (nat_lit 310, { cls := Value.type "code", data := Data.fields #[Value.str (Str.ofString "_law_told") 742, Value.str (Str.ofString "_law_told") 743, Value.str (Str.ofString "/claim/cut.py") 744, Value.int 237 0, Value.int 1 0, Value.int 0 0, Value.int 0 0, Value.int 3 0, Value.ref 307, Value.bool true, Value.int 276 0, Value.ref 308, Value.none, Value.none, Value.none, Value.ref 309, Value.int 745 0, Value.int 237 0, Value.str (Str.ofString "/claim/cut.py") 746] }) ::
  (nat_lit 311, fnO (topSt 20) "_law_told" (Value.none) (Value.str (Str.ofString "law_pg0321_01") 707) 310) ::
  (nat_lit 317, { cls := Value.type "code", data := Data.fields #[Value.str (Str.ofString "_law_columns") 748, Value.str (Str.ofString "_law_columns") 749, Value.str (Str.ofString "/claim/cut.py") 750, Value.int 240 0, Value.int 1 0, Value.int 0 0, Value.int 0 0, Value.int 3 0, Value.ref 312, Value.bool true, Value.int 276 0, Value.ref 313, Value.none, Value.ref 314, Value.ref 315, Value.ref 316, Value.int 756 0, Value.int 240 0, Value.str (Str.ofString "/claim/cut.py") 757] }) ::
  (nat_lit 318, fnO (topSt 21) "_law_columns" (Value.none) (Value.str (Str.ofString "law_pg0321_01") 707) 317) ::
  (nat_lit 322, { cls := Value.type "code", data := Data.fields #[Value.str (Str.ofString "_law_left") 759, Value.str (Str.ofString "_law_left") 760, Value.str (Str.ofString "/claim/cut.py") 761, Value.int 248 0, Value.int 2 0, Value.int 0 0, Value.int 0 0, Value.int 3 0, Value.ref 319, Value.bool true, Value.int 276 0, Value.ref 320, Value.none, Value.none, Value.none, Value.ref 321, Value.int 762 0, Value.int 248 0, Value.str (Str.ofString "/claim/cut.py") 763] }) ::
  (nat_lit 323, fnO (topSt 22) "_law_left" (Value.none) (Value.str (Str.ofString "law_pg0321_01") 707) 322) ::
  (nat_lit 327, { cls := Value.type "code", data := Data.fields #[Value.str (Str.ofString "_law_all") 765, Value.str (Str.ofString "_law_all") 766, Value.str (Str.ofString "/claim/cut.py") 767, Value.int 250 0, Value.int 2 0, Value.int 0 0, Value.int 0 0, Value.int 3 0, Value.ref 324, Value.bool true, Value.int 276 0, Value.ref 325, Value.none, Value.none, Value.none, Value.ref 326, Value.int 768 0, Value.int 250 0, Value.str (Str.ofString "/claim/cut.py") 769] }) ::
  (nat_lit 328, fnO (topSt 23) "_law_all" (Value.none) (Value.str (Str.ofString "law_pg0321_01") 707) 327) ::
  (nat_lit 332, { cls := Value.type "code", data := Data.fields #[Value.str (Str.ofString "_law_a_third") 771, Value.str (Str.ofString "_law_a_third") 772, Value.str (Str.ofString "/claim/cut.py") 773, Value.int 262 0, Value.int 1 0, Value.int 0 0, Value.int 0 0, Value.int 3 0, Value.ref 329, Value.bool true, Value.int 276 0, Value.ref 330, Value.none, Value.none, Value.none, Value.ref 331, Value.int 774 0, Value.int 262 0, Value.str (Str.ofString "/claim/cut.py") 775] }) ::
  (nat_lit 333, fnO (topSt 24) "_law_a_third" (Value.none) (Value.str (Str.ofString "law_pg0321_01") 707) 332) ::
  (nat_lit 337, { cls := Value.type "code", data := Data.fields #[Value.str (Str.ofString "_law_help") 777, Value.str (Str.ofString "_law_help") 778, Value.str (Str.ofString "/claim/cut.py") 779, Value.int 265 0, Value.int 1 0, Value.int 0 0, Value.int 0 0, Value.int 3 0, Value.ref 334, Value.bool true, Value.int 276 0, Value.ref 335, Value.none, Value.none, Value.none, Value.ref 336, Value.int 780 0, Value.int 265 0, Value.str (Str.ofString "/claim/cut.py") 781] }) ::
  (nat_lit 338, fnO (topSt 25) "_law_help" (Value.none) (Value.str (Str.ofString "law_pg0321_01") 707) 337) ::
  (nat_lit 342, { cls := Value.type "code", data := Data.fields #[Value.str (Str.ofString "_law_one_top") 783, Value.str (Str.ofString "_law_one_top") 784, Value.str (Str.ofString "/claim/cut.py") 785, Value.int 274 0, Value.int 1 0, Value.int 0 0, Value.int 0 0, Value.int 3 0, Value.ref 339, Value.bool true, Value.int 276 0, Value.ref 340, Value.none, Value.none, Value.none, Value.ref 341, Value.int 786 0, Value.int 274 0, Value.str (Str.ofString "/claim/cut.py") 787] }) ::
  (nat_lit 343, fnO (topSt 26) "_law_one_top" (Value.none) (Value.str (Str.ofString "law_pg0321_01") 707) 342) ::
  (nat_lit 349, { cls := Value.type "code", data := Data.fields #[Value.str (Str.ofString "law") 789, Value.str (Str.ofString "law") 790, Value.str (Str.ofString "/claim/cut.py") 791, Value.int 284 0, Value.int 1 0, Value.int 0 0, Value.int 0 0, Value.int 3 0, Value.ref 344, Value.bool true, Value.int 276 0, Value.ref 345, Value.none, Value.ref 346, Value.ref 347, Value.ref 348, Value.int 797 0, Value.int 284 0, Value.str (Str.ofString "/claim/cut.py") 798] }) ::
  (nat_lit 350, fnO (topSt 27) "law" (Value.none) (Value.str (Str.ofString "law_pg0321_01") 707) 349) :: []
noncomputable abbrev HK : Hook := kHook KK KA (fun _ => rfl)
noncomputable abbrev XQ (q : Program) (R : WRecords) (s : Shared) : Bool := xlAt q [] s && recOk R s
noncomputable abbrev XR : WRecords := PySem.Challenge.rw_pg0321_01.row.toRowW.records
noncomputable abbrev XT (s : Shared) : Bool := XQ vw XR s
noncomputable def lA (p q : Program) (R : WRecords) (w : World) := (fencedOpening treeTable p w 4164).map fun s₀ => (topFrom treeTable p (w.withFollow "special-get-raises" false) 4164 s₀).map fun s => (openSeen q lse (importedModules p.main.body) (XQ q R) true s, KA.map s.heap.get?)
noncomputable def lB (p q : Program) (R : WRecords) (w : World) := (fencedOpening treeTable p w 4164).map fun s₀ => (topFrom treeTable p (w.withFollow "special-get-raises" true) 4164 s₀).map fun s => (openSeen q lse (importedModules p.main.body) (XQ q R) true s, KA.map s.heap.get?)
noncomputable def rA (q : Program) (K : Params → List (Addr × Obj)) (w : World) := some (some (openGood q lse, (K (w.withFollow "special-get-raises" false).params).map fun p => some p.2))
noncomputable def rB (q : Program) (K : Params → List (Addr × Obj)) (w : World) := some (some (openGood q lse, (K (w.withFollow "special-get-raises" true).params).map fun p => some p.2))
noncomputable def sd (l : OpenLaw) : Bool := l.wellSaid
end Mine
lay_quick Mine.lA Mine.lB Mine.rA Mine.rB Mine.sd
namespace Mine
open PySem PySem.W PyProof.Rows
theorem eA : lA pw vw XR = rA vw KK := (congrFun (congrFun (congrFun PySem.W.Fast.te15733406127517292383 pw) vw) XR).trans ((show PySem.W.Fast.tw15733406127517292383 pw vw XR = PySem.W.Fast.tw18423713655877286777 vw KK by kernel_rfl).trans (congrFun (congrFun PySem.W.Fast.te18423713655877286777 vw) KK).symm)
theorem eB : lB pw vw XR = rB vw KK := (congrFun (congrFun (congrFun PySem.W.Fast.te14150769451746639782 pw) vw) XR).trans ((show PySem.W.Fast.tw14150769451746639782 pw vw XR = PySem.W.Fast.tw12634894349709204672 vw KK by kernel_rfl).trans (congrFun (congrFun PySem.W.Fast.te12634894349709204672 vw) KK).symm)
theorem said : OpenLaw.wellSaid PySem.Challenge.rw_pg0321_01 = true := (congrFun PySem.W.Fast.te452734254227186564 PySem.Challenge.rw_pg0321_01).trans (show PySem.W.Fast.tw452734254227186564 PySem.Challenge.rw_pg0321_01 = true by kernel_rfl)
theorem pair_map {α β γ : Type} {o : Option α} {f : α → β} {g : α → γ} {a : β} {b : γ} (h1 : o.map f = some a) (h2 : o.map g = some b) : o.map (fun s => (f s, g s)) = some (a, b) := by
  cases o with
  | none => cases h1
  | some x => rw [Option.map_some] at *; rw [Option.some.inj h1, Option.some.inj h2]
theorem left : LeftO pw vw lse XT HK.obs HK.val 4164 := LeftO.of_split "special-get-raises" fun w => pair_map (congrFun eA w) (congrFun eB w)
end Mine
set_option maxHeartbeats 8000000
-- F1
namespace Mine
open PySem PySem.Spec PySem.Calls PyProof.Rows PySem.W

/-- values as plain data; tuples, frozen lists and frozen instances by value -/
inductive MV where
  | none
  | bool (b : Bool)
  | int (i : Int)
  | str (x : Str)
  | ref (a : Addr)
  | tup (l : List MV)
  | lst (l : List MV)
  | obj (C : Addr) (names : List Str) (vals : List MV)

abbrev ZS := Addr → Obj → Prop
def ZS.le (Z Z' : ZS) : Prop := ∀ a o, Z a o → Z' a o
theorem ZS.le.refl (Z : ZS) : Z.le Z := fun _ _ h => h
theorem ZS.le.trans {Z Z' Z'' : ZS} (h : Z.le Z') (h' : Z'.le Z'') : Z.le Z'' := fun a o x => h' a o (h a o x)
def ZS.put (Z : ZS) (a : Addr) (o : Obj) : ZS := fun b o' => (b = a ∧ o' = o) ∨ Z b o'
theorem ZS.le_put (Z : ZS) (a : Addr) (o : Obj) : Z.le (Z.put a o) := fun _ _ h => .inr h
theorem ZS.put_self (Z : ZS) (a : Addr) (o : Obj) : Z.put a o a o := .inl ⟨rfl, rfl⟩

/-- an own dict, entry by entry -/
inductive Keyed : List DictEntry → List Str → List Value → Prop
  | nil : Keyed [] [] []
  | cons {e : DictEntry} {es : List DictEntry} {x : Str} {t : Tok} {xs : List Str} {vs : List Value} : e.key = .str x t → Keyed es xs vs → Keyed (e :: es) (x :: xs) (e.val :: vs)

mutual
inductive VR (Z : ZS) : MV → Value → Prop
  | none : VR Z .none .none
  | bool (b : Bool) : VR Z (.bool b) (.bool b)
  | int (i : Int) (t : Tok) : VR Z (.int i) (.int i t)
  | str (x : Str) (t : Tok) : VR Z (.str x) (.str x t)
  | ref (a : Addr) : VR Z (.ref a) (.ref a)
  | tup {l : List MV} {a : Addr} {o : Obj} {vs : List Value} {n : Nat} : Z a o → o.cls = .type "tuple" → o.data = .seq vs.toArray n → VRs Z l vs → VR Z (.tup l) (.ref a)
  | lst {l : List MV} {a : Addr} {vs : List Value} {n : Nat} : Z a { cls := .type "list", data := .seq vs.toArray n } → VRs Z l vs → VR Z (.lst l) (.ref a)
  | obj {C : Addr} {names : List Str} {vals : List MV} {a dx : Addr} {es : List DictEntry} {n : Nat} {vs : List Value} : Z a (instObj C dx) → Z dx (dictOf es n) → Keyed es names vs → VRs Z vals vs → VR Z (.obj C names vals) (.ref a)
inductive VRs (Z : ZS) : List MV → List Value → Prop
  | nil : VRs Z [] []
  | cons {m : MV} {v : Value} {l : List MV} {vs : List Value} : VR Z m v → VRs Z l vs → VRs Z (m :: l) (v :: vs)
end

mutual
theorem VR.mono {Z Z' : ZS} (h : Z.le Z') : ∀ {m : MV} {v : Value}, VR Z m v → VR Z' m v
  | _, _, .none => .none
  | _, _, .bool b => .bool b
  | _, _, .int i t => .int i t
  | _, _, .str x t => .str x t
  | _, _, .ref a => .ref a
  | _, _, .tup z c d r => .tup (h _ _ z) c d (VRs.mono h r)
  | _, _, .lst z r => .lst (h _ _ z) (VRs.mono h r)
  | _, _, .obj z z' g r => .obj (h _ _ z) (h _ _ z') g (VRs.mono h r)
theorem VRs.mono {Z Z' : ZS} (h : Z.le Z') : ∀ {l : List MV} {vs : List Value}, VRs Z l vs → VRs Z' l vs
  | _, _, .nil => .nil
  | _, _, .cons a b => .cons (VR.mono h a) (VRs.mono h b)
end

section
variable {Z : ZS} {v : Value} {vs : List Value} {m : MV} {l : List MV}
theorem VR.none_inv (h : VR Z .none v) : v = .none := by cases h; rfl
theorem VR.bool_inv {b : Bool} (h : VR Z (.bool b) v) : v = .bool b := by cases h; rfl
theorem VR.int_inv {i : Int} (h : VR Z (.int i) v) : ∃ t, v = .int i t := by cases h; exact ⟨_, rfl⟩
theorem VR.str_inv {x : Str} (h : VR Z (.str x) v) : ∃ t, v = .str x t := by cases h; exact ⟨_, rfl⟩
theorem VR.ref_inv {a : Addr} (h : VR Z (.ref a) v) : v = .ref a := by cases h; rfl
theorem VR.tup_inv (h : VR Z (.tup l) v) : ∃ a o vs n, v = .ref a ∧ Z a o ∧ o.cls = .type "tuple" ∧ o.data = .seq (vs : List Value).toArray n ∧ VRs Z l vs := by cases h with | tup a b c d => exact ⟨_, _, _, _, rfl, a, b, c, d⟩
theorem VR.lst_inv (h : VR Z (.lst l) v) : ∃ a o vs n, v = .ref a ∧ Z a o ∧ o.cls = .type "list" ∧ o.data = .seq (vs : List Value).toArray n ∧ VRs Z l vs := by cases h with | lst a d => exact ⟨_, _, _, _, rfl, a, rfl, rfl, d⟩
theorem VR.lst_inv' (h : VR Z (.lst l) v) : ∃ a vs n, v = .ref a ∧ Z a { cls := .type "list", data := .seq (vs : List Value).toArray n } ∧ VRs Z l vs := by cases h with | lst a d => exact ⟨_, _, _, rfl, a, d⟩
theorem VR.obj_inv {C : Addr} {names : List Str} {vals : List MV} (h : VR Z (.obj C names vals) v) : ∃ a dx es n vs, v = .ref a ∧ Z a (instObj C dx) ∧ Z dx (dictOf es n) ∧ Keyed es names vs ∧ VRs Z vals vs := by cases h with | obj a b c d => exact ⟨_, _, _, _, _, rfl, a, b, c, d⟩
theorem VR.kint {i : Int} {Q : Value → Prop} (h : ∀ t, Q (.int i t)) : ∀ v, VR Z (.int i) v → Q v := fun _ hv => by cases hv; exact h _
theorem VR.kstr {x : Str} {Q : Value → Prop} (h : ∀ t, Q (.str x t)) : ∀ v, VR Z (.str x) v → Q v := fun _ hv => by cases hv; exact h _
theorem VR.kref {a : Addr} {Q : Value → Prop} (h : Q (.ref a)) : ∀ v, VR Z (.ref a) v → Q v := fun _ hv => by cases hv; exact h
theorem VR.knone {Q : Value → Prop} (h : Q .none) : ∀ v, VR Z .none v → Q v := fun _ hv => by cases hv; exact h
theorem VR.kbool {b : Bool} {Q : Value → Prop} (h : Q (.bool b)) : ∀ v, VR Z (.bool b) v → Q v := fun _ hv => by cases hv; exact h
def MV.boxed : MV → Bool
  | .tup _ => true
  | .lst _ => true
  | .obj _ _ _ => true
  | _ => false
theorem VR.kbox {Q : Value → Prop} (hm : m.boxed = true) (h : ∀ a, VR Z m (.ref a) → Q (.ref a)) : ∀ v, VR Z m v → Q v := fun _ hv => by
  cases hv with
  | tup a b c d => exact h _ (.tup a b c d)
  | lst a d => exact h _ (.lst a d)
  | obj a b c d => exact h _ (.obj a b c d)
  | _ => cases hm
theorem VR.kv {m : MV} {v : Value} (hv : VR Z m v) {Q : Value → Prop} (h : ∀ v, VR Z m v → Q v) : Q v := h v hv
theorem VRs.length (h : VRs Z l vs) : l.length = vs.length := by
  induction l generalizing vs with
  | nil => cases h; rfl
  | cons a l ih => cases h with | cons _ b => simp [ih b]
theorem VRs.get (h : VRs Z l vs) {i : Nat} (hm : l[i]? = some m) : ∃ v, vs[i]? = some v ∧ VR Z m v := by
  induction l generalizing vs i with
  | nil => simp at hm
  | cons a l ih =>
    cases h with
    | cons x y =>
      cases i with
      | zero => simp at hm; subst hm; exact ⟨_, rfl, x⟩
      | succ i => simp at hm; simpa using ih y hm
theorem VRs.set (h : VRs Z l vs) (hm : VR Z m v) (i : Nat) : VRs Z (l.set i m) (vs.set i v) := by
  induction l generalizing vs i with
  | nil => cases h; exact .nil
  | cons a l ih =>
    cases h with
    | cons x y =>
      cases i with
      | zero => exact .cons hm y
      | succ i => exact .cons x (ih y i)
theorem VRs.append {l' : List MV} {vs' : List Value} (h : VRs Z l vs) (h' : VRs Z l' vs') : VRs Z (l ++ l') (vs ++ vs') := by
  induction l generalizing vs with
  | nil => cases h; exact h'
  | cons a l ih => cases h with | cons x y => exact .cons x (ih y)
theorem VRs.snoc (h : VRs Z l vs) (hm : VR Z m v) : VRs Z (l ++ [m]) (vs ++ [v]) := h.append (.cons hm .nil)
theorem VRs.take (h : VRs Z l vs) (i : Nat) : VRs Z (l.take i) (vs.take i) := by
  induction l generalizing vs i with
  | nil => cases h; simp; exact .nil
  | cons a l ih =>
    cases h with
    | cons x y =>
      cases i with
      | zero => exact .nil
      | succ i => exact .cons x (ih y i)
theorem VRs.drop (h : VRs Z l vs) (i : Nat) : VRs Z (l.drop i) (vs.drop i) := by
  induction l generalizing vs i with
  | nil => cases h; simp; exact .nil
  | cons a l ih =>
    cases h with
    | cons x y =>
      cases i with
      | zero => exact .cons x y
      | succ i => exact ih y i
theorem VRs.dropLast (h : VRs Z l vs) : VRs Z l.dropLast vs.dropLast := by
  rw [List.dropLast_eq_take, List.dropLast_eq_take, h.length]
  exact h.take _
end

/-- contents of the cells that the call may still change -/
inductive MO where
  | ns (vars : List Str) (l : List (Option MV))
  | list (l : List MV)
  | cell (v : Option MV)
  | flds (names : List Str) (vals : List MV)
  | obj (p : Obj → Prop)

def LocR (Z : ZS) (f : Str → Option Value) : List Str → List (Option MV) → Prop
  | [], [] => True
  | _ :: xs, .none :: ls => LocR Z f xs ls
  | x :: xs, .some m :: ls => (∃ v, f x = some v ∧ VR Z m v) ∧ LocR Z f xs ls
  | _, _ => False

def OR (Z : ZS) : MO → Obj → Prop
  | .ns vars l, o => ∃ es ep, o.data = .dict es ep ∧ StrKeys es ∧ vars.Nodup ∧ LocR Z (nsFind es) vars l
  | .list l, o => ∃ vs n, o = { cls := .type "list", data := .seq (vs : List Value).toArray n } ∧ VRs Z l vs
  | .cell .none, o => o.data = .cell .none
  | .cell (some m), o => ∃ v, o.data = .cell (some v) ∧ VR Z m v
  | .flds names vals, o => ∃ es n vs, o = dictOf es n ∧ Keyed es names vs ∧ VRs Z vals vs
  | .obj p, o => p o

theorem LocR.mono {Z Z' : ZS} (h : Z.le Z') {f : Str → Option Value} {xs : List Str} {l : List (Option MV)} (x : LocR Z f xs l) : LocR Z' f xs l := by
  induction xs generalizing l with
  | nil => cases l with
    | nil => trivial
    | cons _ _ => exact x.elim
  | cons y ys ih => cases l with
    | nil => exact x.elim
    | cons m ls => cases m with
      | none => exact ih x
      | some m => exact ⟨x.1.elim fun v hv => ⟨v, hv.1, hv.2.mono h⟩, ih x.2⟩
theorem OR.mono {Z Z' : ZS} (h : Z.le Z') : ∀ {m : MO} {o : Obj}, OR Z m o → OR Z' m o
  | .ns _ _, _, ⟨es, ep, a, b, c, d⟩ => ⟨es, ep, a, b, c, d.mono h⟩
  | .list _, _, ⟨vs, n, a, b⟩ => ⟨vs, n, a, b.mono h⟩
  | .cell .none, _, x => x
  | .cell (some _), _, ⟨v, a, b⟩ => ⟨v, a, b.mono h⟩
  | .flds _ _, _, ⟨es, n, vs, a, b, c⟩ => ⟨es, n, vs, a, b, c.mono h⟩
  | .obj _, _, x => x

structure Cx where
  K : Frag
  h₀ : Heap
  gens : Array GenState
  drawn : Drawn
  os : OsState

structure Base (c : Cx) : Prop where
  kin : c.K.In c.h₀
  nolim : c.h₀.NoLimit
  glob : ∃ mg, c.h₀.Ns mainGlobals mg
  blt : ∃ mb, c.h₀.Ns builtinsNs mb ∧ ∀ x : Str, x ≠ ("__name__" : Str) → mb x = bootBuiltins x

abbrev Sg := List (Addr × MO)

structure W (c : Cx) (Z : ZS) (s : Shared) (σ : Sg) : Prop where
  b : Base c
  base : ∀ a o, c.h₀.get? a = some o → s.heap.get? a = some o
  gens : s.gens = c.gens
  drawn : s.drawn = c.drawn
  os : s.os = c.os
  z : ∀ a o, Z a o → s.heap.get? a = some o
  cell : ∀ p ∈ σ, ∃ o, s.heap.get? p.1 = some o ∧ OR Z p.2 o
  new : ∀ p ∈ σ, c.h₀.get? p.1 = none ∧ ∀ o, ¬ Z p.1 o
  nodup : (σ.map (·.1)).Nodup

section
variable {c : Cx} {Z Z' : ZS} {s s' : Shared} {σ σ' : Sg} {a : Addr} {mo mo' : MO} {o o' : Obj}

inductive Pick (a : Addr) (mo : MO) : Sg → Sg → Prop
  | head (r : Sg) : Pick a mo ((a, mo) :: r) r
  | tail {p : Addr × MO} {r r' : Sg} : Pick a mo r r' → Pick a mo (p :: r) (p :: r')
theorem Pick.perm {r : Sg} (h : Pick a mo σ r) : σ.Perm ((a, mo) :: r) := by
  induction h with
  | head r => exact .refl _
  | tail _ ih => exact (ih.cons _).trans (.swap ..)

theorem W.perm (w : W c Z s σ) (h : σ.Perm σ') : W c Z s σ' where
  b := w.b
  base := w.base
  gens := w.gens
  drawn := w.drawn
  os := w.os
  z := w.z
  cell := fun p hp => w.cell p (h.mem_iff.mpr hp)
  new := fun p hp => w.new p (h.mem_iff.mpr hp)
  nodup := (h.map _).nodup_iff.mp w.nodup
theorem W.pick {r : Sg} (w : W c Z s σ) (h : Pick a mo σ r) : W c Z s ((a, mo) :: r) := w.perm h.perm
theorem W.drop {p : Addr × MO} (w : W c Z s (p :: σ)) : W c Z s σ where
  b := w.b
  base := w.base
  gens := w.gens
  drawn := w.drawn
  os := w.os
  z := w.z
  cell := fun q hq => w.cell q (.tail _ hq)
  new := fun q hq => w.new q (.tail _ hq)
  nodup := (List.nodup_cons.mp w.nodup).2
theorem W.head (w : W c Z s ((a, mo) :: σ)) : ∃ o, s.heap.get? a = some o ∧ OR Z mo o := w.cell _ (.head _)
theorem W.get {r : Sg} (w : W c Z s σ) (h : Pick a mo σ r) : ∃ o, s.heap.get? a = some o ∧ OR Z mo o := (w.pick h).head
/-- nothing of the heap lost -/
theorem W.keep (w : W c Z s σ) (hk : ∀ b o, s.heap.get? b = some o → s'.heap.get? b = some o) (hg : s'.gens = s.gens := by rfl) (hd : s'.drawn = s.drawn := by rfl) (ho : s'.os = s.os := by rfl) : W c Z s' σ where
  b := w.b
  base := fun a o e => hk _ _ (w.base a o e)
  gens := hg.trans w.gens
  drawn := hd.trans w.drawn
  os := ho.trans w.os
  z := fun a o e => hk _ _ (w.z a o e)
  cell := fun p hp => let ⟨o, e, r⟩ := w.cell p hp; ⟨o, hk _ _ e, r⟩
  new := w.new
  nodup := w.nodup
theorem W.tok (w : W c Z s σ) (t : Nat) : W c Z { s with toks := t } σ := w.keep fun _ _ e => e
/-- a new cell -/
theorem W.add (w : W c Z s σ) (hn : s.heap.get? a = none) (hk : ∀ b o, s.heap.get? b = some o → s'.heap.get? b = some o) (ho : s'.heap.get? a = some o) (hr : OR Z mo o)
    (hg : s'.gens = s.gens := by rfl) (hd : s'.drawn = s.drawn := by rfl) (hos : s'.os = s.os := by rfl) : W c Z s' ((a, mo) :: σ) := by
  have w' := w.keep hk hg hd hos
  refine { w' with cell := fun p hp => ?_, new := fun p hp => ?_, nodup := ?_ }
  · rcases List.mem_cons.mp hp with rfl | hp
    · exact ⟨o, ho, hr⟩
    · exact w'.cell p hp
  · rcases List.mem_cons.mp hp with rfl | hp
    · refine ⟨?_, fun o' hz => ?_⟩
      · cases e : c.h₀.get? a with
        | none => rfl
        | some o' => have := w.base a o' e; rw [hn] at this; cases this
      · have := w.z a o' hz; rw [hn] at this; cases this
    · exact w'.new p hp
  · rw [List.map_cons, List.nodup_cons]
    refine ⟨fun hm => ?_, w.nodup⟩
    obtain ⟨q, hq, e⟩ := List.mem_map.mp hm
    obtain ⟨o', ho', _⟩ := w.cell q hq
    rw [e, hn] at ho'; cases ho'
theorem fresh_none (h : Heap) : h.get? h.objs.size = none := by
  cases e : h.get? h.objs.size with
  | none => rfl
  | some o => exact absurd (Heap.lt_size e) (Nat.lt_irrefl _)
theorem W.push (w : W c Z s σ) (hf : o.isFreed = false) (hr : OR Z mo o) : W c Z { s with heap := s.heap.push o } ((s.heap.objs.size, mo) :: σ) :=
  w.add (fresh_none _) (fun _ _ e => Heap.get?_push_of_some _ e) (Heap.get?_push_size _ hf) hr
/-- the first cell changes -/
theorem W.set (w : W c Z s ((a, mo) :: σ)) (hk : ∀ b o, b ≠ a → s.heap.get? b = some o → s'.heap.get? b = some o) (ho : s'.heap.get? a = some o') (hr : OR Z mo' o')
    (hg : s'.gens = s.gens := by rfl) (hd : s'.drawn = s.drawn := by rfl) (hos : s'.os = s.os := by rfl) : W c Z s' ((a, mo') :: σ) := by
  have hnew := w.new _ (.head _)
  have hnd := w.nodup
  rw [List.map_cons, List.nodup_cons] at hnd
  exact {
    b := w.b
    base := fun b o e => hk b o (fun h => by rw [h, hnew.1] at e; cases e) (w.base b o e)
    gens := hg.trans w.gens
    drawn := hd.trans w.drawn
    os := hos.trans w.os
    z := fun b o e => hk b o (fun h => hnew.2 o (h ▸ e)) (w.z b o e)
    cell := fun p hp => by
      rcases List.mem_cons.mp hp with rfl | hp
      · exact ⟨o', ho, hr⟩
      · obtain ⟨ob, e, r⟩ := w.cell p (.tail _ hp)
        exact ⟨ob, hk _ _ (fun h => hnd.1 (List.mem_map.mpr ⟨p, hp, h⟩)) e, r⟩
    new := fun p hp => by
      rcases List.mem_cons.mp hp with rfl | hp
      · exact hnew
      · exact w.new p (.tail _ hp)
    nodup := by rw [List.map_cons, List.nodup_cons]; exact hnd }
/-- the first cell is frozen: it changes no more -/
theorem W.freeze (w : W c Z s ((a, mo) :: σ)) (ho : s.heap.get? a = some o) : W c (Z.put a o) s σ := by
  have hnd := w.nodup
  rw [List.map_cons, List.nodup_cons] at hnd
  exact {
    b := w.b
    base := w.base
    gens := w.gens
    drawn := w.drawn
    os := w.os
    z := fun b ob e => by
      rcases e with ⟨rfl, rfl⟩ | e
      · exact ho
      · exact w.z b ob e
    cell := fun p hp => by
      obtain ⟨ob, e, r⟩ := w.cell p (.tail _ hp)
      exact ⟨ob, e, r.mono (Z.le_put _ _)⟩
    new := fun p hp => by
      have := w.new p (.tail _ hp)
      refine ⟨this.1, fun ob e => ?_⟩
      rcases e with ⟨h, _⟩ | e
      · exact hnd.1 (List.mem_map.mpr ⟨p, hp, h⟩)
      · exact this.2 ob e
    nodup := hnd.2 }
/-- a frozen thing straight away -/
theorem W.zpush (w : W c Z s σ) (hf : o.isFreed = false) : W c (Z.put s.heap.objs.size o) { s with heap := s.heap.push o } σ :=
  (w.push (mo := .obj fun _ => True) hf trivial).freeze (Heap.get?_push_size _ hf)
theorem W.freezeList {l : List MV} (w : W c Z s ((a, .list l) :: σ)) : ∃ Z', Z.le Z' ∧ W c Z' s σ ∧ VR Z' (.lst l) (.ref a) := by
  obtain ⟨o, ho, vs, n, e, r⟩ := w.head
  refine ⟨Z.put a o, Z.le_put _ _, w.freeze ho, ?_⟩
  subst e
  exact .lst (Z.put_self _ _) (r.mono (Z.le_put _ _))
theorem W.notIn (w : W c Z s ((a, mo) :: σ)) : ∀ b, (∃ m, (b, m) ∈ σ) → b ≠ a := by
  rintro b ⟨m, hm⟩ rfl
  have hnd := w.nodup
  rw [List.map_cons, List.nodup_cons] at hnd
  exact hnd.1 (List.mem_map.mpr ⟨_, hm, rfl⟩)

/-- σ' may be had from σ by forgetting -/
inductive Subs : Sg → Sg → Prop
  | refl (r : Sg) : Subs r r
  | take {a : Addr} {mo : MO} {t σ r : Sg} : Pick a mo σ r → Subs t r → Subs ((a, mo) :: t) σ
  | drop {p : Addr × MO} {t r : Sg} : Subs t r → Subs t (p :: r)
theorem W.cons_of (w₁ : W c Z s ((a, mo) :: σ)) (h : ∀ {s : Shared}, W c Z s σ → W c Z s σ') (hsub : ∀ p ∈ σ', p ∈ σ) : W c Z s ((a, mo) :: σ') := by
  have w₂ := h w₁.drop
  have hnd := w₁.nodup
  rw [List.map_cons, List.nodup_cons] at hnd
  refine { w₂ with cell := fun p hp => ?_, new := fun p hp => ?_, nodup := ?_ }
  · rcases List.mem_cons.mp hp with rfl | hp
    · exact w₁.head
    · exact w₂.cell p hp
  · rcases List.mem_cons.mp hp with rfl | hp
    · exact w₁.new _ (.head _)
    · exact w₂.new p hp
  · rw [List.map_cons, List.nodup_cons]
    refine ⟨fun hm => ?_, w₂.nodup⟩
    obtain ⟨q, hq, e⟩ := List.mem_map.mp hm
    exact hnd.1 (List.mem_map.mpr ⟨q, hsub q hq, e⟩)
theorem Subs.sub {t σ : Sg} (h : Subs t σ) : ∀ p ∈ t, p ∈ σ := by
  induction h with
  | refl r => exact fun _ h => h
  | take hp _ ih =>
    intro p hm
    rcases List.mem_cons.mp hm with rfl | hm
    · exact hp.perm.mem_iff.mpr (.head _)
    · exact hp.perm.mem_iff.mpr (.tail _ (ih p hm))
  | drop _ ih => exact fun p hm => .tail _ (ih p hm)
theorem W.subs {t : Sg} (w : W c Z s σ) (h : Subs t σ) : W c Z s t := by
  induction h generalizing s with
  | refl r => exact w
  | take hp hs ih => exact (w.pick hp).cons_of (fun w => ih w) hs.sub
  | drop _ ih => exact ih w.drop
end


end Mine
-- F2
namespace Mine
open PySem PySem.Spec PySem.Calls PyProof.Rows PySem.W

inductive LGet (x : Str) (m : MV) : List Str → List (Option MV) → Prop
  | head (xs : List Str) (l : List (Option MV)) : LGet x m (x :: xs) (some m :: l)
  | tail {y : Str} {o : Option MV} {xs : List Str} {l : List (Option MV)} : LGet x m xs l → LGet x m (y :: xs) (o :: l)
inductive LSet (x : Str) (m : MV) : List Str → List (Option MV) → List (Option MV) → Prop
  | head (xs : List Str) (o : Option MV) (l : List (Option MV)) : LSet x m (x :: xs) (o :: l) (some m :: l)
  | tail {y : Str} {o : Option MV} {xs : List Str} {l l' : List (Option MV)} : LSet x m xs l l' → LSet x m (y :: xs) (o :: l) (o :: l')
inductive LSub : List (Option MV) → List (Option MV) → Prop
  | nil : LSub [] []
  | keep {o : Option MV} {l l' : List (Option MV)} : LSub l l' → LSub (o :: l) (o :: l')
  | forget {o : Option MV} {l l' : List (Option MV)} : LSub l l' → LSub (.none :: l) (o :: l')

section
variable {Z : ZS} {f : Str → Option Value} {x : Str} {m : MV} {xs : List Str} {l l' : List (Option MV)} {v : Value}
theorem LGet.mem (h : LGet x m xs l) : x ∈ xs := by
  induction h with
  | head => exact .head _
  | tail _ ih => exact .tail _ ih
theorem LSet.mem (h : LSet x m xs l l') : x ∈ xs := by
  induction h with
  | head => exact .head _
  | tail _ ih => exact .tail _ ih
theorem LocR.get (h : LGet x m xs l) (r : LocR Z f xs l) : ∃ v, f x = some v ∧ VR Z m v := by
  induction h with
  | head => exact r.1
  | @tail _ o _ _ _ ih => cases o with
    | none => exact ih r
    | some _ => exact ih r.2
theorem LocR.congr {g : Str → Option Value} (hg : ∀ y ∈ xs, g y = f y) (r : LocR Z f xs l) : LocR Z g xs l := by
  induction xs generalizing l with
  | nil => cases l with
    | nil => trivial
    | cons _ _ => exact r.elim
  | cons y ys ih => cases l with
    | nil => exact r.elim
    | cons o ls => cases o with
      | none => exact ih (fun z hz => hg z (.tail _ hz)) r
      | some _ => exact ⟨by rw [hg y (.head _)]; exact r.1, ih (fun z hz => hg z (.tail _ hz)) r.2⟩
theorem LocR.set (h : LSet x m xs l l') (hv : VR Z m v) (hn : xs.Nodup) (r : LocR Z f xs l) : LocR Z (fun y => if y = x then some v else f y) xs l' := by
  induction h with
  | head xs o l =>
    have h1 := (List.nodup_cons.mp hn).1
    refine ⟨⟨v, by simp, hv⟩, ?_⟩
    have r' : LocR Z f xs l := by cases o with
      | none => exact r
      | some _ => exact r.2
    exact r'.congr fun y hy => if_neg fun (e : y = x) => h1 (e ▸ hy)
  | @tail y o xs l l' hs ih =>
    have h1 := List.nodup_cons.mp hn
    have hne : y ≠ x := fun (e : y = x) => h1.1 (e ▸ hs.mem)
    cases o with
    | none => exact ih h1.2 r
    | some _ => exact ⟨by simpa only [if_neg hne] using r.1, ih h1.2 r.2⟩
theorem LocR.sub (h : LSub l' l) (r : LocR Z f xs l) : LocR Z f xs l' := by
  induction h generalizing xs with
  | nil => exact r
  | @keep o l l' _ ih => cases xs with
    | nil => exact r
    | cons y ys => cases o with
      | none => exact ih (xs := ys) r
      | some _ => exact ⟨r.1, ih r.2⟩
  | @forget o l l' _ ih => cases xs with
    | nil => exact r.elim
    | cons y ys => cases o with
      | none => exact ih (xs := ys) r
      | some _ => exact ih (xs := ys) r.2
end

structure EnvOk (env : Env) (L : Addr) (vars : List Str) (cl : List (Str × Addr)) (gl : List Str) : Prop where
  kind : env.scope.kind = .function
  loc : env.locals = L
  glb : env.globals = mainGlobals
  blt : env.builtins = builtinsNs
  vars : ∀ x ∈ vars, env.kindOf x = some .local
  cells : ∀ p ∈ cl, (env.kindOf p.1 = some .cell ∨ env.kindOf p.1 = some .free) ∧ env.cells.lookup p.1 = some p.2
  gl : ∀ x ∈ gl, env.kindOf x = some .globalImplicit

structure Room (n : Nat) (A : Around) : Prop where
  h : A.handled = none
  d : A.depth + n < 900
  u : A.units + 8 * n < 9000
theorem Room.lt {n : Nat} {A : Around} (r : Room n A) : A.depth < recursionLimit := by have := r.d; show _ < 1000; omega
theorem Room.units {n : Nat} {A : Around} (r : Room n A) : A.units < cLine := by have := r.u; show _ < 9900; omega
theorem Room.deeper {n : Nat} {A : Around} (r : Room (n + 1) A) (env : Env) : Room n (A.deeper env) := ⟨r.h, by have := r.d; show A.depth + 1 + n < 900; omega, by have := r.u; show A.units + 3 + 8 * n < 9000; omega⟩
theorem Room.in1 {n : Nat} {A : Around} (r : Room (n + 1) A) : Room n A.in1 := ⟨r.h, by have := r.d; show A.depth + n < 900; omega, by have := r.u; show A.units + 1 + 8 * n < 9000; omega⟩
theorem Room.le {n k : Nat} {A : Around} (r : Room n A) (h : k ≤ n) : Room k A := ⟨r.h, by have := r.d; omega, by have := r.u; omega⟩

section
variable {c : Cx} {Z : ZS} {s : Shared} {σ r : Sg} {env : Env} {L : Addr} {vars : List Str} {cl : List (Str × Addr)} {gl : List Str} {M : Model} {A : Around} {E : Value → Shared → Prop}
  {x : Str} {m : MV} {l l' : List (Option MV)} {pos : Pos} {v : Value}

theorem W.ns (w : W c Z s ((L, .ns vars l) :: σ)) : ∃ f, s.heap.Ns L f ∧ vars.Nodup ∧ LocR Z f vars l := by
  obtain ⟨o, ho, es, ep, hd, hk, hn, hl⟩ := w.head
  exact ⟨nsFind es, ⟨o, es, ep, ho, hd, hk, fun _ => rfl⟩, hn, hl⟩
theorem W.nsSet {s' : Shared} {f : Str → Option Value} (w : W c Z s ((L, .ns vars l) :: σ)) (hf : s'.heap.Ns L f) (hs : Heap.SameBut L s.heap s'.heap) (hn : vars.Nodup) (hl : LocR Z f vars l')
    (hg : s'.gens = s.gens := by rfl) (hd : s'.drawn = s.drawn := by rfl) (hos : s'.os = s.os := by rfl) : W c Z s' ((L, .ns vars l') :: σ) := by
  obtain ⟨o, es, ep, ho, hdt, hk, hfd⟩ := hf
  refine w.set (fun b o hb e => (hs.2 b hb).trans e) ho ⟨es, ep, hdt, hk, hn, ?_⟩ hg hd hos
  exact hl.congr fun y _ => hfd y
theorem W.forget (w : W c Z s ((L, .ns vars l) :: σ)) (h : LSub l' l) : W c Z s ((L, .ns vars l') :: σ) := by
  obtain ⟨o, ho, es, ep, hd, hk, hn, hl⟩ := w.head
  exact w.set (fun _ _ _ e => e) ho ⟨es, ep, hd, hk, hn, hl.sub h⟩

theorem e_local {Q : Value → Shared → Prop} (w : W c Z s σ) (ev : EnvOk env L vars cl gl) (hp : Pick L (.ns vars l) σ r) (hg : LGet x m vars l) (k : ∀ v, VR Z m v → Q v s)
    (hd : (x == ("__debug__" : Str)) = false := by decide) : wpAny M A (eval (.Name x pos) env) Q E s := by
  obtain ⟨f, hf, _, hl⟩ := (w.pick hp).ns
  obtain ⟨v, hv, hr⟩ := LocR.get hg hl
  exact wpAny_Name (wpAny_loadName_local ev.kind (ev.vars _ hg.mem) (by rw [ev.loc]; exact hf) hv (k v hr)) hd
theorem e_cell {ca : Addr} {Q : Value → Shared → Prop} (w : W c Z s σ) (ev : EnvOk env L vars cl gl) (hc : (x, ca) ∈ cl) (hp : Pick ca (.cell (some m)) σ r) (k : ∀ v, VR Z m v → Q v s)
    (hd : (x == ("__debug__" : Str)) = false := by decide) (hn : (x == ("__classdict__" : Str)) = false := by decide) : wpAny M A (eval (.Name x pos) env) Q E s := by
  obtain ⟨o, ho, v, hv, hr⟩ := w.get hp
  obtain ⟨hk, hl⟩ := ev.cells _ hc
  refine wpAny_Name ?_ hd
  rcases hk with hk | hk
  · exact wpAny_loadName_cell ev.kind hk hl ⟨o, ho, hv⟩ (k v hr)
  · exact wpAny_loadName_free ev.kind hk hl ⟨o, ho, hv⟩ (k v hr) hn
theorem e_glob {Q : Value → Shared → Prop} (w : W c Z s σ) (ev : EnvOk env L vars cl gl) (hx : x ∈ gl) (h : nsIn c.K mainGlobals x = some (some v)) (k : Q v s)
    (hd : (x == ("__debug__" : Str)) = false := by decide) : wpAny M A (eval (.Name x pos) env) Q E s := by
  obtain ⟨mg, hg⟩ := w.b.glob
  exact Name_function_global ev.kind (ev.gl _ hx) (loadGlobal_global (env := env) (by rw [ev.glb]; exact hg.keeps w.base) (mg_of w.b.kin hg h) k) hd
theorem e_blt {Q : Value → Shared → Prop} (w : W c Z s σ) (ev : EnvOk env L vars cl gl) (hx : x ∈ gl) (h : nsIn c.K mainGlobals x = some none) (hb : bootBuiltins x = some v) (k : Q v s)
    (hn : x ≠ ("__name__" : Str) := by decide) (hd : (x == ("__debug__" : Str)) = false := by decide) : wpAny M A (eval (.Name x pos) env) Q E s := by
  obtain ⟨mg, hg⟩ := w.b.glob
  obtain ⟨mb, hmb, hbb⟩ := w.b.blt
  exact Name_function_global ev.kind (ev.gl _ hx) (loadGlobal_builtin (env := env) (by rw [ev.glb]; exact hg.keeps w.base) (mg_none_of w.b.kin hg h) (by rw [ev.blt]; exact hmb.keeps w.base) ((hbb x hn).trans hb) k) hd

theorem st_local {Q : Unit → Shared → Prop} (w : W c Z s σ) (ev : EnvOk env L vars cl gl) (hp : Pick L (.ns vars l) σ r) (hs : LSet x m vars l l') (hv : VR Z m v)
    (k : ∀ s', W c Z s' ((L, .ns vars l') :: r) → Q () s') : wpAny M A (storeName env x v) Q E s := by
  obtain ⟨f, hf, hnd, hl⟩ := (w.pick hp).ns
  have hL := ev.loc
  refine wpAny_storeName_local (ev.vars _ hs.mem) (by rw [hL]; exact hf) (fun h' hn' hsb => k _ ?_) (by rw [ev.kind]; rfl)
  rw [hL] at hn' hsb
  exact (w.pick hp).nsSet hn' hsb hnd (hl.set hs hv hnd)
theorem st_cell {ca : Addr} {om : Option MV} {Q : Unit → Shared → Prop} (w : W c Z s σ) (ev : EnvOk env L vars cl gl) (hc : (x, ca) ∈ cl) (hk : env.kindOf x = some .cell) (hp : Pick ca (.cell om) σ r) (hv : VR Z m v)
    (k : ∀ s', W c Z s' ((ca, .cell (some m)) :: r) → Q () s') : wpAny M A (storeName env x v) Q E s := by
  have w' := w.pick hp
  obtain ⟨o, ho, hr⟩ := w'.head
  obtain ⟨_, hl⟩ := ev.cells _ hc
  have hcell : ∃ v₀, s.heap.IsCell ca v₀ := by
    cases om with
    | none => exact ⟨_, o, ho, hr⟩
    | some m => obtain ⟨v₀, h, _⟩ := hr; exact ⟨_, o, ho, h⟩
  obtain ⟨v₀, hcell⟩ := hcell
  refine wpAny_storeName_cell ev.kind hk hl hcell fun h' hv' hs => k _ ?_
  obtain ⟨o', ho', hd'⟩ := hv'
  exact w'.set (fun b o hb e => (hs.2 b hb).trans e) ho' ⟨v, hd', hv⟩

theorem e_int {i : Int} {n : Nat} {Q : Value → Shared → Prop} (w : W c Z s σ) (k : ∀ s' t, W c Z s' σ → Q (.int i t) s') : wpAny M A (eval (.Constant (.int i) n pos) env) Q E s :=
  wpAny_Constant_int (k _ _ (w.tok _))
theorem e_str {y : Str} {n : Nat} {Q : Value → Shared → Prop} (w : W c Z s σ) (k : ∀ s' t, W c Z s' σ → Q (.str y t) s') : wpAny M A (eval (.Constant (.str y) n pos) env) Q E s :=
  wpAny_Constant_str (k _ _ (w.tok _))
theorem e_none {n : Nat} {Q : Value → Shared → Prop} (k : Q .none s) : wpAny M A (eval (.Constant .none n pos) env) Q E s := wpAny_Constant_none k
theorem e_bool {b : Bool} {n : Nat} {Q : Value → Shared → Prop} (k : Q (.bool b) s) : wpAny M A (eval (.Constant (.bool b) n pos) env) Q E s := wpAny_Constant_bool k
end

section
variable {prog : Program} {w : World} {c : Cx} {Z : ZS} {s : Shared} {σ r : Sg} {A : Around} {E : Value → Shared → Prop} {a b : Int} {t u : Tok} {Q : Value → Shared → Prop}
theorem o_add (W : W c Z s σ) (k : ∀ s' t, Mine.W c Z s' σ → Q (.int (a + b) t) s') : wpAny (model prog w) A (binaryOp .Add (.int a t) (.int b u)) Q E s := wpAny_add_int (k _ _ (W.tok _))
theorem o_sub (W : W c Z s σ) (k : ∀ s' t, Mine.W c Z s' σ → Q (.int (a - b) t) s') : wpAny (model prog w) A (binaryOp .Sub (.int a t) (.int b u)) Q E s := sub_int' (k _ _ (W.tok _))
theorem o_mul (W : W c Z s σ) (hm : IntMulOk a b) (k : ∀ s' t, Mine.W c Z s' σ → Q (.int (a * b) t) s') : wpAny (model prog w) A (binaryOp .Mult (.int a t) (.int b u)) Q E s := PyProof.Rows.mul_int (k _ _ (W.tok _)) hm
theorem o_div (W : W c Z s σ) (hb : b ≠ 0) (hp : Builtin.divisionGoesByPylong a b = false) (k : ∀ s' t, Mine.W c Z s' σ → Q (.int (a.fdiv b) t) s') : wpAny (model prog w) A (binaryOp .FloorDiv (.int a t) (.int b u)) Q E s := floordiv_int hb (k _ _ (W.tok _)) (.inl hp)
theorem o_mod (W : W c Z s σ) (hb : b ≠ 0) (k : ∀ s' t, Mine.W c Z s' σ → Q (.int (a.fmod b) t) s') : wpAny (model prog w) A (binaryOp .Mod (.int a t) (.int b u)) Q E s := mod_int' hb (k _ _ (W.tok _))
theorem o_shr (W : W c Z s σ) (hn : 0 ≤ b) (k : ∀ s' t, Mine.W c Z s' σ → Q (.int (a.fdiv (2 ^ b.toNat)) t) s') : wpAny (model prog w) A (binaryOp .RShift (.int a t) (.int b u)) Q E s := rshift_int hn (k _ _ (W.tok _))
theorem o_cat {x y : Str} (W : W c Z s σ) (hz : x.length + y.length ≤ sizeLine) (k : ∀ s' t, Mine.W c Z s' σ → Q (.str (x ++ y) t) s') : wpAny (model prog w) A (binaryOp .Add (.str x t) (.str y u)) Q E s :=
  PyProof.Rows.add_str (fun _ _ => k _ _ (W.tok _)) hz
theorem c_lt (k : Q (.bool (decide (a < b))) s) : wpAny (model prog w) A (compareOp .Lt (.int a t) (.int b u)) Q E s := PyProof.Rows.lt_int k
theorem c_gt (k : Q (.bool (decide (b < a))) s) : wpAny (model prog w) A (compareOp .Gt (.int a t) (.int b u)) Q E s := PyProof.Rows.gt_int k
theorem c_le (k : Q (.bool (decide (a ≤ b))) s) : wpAny (model prog w) A (compareOp .LtE (.int a t) (.int b u)) Q E s := PyProof.Rows.le_int k
theorem c_ge (k : Q (.bool (decide (b ≤ a))) s) : wpAny (model prog w) A (compareOp .GtE (.int a t) (.int b u)) Q E s := PyProof.Rows.ge_int k
theorem c_eqs {x y : Str} (k : Q (.bool (x == y)) s) : wpAny (model prog w) A (compareOp .Eq (.str x t) (.str y u)) Q E s := PyProof.Rows.eq_str k
end
end Mine
-- F3
namespace Mine
open PySem PySem.Spec PySem.Calls PyProof.Rows PySem.W

theorem seqIndex_pos {k : Int} {n : Nat} (h0 : 0 ≤ k) (h1 : k < (n : Int)) : seqIndex? k n = some k.toNat := by
  unfold seqIndex?
  simp only [Int.not_lt.mpr h0, if_false]
  rw [if_pos (by simp only [Bool.and_eq_true, decide_eq_true_eq]; omega)]

/-- what stands at a list, whether frozen or a cell -/
def LAt (Z : ZS) (s : Shared) (a : Addr) (l : List MV) : Prop := ∃ vs n, s.heap.get? a = some { cls := .type "list", data := .seq (vs : List Value).toArray n } ∧ VRs Z l vs
def LAtZ (Z : ZS) (s : Shared) (a : Addr) (l : List MV) : Prop := ∃ vs, s.heap.IsList a (vs : List Value).toArray ∧ VRs Z l vs
def TAt (Z : ZS) (s : Shared) (a : Addr) (l : List MV) : Prop := ∃ vs, IsTup s.heap a (vs : List Value).toArray ∧ VRs Z l vs

section
variable {c : Cx} {Z : ZS} {s : Shared} {σ r : Sg} {a : Addr} {l : List MV} {v : Value}
theorem W.kin (w : W c Z s σ) : c.K.In s.heap := w.b.kin.keeps w.base
theorem W.lat (w : W c Z s σ) (h : Pick a (.list l) σ r) : LAt Z s a l := by
  obtain ⟨o, ho, vs, n, e, h⟩ := w.get h
  subst e; exact ⟨vs, n, ho, h⟩
theorem LAt.z (h : LAt Z s a l) : LAtZ Z s a l := by obtain ⟨vs, n, h, r⟩ := h; exact ⟨vs, ⟨_, h, rfl, n, rfl⟩, r⟩
theorem W.latc (w : W c Z s σ) (h : Pick a (.list l) σ r) : LAtZ Z s a l := (w.lat h).z
theorem W.latz (w : W c Z s σ) (h : VR Z (.lst l) (.ref a)) : LAtZ Z s a l := by
  obtain ⟨a', o, vs, n, e, z, hc, hd, h⟩ := h.lst_inv
  cases e
  exact ⟨vs, ⟨o, w.z _ _ z, hc, n, hd⟩, h⟩
theorem W.latf (w : W c Z s σ) (h : VR Z (.lst l) (.ref a)) : LAt Z s a l := by
  obtain ⟨a', vs, n, e, z, h⟩ := h.lst_inv'
  cases e
  exact ⟨vs, n, w.z _ _ z, h⟩
theorem W.latr {o : Obj} {vs : List Value} {n : Nat} (w : W c Z s σ) (hz : Z a o) (hc : o.cls = .type "list") (hd : o.data = .seq vs.toArray n) (h : VRs Z l vs) : LAtZ Z s a l := ⟨vs, ⟨o, w.z _ _ hz, hc, n, hd⟩, h⟩
theorem W.tat (w : W c Z s σ) (h : VR Z (.tup l) (.ref a)) : TAt Z s a l := by
  obtain ⟨a', o, vs, n, e, z, hc, hd, h⟩ := h.tup_inv
  cases e
  exact ⟨vs, ⟨o, w.z _ _ z, hc, n, hd⟩, h⟩
end

section
variable {prog : Program} {w : World} {c : Cx} {Z : ZS} {s : Shared} {σ r : Sg} {A : Around} {E : Value → Shared → Prop} {a b : Addr} {l l' : List MV} {k : Int} {t u : Tok} {Q : Value → Shared → Prop} {m : MV} {v : Value} {env : Env} {pos : Pos}

theorem g_item (h : LAtZ Z s a l) (h0 : 0 ≤ k) (hf : k < 2 ^ 63) (hm : l[k.toNat]? = some m) (q : ∀ v, VR Z m v → Q v s) : wpAny (model prog w) A (getItem (.ref a) (.int k t)) Q E s := by
  obtain ⟨vs, hl, hr⟩ := h
  obtain ⟨v, hv, hvr⟩ := hr.get hm
  exact wpAny_getItem_list hl h0 hf (by simpa using hv) (q v hvr)
theorem g_itemT (h : TAt Z s a l) (h0 : 0 ≤ k) (hf : k < 2 ^ 63) (hm : l[k.toNat]? = some m) (q : ∀ v, VR Z m v → Q v s) : wpAny (model prog w) A (getItem (.ref a) (.int k t)) Q E s := by
  obtain ⟨vs, hl, hr⟩ := h
  obtain ⟨v, hv, hvr⟩ := hr.get hm
  have hlt : k.toNat < vs.length := (List.getElem?_eq_some_iff.mp hv).1
  refine getItem_tuple hl (by omega) hf (j := k.toNat) ?_ (by simpa using hv) (q v hvr)
  exact seqIndex_pos h0 (by rw [List.size_toArray]; omega)
theorem s_item {slice value : Expr} (h : LAtZ Z s a l) (h0 : 0 ≤ k) (hf : k < 2 ^ 63) (hm : l[k.toNat]? = some m) (q : ∀ v, VR Z m v → Q v s)
    (hs : subscripted slice false (.ref a) (.int k t) = operate [.ref a, .int k t] (getItem (.ref a) (.int k t)) := by with_unfolding_all rfl) : wpAny (model prog w) A (subscriptTail value slice (.ref a) (.int k t)) Q E s := by
  obtain ⟨vs, hl, hr⟩ := h
  exact tail_any hl.typeIs slot_list_getitem.lookup (g_item ⟨vs, hl, hr⟩ h0 hf hm q) hs
theorem s_itemT {slice value : Expr} (h : TAt Z s a l) (h0 : 0 ≤ k) (hf : k < 2 ^ 63) (hm : l[k.toNat]? = some m) (q : ∀ v, VR Z m v → Q v s)
    (hs : subscripted slice false (.ref a) (.int k t) = operate [.ref a, .int k t] (getItem (.ref a) (.int k t)) := by with_unfolding_all rfl) : wpAny (model prog w) A (subscriptTail value slice (.ref a) (.int k t)) Q E s := by
  obtain ⟨vs, hl, hr⟩ := h
  exact tail_any hl.typeIs slot_tuple_getitem.lookup (g_itemT ⟨vs, hl, hr⟩ h0 hf hm q) hs
/-- xs[-1] -/
theorem s_last {slice value : Expr} (h : LAtZ Z s a (l ++ [m])) (q : ∀ v, VR Z m v → Q v s)
    (hs : subscripted slice false (.ref a) (.int (-1) t) = operate [.ref a, .int (-1) t] (getItem (.ref a) (.int (-1) t)) := by with_unfolding_all rfl) : wpAny (model prog w) A (subscriptTail value slice (.ref a) (.int (-1) t)) Q E s := by
  obtain ⟨vs, hl, hr⟩ := h
  obtain ⟨v, hv, hvr⟩ := hr.get (i := l.length) (m := m) (by simp)
  have hlen := hr.length
  rw [List.length_append, List.length_singleton] at hlen
  refine tail_any hl.typeIs slot_list_getitem.lookup (wpAny_getItem_list_neg hl (by decide) (by rw [List.size_toArray]; omega) (by decide) (x := v) ?_ (q v hvr)) hs
  rw [List.size_toArray, ← hlen]
  have : ((-1 : Int) + ((l.length + 1 : Nat) : Int)).toNat = l.length := by omega
  rw [this]; simpa using hv
theorem set_item {Q : Unit → Shared → Prop} (W : W c Z s σ) (hp : Pick a (.list l) σ r) (h0 : 0 ≤ k) (hk : k < l.length) (hf : k < 2 ^ 63) (hv : VR Z m v) (q : ∀ s', Mine.W c Z s' ((a, .list (l.set k.toNat m)) :: r) → Q () s') :
    wpAny (model prog w) A (setItem (.ref a) (.int k t) v) Q E s := by
  have W' := W.pick hp
  obtain ⟨o, ho, vs, n, e, hr⟩ := W'.head
  subst e
  have hlen := hr.length
  have hl : s.heap.IsList a vs.toArray := ⟨_, ho, rfl, n, rfl⟩
  unfold setItem
  try with_reducible refine wpAny_holding ?_
  first | refine wpAny_bind (wpAny_pure ?_) | skip
  refine wpAny_bind (wpAny_sequenceKey hl.typeIs (by decide) ?_)
  refine wpAny_bind (wpAny_callSpecial?_slot (name := Str.ofString "__setitem__") hl.typeIs slot_list_setitem
    (wpAny_call_entry slot_list_setitem hl.typeIs entry_list_setitem ?_ (args_list_setitem _ _ _)))
  show wpAny _ _ (Builtin.List.listSubscript? (.int k t) >>= _) _ _ s
  refine wpAny_bind (wpAny_listSubscript_int (fitsIndex_of h0 hf) ?_)
  clear hf
  obtain ⟨j, rfl⟩ := Int.eq_ofNat_of_zero_le h0
  have hj : j < vs.toArray.size := by rw [List.size_toArray]; omega
  have hx' : vs.toArray[j]? = some vs.toArray[j] := Array.getElem?_eq_getElem hj
  show wpAny _ _ ((seqItemAt a j >>= fun r => pure (r.map (j, ·))) >>= _) _ _ s
  refine wpAny_bind (wpAny_bind (wpAny_seqItemAt ho rfl (wpAny_pure ?_)))
  rw [hx']
  have fin : Q () { s with heap := s.heap.update a (Obj.mapSeq (·.setIfInBounds j v)) } := by
    refine q _ (W'.set (o' := { cls := .type "list", data := .seq (vs.set j v).toArray n }) (fun b o hb e => (Heap.get?_update_other _ _ (Ne.symm hb)).trans e) ?_ ⟨_, n, rfl, hr.set hv j⟩)
    have e1 := Heap.get?_update_self (Obj.mapSeq (·.setIfInBounds j v)) ho rfl
    rw [e1]
    simp [Obj.mapSeq]
  refine wpAny_bind (wpAny_setSeqItemAt ho rfl ?_)
  first
    | exact wpAny_bind (wpAny_pure (wpAny_pure ⟨.none, rfl, wpAny_pure fin⟩))
    | exact wpAny_pure ⟨.none, rfl, wpAny_pure fin⟩
end
end Mine
-- F4
namespace Mine
open PySem PySem.Spec PySem.Calls PyProof.Rows PySem.W

section
variable {prog : Program} {w : World} {c : Cx} {Z : ZS} {s : Shared} {σ r : Sg} {A : Around} {E : Value → Shared → Prop} {a b : Addr} {l l' : List MV} {k : Int} {t u : Tok} {Q : Value → Shared → Prop} {m : MV} {v : Value} {vs : List Value} {env : Env} {pos apos : Pos}

theorem n_tuple {M : Model} (W : W c Z s σ) (hv : VRs Z l vs) (hz : vs.length ≤ sizeLine) (q : ∀ Z' s' a, Z.le Z' → Mine.W c Z' s' σ → VR Z' (.tup l) (.ref a) → Q (.ref a) s') : wpAny M A (newTuple vs) Q E s :=
  wpAny_newObj_type (q (Z.put _ _) _ _ (Z.le_put _ _) (W.zpush rfl) (.tup (vs := vs) (Z.put_self _ _) rfl rfl (hv.mono (Z.le_put _ _)))) (by show vs.toArray.size ≤ sizeLine; rw [List.size_toArray]; exact hz)
theorem n_list {M : Model} (W : W c Z s σ) (hv : VRs Z l vs) (hz : vs.length ≤ sizeLine) (q : ∀ s' a, Mine.W c Z s' ((a, .list l) :: σ) → Q (.ref a) s') : wpAny M A (newList vs) Q E s :=
  wpAny_newObj_type (q _ _ (W.push rfl ⟨vs, _, rfl, hv⟩)) (by show vs.toArray.size ≤ sizeLine; rw [List.size_toArray]; exact hz)

theorem e_tuple {M : Model} {elts : List Expr} {k : Nat} (h : wpAny M A (spliced (backTo pos (starEach elts env))) (fun vs s₁ => wpAny M A (newTuple vs) Q E s₁) E s) : wpAny M A (eval (.Tuple elts k pos) env) Q E s := Tuple_ h
theorem e_list {M : Model} {elts : List Expr} (h : wpAny M A (spliced (backTo pos (starEach elts env))) (fun vs s₁ => wpAny M A (newList vs) Q E s₁) E s) : wpAny M A (eval (.List elts pos) env) Q E s := List_ h

theorem len_l (W : W c Z s σ) (h : LAtZ Z s a l) (hf : l.length < 2 ^ 40) (q : ∀ s' t, Mine.W c Z s' σ → Q (.int l.length t) s') : wpAny (model prog w) A (call (.builtin "len") [.ref a]) Q E s := by
  obtain ⟨vs, hl, hr⟩ := h
  have hlen := hr.length
  refine call_len_list hl (by rw [List.size_toArray]; omega) ?_
  rw [List.size_toArray, ← hlen]
  exact q _ _ (W.tok _)
theorem len_t (W : W c Z s σ) (h : TAt Z s a l) (hf : l.length < 2 ^ 40) (q : ∀ s' t, Mine.W c Z s' σ → Q (.int l.length t) s') : wpAny (model prog w) A (call (.builtin "len") [.ref a]) Q E s := by
  obtain ⟨vs, hl, hr⟩ := h
  have hlen := hr.length
  refine PyProof.Rows.len_tuple hl (by rw [List.size_toArray]; omega) ?_
  rw [List.size_toArray, ← hlen]
  exact q _ _ (W.tok _)
theorem len_s {x : Str} (W : W c Z s σ) (hf : x.length < 2 ^ 40) (q : ∀ s' t, Mine.W c Z s' σ → Q (.int x.length t) s') : wpAny (model prog w) A (call (.builtin "len") [.str x t]) Q E s :=
  PyProof.Rows.len_str (by omega) (q _ _ (W.tok _))
theorem truthy_l {Q : Bool → Shared → Prop} (W : W c Z s σ) (h : LAtZ Z s a l) (hf : l.length < 2 ^ 40) (q : ∀ s', Mine.W c Z s' σ → Q (!l.isEmpty) s') : wpAny (model prog w) A (truthy (.ref a)) Q E s := by
  obtain ⟨vs, hl, hr⟩ := h
  have hlen := hr.length
  refine wpAny_truthy_list hl (by rw [List.size_toArray]; omega) ?_
  have e : (!vs.toArray.isEmpty) = !l.isEmpty := by
    cases l with
    | nil => cases hr; rfl
    | cons x l => cases hr; rfl
  rw [e]
  exact q _ (W.tok _)

/-- method calls upon a list -/
theorem m_list {o : Expr} {name : Str} {id : String} {args : List Expr} (slot : Slot "list" name id) (hty : typeOf (.builtin id) = pure (.type "method_descriptor"))
    (hbase : attributeBase o name env (eval o env) = eval o env)
    (hfew : ((backTo pos (starEach args env)).all (fun x => !x.1) && (backToKw pos (keywordEach [] env)).all (fun x => x.1.isSome)
      && decide (args.length + ([] : List Keyword).length + (if ([] : List Keyword).isEmpty then 0 else 1) < 30)) = true)
    (hline : (apos.endLine == pos.line) = true)
    (h : wpAny (model prog w) A (eval o env) (fun ov s₁ => ∃ a Z l, ov = .ref a ∧ LAt Z s₁ a l ∧ wpAny (model prog w) A (callWith pos (.builtin id) [.ref a] (backTo pos (starEach args env)) []) Q E s₁) E s) :
    wpAny (model prog w) A (eval (.Call (.Attribute o name apos) args [] pos) env) Q E s := by
  refine wpAny_Call_method_lateS hbase hfew hline (wpAny_mono h (fun ov s₁ h₁ => ?_) fun _ _ e => e)
  obtain ⟨a, Z, l, rfl, ⟨vs, n, ho, hr⟩, hq⟩ := h₁
  exact ⟨"list", id, PySem.F.plainAttrs_list, slot, hty, ⟨_, ho, rfl⟩, fun a' e => by cases e; exact ⟨_, ho, rfl⟩, hq⟩

theorem isL_update {h : Heap} {n : Nat} {items : List Value} (x : h.get? a = some { cls := .type "list", data := .seq items.toArray n }) (f : Array Value → Array Value) (items' : List Value) (hf : f items.toArray = items'.toArray) :
    ∃ n', (h.update a (Obj.mapSeq f)).get? a = some { cls := .type "list", data := .seq items'.toArray n' } := by
  have h1 := Heap.get?_update_self (Obj.mapSeq f) x rfl
  refine ⟨if (items'.toArray.size == items.toArray.size) = true then n else n + 1, ?_⟩
  rw [h1]; simp only [Obj.mapSeq, hf]

theorem append_c {x : Sem Value} (h : wpAny (model prog w) A x (fun v s₁ => ∃ Z σ r l m, W c Z s₁ σ ∧ Pick a (.list l) σ r ∧ VR Z m v ∧ l.length < 2 ^ 20 ∧ ∀ s', W c Z s' ((a, .list (l ++ [m])) :: r) → Q .none s') E s) :
    wpAny (model prog w) A (callWith pos (.builtin "list.append") [.ref a] [(false, x)] []) Q E s := by
  refine P.append_list (wpAny_mono h (fun v s₁ h₁ => ?_) fun _ _ e => e)
  obtain ⟨Z, σ, r, l, m, W₁, hp, hv, hz, q⟩ := h₁
  have W' := W₁.pick hp
  obtain ⟨o, ho, vs, n, e, hr⟩ := W'.head
  subst e
  have hlen := hr.length
  refine ⟨vs.toArray, n, by rw [List.size_toArray, sizeLine_eq]; omega, ho, ?_⟩
  obtain ⟨n', hn'⟩ := isL_update ho (fun xs => xs.push v) (vs ++ [v]) (by simp)
  exact q _ (W'.set (fun b o hb e => (Heap.get?_update_other _ _ (Ne.symm hb)).trans e) hn' ⟨_, n', rfl, hr.snoc hv⟩)
theorem pop_c (W : W c Z s σ) (hp : Pick a (.list (l ++ [m])) σ r) (hz : l.length < 2 ^ 20) (q : ∀ s' v, Mine.W c Z s' ((a, .list l) :: r) → VR Z m v → Q v s') :
    wpAny (model prog w) A (callWith pos (.builtin "list.pop") [.ref a] [] []) Q E s := by
  have W' := W.pick hp
  obtain ⟨o, ho, vs, n, e, hr⟩ := W'.head
  subst e
  have hlen := hr.length
  rw [List.length_append, List.length_singleton] at hlen
  obtain ⟨v, hv, hvr⟩ := hr.get (i := l.length) (m := m) (by simp)
  have e1 : vs.toArray.size - 1 = l.length := by rw [List.size_toArray]; omega
  refine P.pop_list ho (y := v) (by rw [e1]; simpa using hv) ?_ (by rw [List.size_toArray, sizeLine_eq]; omega)
  have e2 : vs.eraseIdx l.length = vs.take l.length := by
    have : vs.length = l.length + 1 := hlen.symm
    rw [List.eraseIdx_eq_take_drop_succ, List.drop_of_length_le (by omega), List.append_nil]
  obtain ⟨n', hn'⟩ := isL_update ho (fun xs => xs.eraseIdxIfInBounds (vs.toArray.size - 1)) (vs.take l.length) (by
    rw [e1, ← e2]
    have hlt : l.length < vs.toArray.size := by rw [List.size_toArray]; omega
    simp [Array.eraseIdxIfInBounds, show l.length < vs.length by omega])
  have hr' := hr.take l.length
  rw [List.take_left] at hr'
  exact q _ v (W'.set (fun b o hb e => (Heap.get?_update_other _ _ (Ne.symm hb)).trans e) hn' ⟨_, n', rfl, hr'⟩) hvr
end
end Mine
-- F5
namespace Mine
open PySem PySem.Spec PySem.Calls PyProof.Rows PySem.W

theorem VRs.one {Z : ZS} {m : MV} {vs : List Value} (h : VRs Z [m] vs) : ∃ v, vs = [v] ∧ VR Z m v := by
  cases h with | cons a b => cases b; exact ⟨_, rfl, a⟩
theorem VRs.two {Z : ZS} {m n : MV} {vs : List Value} (h : VRs Z [m, n] vs) : ∃ v u, vs = [v, u] ∧ VR Z m v ∧ VR Z n u := by
  cases h with | cons a b => cases b with | cons b d => cases d; exact ⟨_, _, rfl, a, b⟩

section
variable {prog : Program} {w : World} {c : Cx} {Z : ZS} {s : Shared} {σ r : Sg} {A : Around} {E : Value → Shared → Prop} {a b : Addr} {Q : Value → Shared → Prop}

def pairLt (i : Int) (x : Str) (j : Int) (y : Str) : Bool := if i = j then decide (x.cps.toList < y.cps.toList) else decide (i < j)

theorem lt_body {i j : Int} {x y : Str} {t t' u u' : Tok} {P : Fin → Shared → Prop} (hx : IsTup s.heap a (List.toArray [.int i t, .str x u])) (hy : IsTup s.heap b (List.toArray [.int j t', .str y u'])) (h : P (.done (.ret (.bool (pairLt i x j y)))) s) :
    wpAny (model prog w) A (Builtin.«tuple.__lt__» ⟨[.ref a, .ref b], []⟩) P E s := by
  have hTb := hy.typeIs
  obtain ⟨oa, hoa, _, na, hda⟩ := hx
  obtain ⟨ob, hob, _, nb, hdb⟩ := hy
  show wpAny _ _ (isInstance (.ref b) (.type "tuple") >>= _) _ _ s
  refine wpAny_bind (wpAny_isInstance hTb PySem.isSubtype_tuple_tuple ?_)
  simp only [Bool.not_true, Bool.false_eq_true, if_false]
  refine wpAny_bind (wpAny_tupleItemsOf hoa hda ?_)
  refine wpAny_bind (wpAny_tupleItemsOf hob hdb ?_)
  refine wpAny_bind ?_
  show wpAny _ _ (forIn [(Value.int i t, Value.int j t'), (Value.str x u, Value.str y u')] _ _) _ _ _
  rw [List.forIn_cons]
  refine wpAny_bind (wpAny_bind (wpAny_eqBool_int ?_))
  by_cases hij : i = j
  · have e : (i == j) = true := by simp [hij]
    rw [e]
    simp only [Bool.not_true, Bool.false_eq_true, if_false]
    refine wpAny_pure ?_
    show wpAny _ _ (forIn [(Value.str x u, Value.str y u')] _ _) _ _ _
    rw [List.forIn_cons]
    refine wpAny_bind (wpAny_bind (PyProof.Rows.eqBool_str ?_))
    by_cases hxy : x = y
    · have e : (x == y) = true := by simp [hxy]
      rw [e]
      simp only [Bool.not_true, Bool.false_eq_true, if_false]
      refine wpAny_pure (wpAny_pure (wpAny_pure ?_))
      have : pairLt i x j y = false := by unfold pairLt; rw [if_pos hij, hxy]; exact decide_eq_false (List.lt_irrefl _)
      rw [this] at h; exact h
    · have e : (x == y) = false := by simp [hxy]
      rw [e]
      simp only [Bool.not_false, if_true]
      refine wpAny_bind (wpAny_rule (wpAny_bind (PyProof.Rows.lt_str ?_)))
      have : pairLt i x j y = decide (x.cps.toList < y.cps.toList) := by unfold pairLt; rw [if_pos hij]
      rw [this] at h
      exact wpAny_pure (wpAny_pure (wpAny_pure h))
  · have e : (i == j) = false := by simp [hij]
    rw [e]
    simp only [Bool.not_false, if_true]
    refine wpAny_bind (wpAny_rule (wpAny_bind (PyProof.Rows.lt_int ?_)))
    have : pairLt i x j y = decide (i < j) := by unfold pairLt; rw [if_neg hij]
    rw [this] at h
    exact wpAny_pure (wpAny_pure (wpAny_pure h))

theorem c_ltT {i j : Int} {x y : Str} {n : Nat} (W : W c Z s σ) (rm : Room n A) (ha : VR Z (.tup [.int i, .str x]) (.ref a)) (hb : VR Z (.tup [.int j, .str y]) (.ref b)) (q : Q (.bool (pairLt i x j y)) s) :
    wpAny (model prog w) A (compareOp .Lt (.ref a) (.ref b)) Q E s := by
  obtain ⟨vs, hta, hra⟩ := W.tat ha
  obtain ⟨us, htb, hrb⟩ := W.tat hb
  obtain ⟨v1, v2, rfl, h1, h2⟩ := hra.two
  obtain ⟨u1, u2, rfl, g1, g2⟩ := hrb.two
  obtain ⟨_, rfl⟩ := h1.int_inv
  obtain ⟨_, rfl⟩ := h2.str_inv
  obtain ⟨_, rfl⟩ := g1.int_inv
  obtain ⟨_, rfl⟩ := g2.str_inv
  show wpAny _ _ (richCompare .Lt _ _) Q E s
  exact wpAny_richCompare_same_room (op := .Lt) hta.typeIs htb.typeIs PySem.F.slot_tuple_lt
    (wpAny_call_entry PySem.F.slot_tuple_lt hta.typeIs PySem.F.entry_tuple_lt (lt_body hta htb ⟨_, rfl, (fun e => nomatch e), q⟩) (PySem.F.args_tuple_lt_2 _ _)) rm.units
end
end Mine
-- F6
namespace Mine
open PySem PySem.Spec PySem.Calls PyProof.Rows PySem.W

theorem lm {α β : Type} {f : α → β} {l : List α} {i : Nat} {y : α} (h : l[i]? = some y) : (l.map f)[((i : Nat) : Int).toNat]? = some (f y) := by
  rw [Int.toNat_natCast, List.getElem?_map, h]; rfl
theorem ite_b {b : Bool} {X Y : Prop} (h1 : b = true → X) (h2 : b = false → Y) : if b = true then X else Y := by
  cases b with
  | true => exact h1 rfl
  | false => exact h2 rfl
theorem ite_T {X Y : Prop} (h : X) : if true = true then X else Y := by rw [if_pos rfl]; exact h
theorem ite_F {X Y : Prop} (h : Y) : if false = true then X else Y := by rw [if_neg Bool.false_ne_true]; exact h
theorem ite_dec {p : Prop} [Decidable p] {X Y : Prop} (h1 : p → X) (h2 : ¬ p → Y) : if decide p = true then X else Y := by
  by_cases h : p
  · rw [decide_eq_true h]; exact h1 h
  · rw [decide_eq_false h]; exact h2 h

def scopeOk (sc : Scope) (bnames vars gl : List Str) : Bool :=
  sc.kind == .function && !sc.isGenerator && !sc.isCoroutine && sc.names.all (fun p => p.2 != .cell) && bnames.all (fun x => sc.names.lookup x == some .local) &&
  vars.all (fun x => sc.names.lookup x == some .local) && gl.all (fun x => sc.names.lookup x == some .globalImplicit) && decide vars.Nodup

section
variable {prog : Program} {w : World} {c : Cx} {Z : ZS} {s : Shared} {σ r : Sg} {A : Around} {E : Value → Shared → Prop} {Q : Value → Shared → Prop} {env : Env} {pos : Pos} {L : Addr} {vars : List Str} {cl : List (Str × Addr)} {gl : List Str}

def retOf (f : Flow) : Value := match f with | .ret v => v | _ => .none

theorem call_fn {n : Nat} {fa : Addr} {oc : Value} {od : Option Addr} {osl : Array (Option Value)} {name qual : Str} {params : Arguments} {body : List Stmt} {scope : Scope} {dV kV doc pm cdv ct : Value} {an : Option Addr}
    {vs : List Value} {kw : List (Str × Value)} (bn : List Str) {bv : List Value} (vars gl : List Str) (l : List (Option MV))
    (W : W c Z s σ) (rm : Room (n + 1) A)
    (ho : c.K.lookup fa = some ⟨oc, od, .func (fnOf name qual params body scope dV kV doc pm an cdv ct), osl⟩)
    (hcd : codeIn c.K cdv qual = true)
    (hb : BindsTo s (fnOf name qual params body scope dV kV doc pm an cdv ct) ⟨vs, kw⟩ (bn.zip bv))
    (hsc : scopeOk scope bn vars gl = true)
    (hl : LocR Z (fun x => (bn.zip bv).reverse.lookup x) vars l)
    (q : ∀ s' L env A, Room n A → EnvOk env L vars [] gl → Mine.W c Z s' ((L, .ns vars l) :: σ) → wpAny (model prog w) A (execs body env) (fun f s'' => Q (retOf f) s'') (fun _ _ => False) s') :
    wpAny (model prog w) A (call (.ref fa) vs kw) Q E s := by
  unfold scopeOk at hsc
  simp only [Bool.and_eq_true, Bool.not_eq_true', beq_iff_eq, List.all_eq_true, bne_iff_ne, ne_eq, decide_eq_true_eq] at hsc
  obtain ⟨⟨⟨⟨⟨⟨⟨h1, h2⟩, h3⟩, h4⟩, h5⟩, h6⟩, h7⟩, h8⟩ := hsc
  refine wpAny_call (codeAny_call_def rm.lt (W.base _ _ (W.b.kin _ _ ho)) rfl (W.b.nolim.keeps W.base) (codeRec_of W.kin hcd) rfl hb h4 (fun x hx => h5 _ (List.of_mem_zip hx).1) (fun h₁ hns hk => ?_) h3 h2 h1)
  have W' : Mine.W c Z { s with heap := h₁, toks := s.toks + (bn.zip bv).length } ((s.heap.objs.size, .ns vars l) :: σ) := by
    obtain ⟨o, es, ep, hoL, hd, hkk, hf⟩ := hns
    exact W.add (fresh_none _) hk hoL ⟨es, ep, hd, hkk, h8, hl.congr fun y _ => hf y⟩
  have ev : EnvOk (callEnv (fnOf name qual params body scope dV kV doc pm an cdv ct) s.heap.objs.size fa) s.heap.objs.size vars [] gl :=
    ⟨h1, rfl, rfl, rfl, h6, (fun _ h => nomatch h), h7⟩
  refine wpAny_mono (q _ _ _ _ (rm.deeper _) ev W') (fun f s' hq => ?_) fun _ _ x => x.elim
  cases f <;> exact hq

/-- the arguments of a call of a function of the text's own -/
theorem e_callK {x : Str} {np : Pos} {e : Expr} {rest : List Expr} {fa : Addr} (W : W c Z s σ) (ev : EnvOk env L vars cl gl) (hx : x ∈ gl) (h : nsIn c.K mainGlobals x = some (some (.ref fa))) (hk : keepIn c.K (.ref fa) = true)
    (q : wpAny (model prog w) A (spliced (backTo pos (starEach (e :: rest) env))) (fun vs s₁ => (∃ Z σ, Mine.W c Z s₁ σ) ∧ wpAny (model prog w) A (call (.ref fa) vs) Q E s₁) E s)
    (he : starEach (e :: rest) env = (false, eval e env) :: starEach rest env := by rfl) (hplain : (backTo pos (starEach rest env)).any (·.1) = false := by rfl)
    (hd : (x == ("__debug__" : Str)) = false := by decide) :
    wpAny (model prog w) A (eval (.Call (.Name x np) (e :: rest) [] pos) env) Q E s := by
  show wpAny _ _ (do callWith pos (← eval (.Name x np) env) [] (backTo pos (starEach (e :: rest) env)) (backToKw pos (keywordEach [] env))) Q E s
  refine wpAny_bind (e_glob W ev hx h ?_ hd)
  exact callWith_K (h₀ := c.h₀) W.b.kin hk (wpAny_mono q (fun vs s₁ h₁ => ⟨let ⟨⟨_, _, w₁⟩, _⟩ := h₁; w₁.kin, h₁.2⟩) fun _ _ x => x) he hplain
theorem e_callB {x : Str} {np : Pos} {e : Expr} {id : String} (W : W c Z s σ) (ev : EnvOk env L vars cl gl) (hx : x ∈ gl) (h : nsIn c.K mainGlobals x = some none) (hb : bootBuiltins x = some (.builtin id))
    (q : wpAny (model prog w) A (eval e env) (fun v s₁ => wpAny (model prog w) A (call (.builtin id) [v]) Q E s₁) E s) (hs : starEach [e] env = [(false, eval e env)] := by rfl)
    (hn : x ≠ ("__name__" : Str) := by decide) (hd : (x == ("__debug__" : Str)) = false := by decide) :
    wpAny (model prog w) A (eval (.Call (.Name x np) [e] [] pos) env) Q E s :=
  Call_name1 hs (e_blt W ev hx h hb (callWith_builtin1 q) hn hd)

theorem x_expr {e : Expr} {Q : Flow → Shared → Prop} (ev : EnvOk env L vars cl gl) (h : wpAny (model prog w) A (eval e env) (fun _ => Q .next) E s)
    (hs : swapsWith e none pos.line env = pure false := by rfl) : wpAny (model prog w) A (exec (.Expr e pos) env) Q E s :=
  wpAny_Expr_any h (by unfold interactive; rw [ev.kind]; rfl) hs

theorem x_while {test : Expr} {body : List Stmt} {Q : Flow → Shared → Prop} (I : Nat → Shared → Prop) (n : Nat) (h : I n s)
    (turn : ∀ n s, I n s → wpAny (model prog w) A (isTrue test env (eval test env)) (fun b s₂ =>
      if b then wpAny (model prog w) A (execs body env) (fun f s₃ => match f with
        | .next | .cont => ∃ m, m < n ∧ I m s₃
        | .brk => Q .next s₃
        | .ret v => Q (.ret v) s₃) (fun _ _ => False) s₂
      else Q .next s₂) (fun _ _ => False) s) : wpAny (model prog w) A (exec (.While test body [] pos) env) Q E s := by
  refine wpAny_While (codeAny_whileLoop I (fun n s hI => wpAny_mono (turn n s hI) (fun b s₂ h₂ => ?_) fun _ _ x => x.elim) n h)
  cases b with
  | false =>
    simp only [Bool.false_eq_true, if_false] at h₂ ⊢
    exact wpAny_execs_nil h₂
  | true =>
    simp only [if_true] at h₂ ⊢
    exact wpAny_mono h₂ (fun f s₃ h₃ => by cases f <;> exact h₃) fun _ _ x => x.elim
end
end Mine
-- F7
namespace Mine
open PySem PySem.Spec PySem.Calls PyProof.Rows PySem.W

theorem mid {α : Type} {M : Model} {A : Around} {t : Sem α} {a : α} {Q : α → Shared → Prop} {E : Value → Shared → Prop} {s : Shared} (R : Shared → Prop) (h : wpAny M A t (fun f s' => f = a ∧ R s') E s) (k : ∀ s', R s' → Q a s') : wpAny M A t Q E s :=
  wpAny_mono h (fun f s' h' => by obtain ⟨rfl, h'⟩ := h'; exact k _ h') fun _ _ e => e

/-- a value that is one of the call's lists -/
def OnL (c : Cx) (v : Value) (s : Shared) (k : Addr → Prop) : Prop := ∃ a Z σ r l, v = .ref a ∧ W c Z s σ ∧ Pick a (.list l) σ r ∧ k a
theorem OnL.mk {c : Cx} {a : Addr} {Z : ZS} {s : Shared} {σ r : Sg} {l : List MV} {k : Addr → Prop} (W : W c Z s σ) (hp : Pick a (.list l) σ r) (h : k a) : OnL c (.ref a) s k := ⟨a, Z, σ, r, l, rfl, W, hp, h⟩
def AppAt (c : Cx) (a : Addr) (Q : Value → Shared → Prop) (v : Value) (s : Shared) : Prop := ∃ Z σ r l m, W c Z s σ ∧ Pick a (.list l) σ r ∧ VR Z m v ∧ l.length < 2 ^ 20 ∧ ∀ s', W c Z s' ((a, .list (l ++ [m])) :: r) → Q .none s'
theorem AppAt.mk {c : Cx} {a : Addr} {Q : Value → Shared → Prop} {v : Value} {s : Shared} {Z : ZS} {σ r : Sg} {l : List MV} {m : MV} (W : W c Z s σ) (hp : Pick a (.list l) σ r) (hv : VR Z m v) (hz : l.length < 2 ^ 20)
    (q : ∀ s', Mine.W c Z s' ((a, .list (l ++ [m])) :: r) → Q .none s') : AppAt c a Q v s := ⟨Z, σ, r, l, m, W, hp, hv, hz, q⟩

section
variable {prog : Program} {w : World} {c : Cx} {Z : ZS} {s : Shared} {σ r : Sg} {A : Around} {E : Value → Shared → Prop} {a b : Addr} {l l' : List MV} {k : Int} {t u : Tok} {Q : Value → Shared → Prop} {m : MV} {v : Value} {vs : List Value} {env : Env} {pos apos : Pos}
  {L : Addr} {vars : List Str} {cl : List (Str × Addr)} {gl : List Str}

theorem e_append {o e : Expr} (hbase : attributeBase o "append" env (eval o env) = eval o env) (hs : starEach [e] env = [(false, eval e env)]) (hline : (apos.endLine == pos.line) = true)
    (h : wpAny (model prog w) A (eval o env) (fun ov s₁ => OnL c ov s₁ fun a => wpAny (model prog w) A (eval e env) (AppAt c a Q) E s₁) E s) :
    wpAny (model prog w) A (eval (.Call (.Attribute o "append" apos) [e] [] pos) env) Q E s := by
  refine m_list PySem.F.slot_list_append PySem.F.type_list_append hbase (by rw [hs]; rfl) hline (wpAny_mono h (fun ov s₁ h₁ => ?_) fun _ _ x => x)
  obtain ⟨a, Z, σ, r, l, rfl, W, hp, h⟩ := h₁
  refine ⟨a, Z, l, rfl, W.lat hp, ?_⟩
  rw [hs]
  exact append_c h
theorem e_pop {o : Expr} (hbase : attributeBase o "pop" env (eval o env) = eval o env) (hline : (apos.endLine == pos.line) = true)
    (h : wpAny (model prog w) A (eval o env) (fun ov s₁ => OnL c ov s₁ fun a => wpAny (model prog w) A (callWith pos (.builtin "list.pop") [.ref a] [] []) Q E s₁) E s) :
    wpAny (model prog w) A (eval (.Call (.Attribute o "pop" apos) [] [] pos) env) Q E s := by
  refine m_list PySem.F.slot_list_pop PySem.F.type_list_pop hbase rfl hline (wpAny_mono h (fun ov s₁ h₁ => ?_) fun _ _ x => x)
  obtain ⟨a, Z, σ, r, l, rfl, W, hp, h⟩ := h₁
  exact ⟨a, Z, l, rfl, W.lat hp, h⟩
end
end Mine
-- F8
namespace Mine
open PySem PySem.Spec PySem.Calls PyProof.Rows PySem.W

theorem W.but {c : Cx} {Z : ZS} {s s' : Shared} {σ : Sg} {a : Addr} {mo : MO} (w : W c Z s ((a, mo) :: σ)) (hk : ∀ b o, b ≠ a → s.heap.get? b = some o → s'.heap.get? b = some o)
    (hg : s'.gens = s.gens := by rfl) (hd : s'.drawn = s.drawn := by rfl) (hos : s'.os = s.os := by rfl) : W c Z s' σ := by
  have hnew := w.new _ (.head _)
  have hnd := w.nodup
  rw [List.map_cons, List.nodup_cons] at hnd
  exact {
    b := w.b
    base := fun b o e => hk b o (fun h => by rw [h, hnew.1] at e; cases e) (w.base b o e)
    gens := hg.trans w.gens
    drawn := hd.trans w.drawn
    os := hos.trans w.os
    z := fun b o e => hk b o (fun h => hnew.2 o (h ▸ e)) (w.z b o e)
    cell := fun p hp => by
      obtain ⟨ob, e, r⟩ := w.cell p (.tail _ hp)
      exact ⟨ob, hk _ _ (fun h => hnd.1 (List.mem_map.mpr ⟨p, hp, h⟩)) e, r⟩
    new := fun p hp => w.new p (.tail _ hp)
    nodup := hnd.2 }

/-- an iterator of the call's own, over known things -/
structure Iter (prog : Program) (w : World) (c : Cx) (Z : ZS) (I : Addr) (xs : List MV) (p : Nat → Obj → Prop) : Prop where
  next : ∀ (Z' : ZS) (σ : Sg) (s : Shared) (A : Around) (i : Nat) (m : MV) (Q : Option Value → Shared → Prop) (E : Value → Shared → Prop), Z.le Z' → A.handled = none → W c Z' s ((I, .obj (p i)) :: σ) → xs[i]? = some m →
    (∀ s' v, W c Z' s' ((I, .obj (p (i + 1))) :: σ) → VR Z' m v → Q (some v) s') → wpAny (model prog w) A (pyNext (.ref I)) Q E s
  done : ∀ (Z' : ZS) (σ : Sg) (s : Shared) (A : Around) (Q : Option Value → Shared → Prop) (E : Value → Shared → Prop), Z.le Z' → A.handled = none → W c Z' s ((I, .obj (p xs.length)) :: σ) →
    (∀ s', W c Z' s' σ → Q none s') → wpAny (model prog w) A (pyNext (.ref I)) Q E s
  self : ∀ (Z' : ZS) (σ : Sg) (s : Shared) (A : Around) (i : Nat) (Q : Value → Shared → Prop) (E : Value → Shared → Prop), W c Z' s ((I, .obj (p i)) :: σ) → Q (.ref I) s → wpAny (model prog w) A (pyIter (.ref I)) Q E s
theorem Iter.mono {prog : Program} {w : World} {c : Cx} {Z Z' : ZS} {I : Addr} {xs : List MV} {p : Nat → Obj → Prop} (h : Z.le Z') (it : Iter prog w c Z I xs p) : Iter prog w c Z' I xs p :=
  ⟨fun Z'' σ s A i m Q E hz => it.next Z'' σ s A i m Q E (h.trans hz), fun Z'' σ s A Q E hz => it.done Z'' σ s A Q E (h.trans hz), it.self⟩

def ItAt (prog : Program) (w : World) (c : Cx) (Z : ZS) (σ : Sg) (xs : List MV) (k : Addr → (Nat → Obj → Prop) → Shared → Prop) (it : Value) (s : Shared) : Prop :=
  ∃ I p, it = .ref I ∧ Iter prog w c Z I xs p ∧ W c Z s ((I, .obj (p 0)) :: σ) ∧ k I p s

section
variable {prog : Program} {w : World} {c : Cx} {Z : ZS} {s : Shared} {σ r : Sg} {A : Around} {E : Value → Shared → Prop} {a : Addr} {xs : List MV} {Q : Value → Shared → Prop}

def liP (a : Addr) (i : Nat) (o : Obj) : Prop := o.cls = .type "list_iterator" ∧ o.data = .fields #[.ref a, .int i 0]
theorem liP.isIter {I : Addr} {i : Nat} (W : W c Z s ((I, .obj (liP a i)) :: σ)) : s.heap.IsListIter I a i := by
  obtain ⟨o, ho, h1, h2⟩ := W.head
  exact ⟨o, ho, h1, h2⟩
theorem iter_list {I : Addr} (hv : VR Z (.lst xs) (.ref a)) : Iter prog w c Z I xs (liP a) where
  next := fun Z' σ s A i m Q E hz hA W hm q => by
    obtain ⟨vs, hl, hr⟩ := W.latz (hv.mono hz)
    obtain ⟨v, hv', hvr⟩ := hr.get hm
    refine wpAny_pyNext_list_item (liP.isIter W) hl (x := v) (by simpa using hv') fun h' hit hs => ?_
    obtain ⟨o, ho, h1, h2⟩ := hit
    exact q _ v (W.set (fun b o hb e => (hs.2 b hb).trans e) ho ⟨h1, h2⟩) hvr
  done := fun Z' σ s A Q E hz hA W q => by
    obtain ⟨vs, hl, hr⟩ := W.latz (hv.mono hz)
    have hlen := hr.length
    refine wpAny_pyNext_list_end hA (liP.isIter W) hl (by simp [hlen]) fun h' he => ?_
    exact q _ (W.but fun b o hb e => he b o hb e)
  self := fun Z' σ s A i Q E W q => wpAny_pyIter_listiter (liP.isIter W) q

def tiP (a : Addr) (i : Nat) (o : Obj) : Prop := o.cls = .type "tuple_iterator" ∧ o.data = .fields #[.ref a, .int i 0]
theorem tiP.isIter {I : Addr} {i : Nat} (W : W c Z s ((I, .obj (tiP a i)) :: σ)) : s.heap.IsTupleIter I a i := by
  obtain ⟨o, ho, h1, h2⟩ := W.head
  exact ⟨o, ho, h1, h2⟩
theorem iter_tup {I : Addr} (hv : VR Z (.tup xs) (.ref a)) : Iter prog w c Z I xs (tiP a) where
  next := fun Z' σ s A i m Q E hz hA W hm q => by
    obtain ⟨vs, hl, hr⟩ := W.tat (hv.mono hz)
    obtain ⟨v, hv', hvr⟩ := hr.get hm
    refine wpAny_pyNext_tuple_item (tiP.isIter W) hl (x := v) (by simpa using hv') fun h' hit hs => ?_
    obtain ⟨o, ho, h1, h2⟩ := hit
    exact q _ v (W.set (fun b o hb e => (hs.2 b hb).trans e) ho ⟨h1, h2⟩) hvr
  done := fun Z' σ s A Q E hz hA W q => by
    obtain ⟨vs, hl, hr⟩ := W.tat (hv.mono hz)
    have hlen := hr.length
    refine wpAny_pyNext_tuple_end hA (tiP.isIter W) hl (by simp [hlen]) fun h' he => ?_
    exact q _ (W.but fun b o hb e => he b o hb e)
  self := fun Z' σ s A i Q E W q => wpAny_pyIter_tupleiter (tiP.isIter W) q

def rangeL (a : Int) (n : Nat) : List MV := (List.range n).map fun (i : Nat) => .int (a + (i : Int))
def raP (a : Int) (n i : Nat) (o : Obj) : Prop := o = { cls := .type "range_iterator", dict := none, data := .fields #[rawInt (a + i), rawInt ((n : Int) - i), rawInt 1], slots := #[] }
theorem iter_range {I : Addr} (a : Int) (n : Nat) : Iter prog w c Z I (rangeL a n) (raP a n) where
  next := fun Z' σ s A i m Q E hz hA W hm q => by
    obtain ⟨o, ho, he⟩ := W.head
    subst he
    have hi : i < n ∧ m = .int (a + i) := by
      unfold rangeL at hm
      rw [List.getElem?_map] at hm
      by_cases h : i < n
      · rw [List.getElem?_range h] at hm
        exact ⟨h, (Option.some.inj hm).symm⟩
      · rw [List.getElem?_eq_none (by simpa using h)] at hm; cases hm
    obtain ⟨hi, rfl⟩ := hi
    refine wpAny_pyNext_range_item ho (by omega) fun h' hit hs => ?_
    refine q _ _ (W.set (fun b o hb e => (hs.2 b hb).trans e) hit ?_) (.int _ _)
    show _ = _
    have e1 : a + ((i + 1 : Nat) : Int) = a + (i : Int) + 1 := by omega
    have e2 : (n : Int) - ((i + 1 : Nat) : Int) = (n : Int) - (i : Int) - 1 := by omega
    rw [e1, e2]
  done := fun Z' σ s A Q E hz hA W q => by
    obtain ⟨o, ho, he⟩ := W.head
    subst he
    have hlen : (rangeL a n).length = n := by simp [rangeL]
    refine wpAny_pyNext_range_end hA ho (by rw [hlen]; omega) fun h' he => ?_
    exact q _ (W.but fun b o hb e => he b o hb e)
  self := fun Z' σ s A i Q E W q => by
    obtain ⟨o, ho, he⟩ := W.head
    subst he
    exact wpAny_pyIter_rangeiter ho q

def strL (x : Str) : List MV := x.cps.toList.map fun c => .str ⟨#[c]⟩
def siP (T : String) (x : Str) (t : Tok) (i : Nat) (o : Obj) : Prop := o.cls = .type T ∧ o.data = .fields #[.str x t, .int i 0]
theorem siP.isIter {T : String} {x : Str} {t : Tok} {I : Addr} {i : Nat} (W : W c Z s ((I, .obj (siP T x t i)) :: σ)) : s.heap.IsStrIter I T x t i := by
  obtain ⟨o, ho, h1, h2⟩ := W.head
  exact ⟨o, ho, h1, h2⟩
theorem strL_get {x : Str} {i : Nat} {m : MV} (h : (strL x)[i]? = some m) : ∃ c, x.cps[i]? = some c ∧ m = .str ⟨#[c]⟩ := by
  unfold strL at h
  rw [List.getElem?_map] at h
  cases e : x.cps.toList[i]? with
  | none => rw [e] at h; cases h
  | some c => rw [e] at h; exact ⟨c, by simpa using e, (Option.some.inj h).symm⟩
theorem iter_strA {x : Str} {t : Tok} {I : Addr} : Iter prog w c Z I (strL x) (siP "str_ascii_iterator" x t) where
  next := fun Z' σ s A i m Q E hz hA W hm q => by
    obtain ⟨ch, hc, rfl⟩ := strL_get hm
    refine wpAny_pyNext_ascii_item (siP.isIter W) hc fun h' hit hs => ?_
    obtain ⟨o, ho, h1, h2⟩ := hit
    exact q _ _ (W.set (fun b o hb e => (hs.2 b hb).trans e) ho ⟨h1, h2⟩) (.str _ _)
  done := fun Z' σ s A Q E hz hA W q => by
    refine wpAny_pyNext_ascii_end hA (siP.isIter W) (by simp [strL]) fun h' he => ?_
    exact q _ (W.but fun b o hb e => he b o hb e)
  self := fun Z' σ s A i Q E W q => wpAny_pyIter_striter_ascii (siP.isIter W) q
theorem iter_strW {x : Str} {t : Tok} {I : Addr} : Iter prog w c Z I (strL x) (siP "str_iterator" x t) where
  next := fun Z' σ s A i m Q E hz hA W hm q => by
    obtain ⟨ch, hc, rfl⟩ := strL_get hm
    refine wpAny_pyNext_wide_item (siP.isIter W) hc fun h' hit hs => ?_
    obtain ⟨o, ho, h1, h2⟩ := hit
    exact q _ _ (W.set (fun b o hb e => (hs.2 b hb).trans e) ho ⟨h1, h2⟩) (.str _ _)
  done := fun Z' σ s A Q E hz hA W q => by
    refine wpAny_pyNext_wide_end hA (siP.isIter W) (by simp [strL]) fun h' he => ?_
    exact q _ (W.but fun b o hb e => he b o hb e)
  self := fun Z' σ s A i Q E W q => wpAny_pyIter_striter_wide (siP.isIter W) q

theorem i_list {k : Addr → (Nat → Obj → Prop) → Shared → Prop} (W : W c Z s σ) (hv : VR Z (.lst xs) (.ref a)) (q : ∀ s' I p, Iter prog w c Z I xs p → Mine.W c Z s' ((I, .obj (p 0)) :: σ) → k I p s') :
    wpAny (model prog w) A (pyIter (.ref a)) (ItAt prog w c Z σ xs k) E s := by
  obtain ⟨vs, hl, hr⟩ := W.latz hv
  have W' := W.push (mo := .obj (liP a 0)) (o := { cls := .type "list_iterator", data := .fields #[.ref a, .int 0 0] }) rfl ⟨rfl, rfl⟩
  exact wpAny_pyIter_list hl ⟨_, _, rfl, iter_list hv, W', q _ _ _ (iter_list hv) W'⟩
theorem i_tup {k : Addr → (Nat → Obj → Prop) → Shared → Prop} (W : W c Z s σ) (hv : VR Z (.tup xs) (.ref a)) (q : ∀ s' I p, Iter prog w c Z I xs p → Mine.W c Z s' ((I, .obj (p 0)) :: σ) → k I p s') :
    wpAny (model prog w) A (pyIter (.ref a)) (ItAt prog w c Z σ xs k) E s := by
  obtain ⟨vs, hl, hr⟩ := W.tat hv
  have W' := W.push (mo := .obj (tiP a 0)) (o := { cls := .type "tuple_iterator", data := .fields #[.ref a, .int 0 0] }) rfl ⟨rfl, rfl⟩
  exact wpAny_pyIter_tuple hl ⟨_, _, rfl, iter_tup hv, W', q _ _ _ (iter_tup hv) W'⟩
theorem i_str {x : Str} {t : Tok} {k : Addr → (Nat → Obj → Prop) → Shared → Prop} (W : W c Z s σ) (q : ∀ s' I p, Iter prog w c Z I (strL x) p → Mine.W c Z s' ((I, .obj (p 0)) :: σ) → k I p s') :
    wpAny (model prog w) A (pyIter (.str x t)) (ItAt prog w c Z σ (strL x) k) E s := by
  cases ha : x.cps.all (· < 128)
  · have W' := W.push (mo := .obj (siP "str_iterator" x t 0)) (o := { cls := .type "str_iterator", data := .fields #[.str x t, .int 0 0] }) rfl ⟨rfl, rfl⟩
    exact wpAny_pyIter_wide ha ⟨_, _, rfl, iter_strW, W', q _ _ _ iter_strW W'⟩
  · have W' := W.push (mo := .obj (siP "str_ascii_iterator" x t 0)) (o := { cls := .type "str_ascii_iterator", data := .fields #[.str x t, .int 0 0] }) rfl ⟨rfl, rfl⟩
    exact wpAny_pyIter_ascii ha ⟨_, _, rfl, iter_strA, W', q _ _ _ iter_strA W'⟩
theorem i_range {ra : Addr} {lo : Int} {hi : Int} {t u v : Tok} {k : Addr → (Nat → Obj → Prop) → Shared → Prop} (W : W c Z s ((ra, .obj (· = { cls := .type "range", dict := none, data := .fields #[.int lo t, .int hi u, .int 1 v], slots := #[] })) :: σ))
    (hlo : -(2 ^ 40) ≤ lo) (hhi : hi ≤ 2 ^ 40) (h1 : lo ≤ 2 ^ 40) (h2 : -(2 ^ 40) ≤ hi)
    (q : ∀ s' I p, Iter prog w c Z I (rangeL lo (hi - lo).toNat) p → Mine.W c Z s' ((I, .obj (p 0)) :: σ) → k I p s') :
    wpAny (model prog w) A (pyIter (.ref ra)) (ItAt prog w c Z σ (rangeL lo (hi - lo).toNat) k) E s := by
  obtain ⟨o, ho, e⟩ := W.head
  subst e
  have hsz : Builtin.Range.rangeSize lo hi 1 = ((hi - lo).toNat : Int) := by
    unfold Builtin.Range.rangeSize
    rw [if_pos (by decide), Int.ediv_one]
    split <;> omega
  have hsm : Builtin.Range.small lo hi 1 = true := by
    unfold Builtin.Range.small Builtin.Range.rangeFitsLong
    rw [hsz]
    simp only [Bool.and_eq_true, Bool.or_eq_true, decide_eq_true_eq]
    refine ⟨⟨⟨⟨?_, ?_⟩, by decide⟩, ?_⟩, .inr ?_⟩
    · omega
    · omega
    · omega
    · rw [if_pos (by decide)]
      simp only [Bool.and_eq_true, decide_eq_true_eq]
      omega
  have W' := W.drop.push (mo := .obj (raP lo (hi - lo).toNat 0)) (o := { cls := .type "range_iterator", data := .fields #[rawInt lo, rawInt (Builtin.Range.rangeSize lo hi 1), rawInt 1] }) rfl (by
    show _ = _
    rw [hsz]; simp)
  exact wpAny_pyIter_range ho hsm ⟨_, _, rfl, iter_range _ _, W', q _ _ _ (iter_range _ _) W'⟩
end
end Mine
-- F9
namespace Mine
open PySem PySem.Spec PySem.Calls PyProof.Rows PySem.W

abbrev F0 : Value → Shared → Prop := fun _ _ => False

/-- the turn of a for, by an invariant J over the turn's number, what is frozen and the cells -/
def Turn (prog : Program) (w : World) (c : Cx) (A : Around) (env : Env) (target : Expr) (body : List Stmt) (Q : Flow → Shared → Prop) (Z : ZS) (xs : List MV) (J : Nat → ZS → Sg → Prop) : Prop :=
  ∀ (i : Nat) (m : MV) (Z' : ZS) (σ' : Sg) (s' : Shared) (v : Value) (I : Addr) (P : Obj → Prop), xs[i]? = some m → Z.le Z' → J i Z' σ' → VR Z' m v → W c Z' s' ((I, .obj P) :: σ') →
    wpAny (model prog w) A (assign target env v) (fun _ s₂ => wpAny (model prog w) A (execs body env) (fun f s₃ => match f with
      | .next | .cont => ∃ Z'' σ'', Z'.le Z'' ∧ J (i + 1) Z'' σ'' ∧ W c Z'' s₃ ((I, .obj P) :: σ'')
      | .brk => Q .next s₃
      | .ret v => Q (.ret v) s₃) F0 s₂) F0 s'
def ForAt (prog : Program) (w : World) (c : Cx) (A : Around) (env : Env) (target : Expr) (body : List Stmt) (Q : Flow → Shared → Prop) (it : Value) (s : Shared) : Prop :=
  ∃ Z σ xs J, ItAt prog w c Z σ xs (fun _ _ _ => True) it s ∧ J 0 Z σ ∧ Turn prog w c A env target body Q Z xs J ∧ ∀ Z' σ' s', Z.le Z' → J xs.length Z' σ' → W c Z' s' σ' → Q .next s'

section
variable {prog : Program} {w : World} {c : Cx} {Z : ZS} {s : Shared} {σ r : Sg} {A : Around} {E : Value → Shared → Prop} {a : Addr} {xs : List MV} {env : Env} {target iter : Expr} {body : List Stmt} {pos : Pos} {Q : Flow → Shared → Prop}

theorem x_for (hA : A.handled = none) (h : wpAny (model prog w) A (eval iter env) (fun xv s₁ => wpAny (model prog w) A (pyIter xv) (ForAt prog w c A env target body Q) E s₁) E s)
    (hs : ∀ x, foldedSetIterable iter env x = pure x := by intro _; rfl) (ht : ∀ it v, letOwnedTupleGo target it v = pure () := by intro _ _; rfl) :
    wpAny (model prog w) A (exec (.For target iter body [] pos) env) Q E s := by
  refine wpAny_For (wpAny_mono h (fun xv s₁ h₁ => wpAny_mono h₁ (fun it s₂ h₂ => ?_) fun _ _ x => x) fun _ _ x => x) hs
  obtain ⟨Z, σ, xs, J, ⟨I, p, rfl, It, W₀, _⟩, j0, turn, done⟩ := h₂
  refine codeAny_forLoop (I := fun n s => ∃ i Z' σ', n = xs.length - i ∧ i ≤ xs.length ∧ Z.le Z' ∧ J i Z' σ' ∧ W c Z' s ((I, .obj (p i)) :: σ')) ?_ xs.length ⟨0, Z, σ, rfl, Nat.zero_le _, .refl _, j0, W₀⟩ (ht _)
  rintro n s₃ ⟨i, Z', σ', rfl, hi, hz, hJ, W₁⟩
  by_cases hlt : i < xs.length
  · refine It.next Z' σ' s₃ A i xs[i] _ _ hz hA W₁ (List.getElem?_eq_getElem hlt) fun s₄ v W₂ hv => ?_
    refine wpAny_mono (turn i xs[i] Z' σ' s₄ v I (p (i + 1)) (List.getElem?_eq_getElem hlt) hz hJ hv W₂) (fun _ s₅ h₅ => wpAny_mono h₅ (fun f s₆ h₆ => ?_) fun _ _ x => x.elim) fun _ _ x => x.elim
    cases f with
    | next => obtain ⟨Z'', σ'', hz', hJ', W₃⟩ := h₆; exact ⟨xs.length - (i + 1), by omega, i + 1, Z'', σ'', rfl, hlt, hz.trans hz', hJ', W₃⟩
    | cont => obtain ⟨Z'', σ'', hz', hJ', W₃⟩ := h₆; exact ⟨xs.length - (i + 1), by omega, i + 1, Z'', σ'', rfl, hlt, hz.trans hz', hJ', W₃⟩
    | brk => exact h₆
    | ret v => exact h₆
  · have e : i = xs.length := by omega
    subst e
    exact It.done Z' σ' s₃ A _ _ hz hA W₁ fun s₄ W₂ => wpAny_execs_nil (done Z' σ' s₄ hz hJ W₂)

theorem f_list {Q : Flow → Shared → Prop} (W : W c Z s σ) (hv : VR Z (.lst xs) (.ref a)) (J : Nat → ZS → Sg → Prop) (j0 : J 0 Z σ) (turn : Turn prog w c A env target body Q Z xs J) (done : ∀ Z' σ' s', Z.le Z' → J xs.length Z' σ' → Mine.W c Z' s' σ' → Q .next s') :
    wpAny (model prog w) A (pyIter (.ref a)) (ForAt prog w c A env target body Q) E s :=
  wpAny_mono (i_list (k := fun _ _ _ => True) W hv fun _ _ _ _ _ => trivial) (fun _ _ h => ⟨Z, σ, xs, J, h, j0, turn, done⟩) fun _ _ x => x
theorem f_tup {Q : Flow → Shared → Prop} (W : W c Z s σ) (hv : VR Z (.tup xs) (.ref a)) (J : Nat → ZS → Sg → Prop) (j0 : J 0 Z σ) (turn : Turn prog w c A env target body Q Z xs J) (done : ∀ Z' σ' s', Z.le Z' → J xs.length Z' σ' → Mine.W c Z' s' σ' → Q .next s') :
    wpAny (model prog w) A (pyIter (.ref a)) (ForAt prog w c A env target body Q) E s :=
  wpAny_mono (i_tup (k := fun _ _ _ => True) W hv fun _ _ _ _ _ => trivial) (fun _ _ h => ⟨Z, σ, xs, J, h, j0, turn, done⟩) fun _ _ x => x
theorem f_str {x : Str} {t : Tok} {Q : Flow → Shared → Prop} (W : W c Z s σ) (J : Nat → ZS → Sg → Prop) (j0 : J 0 Z σ) (turn : Turn prog w c A env target body Q Z (strL x) J) (done : ∀ Z' σ' s', Z.le Z' → J (strL x).length Z' σ' → Mine.W c Z' s' σ' → Q .next s') :
    wpAny (model prog w) A (pyIter (.str x t)) (ForAt prog w c A env target body Q) E s :=
  wpAny_mono (i_str (k := fun _ _ _ => True) W fun _ _ _ _ _ => trivial) (fun _ _ h => ⟨Z, σ, strL x, J, h, j0, turn, done⟩) fun _ _ x => x
def rangeObj (lo hi : Int) (o : Obj) : Prop := ∃ t u v, o = { cls := .type "range", dict := none, data := .fields #[.int lo t, .int hi u, .int 1 v], slots := #[] }
theorem i_range' {ra : Addr} {lo hi : Int} {k : Addr → (Nat → Obj → Prop) → Shared → Prop} (W : W c Z s ((ra, .obj (rangeObj lo hi)) :: σ))
    (hlo : -(2 ^ 40) ≤ lo) (hhi : hi ≤ 2 ^ 40) (h1 : lo ≤ 2 ^ 40) (h2 : -(2 ^ 40) ≤ hi) (q : ∀ s' I p, Iter prog w c Z I (rangeL lo (hi - lo).toNat) p → Mine.W c Z s' ((I, .obj (p 0)) :: σ) → k I p s') :
    wpAny (model prog w) A (pyIter (.ref ra)) (ItAt prog w c Z σ (rangeL lo (hi - lo).toNat) k) E s := by
  obtain ⟨o, ho, t, u, v, e⟩ := W.head
  subst e
  exact i_range (W.set (fun _ _ _ e => e) ho (mo' := .obj (· = { cls := .type "range", dict := none, data := .fields #[.int lo t, .int hi u, .int 1 v], slots := #[] })) rfl) hlo hhi h1 h2 q
theorem f_range {ra : Addr} {lo hi : Int} {Q : Flow → Shared → Prop} (W : W c Z s ((ra, .obj (rangeObj lo hi)) :: σ)) (hlo : -(2 ^ 40) ≤ lo) (hhi : hi ≤ 2 ^ 40) (h1 : lo ≤ 2 ^ 40) (h2 : -(2 ^ 40) ≤ hi)
    (J : Nat → ZS → Sg → Prop) (j0 : J 0 Z σ) (turn : Turn prog w c A env target body Q Z (rangeL lo (hi - lo).toNat) J) (done : ∀ Z' σ' s', Z.le Z' → J (rangeL lo (hi - lo).toNat).length Z' σ' → Mine.W c Z' s' σ' → Q .next s') :
    wpAny (model prog w) A (pyIter (.ref ra)) (ForAt prog w c A env target body Q) E s :=
  wpAny_mono (i_range' (k := fun _ _ _ => True) W hlo hhi h1 h2 fun _ _ _ _ _ => trivial) (fun _ _ h => ⟨Z, σ, _, J, h, j0, turn, done⟩) fun _ _ x => x
theorem rangeL_get {lo : Int} {n i : Nat} {m : MV} (h : (rangeL lo n)[i]? = some m) : i < n ∧ m = .int (lo + i) := by
  unfold rangeL at h
  rw [List.getElem?_map] at h
  by_cases hi : i < n
  · rw [List.getElem?_range hi] at h
    exact ⟨hi, (Option.some.inj h).symm⟩
  · rw [List.getElem?_eq_none (by simpa using hi)] at h; cases h
theorem rangeL_length {lo : Int} {n : Nat} : (rangeL lo n).length = n := by simp [rangeL]
theorem strL_length {x : Str} : (strL x).length = x.cps.size := by simp [strL]

/-- assigning to a name -/
theorem a_name {x : Str} {px : Pos} {v : Value} {Q : Unit → Shared → Prop} (h : wpAny (model prog w) A (storeName env x v) Q E s) : wpAny (model prog w) A (assign (.Name x px) env v) Q E s := wpAny_assign_Name h
end

/-! comprehensions -/
def testsOf (ifs : List Expr) (env : Env) : Sem Bool := forIn ifs true fun c r => if r = true then do let ok ← isTrue c env (eval c env); pure (ForInStep.yield ok) else pure (ForInStep.yield r)

section
variable {prog : Program} {w : World} {c : Cx} {Z : ZS} {s : Shared} {σ r : Sg} {A : Around} {E : Value → Shared → Prop} {env : Env} {target iter elt : Expr} {gens : List Comprehension} {scope : Scope} {pos : Pos} {ifs : List Expr} {d : Nat} {it acc : Value} {inner : Sem Unit} {R : Result → Shared → Prop}

theorem t_nil {Q : Bool → Shared → Prop} (h : Q true s) : wpAny (model prog w) A (testsOf [] env) Q E s := wpAny_tests_nil h
theorem t_one {c : Expr} {Q : Bool → Shared → Prop} (h : wpAny (model prog w) A (isTrue c env (eval c env)) Q E s) : wpAny (model prog w) A (testsOf [c] env) Q E s := wpAny_tests_one h

theorem codeAny_compLoop_gen (I : Nat → Shared → Prop)
    (heq : compTurn (.ListComp elt gens scope pos) d it acc env = (standAt iter.pos >>= fun _ => pyNext it >>= fun r => match r with
      | none => pure (.done .next)
      | some v => letOwnedTupleGo target it v >>= fun _ => assign target env v >>= fun _ => testsOf ifs env >>= fun ok => (if ok = true then inner >>= fun _ => again (.compLoop (.ListComp elt gens scope pos) d it acc env) else again (.compLoop (.ListComp elt gens scope pos) d it acc env))))
    (ht : ∀ v, letOwnedTupleGo target it v = pure ())
    (turn : ∀ n s, I n s → wpAny (model prog w) A (pyNext it) (fun r s₁ => match r with
      | none => R (.ok .next) s₁
      | some v => wpAny (model prog w) A (assign target env v) (fun _ s₂ => wpAny (model prog w) A (testsOf ifs env) (fun ok s₃ =>
          if ok = true then wpAny (model prog w) A inner (fun _ s₄ => ∃ m, m < n ∧ I m s₄) F0 s₃ else ∃ m, m < n ∧ I m s₃) F0 s₂) F0 s₁) F0 s)
    (n : Nat) (h : I n s) : codeAny (model prog w) A (.compLoop (.ListComp elt gens scope pos) d it acc env) R s := by
  refine codeAny_loop rfl I (fun n s hI => ?_) n h
  show wpAny _ A ((compTurn (.ListComp elt gens scope pos) d it acc env).onRaise (fun x => do noteFrame x env; theTreesLotGoes x)) _ _ s
  refine wpAny_noted ?_
  rw [heq]
  refine wpAny_bind (wpAny_standAt (wpAny_bind (wpAny_mono (turn n s hI) (fun r s₁ h₁ => ?_) fun _ _ h' => h'.elim)))
  cases r with
  | none => exact wpAny_pure h₁
  | some v =>
    refine wpAny_bind (wpAny_of_eq (ht v) ?_)
    refine wpAny_bind (wpAny_mono h₁ (fun _ s₂ h₂ => wpAny_bind (wpAny_mono h₂ (fun ok s₃ h₃ => ?_) fun _ _ h' => h'.elim)) fun _ _ h' => h'.elim)
    cases ok with
    | false => exact wpAny_pure ⟨rfl, h₃⟩
    | true => exact wpAny_bind (wpAny_mono h₃ (fun _ s₄ h₄ => wpAny_pure ⟨rfl, h₄⟩) fun _ _ h' => h'.elim)

def CEnd (c : Cx) (I : Addr) (P : Obj → Prop) (C a : Addr) (cv : List Str) (lv : List (Option MV)) (Z : ZS) (l : List MV) (σ : Sg) (s : Shared) : Prop :=
  ∃ Z', Z.le Z' ∧ W c Z' s ((I, .obj P) :: (C, .ns cv lv) :: (a, .list l) :: σ)
/-- the turn of a comprehension's loop -/
def CTurn (prog : Program) (w : World) (c : Cx) (A : Around) (env : Env) (target : Expr) (ifs : List Expr) (inner : Sem Unit) (C a : Addr) (cv : List Str) (lv : List (Option MV)) (Z : ZS) (xs : List MV) (l : Nat → List MV) (σ : Nat → Sg) : Prop :=
  ∀ (i : Nat) (m : MV) (Z' : ZS) (s' : Shared) (v : Value) (I : Addr) (P : Obj → Prop), xs[i]? = some m → Z.le Z' → VR Z' m v → W c Z' s' ((I, .obj P) :: (C, .ns cv lv) :: (a, .list (l i)) :: σ i) →
    wpAny (model prog w) A (assign target env v) (fun _ s₂ => wpAny (model prog w) A (testsOf ifs env) (fun ok s₃ =>
      if ok = true then wpAny (model prog w) A inner (fun _ s₄ => CEnd c I P C a cv lv Z (l (i + 1)) (σ (i + 1)) s₄) F0 s₃ else CEnd c I P C a cv lv Z (l (i + 1)) (σ (i + 1)) s₃) F0 s₂) F0 s'

theorem comp_loop {I C a : Addr} {xs : List MV} {p : Nat → Obj → Prop} {cv : List Str} {lv : List (Option MV)} {l : Nat → List MV} {σ' : Nat → Sg} (hA : A.handled = none)
    (heq : compTurn (.ListComp elt gens scope pos) d (.ref I) (.ref a) env = (standAt iter.pos >>= fun _ => pyNext (.ref I) >>= fun r => match r with
      | none => pure (.done .next)
      | some v => letOwnedTupleGo target (.ref I) v >>= fun _ => assign target env v >>= fun _ => testsOf ifs env >>= fun ok => (if ok = true then inner >>= fun _ => again (.compLoop (.ListComp elt gens scope pos) d (.ref I) (.ref a) env) else again (.compLoop (.ListComp elt gens scope pos) d (.ref I) (.ref a) env))))
    (ht : ∀ v, letOwnedTupleGo target (.ref I) v = pure ())
    (It : Iter prog w c Z I xs p) (W : W c Z s ((I, .obj (p 0)) :: (C, .ns cv lv) :: (a, .list (l 0)) :: σ' 0)) (turn : CTurn prog w c A env target ifs inner C a cv lv Z xs l σ')
    (done : ∀ Z' s', Z.le Z' → Mine.W c Z' s' ((C, .ns cv lv) :: (a, .list (l xs.length)) :: σ' xs.length) → R (.ok .next) s') :
    codeAny (model prog w) A (.compLoop (.ListComp elt gens scope pos) d (.ref I) (.ref a) env) R s := by
  refine codeAny_compLoop_gen (I := fun n s => ∃ i Z', n = xs.length - i ∧ i ≤ xs.length ∧ Z.le Z' ∧ Mine.W c Z' s ((I, .obj (p i)) :: (C, .ns cv lv) :: (a, .list (l i)) :: σ' i)) heq ht ?_ xs.length ⟨0, Z, rfl, Nat.zero_le _, .refl _, W⟩
  rintro n s₃ ⟨i, Z', rfl, hi, hz, W₁⟩
  by_cases hlt : i < xs.length
  · refine It.next Z' _ s₃ A i xs[i] _ _ hz hA W₁ (List.getElem?_eq_getElem hlt) fun s₄ v W₂ hv => ?_
    refine wpAny_mono (turn i xs[i] Z' s₄ v I (p (i + 1)) (List.getElem?_eq_getElem hlt) hz hv W₂) (fun _ s₅ h₅ => wpAny_mono h₅ (fun ok s₆ h₆ => ?_) fun _ _ x => x.elim) fun _ _ x => x.elim
    cases ok with
    | true => exact wpAny_mono h₆ (fun _ s₇ h₇ => let ⟨Z'', hz', W₃⟩ := h₇; ⟨xs.length - (i + 1), by omega, i + 1, Z'', rfl, hlt, hz', W₃⟩) fun _ _ x => x.elim
    | false => obtain ⟨Z'', hz', W₃⟩ := h₆; exact ⟨xs.length - (i + 1), by omega, i + 1, Z'', rfl, hlt, hz', W₃⟩
  · have e : i = xs.length := by omega
    subst e
    exact It.done Z' _ s₃ A _ _ hz hA W₁ fun s₄ W₂ => done Z' s₄ hz W₂

theorem comp_start {target iter : Expr} {ifs : List Expr} (hg : gens[d]? = some ⟨target, iter, ifs, 0⟩)
    (h0 : codeAny (model prog w) A (.compLoop (.ListComp elt gens scope pos) d it acc env) R s)
    (h : wpAny (model prog w) A (pyIter it) (fun it' s' => codeAny (model prog w) A (.compLoop (.ListComp elt gens scope pos) d it' acc env) R s') F0 s) :
    codeAny (model prog w) A (.compStart (.ListComp elt gens scope pos) d it acc env) R s := by
  refine codeAny_of_tree ?_
  show wpAny _ _ ((compStart (.ListComp elt gens scope pos) d it acc env).onRaise (fun x => do noteFrame x env; standAt theWindowsPlace)) _ _ s
  refine wpAny_notedAt ?_
  unfold compStart
  have hcl : (clausesOf (.ListComp elt gens scope pos))[d]? = some ⟨target, iter, ifs, 0⟩ := hg
  rw [hcl]
  show wpAny _ _ (ask >>= _) _ _ s
  refine wpAny_bind (wpAny_askSetting (wpAny_ite ?_))
  split
  · first
      | exact wpAny_bind (wpAny_pure (wpAny_pure (And.intro rfl h0)))
      | exact wpAny_pure (And.intro rfl h0)
  · first
      | exact wpAny_bind (wpAny_rule (wpAny_bind (wpAny_standAt (wpAny_bind (wpAny_mono h (fun it' s' h' => wpAny_pure (And.intro rfl h')) fun _ _ x => x.elim)))))
      | (refine wpAny_bind (wpAny_rule ?_); show wpAny _ _ (standAt iter.pos >>= _) _ _ s; exact wpAny_bind (wpAny_standAt (wpAny_bind (wpAny_mono h (fun it' s' h' => wpAny_pure (And.intro rfl h')) fun _ _ x => x.elim))))

def emitOf (elt : Expr) (acc : Value) (env : Env) : Sem Unit := eval elt env >>= fun v => call (.builtin "list.append") [acc, v] >>= fun _ => pure ()
def innerOf (e : Expr) (d : Nat) (acc : Value) (env : Env) (iter : Expr) : Sem Unit := eval iter env >>= fun x => standAt iter.pos >>= fun _ => foldedSetIterable iter env x >>= fun x => holding [x] (pyIter x) >>= fun it => runOwn (.compStart e d it acc env) env >>= fun _ => pure ()
end
end Mine
-- F10
namespace Mine
open PySem PySem.Spec PySem.Calls PyProof.Rows PySem.W

theorem closureFor_eq {scope : Scope} {env : Env} (fl : List (Str × Addr)) (h1 : (scope.names.filterMap fun p => if p.2 == NameKind.free then some p.1 else none) = fl.map (·.1)) (h2 : ∀ p ∈ fl, env.cells.lookup p.1 = some p.2) :
    closureFor scope env = pure fl.reverse := by
  unfold closureFor
  generalize scope.names = names at h1
  suffices H : ∀ (names : List (Str × NameKind)) (fl acc : List (Str × Addr)), (names.filterMap fun p => if p.2 == NameKind.free then some p.1 else none) = fl.map (·.1) → (∀ p ∈ fl, env.cells.lookup p.1 = some p.2) →
      (forIn names acc fun x cs => (if (x.2 == NameKind.free) = true then do let a ← cellOf env x.1; pure (ForInStep.yield ((x.1, a) :: cs)) else pure (ForInStep.yield cs) : Sem _)) = pure (fl.reverse ++ acc) by
    have := H names fl [] h1 h2
    rw [List.append_nil] at this
    first
      | exact this
      | (simp only [bind_pure]; exact this)
  intro names
  induction names with
  | nil =>
    intro fl acc h1 h2
    cases fl with
    | nil => rfl
    | cons _ _ => cases h1
  | cons p ps ih =>
    intro fl acc h1 h2
    obtain ⟨n, k⟩ := p
    rw [List.forIn_cons]
    by_cases hk : (k == NameKind.free) = true
    · rw [List.filterMap_cons] at h1
      simp only [hk, if_true] at h1 ⊢
      cases fl with
      | nil => cases h1
      | cons q qs =>
        rw [List.map_cons] at h1
        injection h1 with e1 e2
        have hq := h2 q (.head _)
        subst e1
        have hc : cellOf env q.1 = pure q.2 := by unfold cellOf; rw [hq]
        rw [hc]
        show (forIn ps ((q.1, q.2) :: acc) _ : Sem _) = _
        rw [ih qs _ e2 fun p hp => h2 p (.tail _ hp)]
        simp
    · rw [List.filterMap_cons] at h1
      simp only [hk, Bool.false_eq_true, if_false] at h1 ⊢
      exact ih fl acc h1 h2

/-- a cell, whatever it holds -/
def isCellP (o : Obj) : Prop := ∃ v, o.data = .cell v
inductive MOLe : MO → MO → Prop
  | refl (m : MO) : MOLe m m
  | ns {v : List Str} {l l' : List (Option MV)} : LSub l' l → MOLe (.ns v l') (.ns v l)
  | cell (om : Option MV) : MOLe (.obj isCellP) (.cell om)
theorem OR.le {Z : ZS} {m m' : MO} {o : Obj} (h : MOLe m' m) (r : OR Z m o) : OR Z m' o := by
  cases h with
  | refl => exact r
  | ns hs => obtain ⟨es, ep, a, b, c, d⟩ := r; exact ⟨es, ep, a, b, c, d.sub hs⟩
  | cell om => cases om with
    | none => exact ⟨_, r⟩
    | some m => obtain ⟨v, h, _⟩ := r; exact ⟨_, h⟩
/-- t says less than σ -/
inductive Weak : Sg → Sg → Prop
  | refl (r : Sg) : Weak r r
  | take {a : Addr} {mo mo' : MO} {t σ r : Sg} : Pick a mo σ r → MOLe mo' mo → Weak t r → Weak ((a, mo') :: t) σ
  | drop {p : Addr × MO} {t r : Sg} : Weak t r → Weak t (p :: r)
theorem W.le {c : Cx} {Z : ZS} {s : Shared} {σ : Sg} {a : Addr} {mo mo' : MO} (w : W c Z s ((a, mo) :: σ)) (h : MOLe mo' mo) : W c Z s ((a, mo') :: σ) := by
  obtain ⟨o, ho, hr⟩ := w.head
  exact w.set (fun _ _ _ e => e) ho (hr.le h)
theorem Weak.sub {t σ : Sg} (h : Weak t σ) : ∀ p ∈ t, ∃ m, (p.1, m) ∈ σ := by
  induction h with
  | refl r => exact fun p h => ⟨p.2, h⟩
  | take hp _ _ ih =>
    intro p hm
    rcases List.mem_cons.mp hm with rfl | hm
    · exact ⟨_, hp.perm.mem_iff.mpr (.head _)⟩
    · obtain ⟨m, h⟩ := ih p hm; exact ⟨m, hp.perm.mem_iff.mpr (.tail _ h)⟩
  | drop _ ih => exact fun p hm => let ⟨m, h⟩ := ih p hm; ⟨m, .tail _ h⟩
theorem W.weak {c : Cx} {Z : ZS} {s : Shared} {σ t : Sg} (w : W c Z s σ) (h : Weak t σ) : W c Z s t := by
  induction h with
  | refl r => exact w
  | @take a mo mo' t σ r hp hl hs ih =>
    have w₁ := (w.pick hp).le hl
    have w₂ := ih (w.pick hp).drop
    have hnot : ∀ p ∈ t, p.1 ≠ a := fun p hp' => by
      obtain ⟨m, hm⟩ := hs.sub p hp'
      exact (w.pick hp).notIn _ ⟨m, hm⟩
    refine { w₂ with cell := fun p hp => ?_, new := fun p hp => ?_, nodup := ?_ }
    · rcases List.mem_cons.mp hp with rfl | hp
      · exact w₁.head
      · exact w₂.cell p hp
    · rcases List.mem_cons.mp hp with rfl | hp
      · exact w₁.new _ (.head _)
      · exact w₂.new p hp
    · rw [List.map_cons, List.nodup_cons]
      refine ⟨fun hm => ?_, w₂.nodup⟩
      obtain ⟨q, hq, e⟩ := List.mem_map.mp hm
      exact hnot q hq e
  | drop _ ih => exact ih w.drop

def cellNames (names : List (Str × NameKind)) : List Str := names.filterMap fun p => if p.2 == NameKind.cell then some p.1 else none
def freeNames (names : List (Str × NameKind)) : List Str := names.filterMap fun p => if p.2 == NameKind.free then some p.1 else none
/-- over the own cells, the last one first -/
def AllC (k : List (Str × Addr) → Sg → Prop) : List Str → List (Str × Addr) → Sg → Prop
  | [], acc, σ => k acc σ
  | n :: r, acc, σ => ∀ a, AllC k r ((n, a) :: acc) ((a, .obj isCellP) :: σ)

def bindAll (env : Env) : List (Str × Value) → Sem Unit
  | [] => pure ()
  | (n, v) :: r => storeName env n v >>= fun _ => bindAll env r
theorem forIn_bindAll (env : Env) : ∀ binds : List (Str × Value), (forIn binds PUnit.unit fun x _ => (do storeName env x.1 x.2; pure (ForInStep.yield PUnit.unit) : Sem _)) = bindAll env binds
  | [] => rfl
  | (n, v) :: r => by
    rw [List.forIn_cons]
    unfold bindAll
    rw [← forIn_bindAll env r]
    simp only [bind_assoc, pure_bind]

section
variable {prog : Program} {w : World} {c : Cx} {Z : ZS} {s : Shared} {σ r : Sg} {A : Around} {E : Value → Shared → Prop}

theorem lay {Q : List (Str × Addr) → Shared → Prop} {k : List (Str × Addr) → Sg → Prop} (hk : ∀ cl σ' s', k cl σ' → W c Z s' σ' → Q cl s') :
    ∀ (names : List (Str × NameKind)) (acc : List (Str × Addr)) (σ : Sg) (s : Shared), W c Z s σ → AllC k (cellNames names) acc σ →
      wpAny (model prog w) A (forIn names acc fun x cells => (if (x.2 == NameKind.cell) = true then do let a ← alloc { cls := .type "cell", data := .cell none }; pure (ForInStep.yield ((x.1, a) :: cells)) else pure (ForInStep.yield cells) : Sem _)) Q E s
  | [], acc, σ, s, W, h => by rw [List.forIn_nil]; exact wpAny_pure (hk _ _ _ h W)
  | (n, kd) :: r, acc, σ, s, W, h => by
    rw [List.forIn_cons]
    unfold cellNames at h
    rw [List.filterMap_cons] at h
    by_cases e : (kd == NameKind.cell) = true
    · simp only [e, if_true] at h ⊢
      refine wpAny_bind (wpAny_bind (wpAny_alloc (wpAny_pure ?_)))
      exact lay hk r _ _ _ (W.push (mo := .obj isCellP) rfl ⟨_, rfl⟩) (h _)
    · simp only [e, Bool.false_eq_true, if_false] at h ⊢
      exact wpAny_bind (wpAny_pure (lay hk r _ _ _ W h))

theorem nsNew (vars : List Str) (hn : vars.Nodup) (cls : Value) : OR Z (.ns vars (vars.map fun _ => none)) { cls := cls, data := .dict #[] } := by
  refine ⟨_, _, rfl, ?_, hn, ?_⟩
  · intro e he; simp at he
  · clear hn
    induction vars with
    | nil => trivial
    | cons x xs ih => exact ih

/-- a new environment: own cells, nothing bound -/
theorem new_env {scope : Scope} {globals : Addr} {clo : List (Str × Addr)} {binds : List (Str × Value)} {qual : Str} {func : Option Addr} {code : Value} {around : Option Env} {builtins : Addr} {Q : Env → Shared → Prop}
    (vars : List Str) (hn : vars.Nodup) (W : W c Z s σ) (cn : List Str) (hcn : cellNames scope.names = cn)
    (k : ∀ L, AllC (fun cl σ' => ∀ s', Mine.W c Z s' σ' → wpAny (model prog w) A (bindAll (newEnv scope L globals cl qual func code around builtins) binds) (fun _ s'' => Q (newEnv scope L globals cl qual func code around builtins) s'') E s') cn clo ((L, .ns vars (vars.map fun _ => none)) :: σ)) :
    wpAny (model prog w) A (newFunctionEnv scope globals clo binds qual func code around builtins) Q E s := by
  subst hcn
  cases around with
  | none =>
    simp only [newFunctionEnv, Option.isSome_none, Bool.false_eq_true, if_false]
    refine wpAny_bind (wpAny_alloc ?_)
    have W' := W.push (mo := .ns vars (vars.map fun _ => none)) (o := { cls := .type "frame", data := .dict #[] }) rfl (nsNew vars hn _)
    refine wpAny_bind (lay (fun cl σ' s' hk W => ?_) scope.names clo _ _ W' (k _))
    refine wpAny_bind ?_
    have := hk s' W
    rw [← forIn_bindAll] at this
    exact wpAny_mono this (fun _ _ h => wpAny_pure h) fun _ _ h => h
  | some outer =>
    simp only [newFunctionEnv, Option.isSome_some, if_true]
    refine wpAny_bind (wpAny_alloc ?_)
    have W' := W.push (mo := .ns vars (vars.map fun _ => none)) (o := { cls := .type "dict", data := .dict #[] }) rfl (nsNew vars hn _)
    refine wpAny_bind (lay (fun cl σ' s' hk W => ?_) scope.names clo _ _ W' (k _))
    refine wpAny_bind ?_
    have := hk s' W
    rw [← forIn_bindAll] at this
    exact wpAny_mono this (fun _ _ h => wpAny_pure h) fun _ _ h => h

theorem st_cellO {M : Model} {env : Env} {L : Addr} {vars : List Str} {cl : List (Str × Addr)} {gl : List Str} {x : Str} {ca : Addr} {m : MV} {v : Value} {Q : Unit → Shared → Prop} (w : W c Z s σ) (ev : EnvOk env L vars cl gl) (hc : (x, ca) ∈ cl) (hk : env.kindOf x = some .cell) (hp : Pick ca (.obj isCellP) σ r) (hv : VR Z m v)
    (k : ∀ s', W c Z s' ((ca, .cell (some m)) :: r) → Q () s') : wpAny M A (storeName env x v) Q E s := by
  have w' := w.pick hp
  obtain ⟨o, ho, v₀, hr⟩ := w'.head
  obtain ⟨_, hl⟩ := ev.cells _ hc
  refine wpAny_storeName_cell ev.kind hk hl ⟨o, ho, hr⟩ fun h' hv' hs => k _ ?_
  obtain ⟨o', ho', hd'⟩ := hv'
  exact w'.set (fun b o hb e => (hs.2 b hb).trans e) ho' ⟨v, hd', hv⟩
end
end Mine
-- F11
namespace Mine
open PySem PySem.Spec PySem.Calls PyProof.Rows PySem.W

def CellsOwn (env : Env) (cn : List Str) : Prop := ∀ x ∈ cn, env.kindOf x = some .cell
theorem CellsOwn.get {env : Env} {cn : List Str} {x : Str} (h : CellsOwn env cn) (hx : x ∈ cn) : env.kindOf x = some .cell := h x hx

theorem lookup_relabel {env : Env} {x : Str} : ∀ {names : List (Str × NameKind)},
    (names.map fun (n, k) => if (k == NameKind.free && env.scope.kind == .function && env.kindOf n == some .cell) then (n, NameKind.cell) else (n, k)).lookup x =
      (names.lookup x).map fun k => if (k == NameKind.free && env.scope.kind == .function && env.kindOf x == some .cell) then .cell else k
  | [] => rfl
  | (n, k) :: r => by
    have ih := @lookup_relabel env x r
    show List.lookup x ((if (k == NameKind.free && env.scope.kind == .function && env.kindOf n == some .cell) = true then (n, NameKind.cell) else (n, k)) :: _) = _
    cases hx : x == n with
    | true =>
      have e := beq_iff_eq.mp hx
      subst e
      simp only [List.lookup_cons, hx, Option.map_some]
      by_cases hc : (k == NameKind.free && env.scope.kind == .function && env.kindOf x == some .cell) = true
      · rw [if_pos hc, if_pos hc]; simp [List.lookup_cons]
      · rw [if_neg hc, if_neg hc]; simp [List.lookup_cons]
    | false =>
      simp only [List.lookup_cons, hx]
      rw [← ih]
      by_cases hc : (k == NameKind.free && env.scope.kind == .function && env.kindOf n == some .cell) = true
      · rw [if_pos hc]; simp only [List.lookup_cons, hx]
      · rw [if_neg hc]; simp only [List.lookup_cons, hx]

theorem lookup_of_mem {α : Type} : ∀ {l : List (Str × α)} {p : Str × α}, (l.map (·.1)).Nodup → p ∈ l → l.lookup p.1 = some p.2
  | q :: l, p, hn, hp => by
    rw [List.map_cons, List.nodup_cons] at hn
    rcases List.mem_cons.mp hp with rfl | hp
    · obtain ⟨x, y⟩ := p; simp [List.lookup_cons]
    · have hne : (p.1 == q.1) = false := beq_eq_false_iff_ne.mpr fun e => hn.1 (e ▸ List.mem_map.mpr ⟨p, hp, rfl⟩)
      rw [List.lookup_cons, hne]
      exact lookup_of_mem hn.2 hp

theorem AllC.imp {k k' : List (Str × Addr) → Sg → Prop} : ∀ {cn : List Str} {acc : List (Str × Addr)} {σ : Sg}, (∀ cl σ', cl.map (·.1) = cn.reverse ++ acc.map (·.1) → k cl σ' → k' cl σ') → AllC k cn acc σ → AllC k' cn acc σ
  | [], _, _, h, x => h _ _ (by simp) x
  | n :: r, acc, σ, h, x => fun a => AllC.imp (fun cl σ' e => h cl σ' (by rw [e]; simp)) (x a)
theorem AllC.app {k : List (Str × Addr) → Sg → Prop} {σ σ₀ : Sg} : ∀ {cn : List Str} {acc : List (Str × Addr)} (cells : Sg), AllC k cn acc (cells ++ σ) → AllC (fun cl τ => ∃ cells, τ = cells ++ σ₀ ∧ k cl (cells ++ σ)) cn acc (cells ++ σ₀)
  | [], _, cells, x => ⟨cells, rfl, x⟩
  | n :: r, acc, cells, x => fun a => AllC.app (cells := (a, .obj isCellP) :: cells) (x a)

def compOk (sc : Scope) (cv cn fn gl : List Str) : Bool :=
  sc.kind == .function && sc.names.all (fun p => p.2 != .local || sc.names.lookup p.1 == some .local) && cv.all (fun x => sc.names.lookup x == some .local) && cn.all (fun x => sc.names.lookup x == some .cell) &&
  fn.all (fun x => sc.names.lookup x == some .free) && gl.all (fun x => sc.names.lookup x == some .globalImplicit) && decide cv.Nodup && decide (cn.reverse ++ fn.reverse).Nodup && cellNames sc.names == cn && freeNames sc.names == fn

section
variable {prog : Program} {w : World} {c : Cx} {Z : ZS} {s : Shared} {σ r : Sg} {A : Around} {E : Value → Shared → Prop} {env : Env} {L : Addr} {vars : List Str} {cl : List (Str × Addr)} {gl : List Str}
  {target iter elt : Expr} {ifs : List Expr} {rest : List Comprehension} {scope : Scope} {pos : Pos}

def CompAt (prog : Program) (w : World) (c : Cx) (A : Around) (target : Expr) (ifs : List Expr) (inner : Value → Env → Sem Unit) (fl : List (Str × Addr)) (cn cv gl : List Str) (R : Value → Addr → Result → Shared → Prop) (it : Value) (s : Shared) : Prop :=
  ∃ Z σ xs, ItAt prog w c Z σ xs (fun _ _ _ => True) it s ∧ ∀ C a, AllC (fun cl τ => ∀ cenv, EnvOk cenv C cv cl gl → CellsOwn cenv cn → ∃ (σ' : Nat → Sg) (l : Nat → List MV), σ' 0 = τ ∧ l 0 = [] ∧
    CTurn prog w c A cenv target ifs (inner (.ref a) cenv) C a cv (cv.map fun _ => none) Z xs l σ' ∧
    ∀ Z' s', Z.le Z' → W c Z' s' ((C, .ns cv (cv.map fun _ => none)) :: (a, .list (l xs.length)) :: σ' xs.length) → R (.ref a) C (.ok .next) s') cn fl.reverse σ

theorem comp_core {it : Value} {fl : List (Str × Addr)} {cn cv gl₂ : List Str} {inner : Value → Env → Sem Unit} {R : Value → Addr → Result → Shared → Prop} (hA : A.handled = none) (ev : EnvOk env L vars cl gl)
    (hok : compOk scope cv cn (fl.map (·.1)) gl₂ = true) (hfl : ∀ p ∈ fl, p ∈ cl)
    (heq : ∀ it acc env, compTurn (.ListComp elt (⟨target, iter, ifs, 0⟩ :: rest) scope pos) 0 it acc env = (standAt iter.pos >>= fun _ => pyNext it >>= fun r => match r with
      | none => pure (.done .next)
      | some v => letOwnedTupleGo target it v >>= fun _ => assign target env v >>= fun _ => testsOf ifs env >>= fun ok => (if ok = true then inner acc env >>= fun _ => again (.compLoop (.ListComp elt (⟨target, iter, ifs, 0⟩ :: rest) scope pos) 0 it acc env) else again (.compLoop (.ListComp elt (⟨target, iter, ifs, 0⟩ :: rest) scope pos) 0 it acc env))))
    (ht : ∀ it v, letOwnedTupleGo target it v = pure ())
    (h : CompAt prog w c A target ifs inner fl cn cv gl₂ R it s) :
    wpAny (model prog w) A (newList []) (fun acc s₃ => wpAny (model prog w) A (newFunctionEnv scope env.globals fl.reverse [] env.qual none .none (some env)) (fun cenv s₄ =>
      codeAny (model prog w) A (.compStart (.ListComp elt (⟨target, iter, ifs, 0⟩ :: rest) scope pos) 0 it acc { cenv with scope := relabel scope env }) (R acc cenv.locals) s₄) E s₃) E s := by
  obtain ⟨Z, σ, xs, ⟨I, p, rfl, It, W₀, _⟩, hk⟩ := h
  unfold compOk at hok
  simp only [Bool.and_eq_true, beq_iff_eq, List.all_eq_true, decide_eq_true_eq, Bool.or_eq_true, bne_iff_ne] at hok
  obtain ⟨⟨⟨⟨⟨⟨⟨⟨⟨hkd, hloc⟩, hcv⟩, hcn⟩, hfn⟩, hgl⟩, hnv⟩, hnd⟩, hcnn⟩, hfnn⟩ := hok
  refine n_list W₀ .nil (by size_fits) fun s₃ a W₁ => ?_
  refine new_env cv hnv W₁ cn hcnn fun C => ?_
  have h1 := (hk C a).app (σ₀ := (C, .ns cv (cv.map fun _ => none)) :: (a, .list []) :: (I, .obj (p 0)) :: σ) []
  refine AllC.imp (fun cl' τ hcl ⟨cells, hτ, hkk⟩ s₄ W₂ => ?_) h1
  subst hτ
  refine wpAny_pure ?_
  have hkind : ∀ x : Str, Env.kindOf { (newEnv scope C env.globals cl' env.qual none .none (some env) builtinsNs) with scope := relabel scope env } x = (scope.names.lookup x).map fun k => if (k == NameKind.free && env.scope.kind == .function && env.kindOf x == some .cell) then .cell else k := fun x => lookup_relabel
  have hnm : (cl'.map (·.1)) = cn.reverse ++ (fl.map (·.1)).reverse := by rw [hcl, List.map_reverse]
  have hev : EnvOk { (newEnv scope C env.globals cl' env.qual none .none (some env) builtinsNs) with scope := relabel scope env } C cv cl' gl₂ := by
    refine ⟨hkd, rfl, ev.glb, ev.blt, fun x hx => ?_, fun q hq => ⟨?_, ?_⟩, fun x hx => ?_⟩
    · rw [hkind, hcv x hx]; rfl
    · rw [hkind]
      have hm : q.1 ∈ cn.reverse ++ (fl.map (·.1)).reverse := hnm ▸ List.mem_map.mpr ⟨q, hq, rfl⟩
      rcases List.mem_append.mp hm with hm | hm
      · rw [hcn _ (List.mem_reverse.mp hm)]; exact .inl rfl
      · rw [hfn _ (List.mem_reverse.mp hm)]
        show (some (if _ then _ else _) = _) ∨ (some (if _ then _ else _) = _)
        split
        · exact .inl rfl
        · exact .inr rfl
    · exact lookup_of_mem (show (cl'.map (·.1)).Nodup from by rw [hnm]; exact hnd) hq
    · rw [hkind, hgl x hx]; rfl
  have hown : CellsOwn { (newEnv scope C env.globals cl' env.qual none .none (some env) builtinsNs) with scope := relabel scope env } cn := fun x hx => by rw [hkind, hcn x hx]; rfl
  obtain ⟨σ', l, hs0, hl0, turn, done⟩ := hkk _ hev hown
  have hperm : (cells ++ ((C, MO.ns cv (cv.map fun _ => none)) :: (a, .list []) :: (I, .obj (p 0)) :: σ)).Perm ((I, .obj (p 0)) :: (C, .ns cv (cv.map fun _ => none)) :: (a, .list (l 0)) :: σ' 0) := by
    rw [hs0, hl0]
    have e1 : (cells ++ ((C, MO.ns cv (cv.map fun _ => none)) :: (a, .list []) :: (I, .obj (p 0)) :: σ)) = cells ++ ([(C, MO.ns cv (cv.map fun _ => none)), (a, .list []), (I, .obj (p 0))] ++ σ) := rfl
    rw [e1]
    have e2 : ((I, MO.obj (p 0)) :: (C, .ns cv (cv.map fun _ => none)) :: (a, .list []) :: (cells ++ σ)) = [(I, MO.obj (p 0)), (C, .ns cv (cv.map fun _ => none)), (a, .list [])] ++ (cells ++ σ) := rfl
    rw [e2, ← List.append_assoc, ← List.append_assoc]
    refine List.Perm.append_right _ (List.perm_append_comm.trans (List.Perm.append_right _ ?_))
    exact ((List.Perm.swap _ _ _).cons _).trans (List.Perm.swap _ _ _)
  have W₃ := W₂.perm hperm
  have loop : ∀ s₄, Mine.W c Z s₄ ((I, .obj (p 0)) :: (C, .ns cv (cv.map fun _ => none)) :: (a, .list (l 0)) :: σ' 0) → codeAny (model prog w) A (.compLoop (.ListComp elt (⟨target, iter, ifs, 0⟩ :: rest) scope pos) 0 (.ref I) (.ref a) { (newEnv scope C env.globals cl' env.qual none .none (some env) builtinsNs) with scope := relabel scope env }) (R (.ref a) C) s₄ := fun s₄ W₄ =>
    comp_loop hA (heq _ _ _) (ht _) It W₄ turn done
  exact comp_start (target := target) (iter := iter) (ifs := ifs) rfl (loop _ W₃) (It.self Z _ _ A 0 _ _ W₃ (loop _ W₃))
end
end Mine
-- F12
namespace Mine
open PySem PySem.Spec PySem.Calls PyProof.Rows PySem.W

def scopeOkC (sc : Scope) (vars cn gl : List Str) : Bool :=
  sc.kind == .function && !sc.isGenerator && !sc.isCoroutine && cellNames sc.names == cn && decide cn.reverse.Nodup &&
  vars.all (fun x => sc.names.lookup x == some .local) && cn.all (fun x => sc.names.lookup x == some .cell) && gl.all (fun x => sc.names.lookup x == some .globalImplicit) && decide vars.Nodup

section
variable {prog : Program} {w : World} {c : Cx} {Z : ZS} {s : Shared} {σ r : Sg} {A : Around} {E : Value → Shared → Prop} {Q : Value → Shared → Prop} {env : Env} {pos : Pos} {L : Addr} {vars : List Str} {cl : List (Str × Addr)} {gl : List Str}

/-- the entry into a function that has cells of its own -/
theorem call_fnC {n : Nat} {fa : Addr} {oc : Value} {od : Option Addr} {osl : Array (Option Value)} {name qual : Str} {params : Arguments} {body : List Stmt} {scope : Scope} {dV kV doc pm cdv ct : Value} {an : Option Addr}
    {vs : List Value} {kw : List (Str × Value)} (bn : List Str) {bv : List Value} (vars cn gl : List Str)
    (W : W c Z s σ) (rm : Room (n + 1) A)
    (ho : c.K.lookup fa = some ⟨oc, od, .func (fnOf name qual params body scope dV kV doc pm an cdv ct), osl⟩)
    (hcd : codeIn c.K cdv qual = true)
    (hb : BindsTo s (fnOf name qual params body scope dV kV doc pm an cdv ct) ⟨vs, kw⟩ (bn.zip bv))
    (hsc : scopeOkC scope vars cn gl = true)
    (q : ∀ L, AllC (fun cl σ' => ∀ env, EnvOk env L vars cl gl → CellsOwn env cn → ∀ s', Mine.W c Z s' σ' → ∀ A, wpAny (model prog w) A (bindAll env (bn.zip bv)) (fun _ s'' =>
      (∃ Z σ, Mine.W c Z s'' σ) ∧ ∀ A, Room n A → wpAny (model prog w) A (execs body env) (fun f s'' => Q (retOf f) s'') (fun _ _ => False) s'') (fun _ _ => False) s') cn [] ((L, .ns vars (vars.map fun _ => none)) :: σ)) :
    wpAny (model prog w) A (call (.ref fa) vs kw) Q E s := by
  unfold scopeOkC at hsc
  simp only [Bool.and_eq_true, Bool.not_eq_true', beq_iff_eq, List.all_eq_true, decide_eq_true_eq] at hsc
  obtain ⟨⟨⟨⟨⟨⟨⟨⟨h1, h2⟩, h3⟩, h4⟩, h5⟩, h6⟩, h7⟩, h8⟩, h9⟩ := hsc
  refine wpAny_call (codeAny_call_function rm.lt (W.base _ _ (W.b.kin _ _ ho)) rfl h3 h2 rfl (codeRec_of W.kin hcd) (hb _ _ _ _ ?_))
  refine new_env vars h9 W cn h4 fun L => ?_
  refine AllC.imp (fun cl σ' hcl hq s₁ W₁ => ?_) (q L)
  have hnm : cl.map (·.1) = cn.reverse := by rw [hcl]; simp [fnOf]
  have ev : EnvOk (newEnv scope L mainGlobals cl (qual ++ ".<locals>.") (some fa) cdv none builtinsNs) L vars cl gl :=
    ⟨h1, rfl, rfl, rfl, h6, fun p hp => ⟨.inl (h7 _ (List.mem_reverse.mp (hnm ▸ List.mem_map.mpr ⟨p, hp, rfl⟩))), lookup_of_mem (show (cl.map (·.1)).Nodup from by rw [hnm]; exact h5) hp⟩, h8⟩
  refine wpAny_mono (hq _ ev (fun x hx => h7 x hx) s₁ W₁ _) (fun _ s₂ h₂ => ⟨?_, codeAny_func ?_⟩) fun _ _ x => x.elim
  · obtain ⟨⟨_, _, w₂⟩, _⟩ := h₂; exact w₂.b.nolim.keeps w₂.base
  · refine wpAny_mono (h₂.2 _ (rm.deeper _)) (fun f s' hq => ?_) fun _ _ x => x.elim
    cases f <;> exact hq

theorem x_bindAll_cons {x : Str} {v : Value} {r : List (Str × Value)} {Q : Unit → Shared → Prop} (h : wpAny (model prog w) A (storeName env x v) (fun _ s' => wpAny (model prog w) A (bindAll env r) Q E s') E s) : wpAny (model prog w) A (bindAll env ((x, v) :: r)) Q E s := wpAny_bind h
theorem x_bindAll_nil {Q : Unit → Shared → Prop} (h : Q () s) : wpAny (model prog w) A (bindAll env []) Q E s := wpAny_pure h

/-! comprehensions, for use -/
variable {target iter elt : Expr} {ifs : List Expr} {rest : List Comprehension} {scope : Scope}

theorem W.at_ns {vars : List Str} {l : List (Option MV)} (W : W c Z s ((L, .ns vars l) :: σ)) : ∃ m, s.heap.Ns L m := by obtain ⟨f, hf, _⟩ := W.ns; exact ⟨f, hf⟩
theorem sameBut_but {s : Shared} {C : Addr} {h' : Heap} (hs : Heap.SameBut C s.heap h') : ∀ b o, b ≠ C → s.heap.get? b = some o → h'.get? b = some o := fun b o hb e => (hs.2 b hb).trans e

theorem fin_keep {C a : Addr} {cv : List Str} {lv : List (Option MV)} {l : List MV} {Q : Value → Shared → Prop} (W : W c Z s ((C, .ns cv lv) :: (a, .list l) :: σ)) (k : ∀ s', Mine.W c Z s' ((a, .list l) :: σ) → Q (.ref a) s') :
    compPost (model prog w) A E none Q (.ref a) C (.ok .next) s :=
  let ⟨m, hm⟩ := W.at_ns; ⟨m, hm, fun _ hs => k _ (W.but (sameBut_but hs))⟩
theorem fin_frz {C a : Addr} {cv : List Str} {lv : List (Option MV)} {l : List MV} {Q : Value → Shared → Prop} (W : W c Z s ((C, .ns cv lv) :: (a, .list l) :: σ)) (k : ∀ Z' s', Z.le Z' → VR Z' (.lst l) (.ref a) → Mine.W c Z' s' σ → Q (.ref a) s') :
    compPost (model prog w) A E none Q (.ref a) C (.ok .next) s :=
  fin_keep W fun _ W' => let ⟨Z', hz, W₂, hv⟩ := W'.freezeList; k Z' _ hz hv W₂
theorem fin_useK {C a : Addr} {cv : List Str} {lv : List (Option MV)} {l : List MV} {R : Shared → Prop} {y : Str} {py : Pos} {lv₀ lv₁ : List (Option MV)} (W : W c Z s ((C, .ns cv lv) :: (a, .list l) :: σ)) (ev : EnvOk env L vars cl gl)
    (hp : Pick L (.ns vars lv₀) σ r) (hs : LSet y (.ref a) vars lv₀ lv₁) (k : ∀ s', Mine.W c Z s' ((L, .ns vars lv₁) :: (a, .list l) :: r) → R s') :
    compPost (model prog w) A E (some (assign (.Name y py) env)) (fun _ s' => R s') (.ref a) C (.ok .next) s := by
  show wpAny (model prog w) A (assign (.Name y py) env (.ref a)) _ E s
  refine wpAny_assign_Name (st_local W ev (.tail (.tail hp)) hs (.ref a) fun s' W' => ?_)
  have W₂ := W'.perm (List.Perm.swap _ _ _)
  obtain ⟨m, hm⟩ := W₂.at_ns
  exact ⟨m, hm, fun _ hsb => k _ (W₂.but (sameBut_but hsb))⟩
theorem fin_use {C a : Addr} {cv : List Str} {lv : List (Option MV)} {l : List MV} {R : Shared → Prop} {y : Str} {py : Pos} {lv₀ lv₁ : List (Option MV)} (W : W c Z s ((C, .ns cv lv) :: (a, .list l) :: σ)) (ev : EnvOk env L vars cl gl)
    (hp : Pick L (.ns vars lv₀) σ r) (hs : LSet y (.lst l) vars lv₀ lv₁) (k : ∀ Z' s', Z.le Z' → Mine.W c Z' s' ((L, .ns vars lv₁) :: r) → R s') :
    compPost (model prog w) A E (some (assign (.Name y py) env)) (fun _ s' => R s') (.ref a) C (.ok .next) s := by
  show wpAny (model prog w) A (assign (.Name y py) env (.ref a)) _ E s
  obtain ⟨Z', hz, W₁, hv⟩ := (W.perm (List.Perm.swap _ _ _)).freezeList
  refine wpAny_assign_Name (st_local W₁ ev (.tail hp) hs hv fun s' W' => ?_)
  have W₂ := W'.perm (List.Perm.swap _ _ _)
  obtain ⟨m, hm⟩ := W₂.at_ns
  exact ⟨m, hm, fun _ hsb => k _ _ hz (W₂.but (sameBut_but hsb))⟩

theorem x_comp {inner : Value → Env → Sem Unit} (fl : List (Str × Addr)) (cn cv gl₂ : List Str) (hA : A.handled = none) (ev : EnvOk env L vars cl gl)
    (hok : compOk scope cv cn (fl.map (·.1)) gl₂ = true) (hfl : ∀ p ∈ fl, p ∈ cl)
    (heq : ∀ it acc env, compTurn (.ListComp elt (⟨target, iter, ifs, 0⟩ :: rest) scope pos) 0 it acc env = (standAt iter.pos >>= fun _ => pyNext it >>= fun r => match r with
      | none => pure (.done .next)
      | some v => letOwnedTupleGo target it v >>= fun _ => assign target env v >>= fun _ => testsOf ifs env >>= fun ok => (if ok = true then inner acc env >>= fun _ => again (.compLoop (.ListComp elt (⟨target, iter, ifs, 0⟩ :: rest) scope pos) 0 it acc env) else again (.compLoop (.ListComp elt (⟨target, iter, ifs, 0⟩ :: rest) scope pos) 0 it acc env))))
    (h : wpAny (model prog w) A (eval iter env) (fun xv s₁ => wpAny (model prog w) A (pyIter xv) (CompAt prog w c A target ifs inner fl cn cv gl₂ (fun acc C => compPost (model prog w) A E none Q acc C)) E s₁) E s)
    (hs : ∀ x, foldedSetIterable iter env x = pure x := by intro _; rfl) (ht : ∀ it v, letOwnedTupleGo target it v = pure () := by intro _ _; rfl) :
    wpAny (model prog w) A (eval (.ListComp elt (⟨target, iter, ifs, 0⟩ :: rest) scope pos) env) Q E s := by
  rw [eval_ListComp]
  have hok' := hok
  unfold compOk at hok'
  simp only [Bool.and_eq_true, beq_iff_eq, List.all_eq_true, decide_eq_true_eq, Bool.or_eq_true, bne_iff_ne] at hok'
  obtain ⟨⟨⟨⟨⟨⟨⟨⟨⟨hkd, hloc⟩, hcv⟩, hcn⟩, hfn⟩, hgl⟩, hnv⟩, hnd⟩, hcnn⟩, hfnn⟩ := hok'
  refine wpAny_comprehension_free (use := none) rfl hs (closureFor_eq fl hfnn fun p hp => (ev.cells p (hfl p hp)).2) hkd (fun x hx hl => (hloc x hx).resolve_left fun h => h hl) (wpAny_mono h (fun xv s₁ h₁ => wpAny_mono h₁ (fun it s₂ h₂ => ?_) fun _ _ e => e) fun _ _ e => e)
  exact comp_core hA ev hok hfl heq ht h₂

theorem x_compA {inner : Value → Env → Sem Unit} {y : Str} {py spos : Pos} {Q : Flow → Shared → Prop} (fl : List (Str × Addr)) (cn cv gl₂ : List Str) (hA : A.handled = none) (ev : EnvOk env L vars cl gl)
    (hy : y ∈ vars) (hyn : (py.line == pos.line && !(scope.names.any fun (n, k) => n == y && (k == .local || k == .cell))) = true)
    (hok : compOk scope cv cn (fl.map (·.1)) gl₂ = true) (hfl : ∀ p ∈ fl, p ∈ cl)
    (heq : ∀ it acc env, compTurn (.ListComp elt (⟨target, iter, ifs, 0⟩ :: rest) scope pos) 0 it acc env = (standAt iter.pos >>= fun _ => pyNext it >>= fun r => match r with
      | none => pure (.done .next)
      | some v => letOwnedTupleGo target it v >>= fun _ => assign target env v >>= fun _ => testsOf ifs env >>= fun ok => (if ok = true then inner acc env >>= fun _ => again (.compLoop (.ListComp elt (⟨target, iter, ifs, 0⟩ :: rest) scope pos) 0 it acc env) else again (.compLoop (.ListComp elt (⟨target, iter, ifs, 0⟩ :: rest) scope pos) 0 it acc env))))
    (h : wpAny (model prog w) A (eval iter env) (fun xv s₁ => wpAny (model prog w) A (pyIter xv) (CompAt prog w c A target ifs inner fl cn cv gl₂ (fun acc C => compPost (model prog w) A E (some (assign (.Name y py) env)) (fun _ s' => Q .next s') acc C)) E s₁) E s)
    (hs : ∀ x, foldedSetIterable iter env x = pure x := by intro _; rfl) (ht : ∀ it v, letOwnedTupleGo target it v = pure () := by intro _ _; rfl) :
    wpAny (model prog w) A (exec (.Assign [.Name y py] (.ListComp elt (⟨target, iter, ifs, 0⟩ :: rest) scope pos) spos) env) Q E s := by
  have hok' := hok
  unfold compOk at hok'
  simp only [Bool.and_eq_true, beq_iff_eq, List.all_eq_true, decide_eq_true_eq, Bool.or_eq_true, bne_iff_ne] at hok'
  obtain ⟨⟨⟨⟨⟨⟨⟨⟨⟨hkd, hloc⟩, hcv⟩, hcn⟩, hfn⟩, hgl⟩, hnv⟩, hnd⟩, hcnn⟩, hfnn⟩ := hok'
  have hsw : swapsWith (.ListComp elt (⟨target, iter, ifs, 0⟩ :: rest) scope pos) (some (.Name y py)) spos.line env = pure true := by
    show (pure (env.blockKind == .function && env.kindOf y == some .local && py.line == pos.line && !(scope.names.any fun (n, k) => n == y && (k == .local || k == .cell))) : Sem Bool) = pure true
    have e1 : env.blockKind = .function := by unfold Env.blockKind; rw [ev.kind]; rfl
    rw [e1, ev.vars y hy, Bool.and_assoc, hyn]
    rfl
  rw [exec_Assign_Name_used _ _ _ _ hsw]
  refine wpAny_bind (wpAny_standAt (wpAny_bind ?_))
  show wpAny _ A (do let _ ← comprehension (.ListComp elt (⟨target, iter, ifs, 0⟩ :: rest) scope pos) scope env _ (newList []) false (eval iter env) (some (assign (.Name y py) env))) _ _ s
  refine wpAny_bind (wpAny_mono (wpAny_comprehension_free (use := some (assign (.Name y py) env)) (Q := fun _ s' => Q .next s') rfl hs (closureFor_eq fl hfnn fun p hp => (ev.cells p (hfl p hp)).2) hkd (fun x hx hl => (hloc x hx).resolve_left fun h => h hl)
    (wpAny_mono h (fun xv s₁ h₁ => wpAny_mono h₁ (fun it s₂ h₂ => ?_) fun _ _ e => e) fun _ _ e => e)) (fun _ s' hq => wpAny_pure (wpAny_pure hq)) fun _ _ e => e)
  exact comp_core hA ev hok hfl heq ht h₂

/-- a comprehension into a cell -/
theorem x_compC {y : Str} {py spos : Pos} {Q : Flow → Shared → Prop} (ev : EnvOk env L vars cl gl) (hy : env.kindOf y = some .cell)
    (h : wpAny (model prog w) A (eval (.ListComp elt (⟨target, iter, ifs, 0⟩ :: rest) scope pos) env) (fun v s₁ => wpAny (model prog w) A (storeName env y v) (fun _ => Q .next) E s₁) E s) :
    wpAny (model prog w) A (exec (.Assign [.Name y py] (.ListComp elt (⟨target, iter, ifs, 0⟩ :: rest) scope pos) spos) env) Q E s := by
  refine wpAny_Assign_Name h ?_
  show (pure (env.blockKind == .function && env.kindOf y == some .local && py.line == pos.line && !(scope.names.any fun (n, k) => n == y && (k == .local || k == .cell))) : Sem Bool) = pure false
  rw [hy]
  have : ((some NameKind.cell : Option NameKind) == some NameKind.local) = false := rfl
  rw [this, Bool.and_false]; rfl

theorem x_emit {a : Addr} {cenv : Env} {Q : Unit → Shared → Prop} (h : wpAny (model prog w) A (eval elt cenv) (AppAt c a (fun _ s' => Q () s')) E s) : wpAny (model prog w) A (emitOf elt (.ref a) cenv) Q E s := by
  refine wpAny_bind (wpAny_mono h (fun v s₁ h₁ => ?_) fun _ _ x => x)
  obtain ⟨Z, σ, r, l, m, W₁, hp, hv, hz, q⟩ := h₁
  have W' := W₁.pick hp
  obtain ⟨o, ho, vs, n, e, hr⟩ := W'.head
  subst e
  have hlen := hr.length
  refine wpAny_bind (wpAny_list_append_plain (items := vs.toArray) ⟨n, ho⟩ (fun h' hl hs => wpAny_pure ?_) (by rw [List.size_toArray, sizeLine_eq]; omega))
  obtain ⟨n', hn'⟩ := hl
  rw [List.push_toArray] at hn'
  exact q _ (W'.set (fun b o hb e => (hs.2 b hb).trans e) hn' ⟨_, n', rfl, hr.snoc hv⟩)

theorem cAt {it : Value} {fl : List (Str × Addr)} {cn cv gl₂ : List Str} {inner : Value → Env → Sem Unit} {R : Value → Addr → Result → Shared → Prop} {xs : List MV} (h : ItAt prog w c Z σ xs (fun _ _ _ => True) it s)
    (k : ∀ C a, AllC (fun cl τ => ∀ cenv, EnvOk cenv C cv cl gl₂ → CellsOwn cenv cn → ∃ (σ' : Nat → Sg) (l : Nat → List MV), σ' 0 = τ ∧ l 0 = [] ∧
      CTurn prog w c A cenv target ifs (inner (.ref a) cenv) C a cv (cv.map fun _ => none) Z xs l σ' ∧
      ∀ Z' s', Z.le Z' → W c Z' s' ((C, .ns cv (cv.map fun _ => none)) :: (a, .list (l xs.length)) :: σ' xs.length) → R (.ref a) C (.ok .next) s') cn fl.reverse σ) :
    CompAt prog w c A target ifs inner fl cn cv gl₂ R it s := ⟨Z, σ, xs, h, k⟩

/-- the loop of a further clause -/
def InAt (prog : Program) (w : World) (c : Cx) (A : Around) (cenv : Env) (target : Expr) (ifs : List Expr) (inner : Sem Unit) (a : Addr) (Q : Unit → Shared → Prop) (it : Value) (s : Shared) : Prop :=
  ∃ Z xs C cv lv l σ', ItAt prog w c Z ((C, .ns cv lv) :: (a, .list (l 0)) :: σ' 0) xs (fun _ _ _ => True) it s ∧ CTurn prog w c A cenv target ifs inner C a cv lv Z xs l σ' ∧
    ∀ Z' s', Z.le Z' → W c Z' s' ((C, .ns cv lv) :: (a, .list (l xs.length)) :: σ' xs.length) → Q () s'
theorem x_inner {gens : List Comprehension} {d : Nat} {a : Addr} {cenv : Env} {inner : Sem Unit} {Q : Unit → Shared → Prop} (hA : A.handled = none) (hg : gens[d]? = some ⟨target, iter, ifs, 0⟩)
    (heq : ∀ it, compTurn (.ListComp elt gens scope pos) d it (.ref a) cenv = (standAt iter.pos >>= fun _ => pyNext it >>= fun r => match r with
      | none => pure (.done .next)
      | some v => letOwnedTupleGo target it v >>= fun _ => assign target cenv v >>= fun _ => testsOf ifs cenv >>= fun ok => (if ok = true then inner >>= fun _ => again (.compLoop (.ListComp elt gens scope pos) d it (.ref a) cenv) else again (.compLoop (.ListComp elt gens scope pos) d it (.ref a) cenv))))
    (h : wpAny (model prog w) A (eval iter cenv) (fun xv s₁ => wpAny (model prog w) A (pyIter xv) (InAt prog w c A cenv target ifs inner a Q) F0 s₁) F0 s)
    (hs : ∀ x, foldedSetIterable iter cenv x = pure x := by intro _; rfl) (ht : ∀ it v, letOwnedTupleGo target it v = pure () := by intro _ _; rfl) :
    wpAny (model prog w) A (innerOf (.ListComp elt gens scope pos) d (.ref a) cenv iter) Q F0 s := by
  unfold innerOf
  refine wpAny_bind (wpAny_mono h (fun xv s₁ h₁ => wpAny_bind (wpAny_standAt ?_)) fun _ _ x => x)
  rw [hs xv]
  refine wpAny_bind (wpAny_pure (wpAny_bind (wpAny_holding (wpAny_mono h₁ (fun it s₂ h₂ => ?_) fun _ _ x => x))))
  obtain ⟨Z, xs, C, cv, lv, l, σ', ⟨I, p, rfl, It, W₀, _⟩, turn, done⟩ := h₂
  have loop : ∀ s₄, W c Z s₄ ((I, .obj (p 0)) :: (C, .ns cv lv) :: (a, .list (l 0)) :: σ' 0) → codeAny (model prog w) A (.compLoop (.ListComp elt gens scope pos) d (.ref I) (.ref a) cenv) (fun r s' => match r with | .ok _ => Q () s' | .error _ => False) s₄ := fun s₄ W₄ =>
    comp_loop hA (heq _) (ht _) It W₄ turn fun Z' s' hz W' => done Z' s' hz W'
  refine wpAny_bind ?_
  unfold runOwn
  refine wpAny_onRaise (wpAny_run (codeAny_mono (comp_start hg (loop _ W₀) (It.self Z _ _ A 0 _ _ W₀ (loop _ W₀))) fun r s' hr => ?_))
  cases r with
  | ok f => exact wpAny_pure hr
  | error e => exact hr.elim
end
end Mine
-- F13
namespace Mine
open PySem PySem.Spec PySem.Calls PyProof.Rows PySem.W

section
variable {prog : Program} {w : World} {c : Cx} {Z : ZS} {s : Shared} {σ r : Sg} {A : Around} {E : Value → Shared → Prop} {Q : Value → Shared → Prop} {env : Env} {pos : Pos} {L : Addr} {vars : List Str} {cl : List (Str × Addr)} {gl : List Str}
  {a b : Addr} {l l' : List MV} {m m' : MV} {v : Value} {x y : Int} {t u : Tok}

theorem e_callT {f : Str} {np : Pos} {e : Expr} {rest : List Expr} {T : String} (W : W c Z s σ) (ev : EnvOk env L vars cl gl) (hx : f ∈ gl) (h : nsIn c.K mainGlobals f = some none) (hb : bootBuiltins f = some (.type T))
    (q : wpAny (model prog w) A (spliced (backTo pos (starEach (e :: rest) env))) (fun vs s₁ => wpAny (model prog w) A (call (.type T) vs) Q E s₁) E s)
    (he : starEach (e :: rest) env = (false, eval e env) :: starEach rest env := by rfl) (hplain : (backTo pos (starEach rest env)).any (·.1) = false := by rfl)
    (hn : f ≠ ("__name__" : Str) := by decide) (hd : (f == ("__debug__" : Str)) = false := by decide) :
    wpAny (model prog w) A (eval (.Call (.Name f np) (e :: rest) [] pos) env) Q E s := by
  refine wpAny_Call_NameR (e_blt W ev hx h hb ?_ hn hd)
  rw [he] at q ⊢
  exact PySem.callWith_type (by show (false || (backTo pos (starEach rest env)).any (·.1)) = false; rw [hplain]; rfl) (Calls.evalArgs_plain q)
theorem e_callB2 {f : Str} {np : Pos} {e : Expr} {rest : List Expr} {id : String} (W : W c Z s σ) (ev : EnvOk env L vars cl gl) (hx : f ∈ gl) (h : nsIn c.K mainGlobals f = some none) (hb : bootBuiltins f = some (.builtin id))
    (q : wpAny (model prog w) A (spliced (backTo pos (starEach (e :: rest) env))) (fun vs s₁ => wpAny (model prog w) A (call (.builtin id) vs) Q E s₁) E s)
    (he : starEach (e :: rest) env = (false, eval e env) :: starEach rest env := by rfl) (hplain : (backTo pos (starEach rest env)).any (·.1) = false := by rfl)
    (hn : f ≠ ("__name__" : Str) := by decide) (hd : (f == ("__debug__" : Str)) = false := by decide) :
    wpAny (model prog w) A (eval (.Call (.Name f np) (e :: rest) [] pos) env) Q E s := by
  refine wpAny_Call_NameR (e_blt W ev hx h hb ?_ hn hd)
  rw [he] at q ⊢
  exact callWith_builtin (by show (false || (backTo pos (starEach rest env)).any (·.1)) = false; rw [hplain]; rfl) (Calls.evalArgs_plain q)

theorem r_range1 (W : W c Z s σ) (q : ∀ s' a, Mine.W c Z s' ((a, .obj (rangeObj 0 x)) :: σ) → Q (.ref a) s') : wpAny (model prog w) A (call (.type "range") [.int x t]) Q E s := by
  refine call_range_1 ?_
  exact q _ _ (W.add (fresh_none _) (fun _ _ e => Heap.get?_push_of_some _ e) (Heap.get?_push_size _ rfl) ⟨_, _, _, rfl⟩)
theorem r_range2 (W : W c Z s σ) (q : ∀ s' a, Mine.W c Z s' ((a, .obj (rangeObj x y)) :: σ) → Q (.ref a) s') : wpAny (model prog w) A (call (.type "range") [.int x t, .int y u]) Q E s := by
  refine call_range_2 ?_
  exact q _ _ (W.add (fresh_none _) (fun _ _ e => Heap.get?_push_of_some _ e) (Heap.get?_push_size _ rfl) ⟨_, _, _, rfl⟩)

theorem VRs.reps {vs : List Value} (h : VRs Z l vs) : ∀ n : Nat, VRs Z (List.replicate n l).flatten (List.replicate n vs).flatten
  | 0 => .nil
  | n + 1 => by rw [List.replicate_succ, List.replicate_succ, List.flatten_cons, List.flatten_cons]; exact h.append (VRs.reps h n)

theorem o_addl (W : W c Z s σ) (h1 : LAtZ Z s a l) (h2 : LAtZ Z s b l') (hz : l.length + l'.length < 2 ^ 20) (q : ∀ s' d, Mine.W c Z s' ((d, .list (l ++ l')) :: σ) → Q (.ref d) s') :
    wpAny (model prog w) A (binaryOp .Add (.ref a) (.ref b)) Q E s := by
  obtain ⟨vs, hl, hr⟩ := h1
  obtain ⟨ws, hb, hr'⟩ := h2
  obtain ⟨⟨cls, dd, data, sl⟩, ho, hc, n, hd⟩ := id hl
  obtain ⟨⟨cls2, dd2, data2, sl2⟩, ho2, hc2, n2, hd2⟩ := id hb
  simp only at hc hd hc2 hd2
  subst hc hd hc2 hd2
  have e : vs.toArray ++ ws.toArray = (vs ++ ws).toArray := by simp
  have n1 := hr.length
  have n2' := hr'.length
  refine concat_meets ⟨_, ho, rfl⟩ ⟨_, ho2, rfl⟩ noFill_list_add seq_list_add PySem.F.slot_list_add PySem.F.entry_list_add (PySem.F.args_list_add_2 _ _) (list_addW a b vs.toArray ws.toArray n n2 dd dd2 sl sl2 (by rw [sizeLine_eq, List.size_toArray, List.size_toArray]; omega)) ⟨ho, ho2, ?_⟩
  rw [e]
  exact q _ _ (W.push rfl ⟨_, _, rfl, hr.append hr'⟩)

/-- [v] * n -/
theorem o_mul1 (W : W c Z s σ) (hp : Pick a (.list [m]) σ r) (hlo : -(2 ^ 63 : Int) ≤ x) (hhi : x < 2 ^ 20) (q : ∀ s' d, Mine.W c Z s' ((d, .list (List.replicate x.toNat m)) :: σ) → Q (.ref d) s') :
    wpAny (model prog w) A (binaryOp .Mult (.ref a) (.int x t)) Q E s := by
  have W' := W.pick hp
  obtain ⟨o, ho, vs, n, e, hr⟩ := W'.head
  subst e
  cases hr with | cons hv hn =>
  cases hn
  rename_i v
  refine wpAny_binaryOp_repeat_ref (T := "list") (U := "int") (by decide) ⟨_, ho, rfl⟩ (fun s' => typeIs_int s' x t) noFill_list_mul F.fills_int_mul F.slot_int_rmul repeat_list F.slot_int_index.lookup
    (call_meets F.slot_int_rmul (typeIs_int s x t) F.entry_int_rmul (F.args_int_rmul_2 _ _) (int___rmul___int_list x t a #[v] n)
      ⟨ho, rfl, ⟨_, ho, rfl⟩, call_meets F.slot_list_mul ⟨_, ho, rfl⟩ F.entry_list_mul (F.args_list_mul_2 _ _)
        (AutoListH.list___mul___list_int_3 a #[v] n x t (by simp [Builtin.List.listFitsIndex]; omega) (by have e1 : (#[v] : Array Value).size = 1 := rfl; rw [e1]; omega) (by simp [Builtin.List.listTooLong, sizeLine]; omega))
        ⟨ho, q _ _ (W.push rfl ⟨List.replicate x.toNat v, 0, ?_, ?_⟩)⟩⟩)
  · have e : ∀ (k : Nat) (acc : Array Value), List.foldl (fun x1 x2 => x1 ++ x2) acc (List.replicate k #[v]) = acc ++ (List.replicate k v).toArray := fun k => by
      induction k with
      | zero => intro acc; simp
      | succ k ih => intro acc; rw [List.replicate_succ, List.foldl_cons, ih, List.replicate_succ]; apply Array.ext'; simp
    show ({ cls := _, data := .seq (List.foldl _ _ (List.replicate (if (#[v] : Array Value).isEmpty = true then 0 else x.toNat) #[v])) } : Obj) = _
    rw [if_neg (by simp), e]
    simp
  · generalize x.toNat = k
    induction k with
    | zero => exact .nil
    | succ k ih => exact .cons hv ih

/-! slices -/
def slP (vl vu : Value) (o : Obj) : Prop := o = { cls := .type "slice", data := .fields #[vl, vu, .none] }
def SlTo (c : Cx) (Q : Value → Shared → Prop) (v : Value) (s : Shared) : Prop := ∃ Z σ, W c Z s σ ∧ ∀ s' sl, W c Z s' ((sl, .obj (slP .none v)) :: σ) → Q (.ref sl) s'
def SlFrom (c : Cx) (Q : Value → Shared → Prop) (v : Value) (s : Shared) : Prop := ∃ Z σ, W c Z s σ ∧ ∀ s' sl, W c Z s' ((sl, .obj (slP v .none)) :: σ) → Q (.ref sl) s'
theorem SlTo.mk (W : W c Z s σ) (q : ∀ s' sl, Mine.W c Z s' ((sl, .obj (slP .none v)) :: σ) → Q (.ref sl) s') : SlTo c Q v s := ⟨Z, σ, W, q⟩
theorem SlFrom.mk (W : W c Z s σ) (q : ∀ s' sl, Mine.W c Z s' ((sl, .obj (slP v .none)) :: σ) → Q (.ref sl) s') : SlFrom c Q v s := ⟨Z, σ, W, q⟩
theorem x_sliceTo {e : Expr} {p : Pos} (h : wpAny (model prog w) A (eval e env) (SlTo c Q) E s) : wpAny (model prog w) A (eval (.Slice none (some e) none p) env) Q E s := by
  refine wpAny_Slice (wpAny_pure (wpAny_mono h (fun u s₁ h₁ => wpAny_pure ?_) fun _ _ x => x))
  obtain ⟨Z, σ, W, q⟩ := h₁
  exact q _ _ (W.push rfl rfl)
theorem x_sliceFrom {e : Expr} {p : Pos} (h : wpAny (model prog w) A (eval e env) (SlFrom c Q) E s) : wpAny (model prog w) A (eval (.Slice (some e) none none p) env) Q E s := by
  refine wpAny_Slice (wpAny_mono h (fun u s₁ h₁ => wpAny_pure (wpAny_pure ?_)) fun _ _ x => x)
  obtain ⟨Z, σ, W, q⟩ := h₁
  exact q _ _ (W.push rfl rfl)

theorem sl_any {sl : Addr} {value slice : Expr} {vl vu : Value} {lo hi : Option Int} (W : W c Z s σ) (h : LAtZ Z s a l) (hp : Pick sl (.obj (slP vl vu)) σ r) (pl : IsPart vl lo) (pu : IsPart vu hi) (hz : l.length < 2 ^ 20)
    (q : ∀ s' d, Mine.W c Z s' ((d, .list ((l.drop (lo.elim 0 (clipAt l.length))).take (hi.elim l.length (clipAt l.length) - lo.elim 0 (clipAt l.length)))) :: r) → Q (.ref d) s')
    (hs : subscripted slice false (.ref a) (.ref sl) = operate [.ref sl, .ref a] (getItem (.ref a) (.ref sl)) := by with_unfolding_all rfl) :
    wpAny (model prog w) A (subscriptTail value slice (.ref a) (.ref sl)) Q E s := by
  obtain ⟨vs, hl, hr⟩ := h
  have hlen := hr.length
  obtain ⟨o, ho, e⟩ := W.get hp
  subst e
  refine tail_any hl.typeIs PySem.F.slot_list_getitem.lookup (wpAny_getItem_list_slice hl ⟨_, ho, rfl, rfl⟩ pl pu .none (by simp) ?_ (by rw [List.size_toArray, sizeLine_eq]; omega)) hs
  refine q _ _ ((W.pick hp).drop.push rfl ⟨_, 0, ?_, (hr.drop _).take _⟩)
  rw [slicePick_plain, List.size_toArray, hlen]
theorem sl_to {sl : Addr} {value slice : Expr} {i : Int} (W : W c Z s σ) (h : LAtZ Z s a l) (hp : Pick sl (.obj (slP .none (.int i t))) σ r) (h0 : 0 ≤ i) (hz : l.length < 2 ^ 20) (q : ∀ s' d, Mine.W c Z s' ((d, .list (l.take i.toNat)) :: r) → Q (.ref d) s')
    (hs : subscripted slice false (.ref a) (.ref sl) = operate [.ref sl, .ref a] (getItem (.ref a) (.ref sl)) := by with_unfolding_all rfl) :
    wpAny (model prog w) A (subscriptTail value slice (.ref a) (.ref sl)) Q E s := by
  refine sl_any W h hp .none (.int _ _) hz (fun s' d W' => q s' d ?_) hs
  have e : ((l.drop ((none : Option Int).elim 0 (clipAt l.length))).take ((some i).elim l.length (clipAt l.length) - (none : Option Int).elim 0 (clipAt l.length))) = l.take i.toNat := by
    obtain ⟨n, rfl⟩ := Int.eq_ofNat_of_zero_le h0
    simp only [Option.elim, List.drop_zero, Nat.sub_zero, clipAt_nat, Int.toNat_natCast]
    rcases Nat.le_total n l.length with hn | hn
    · rw [Nat.min_eq_left hn]
    · rw [Nat.min_eq_right hn, List.take_of_length_le (Nat.le_refl _), List.take_of_length_le hn]
  rwa [e] at W'
theorem sl_from {sl : Addr} {value slice : Expr} {i : Int} (W : W c Z s σ) (h : LAtZ Z s a l) (hp : Pick sl (.obj (slP (.int i t) .none)) σ r) (h0 : 0 ≤ i) (hz : l.length < 2 ^ 20) (q : ∀ s' d, Mine.W c Z s' ((d, .list (l.drop i.toNat)) :: r) → Q (.ref d) s')
    (hs : subscripted slice false (.ref a) (.ref sl) = operate [.ref sl, .ref a] (getItem (.ref a) (.ref sl)) := by with_unfolding_all rfl) :
    wpAny (model prog w) A (subscriptTail value slice (.ref a) (.ref sl)) Q E s := by
  refine sl_any W h hp (.int _ _) .none hz (fun s' d W' => q s' d ?_) hs
  have e : ((l.drop ((some i).elim 0 (clipAt l.length))).take ((none : Option Int).elim l.length (clipAt l.length) - (some i).elim 0 (clipAt l.length))) = l.drop i.toNat := by
    obtain ⟨n, rfl⟩ := Int.eq_ofNat_of_zero_le h0
    simp only [Option.elim, clipAt_nat, Int.toNat_natCast]
    rcases Nat.le_total n l.length with hn | hn
    · rw [Nat.min_eq_left hn, List.take_of_length_le (by rw [List.length_drop]; exact Nat.le_refl _)]
    · rw [Nat.min_eq_right hn, List.drop_of_length_le (Nat.le_refl _), List.drop_of_length_le hn]; simp
  rwa [e] at W'
/-- xs[:-1] -/
theorem sl_init {sl : Addr} {value slice : Expr} (W : W c Z s σ) (h : LAtZ Z s a l) (hp : Pick sl (.obj (slP .none (.int (-1) t))) σ r) (hz : l.length < 2 ^ 20) (q : ∀ s' d, Mine.W c Z s' ((d, .list l.dropLast) :: r) → Q (.ref d) s')
    (hs : subscripted slice false (.ref a) (.ref sl) = operate [.ref sl, .ref a] (getItem (.ref a) (.ref sl)) := by with_unfolding_all rfl) :
    wpAny (model prog w) A (subscriptTail value slice (.ref a) (.ref sl)) Q E s := by
  refine sl_any W h hp .none (.int _ _) hz (fun s' d W' => q s' d ?_) hs
  have e : ((l.drop ((none : Option Int).elim 0 (clipAt l.length))).take ((some (-1)).elim l.length (clipAt l.length) - (none : Option Int).elim 0 (clipAt l.length))) = l.dropLast := by
    simp only [Option.elim, List.drop_zero, Nat.sub_zero]
    rw [List.dropLast_eq_take]
    congr 1
    unfold clipAt
    split <;> omega
  rwa [e] at W'
end
end Mine
-- F14
namespace Mine
open PySem PySem.Spec PySem.Calls PyProof.Rows PySem.W

section
variable {prog : Program} {w : World} {c : Cx} {Z : ZS} {s : Shared} {σ r : Sg} {A : Around} {E : Value → Shared → Prop} {Q : Value → Shared → Prop} {env : Env} {pos : Pos} {L : Addr} {vars : List Str} {cl : List (Str × Addr)} {gl : List Str}
  {a b : Addr} {l l' : List MV} {m m' m₁ m₂ : MV} {v : Value} {x y : Int} {t u : Tok}

theorem extBut_keep {s : Shared} {h' : Heap} (h : Heap.ExtBut s.heap.objs.size s.heap h') : ∀ b o, s.heap.get? b = some o → h'.get? b = some o := fun b o e => h b o (Nat.ne_of_lt (Heap.lt_size e)) e

theorem u_tup {e₁ e₂ : Expr} {k : Nat} {Q : Unit → Shared → Prop} (hA : A.handled = none) (W : W c Z s σ) (hv : VR Z (.tup [m₁, m₂]) (.ref a))
    (q : ∀ s' v₁ v₂, Mine.W c Z s' σ → VR Z m₁ v₁ → VR Z m₂ v₂ → wpAny (model prog w) A (assign e₁ env v₁) (fun _ s₁ => wpAny (model prog w) A (assign e₂ env v₂) Q E s₁) E s')
    (he : assignEach [e₁, e₂] env = [(false, assign e₁ env), (false, assign e₂ env)] := by rfl) :
    wpAny (model prog w) A (assign (.Tuple [e₁, e₂] k pos) env (.ref a)) Q E s := by
  obtain ⟨vs, hl, hr⟩ := W.tat hv
  cases hr with | cons h1 hr =>
  cases hr with | cons h2 hr =>
  cases hr
  refine wpAny_assign_Tuple hA hl (by rw [he]; rfl) (by rw [he]; rfl) fun h' hx => ?_
  rw [he]
  exact wpAny_bind (wpAny_holding (wpAny_mono (q _ _ _ (W.keep (extBut_keep hx)) h1 h2) (fun _ s₁ h₁ => wpAny_bind (wpAny_holding (wpAny_mono h₁ (fun _ _ x => wpAny_pure x) fun _ _ x => x))) fun _ _ x => x))

/-- a for with a pair as its target, over a frozen list of tuples -/
def ForAtT (prog : Program) (w : World) (c : Cx) (A : Around) (env : Env) (target : Expr) (body : List Stmt) (Q : Flow → Shared → Prop) (it : Value) (s : Shared) : Prop :=
  ∃ Z σ xs J a I, it = .ref I ∧ VR Z (.lst xs) (.ref a) ∧ (∀ m ∈ xs, ∃ l, m = .tup l) ∧ W c Z s ((I, .obj (liP a 0)) :: σ) ∧ J 0 Z σ ∧ Turn prog w c A env target body Q Z xs J ∧ ∀ Z' σ' s', Z.le Z' → J xs.length Z' σ' → W c Z' s' σ' → Q .next s'

theorem x_forT {elts : List Expr} {k : Nat} {tp : Pos} {iter : Expr} {body : List Stmt} {Q : Flow → Shared → Prop} (hA : A.handled = none) (h : wpAny (model prog w) A (eval iter env) (fun xv s₁ => wpAny (model prog w) A (pyIter xv) (ForAtT prog w c A env (.Tuple elts k tp) body Q) E s₁) E s)
    (hs : ∀ x, foldedSetIterable iter env x = pure x := by intro _; rfl) :
    wpAny (model prog w) A (exec (.For (.Tuple elts k tp) iter body [] pos) env) Q E s := by
  refine wpAny_For (wpAny_mono h (fun xv s₁ h₁ => wpAny_mono h₁ (fun it s₂ h₂ => ?_) fun _ _ x => x) fun _ _ x => x) hs
  obtain ⟨Z, σ, xs, J, a, I, rfl, hl, ht, W₀, j0, turn, done⟩ := h₂
  have It := iter_list (prog := prog) (w := w) (c := c) (I := I) hl
  refine codeAny_forLoop_any (I := fun n s => ∃ i Z' σ', n = xs.length - i ∧ i ≤ xs.length ∧ Z.le Z' ∧ J i Z' σ' ∧ W c Z' s ((I, .obj (liP a i)) :: σ')) ?_ xs.length ⟨0, Z, σ, rfl, Nat.zero_le _, .refl _, j0, W₀⟩
  rintro n s₃ ⟨i, Z', σ', rfl, hi, hz, hJ, W₁⟩
  by_cases hlt : i < xs.length
  · refine It.next Z' σ' s₃ A i xs[i] _ _ hz hA W₁ (List.getElem?_eq_getElem hlt) fun s₄ v W₂ hv => ?_
    obtain ⟨l, hl⟩ := ht xs[i] (List.getElem_mem hlt)
    have hv' := hv
    rw [hl] at hv'
    obtain ⟨ta, o, vs, n, e, _⟩ := hv'.tup_inv
    subst e
    refine wpAny_letOwnedTupleGo_listiter (liP.isIter W₂) ?_
    refine wpAny_mono (turn i xs[i] Z' σ' s₄ _ I (liP a (i + 1)) (List.getElem?_eq_getElem hlt) hz hJ hv W₂) (fun _ s₅ h₅ => wpAny_mono h₅ (fun f s₆ h₆ => ?_) fun _ _ x => x.elim) fun _ _ x => x.elim
    cases f with
    | next => obtain ⟨Z'', σ'', hz', hJ', W₃⟩ := h₆; exact ⟨xs.length - (i + 1), by omega, i + 1, Z'', σ'', rfl, hlt, hz.trans hz', hJ', W₃⟩
    | cont => obtain ⟨Z'', σ'', hz', hJ', W₃⟩ := h₆; exact ⟨xs.length - (i + 1), by omega, i + 1, Z'', σ'', rfl, hlt, hz.trans hz', hJ', W₃⟩
    | brk => exact h₆
    | ret v => exact h₆
  · have e : i = xs.length := by omega
    subst e
    exact It.done Z' σ' s₃ A _ _ hz hA W₁ fun s₄ W₂ => wpAny_execs_nil (done Z' σ' s₄ hz hJ W₂)
theorem f_listT {target : Expr} {body : List Stmt} {xs : List MV} {Q : Flow → Shared → Prop} (W : W c Z s σ) (hv : VR Z (.lst xs) (.ref a)) (ht : ∀ m ∈ xs, ∃ l, m = .tup l) (J : Nat → ZS → Sg → Prop) (j0 : J 0 Z σ) (turn : Turn prog w c A env target body Q Z xs J) (done : ∀ Z' σ' s', Z.le Z' → J xs.length Z' σ' → Mine.W c Z' s' σ' → Q .next s') :
    wpAny (model prog w) A (pyIter (.ref a)) (ForAtT prog w c A env target body Q) E s := by
  obtain ⟨vs, hl, hr⟩ := W.latz hv
  have W' := W.push (mo := .obj (liP a 0)) (o := { cls := .type "list_iterator", data := .fields #[.ref a, .int 0 0] }) rfl ⟨rfl, rfl⟩
  exact wpAny_pyIter_list hl ⟨Z, σ, xs, J, a, _, rfl, hv, ht, W', j0, turn, done⟩

/-! equality -/
theorem eqv1 {v v' : Value} (h : VR Z (.int x) v) (h' : VR Z (.int y) v') : SeqAt.EqAt A s v v' (x == y) := by
  obtain ⟨t, rfl⟩ := h.int_inv
  obtain ⟨u, rfl⟩ := h'.int_inv
  exact MeetsSeq.EqGives.at (MeetsSeq.EqGives.int x y t u) A s
theorem all_range {n : Nat} {e : Nat → Bool} (h : ∀ j, j < n → e j = true) : (List.range n).all e = true := by
  rw [List.all_eq_true]; intro j hj; exact h j (List.mem_range.mp hj)
theorem eqv2 (hu : A.units < cLine) (W : W c Z s σ) {ns : List Int} {v v' : Value} (h : VR Z (.lst (ns.map .int)) v) (h' : VR Z (.lst (ns.map .int)) v') : SeqAt.EqAt A s v v' true := by
  obtain ⟨a, o, vs, n, e, _⟩ := h.lst_inv
  obtain ⟨b, o', vs', n', e', _⟩ := h'.lst_inv
  subst e e'
  by_cases hab : a = b
  · subst hab; exact SeqAt.EqAt.same _
  · obtain ⟨vs, hl, hr⟩ := W.latz h
    obtain ⟨ws, hl', hr'⟩ := W.latz h'
    have n1 := hr.length
    have n2 := hr'.length
    refine SeqAt.EqAt.of_refs hab ?_
    have := SeqAt.RcAt.lists (e := fun _ => true) hl hl' (by rw [List.size_toArray, List.size_toArray]; omega) hu fun j h1 h2 => ?_
    · rwa [all_range fun _ _ => rfl] at this
    · rw [List.size_toArray] at h1 h2
      have hj : j < ns.length := by rw [List.length_map] at n1; omega
      obtain ⟨v1, e1, r1⟩ := hr.get (i := j) (m := .int ns[j]) (by rw [List.getElem?_map, List.getElem?_eq_getElem hj]; rfl)
      obtain ⟨v2, e2, r2⟩ := hr'.get (i := j) (m := .int ns[j]) (by rw [List.getElem?_map, List.getElem?_eq_getElem hj]; rfl)
      rw [List.getElem?_eq_getElem h1] at e1
      rw [List.getElem?_eq_getElem h2] at e2
      have := eqv1 (A := A.in1) (s := s) r1 r2
      rw [beq_self_eq_true] at this
      rw [List.getElem_toArray, List.getElem_toArray, Option.some.inj e1, Option.some.inj e2]
      exact this
/-- the same lists of numbers, in a list -/
theorem c_eqR {rows : List (List Int)} (hu : A.units + 1 < cLine) (W : W c Z s σ) (h : LAtZ Z s a (rows.map fun r => .lst (r.map .int))) (h' : LAtZ Z s b (rows.map fun r => .lst (r.map .int))) (q : Q (.bool true) s) :
    wpAny (model prog w) A (compareOp .Eq (.ref a) (.ref b)) Q E s := by
  obtain ⟨vs, hl, hr⟩ := h
  obtain ⟨ws, hl', hr'⟩ := h'
  have n1 := hr.length
  have n2 := hr'.length
  refine SeqAt.eq_listAt (e := fun _ => true) hl hl' (by rw [List.size_toArray, List.size_toArray]; omega) (by omega) (fun j h1 h2 => ?_) (by rw [all_range fun _ _ => rfl]; exact q)
  rw [List.size_toArray] at h1 h2
  have hj : j < rows.length := by rw [List.length_map] at n1; omega
  obtain ⟨v1, e1, r1⟩ := hr.get (i := j) (m := .lst (rows[j].map .int)) (by rw [List.getElem?_map, List.getElem?_eq_getElem hj]; rfl)
  obtain ⟨v2, e2, r2⟩ := hr'.get (i := j) (m := .lst (rows[j].map .int)) (by rw [List.getElem?_map, List.getElem?_eq_getElem hj]; rfl)
  rw [List.getElem?_eq_getElem h1] at e1
  rw [List.getElem?_eq_getElem h2] at e2
  rw [List.getElem_toArray, List.getElem_toArray, Option.some.inj e1, Option.some.inj e2]
  exact eqv2 (by show A.units + 1 < cLine; exact hu) W r1 r2
theorem c_eq0 (hu : A.units < cLine) (h : LAtZ Z s a l) (h' : LAtZ Z s b []) (q : Q (.bool l.isEmpty) s) : wpAny (model prog w) A (compareOp .Eq (.ref a) (.ref b)) Q E s := by
  obtain ⟨vs, hl, hr⟩ := h
  obtain ⟨ws, hl', hr'⟩ := h'
  cases hr'
  cases hr with
  | nil => exact SeqAt.eq_listAt (e := fun _ => true) hl hl' rfl hu (fun j h1 _ => absurd h1 (by simp)) q
  | cons _ _ => exact SeqAt.eq_list_lengthsAt hl hl' (by simp) hu q
theorem c_ne0 (hu : A.units < cLine) (h : LAtZ Z s a l) (h' : LAtZ Z s b []) (q : Q (.bool (!l.isEmpty)) s) : wpAny (model prog w) A (compareOp .NotEq (.ref a) (.ref b)) Q E s := by
  obtain ⟨vs, hl, hr⟩ := h
  obtain ⟨ws, hl', hr'⟩ := h'
  cases hr'
  cases hr with
  | nil => exact SeqAt.RcNeAt.lists (e := fun _ => true) hl hl' rfl hu (fun j h1 _ => absurd h1 (by simp)) prog w E Q q
  | cons _ _ => exact SeqAt.RcNeAt.lists_lengths hl hl' (by simp) hu prog w E Q q

theorem o_max (hh : A.handled = none) (W : W c Z s σ) (q : ∀ s' t, Mine.W c Z s' σ → Q (.int (max x y) t) s') : wpAny (model prog w) A (call (.builtin "max") [.int x t, .int y u]) Q E s := by
  refine max_two_ints hh fun h' tk hk => ?_
  by_cases hc : y > x
  · rw [if_pos hc, show y = max x y by omega]; exact q _ _ (W.keep hk)
  · rw [if_neg hc, show x = max x y by omega]; exact q _ _ (W.keep hk)
theorem o_tuple (W : W c Z s σ) (h : LAtZ Z s a l) (hz : l.length < 2 ^ 20) (q : ∀ Z' s' b, Z.le Z' → Mine.W c Z' s' σ → VR Z' (.tup l) (.ref b) → Q (.ref b) s') : wpAny (model prog w) A (call (.type "tuple") [.ref a]) Q E s := by
  obtain ⟨vs, hl, hr⟩ := h
  have n1 := hr.length
  refine call_tuple_list hl (fun h' hk => ?_) (by rw [List.size_toArray, sizeLine_eq]; omega)
  have W' := W.keep (s' := { s with heap := h' }) hk
  exact q _ _ _ (Z.le_put _ _) (W'.zpush rfl) (.tup (vs := vs) (Z.put_self _ _) rfl rfl (hr.mono (Z.le_put _ _)))
theorem VRs.ints : ∀ {ns : List Int} {vs : List Value}, VRs Z (ns.map .int) vs → IntsAre vs ns
  | [], _, h => by cases h; exact .nil
  | n :: ns, _, h => by
    cases h with | cons h1 h2 =>
    obtain ⟨t, rfl⟩ := h1.int_inv
    exact .cons n t (VRs.ints h2)
theorem count_isInt {k : Int} : ∀ {vs : List Value} {ns : List Int}, IntsAre vs ns → vs.countP (isInt k) = ns.count k
  | _, _, .nil => rfl
  | _, _, .cons n t h => by
    rw [List.countP_cons, List.count_cons, count_isInt h]
    rfl
/-- one of the list's own, or a frozen one -/
def OnF (c : Cx) (v : Value) (s : Shared) (k : Addr → Prop) : Prop := ∃ a Z l, v = .ref a ∧ LAt Z s a l ∧ k a
def CntAt (c : Cx) (a : Addr) (Q : Value → Shared → Prop) (v : Value) (s : Shared) : Prop := ∃ Z σ, ∃ ns : List Int, ∃ x t, W c Z s σ ∧ v = .int x t ∧ LAt Z s a (ns.map .int) ∧ ∀ s' t, W c Z s' σ → Q (.int (ns.count x : Nat) t) s'
theorem OnF.mk {k : Addr → Prop} (W : W c Z s σ) (hv : VR Z (.lst l) (.ref a)) (h : k a) : OnF c (.ref a) s k := ⟨a, Z, l, rfl, W.latf hv, h⟩
theorem CntAt.mk {ns : List Int} (W : W c Z s σ) (hv : VR Z (.lst (ns.map .int)) (.ref a)) (q : ∀ s' t, Mine.W c Z s' σ → Q (.int (ns.count x : Nat) t) s') : CntAt c a Q (.int x t) s := ⟨Z, σ, ns, x, t, W, rfl, W.latf hv, q⟩
theorem e_count {o e : Expr} {apos : Pos} (hbase : attributeBase o "count" env (eval o env) = eval o env) (hs : starEach [e] env = [(false, eval e env)]) (hline : (apos.endLine == pos.line) = true)
    (h : wpAny (model prog w) A (eval o env) (fun ov s₁ => OnF c ov s₁ fun a => wpAny (model prog w) A (eval e env) (CntAt c a Q) E s₁) E s) :
    wpAny (model prog w) A (eval (.Call (.Attribute o "count" apos) [e] [] pos) env) Q E s := by
  refine m_list PySem.F.slot_list_count PySem.F.type_list_count hbase (by rw [hs]; rfl) hline (wpAny_mono h (fun ov s₁ h₁ => ?_) fun _ _ x => x)
  obtain ⟨a, Z, l, rfl, hl, h⟩ := h₁
  refine ⟨a, Z, l, rfl, hl, ?_⟩
  rw [hs]
  refine P.count_list (wpAny_mono h (fun v s₂ h₂ => ?_) fun _ _ x => x)
  obtain ⟨Z, σ, ns, x, t, W, rfl, ⟨vs, n, hl, hr⟩, q⟩ := h₂
  have hi := hr.ints
  refine ⟨vs.toArray, n, isInt x, hl, fun y hy => PyProof.Rows.eq_isInt x t hi y (by simpa using hy), ?_⟩
  rw [show vs.toArray.toList = vs from rfl, count_isInt hi]
  exact q _ _ (W.tok _)
end
end Mine
-- F15
namespace Mine
open PySem PySem.Spec PySem.Calls PyProof.Rows PySem.W

section
variable {prog : Program} {w : World} {c : Cx} {Z : ZS} {s : Shared} {σ r : Sg} {A : Around} {E : Value → Shared → Prop} {env : Env} {target : Expr} {ifs : List Expr} {a b C : Addr} {xs : List MV}
  {fl : List (Str × Addr)} {cn cv gl : List Str} {inner : Value → Env → Sem Unit} {R : Value → Addr → Result → Shared → Prop}

abbrev CompK (prog : Program) (w : World) (c : Cx) (A : Around) (target : Expr) (ifs : List Expr) (inner : Value → Env → Sem Unit) (fl : List (Str × Addr)) (cn cv gl : List Str) (R : Value → Addr → Result → Shared → Prop) (Z : ZS) (σ : Sg) (xs : List MV) : Prop :=
  ∀ C a, AllC (fun cl τ => ∀ cenv, EnvOk cenv C cv cl gl → CellsOwn cenv cn → ∃ (σ' : Nat → Sg) (l : Nat → List MV), σ' 0 = τ ∧ l 0 = [] ∧
      CTurn prog w c A cenv target ifs (inner (.ref a) cenv) C a cv (cv.map fun _ => none) Z xs l σ' ∧
      ∀ Z' s', Z.le Z' → W c Z' s' ((C, .ns cv (cv.map fun _ => none)) :: (a, .list (l xs.length)) :: σ' xs.length) → R (.ref a) C (.ok .next) s') cn fl.reverse σ

theorem c_list (W : W c Z s σ) (hv : VR Z (.lst xs) (.ref b)) (k : CompK prog w c A target ifs inner fl cn cv gl R Z σ xs) : wpAny (model prog w) A (pyIter (.ref b)) (CompAt prog w c A target ifs inner fl cn cv gl R) E s :=
  wpAny_mono (i_list (k := fun _ _ _ => True) W hv fun _ _ _ _ _ => trivial) (fun _ _ h => cAt h k) fun _ _ x => x
theorem c_tup (W : W c Z s σ) (hv : VR Z (.tup xs) (.ref b)) (k : CompK prog w c A target ifs inner fl cn cv gl R Z σ xs) : wpAny (model prog w) A (pyIter (.ref b)) (CompAt prog w c A target ifs inner fl cn cv gl R) E s :=
  wpAny_mono (i_tup (k := fun _ _ _ => True) W hv fun _ _ _ _ _ => trivial) (fun _ _ h => cAt h k) fun _ _ x => x
theorem c_str {x : Str} {t : Tok} (W : W c Z s σ) (k : CompK prog w c A target ifs inner fl cn cv gl R Z σ (strL x)) : wpAny (model prog w) A (pyIter (.str x t)) (CompAt prog w c A target ifs inner fl cn cv gl R) E s :=
  wpAny_mono (i_str (k := fun _ _ _ => True) W fun _ _ _ _ _ => trivial) (fun _ _ h => cAt h k) fun _ _ x => x
theorem c_range {lo hi : Int} (W : W c Z s ((b, .obj (rangeObj lo hi)) :: σ)) (hlo : -(2 ^ 40) ≤ lo) (hhi : hi ≤ 2 ^ 40) (h1 : lo ≤ 2 ^ 40) (h2 : -(2 ^ 40) ≤ hi) (k : CompK prog w c A target ifs inner fl cn cv gl R Z σ (rangeL lo (hi - lo).toNat)) :
    wpAny (model prog w) A (pyIter (.ref b)) (CompAt prog w c A target ifs inner fl cn cv gl R) E s :=
  wpAny_mono (i_range' (k := fun _ _ _ => True) W hlo hhi h1 h2 fun _ _ _ _ _ => trivial) (fun _ _ h => cAt h k) fun _ _ x => x

variable {inn : Sem Unit} {Q : Unit → Shared → Prop} {lv : List (Option MV)} {l : Nat → List MV} {σ' : Nat → Sg}
theorem d_list (W : W c Z s ((C, .ns cv lv) :: (a, .list (l 0)) :: σ' 0)) (hv : VR Z (.lst xs) (.ref b)) (turn : CTurn prog w c A env target ifs inn C a cv lv Z xs l σ')
    (done : ∀ Z' s', Z.le Z' → Mine.W c Z' s' ((C, .ns cv lv) :: (a, .list (l xs.length)) :: σ' xs.length) → Q () s') : wpAny (model prog w) A (pyIter (.ref b)) (InAt prog w c A env target ifs inn a Q) E s :=
  wpAny_mono (i_list (k := fun _ _ _ => True) W hv fun _ _ _ _ _ => trivial) (fun _ _ h => ⟨Z, xs, C, cv, lv, l, σ', h, turn, done⟩) fun _ _ x => x
theorem d_range {lo hi : Int} (W : W c Z s ((b, .obj (rangeObj lo hi)) :: (C, .ns cv lv) :: (a, .list (l 0)) :: σ' 0)) (hlo : -(2 ^ 40) ≤ lo) (hhi : hi ≤ 2 ^ 40) (h1 : lo ≤ 2 ^ 40) (h2 : -(2 ^ 40) ≤ hi) (turn : CTurn prog w c A env target ifs inn C a cv lv Z (rangeL lo (hi - lo).toNat) l σ')
    (done : ∀ Z' s', Z.le Z' → Mine.W c Z' s' ((C, .ns cv lv) :: (a, .list (l (rangeL lo (hi - lo).toNat).length)) :: σ' (rangeL lo (hi - lo).toNat).length) → Q () s') : wpAny (model prog w) A (pyIter (.ref b)) (InAt prog w c A env target ifs inn a Q) E s :=
  wpAny_mono (i_range' (k := fun _ _ _ => True) W hlo hhi h1 h2 fun _ _ _ _ _ => trivial) (fun _ _ h => ⟨Z, _, C, cv, lv, l, σ', h, turn, done⟩) fun _ _ x => x

/-- the kept things of a list of xs, as far as i -/
def keepL {α : Type} (p : α → Bool) (f : α → MV) (xs : List α) (i : Nat) : List MV := ((xs.take i).filter p).map f
theorem keepL_T {α : Type} {p : α → Bool} {f : α → MV} {xs : List α} {i : Nat} {x : α} (h : xs[i]? = some x) (hp : p x = true) : keepL p f xs (i + 1) = keepL p f xs i ++ [f x] := by
  unfold keepL
  rw [take_succ_filter p xs i x h, hp, List.map_append]; rfl
theorem keepL_F {α : Type} {p : α → Bool} {f : α → MV} {xs : List α} {i : Nat} {x : α} (h : xs[i]? = some x) (hp : p x = false) : keepL p f xs (i + 1) = keepL p f xs i := by
  unfold keepL
  rw [take_succ_filter p xs i x h, hp]; simp
theorem keepL_all {α : Type} {p : α → Bool} {f : α → MV} {xs : List α} {n : Nat} (h : n = xs.length) : keepL p f xs n = (xs.filter p).map f := by
  subst h; unfold keepL; rw [List.take_length]
theorem keepL_le {α : Type} {p : α → Bool} {f : α → MV} {xs : List α} {i : Nat} : (keepL p f xs i).length ≤ xs.length := by
  unfold keepL
  rw [List.length_map]
  exact Nat.le_trans (List.length_filter_le _ _) (by rw [List.length_take]; exact Nat.min_le_right _ _)
theorem keepL_0 {α : Type} {p : α → Bool} {f : α → MV} {xs : List α} : keepL p f xs 0 = [] := rfl
theorem mapL_get {α : Type} {f : α → MV} {xs : List α} {i : Nat} {m : MV} (h : (xs.map f)[i]? = some m) : ∃ x, xs[i]? = some x ∧ m = f x := by
  rw [List.getElem?_map] at h
  cases e : xs[i]? with
  | none => rw [e] at h; cases h
  | some x => rw [e] at h; exact ⟨x, rfl, (Option.some.inj h).symm⟩
def nums (lo : Int) (n : Nat) : List Int := (List.range n).map fun (i : Nat) => lo + (i : Int)
theorem rangeL_nums {lo : Int} {n : Nat} : rangeL lo n = (nums lo n).map .int := by unfold rangeL nums; rw [List.map_map]; rfl
theorem e_neg {i : Int} {n : Nat} {p pos : Pos} {Q : Value → Shared → Prop} (W : W c Z s σ) (k : ∀ s' t, Mine.W c Z s' σ → Q (.int (-i) t) s') : wpAny (model prog w) A (eval (.UnaryOp .USub (.Constant (.int i) n p) pos) env) Q E s :=
  UnaryOp_ (e_int W fun s' t W' => PySem.P.neg_int (k _ _ (W'.tok _)))
theorem x_bindZ_cons {x : Str} {v : Value} {xs : List Str} {vs : List Value} {Q : Unit → Shared → Prop} (h : wpAny (model prog w) A (storeName env x v) (fun _ s' => wpAny (model prog w) A (bindAll env (xs.zip vs)) Q E s') E s) : wpAny (model prog w) A (bindAll env ((x :: xs).zip (v :: vs))) Q E s := wpAny_bind h
theorem x_bindZ_nil {Q : Unit → Shared → Prop} (h : Q () s) : wpAny (model prog w) A (bindAll env ([].zip [])) Q E s := wpAny_pure h

theorem W.fz {c : Cx} {Z : ZS} {s : Shared} {σ r : Sg} {a : Addr} {l : List MV} (w : W c Z s σ) (hp : Pick a (.list l) σ r) : ∃ Z', Z.le Z' ∧ W c Z' s r ∧ VR Z' (.lst l) (.ref a) := (w.pick hp).freezeList
theorem CompK.const {Z : ZS} {σ : Sg} {xs : List MV} (h : ∀ C a, AllC (fun cl τ => ∀ cenv, EnvOk cenv C cv cl gl → CellsOwn cenv cn → ∃ (l : Nat → List MV), l 0 = [] ∧
      CTurn prog w c A cenv target ifs (inner (.ref a) cenv) C a cv (cv.map fun _ => none) Z xs l (fun _ => τ) ∧
      ∀ Z' s', Z.le Z' → W c Z' s' ((C, .ns cv (cv.map fun _ => none)) :: (a, .list (l xs.length)) :: τ) → R (.ref a) C (.ok .next) s') cn fl.reverse σ) : CompK prog w c A target ifs inner fl cn cv gl R Z σ xs :=
  fun C a => (h C a).imp fun _ τ _ hk cenv ev own => let ⟨l, h0, h1, h2⟩ := hk cenv ev own; ⟨fun _ => τ, l, rfl, h0, h1, h2⟩
theorem VR.mono' {Z Z' : ZS} {m : MV} {v : Value} (x : VR Z m v) (h : Z.le Z') : VR Z' m v := x.mono h
theorem nums_get {lo : Int} {n i : Nat} (h : i < n) : (nums lo n)[i]? = some (lo + i) := by
  unfold nums; rw [List.getElem?_map, List.getElem?_range h]; rfl
theorem take_flat {α β : Type} {f : α → List β} {xs : List α} {i : Nat} {x : α} (h : xs[i]? = some x) : (xs.take (i + 1)).flatMap f = (xs.take i).flatMap f ++ f x := by
  rw [List.take_add_one, h, List.flatMap_append]; simp
theorem take_mapS {α β : Type} {f : α → β} {xs : List α} {i : Nat} {x : α} (h : xs[i]? = some x) : (xs.map f).take (i + 1) = (xs.map f).take i ++ [f x] := by
  rw [List.take_add_one, List.getElem?_map, h]; rfl

variable {elt iter iter₂ target₂ : Expr} {ifs₂ : List Expr} {rest : List Comprehension} {scope : Scope} {pos : Pos} {L : Addr} {vars : List Str} {cl : List (Str × Addr)} {gl₀ : List Str}

theorem x_comp1 {Q : Value → Shared → Prop} (fl : List (Str × Addr)) (fn cn cv gl : List Str) (hA : A.handled = none) (ev : EnvOk env L vars cl gl₀) (hok : compOk scope cv cn fn gl = true) (hfl : ∀ p ∈ fl, p ∈ cl)
    (h : wpAny (model prog w) A (eval iter env) (fun xv s₁ => wpAny (model prog w) A (pyIter xv) (CompAt prog w c A target ifs (fun acc env => emitOf elt acc env) fl cn cv gl (fun acc C => compPost (model prog w) A E none Q acc C)) E s₁) E s) (hfn : fl.map (·.1) = fn := by rfl)
    (hs : ∀ x, foldedSetIterable iter env x = pure x := by intro _; rfl) (ht : ∀ it v, letOwnedTupleGo target it v = pure () := by intro _ _; rfl) :
    wpAny (model prog w) A (eval (.ListComp elt (⟨target, iter, ifs, 0⟩ :: []) scope pos) env) Q E s :=
  x_comp (inner := (fun acc env => emitOf elt acc env)) fl cn cv gl hA ev (by rw [hfn]; exact hok) hfl (fun _ _ _ => rfl) h hs ht
theorem x_compA1 {y : Str} {py spos : Pos} {Q : Flow → Shared → Prop} (fl : List (Str × Addr)) (fn cn cv gl : List Str) (hA : A.handled = none) (ev : EnvOk env L vars cl gl₀)
    (hy : y ∈ vars) (hyn : (py.line == pos.line && !(scope.names.any fun (n, k) => n == y && (k == .local || k == .cell))) = true) (hok : compOk scope cv cn fn gl = true) (hfl : ∀ p ∈ fl, p ∈ cl)
    (h : wpAny (model prog w) A (eval iter env) (fun xv s₁ => wpAny (model prog w) A (pyIter xv) (CompAt prog w c A target ifs (fun acc env => emitOf elt acc env) fl cn cv gl (fun acc C => compPost (model prog w) A E (some (assign (.Name y py) env)) (fun _ s' => Q .next s') acc C)) E s₁) E s) (hfn : fl.map (·.1) = fn := by rfl)
    (hs : ∀ x, foldedSetIterable iter env x = pure x := by intro _; rfl) (ht : ∀ it v, letOwnedTupleGo target it v = pure () := by intro _ _; rfl) :
    wpAny (model prog w) A (exec (.Assign [.Name y py] (.ListComp elt (⟨target, iter, ifs, 0⟩ :: []) scope pos) spos) env) Q E s :=
  x_compA (inner := (fun acc env => emitOf elt acc env)) fl cn cv gl hA ev hy hyn (by rw [hfn]; exact hok) hfl (fun _ _ _ => rfl) h hs ht

theorem x_comp2 {Q : Value → Shared → Prop} (fl : List (Str × Addr)) (fn cn cv gl : List Str) (hA : A.handled = none) (ev : EnvOk env L vars cl gl₀) (hok : compOk scope cv cn fn gl = true) (hfl : ∀ p ∈ fl, p ∈ cl)
    (h : wpAny (model prog w) A (eval iter env) (fun xv s₁ => wpAny (model prog w) A (pyIter xv) (CompAt prog w c A target ifs (fun acc env => innerOf (.ListComp elt (⟨target, iter, ifs, 0⟩ :: ⟨target₂, iter₂, ifs₂, 0⟩ :: rest) scope pos) 1 acc env iter₂) fl cn cv gl (fun acc C => compPost (model prog w) A E none Q acc C)) E s₁) E s) (hfn : fl.map (·.1) = fn := by rfl)
    (hs : ∀ x, foldedSetIterable iter env x = pure x := by intro _; rfl) (ht : ∀ it v, letOwnedTupleGo target it v = pure () := by intro _ _; rfl) :
    wpAny (model prog w) A (eval (.ListComp elt (⟨target, iter, ifs, 0⟩ :: ⟨target₂, iter₂, ifs₂, 0⟩ :: rest) scope pos) env) Q E s :=
  x_comp (inner := (fun acc env => innerOf (.ListComp elt (⟨target, iter, ifs, 0⟩ :: ⟨target₂, iter₂, ifs₂, 0⟩ :: rest) scope pos) 1 acc env iter₂)) fl cn cv gl hA ev (by rw [hfn]; exact hok) hfl (by intro it acc env; simp only [innerOf, bind_assoc, pure_bind]; rfl) h hs ht
theorem x_compA2 {y : Str} {py spos : Pos} {Q : Flow → Shared → Prop} (fl : List (Str × Addr)) (fn cn cv gl : List Str) (hA : A.handled = none) (ev : EnvOk env L vars cl gl₀)
    (hy : y ∈ vars) (hyn : (py.line == pos.line && !(scope.names.any fun (n, k) => n == y && (k == .local || k == .cell))) = true) (hok : compOk scope cv cn fn gl = true) (hfl : ∀ p ∈ fl, p ∈ cl)
    (h : wpAny (model prog w) A (eval iter env) (fun xv s₁ => wpAny (model prog w) A (pyIter xv) (CompAt prog w c A target ifs (fun acc env => innerOf (.ListComp elt (⟨target, iter, ifs, 0⟩ :: ⟨target₂, iter₂, ifs₂, 0⟩ :: rest) scope pos) 1 acc env iter₂) fl cn cv gl (fun acc C => compPost (model prog w) A E (some (assign (.Name y py) env)) (fun _ s' => Q .next s') acc C)) E s₁) E s) (hfn : fl.map (·.1) = fn := by rfl)
    (hs : ∀ x, foldedSetIterable iter env x = pure x := by intro _; rfl) (ht : ∀ it v, letOwnedTupleGo target it v = pure () := by intro _ _; rfl) :
    wpAny (model prog w) A (exec (.Assign [.Name y py] (.ListComp elt (⟨target, iter, ifs, 0⟩ :: ⟨target₂, iter₂, ifs₂, 0⟩ :: rest) scope pos) spos) env) Q E s :=
  x_compA (inner := (fun acc env => innerOf (.ListComp elt (⟨target, iter, ifs, 0⟩ :: ⟨target₂, iter₂, ifs₂, 0⟩ :: rest) scope pos) 1 acc env iter₂)) fl cn cv gl hA ev hy hyn (by rw [hfn]; exact hok) hfl (by intro it acc env; simp only [innerOf, bind_assoc, pure_bind]; rfl) h hs ht

theorem x_inner1 {g₀ : Comprehension} {cenv : Env} {Q : Unit → Shared → Prop} (hA : A.handled = none)
    (h : wpAny (model prog w) A (eval iter cenv) (fun xv s₁ => wpAny (model prog w) A (pyIter xv) (InAt prog w c A cenv target ifs (emitOf elt (.ref a) cenv) a Q) F0 s₁) F0 s)
    (hs : ∀ x, foldedSetIterable iter cenv x = pure x := by intro _; rfl) (ht : ∀ it v, letOwnedTupleGo target it v = pure () := by intro _ _; rfl) :
    wpAny (model prog w) A (innerOf (.ListComp elt [g₀, ⟨target, iter, ifs, 0⟩] scope pos) 1 (.ref a) cenv iter) Q F0 s :=
  x_inner hA rfl (fun _ => rfl) h hs ht
theorem x_inner1of2 {g₀ : Comprehension} {cenv : Env} {Q : Unit → Shared → Prop} (hA : A.handled = none)
    (h : wpAny (model prog w) A (eval iter cenv) (fun xv s₁ => wpAny (model prog w) A (pyIter xv) (InAt prog w c A cenv target ifs (innerOf (.ListComp elt [g₀, ⟨target, iter, ifs, 0⟩, ⟨target₂, iter₂, ifs₂, 0⟩] scope pos) 2 (.ref a) cenv iter₂) a Q) F0 s₁) F0 s)
    (hs : ∀ x, foldedSetIterable iter cenv x = pure x := by intro _; rfl) (ht : ∀ it v, letOwnedTupleGo target it v = pure () := by intro _ _; rfl) :
    wpAny (model prog w) A (innerOf (.ListComp elt [g₀, ⟨target, iter, ifs, 0⟩, ⟨target₂, iter₂, ifs₂, 0⟩] scope pos) 1 (.ref a) cenv iter) Q F0 s :=
  x_inner hA rfl (by intro it; simp only [innerOf, bind_assoc, pure_bind]; rfl) h hs ht
theorem x_inner2 {g₀ g₁ : Comprehension} {cenv : Env} {Q : Unit → Shared → Prop} (hA : A.handled = none)
    (h : wpAny (model prog w) A (eval iter cenv) (fun xv s₁ => wpAny (model prog w) A (pyIter xv) (InAt prog w c A cenv target ifs (emitOf elt (.ref a) cenv) a Q) F0 s₁) F0 s)
    (hs : ∀ x, foldedSetIterable iter cenv x = pure x := by intro _; rfl) (ht : ∀ it v, letOwnedTupleGo target it v = pure () := by intro _ _; rfl) :
    wpAny (model prog w) A (innerOf (.ListComp elt [g₀, g₁, ⟨target, iter, ifs, 0⟩] scope pos) 2 (.ref a) cenv iter) Q F0 s :=
  x_inner hA rfl (fun _ => rfl) h hs ht

variable {l₀ l₁ l₂ : List MV} {σ₁ : Sg}
theorem d_listC (W : W c Z s σ) (hw : Weak ((C, .ns cv lv) :: (a, .list l₀) :: σ₁) σ) (h0 : l₀ = l 0) (hv : VR Z (.lst xs) (.ref b)) (turn : CTurn prog w c A env target ifs inn C a cv lv Z xs l (fun _ => σ₁))
    (done : ∀ Z' s', Z.le Z' → Mine.W c Z' s' ((C, .ns cv lv) :: (a, .list (l xs.length)) :: σ₁) → Q () s') : wpAny (model prog w) A (pyIter (.ref b)) (InAt prog w c A env target ifs inn a Q) F0 s := by
  subst h0; exact d_list (σ' := fun _ => σ₁) (W.weak hw) hv turn done
theorem d_rangeC {lo hi : Int} (W : W c Z s σ) (hw : Weak ((b, .obj (rangeObj lo hi)) :: (C, .ns cv lv) :: (a, .list l₀) :: σ₁) σ) (h0 : l₀ = l 0) (hlo : -(2 ^ 40) ≤ lo) (hhi : hi ≤ 2 ^ 40) (h1 : lo ≤ 2 ^ 40) (h2 : -(2 ^ 40) ≤ hi) (turn : CTurn prog w c A env target ifs inn C a cv lv Z (rangeL lo (hi - lo).toNat) l (fun _ => σ₁))
    (done : ∀ Z' s', Z.le Z' → Mine.W c Z' s' ((C, .ns cv lv) :: (a, .list (l (rangeL lo (hi - lo).toNat).length)) :: σ₁) → Q () s') : wpAny (model prog w) A (pyIter (.ref b)) (InAt prog w c A env target ifs inn a Q) F0 s := by
  subst h0; exact d_range (σ' := fun _ => σ₁) (W.weak hw) hlo hhi h1 h2 turn done
theorem CEnd.mk {I : Addr} {P : Obj → Prop} {Z₀ : ZS} (W : W c Z s σ) (hz : Z₀.le Z) (hw : Weak ((I, .obj P) :: (C, .ns cv lv) :: (a, .list l₁) :: σ₁) σ) (he : l₁ = l₂) : CEnd c I P C a cv lv Z₀ l₂ σ₁ s := by
  subst he; exact ⟨Z, hz, W.weak hw⟩
end
end Mine
-- F16
namespace Mine
open PySem PySem.Spec PySem.Calls PyProof.Rows PySem.W

def TEnd (c : Cx) (I : Addr) (P : Obj → Prop) (Z : ZS) (σ : Sg) (s : Shared) : Prop := ∃ Z', Z.le Z' ∧ W c Z' s ((I, .obj P) :: σ)
theorem TEnd.mk {c : Cx} {I : Addr} {P : Obj → Prop} {Z₀ Z : ZS} {σ σ₁ : Sg} {s : Shared} (W : W c Z s σ) (hz : Z₀.le Z) (hw : Weak ((I, .obj P) :: σ₁) σ) : TEnd c I P Z₀ σ₁ s := ⟨Z, hz, W.weak hw⟩
/-- the turn of a for: the cells before the turn i are σ₁ i -/
def TurnN (prog : Program) (w : World) (c : Cx) (A : Around) (env : Env) (target : Expr) (body : List Stmt) (Q : Flow → Shared → Prop) (Z : ZS) (xs : List MV) (σ₁ : Nat → Sg) : Prop :=
  ∀ (i : Nat) (m : MV) (Z' : ZS) (s' : Shared) (v : Value) (I : Addr) (P : Obj → Prop), xs[i]? = some m → Z.le Z' → VR Z' m v → W c Z' s' ((I, .obj P) :: σ₁ i) →
    wpAny (model prog w) A (assign target env v) (fun _ s₂ => wpAny (model prog w) A (execs body env) (fun f s₃ => match f with
      | .next | .cont => TEnd c I P Z' (σ₁ (i + 1)) s₃
      | .brk => Q .next s₃
      | .ret v => Q (.ret v) s₃) F0 s₂) F0 s'

section
variable {prog : Program} {w : World} {c : Cx} {Z : ZS} {s : Shared} {σ r : Sg} {A : Around} {E : Value → Shared → Prop} {a : Addr} {xs : List MV} {env : Env} {target iter : Expr} {body : List Stmt} {pos : Pos} {Q : Flow → Shared → Prop} {σ₁ : Nat → Sg}
theorem TurnN.turn (h : TurnN prog w c A env target body Q Z xs σ₁) : Turn prog w c A env target body Q Z xs (fun i _ σ' => σ' = σ₁ i) := by
  intro i m Z' σ' s' v I P hm hz hJ hv W
  subst hJ
  refine wpAny_mono (h i m Z' s' v I P hm hz hv W) (fun _ s₂ h₂ => wpAny_mono h₂ (fun f s₃ h₃ => ?_) fun _ _ x => x) fun _ _ x => x
  cases f with
  | next => obtain ⟨Z'', hz', W'⟩ := h₃; exact ⟨Z'', _, hz', rfl, W'⟩
  | cont => obtain ⟨Z'', hz', W'⟩ := h₃; exact ⟨Z'', _, hz', rfl, W'⟩
  | brk => exact h₃
  | ret v => exact h₃
theorem fn_list (W : W c Z s σ) (hv : VR Z (.lst xs) (.ref a)) (hw : Weak (σ₁ 0) σ) (turn : TurnN prog w c A env target body Q Z xs σ₁) (done : ∀ Z' s', Z.le Z' → Mine.W c Z' s' (σ₁ xs.length) → Q .next s') :
    wpAny (model prog w) A (pyIter (.ref a)) (ForAt prog w c A env target body Q) E s :=
  f_list (W.weak hw) hv _ rfl turn.turn fun Z' _ s' hz e W' => by subst e; exact done Z' s' hz W'
theorem fn_tup (W : W c Z s σ) (hv : VR Z (.tup xs) (.ref a)) (hw : Weak (σ₁ 0) σ) (turn : TurnN prog w c A env target body Q Z xs σ₁) (done : ∀ Z' s', Z.le Z' → Mine.W c Z' s' (σ₁ xs.length) → Q .next s') :
    wpAny (model prog w) A (pyIter (.ref a)) (ForAt prog w c A env target body Q) E s :=
  f_tup (W.weak hw) hv _ rfl turn.turn fun Z' _ s' hz e W' => by subst e; exact done Z' s' hz W'
theorem fn_str {x : Str} {t : Tok} (W : W c Z s σ) (hw : Weak (σ₁ 0) σ) (turn : TurnN prog w c A env target body Q Z (strL x) σ₁) (done : ∀ Z' s', Z.le Z' → Mine.W c Z' s' (σ₁ (strL x).length) → Q .next s') :
    wpAny (model prog w) A (pyIter (.str x t)) (ForAt prog w c A env target body Q) E s :=
  f_str (W.weak hw) _ rfl turn.turn fun Z' _ s' hz e W' => by subst e; exact done Z' s' hz W'
theorem fn_range {ra : Addr} {lo hi : Int} (W : W c Z s ((ra, .obj (rangeObj lo hi)) :: σ)) (hw : Weak (σ₁ 0) σ) (hlo : -(2 ^ 40) ≤ lo) (hhi : hi ≤ 2 ^ 40) (h1 : lo ≤ 2 ^ 40) (h2 : -(2 ^ 40) ≤ hi)
    (turn : TurnN prog w c A env target body Q Z (rangeL lo (hi - lo).toNat) σ₁) (done : ∀ Z' s', Z.le Z' → Mine.W c Z' s' (σ₁ (hi - lo).toNat) → Q .next s') :
    wpAny (model prog w) A (pyIter (.ref ra)) (ForAt prog w c A env target body Q) E s :=
  f_range (W.weak (.take (.head _) (.refl _) hw)) hlo hhi h1 h2 _ rfl turn.turn fun Z' _ s' hz e W' => by subst e; rw [rangeL_length] at W'; exact done Z' s' hz W'
theorem fn_listT (W : W c Z s σ) (hv : VR Z (.lst xs) (.ref a)) (ht : ∀ m ∈ xs, ∃ l, m = .tup l) (hw : Weak (σ₁ 0) σ) (turn : TurnN prog w c A env target body Q Z xs σ₁) (done : ∀ Z' s', Z.le Z' → Mine.W c Z' s' (σ₁ xs.length) → Q .next s') :
    wpAny (model prog w) A (pyIter (.ref a)) (ForAtT prog w c A env target body Q) E s :=
  f_listT (W.weak hw) hv ht _ rfl turn.turn fun Z' _ s' hz e W' => by subst e; exact done Z' s' hz W'
end
end Mine
-- F17
namespace Mine
open PySem PySem.Spec PySem.Calls PyProof.Rows PySem.W

def assoc : List Str → List MV → Str → Option MV
  | x :: xs, m :: ms, y => if (x == y) = true then some m else assoc xs ms y
  | _, _, _ => none
theorem Keyed.get {Z : ZS} {es : List DictEntry} {xs : List Str} {vs : List Value} {ms : List MV} {y : Str} {m : MV} (h : Keyed es xs vs) (hr : VRs Z ms vs) (ha : assoc xs ms y = some m) : ∃ v, getL y es = some (some v) ∧ VR Z m v := by
  induction h generalizing ms with
  | nil => cases hr; cases ha
  | @cons e es x t xs vs hk _ ih =>
    cases hr with | cons h1 h2 =>
    unfold assoc at ha
    have hs : e.key.isStr y = (x == y) := by rw [hk]; rfl
    by_cases hxy : (x == y) = true
    · rw [if_pos hxy] at ha
      cases ha
      refine ⟨_, ?_, h1⟩
      unfold getL
      rw [List.find?_cons, hs, hxy]
    · rw [if_neg hxy] at ha
      obtain ⟨v, hv, hm⟩ := ih h2 ha
      refine ⟨v, ?_, hm⟩
      unfold getL at hv ⊢
      have hf : (x == y) = false := by simpa using hxy
      have hrk : e.refKey = false := by simp [DictEntry.refKey, hk]
      rw [List.find?_cons, hs, hf, List.any_cons, hrk, Bool.false_or]
      exact hv
theorem Keyed.none {es : List DictEntry} {xs : List Str} {vs : List Value} {y : Str} (h : Keyed es xs vs) (hn : xs.any (· == y) = false) : getL y es = some .none ∧ es.any (·.key.isStr y) = false ∧ es.any (·.refKey) = false := by
  induction h with
  | nil => exact ⟨rfl, rfl, rfl⟩
  | @cons e es x t xs vs hk _ ih =>
    rw [List.any_cons, Bool.or_eq_false_iff] at hn
    obtain ⟨i1, i2, i3⟩ := ih hn.2
    have hs : e.key.isStr y = false := by rw [hk]; exact hn.1
    have hrk : e.refKey = false := by simp [DictEntry.refKey, hk]
    refine ⟨?_, by rw [List.any_cons, hs, i2]; rfl, by rw [List.any_cons, hrk, i3]; rfl⟩
    unfold getL at i1 ⊢
    rw [List.find?_cons, hs, List.any_cons, hrk, Bool.false_or]
    exact i1
theorem Keyed.length {es : List DictEntry} {xs : List Str} {vs : List Value} (h : Keyed es xs vs) : es.length = xs.length := by
  induction h with
  | nil => rfl
  | cons _ _ ih => simp [ih]
theorem Keyed.put {es : List DictEntry} {xs : List Str} {vs : List Value} {y : Str} {hsh : Int} {t : Tok} {v : Value} (h : Keyed es xs vs) (hn : xs.any (· == y) = false) : Keyed (putL y hsh (.str y t) v es) (xs ++ [y]) (vs ++ [v]) := by
  induction h with
  | nil => exact .cons (e := ⟨hsh, .str y t, v⟩) rfl .nil
  | @cons e es x t' xs vs hk _ ih =>
    rw [List.any_cons, Bool.or_eq_false_iff] at hn
    have hs : e.key.isStr y = false := by rw [hk]; exact hn.1
    unfold putL
    rw [hs]
    exact .cons hk (ih hn.2)

theorem tcw (C : Addr) (rest : List Value) (kw : List (Str × Value)) : (Code.builtin "type.__call__" ⟨.ref C :: rest, kw⟩).weight = 1 := by
  have h1 : (Code.builtin "type.__call__" ⟨.ref C :: rest, kw⟩).isGuard = false := by show guardIds.contains "type.__call__" = false; decide +kernel
  unfold Code.weight
  rw [h1]
  rfl
theorem Room.made {n : Nat} {A : Around} (r : Room (n + 1) A) (C : Addr) (rest : List Value) (kw : List (Str × Value)) : Room n (A.under (.builtin "type.__call__" ⟨.ref C :: rest, kw⟩)) :=
  ⟨r.h, by show A.depth + (Code.builtin "type.__call__" ⟨.ref C :: rest, kw⟩).weight + n < 900; rw [tcw]; have := r.d; omega, by show A.units + 1 + 8 * n < 9000; have := r.u; omega⟩

section
variable {prog : Program} {w : World} {c : Cx} {Z : ZS} {s : Shared} {σ r : Sg} {A : Around} {E : Value → Shared → Prop} {Q : Value → Shared → Prop} {env : Env} {pos : Pos} {x dx C : Addr} {names : List Str} {vals : List MV} {m : MV} {v : Value} {y : Str}

theorem W.inst {od : Obj} (w : W c Z s σ) (hx : Z x (instObj C dx)) (hd : s.heap.get? dx = some od) : InstAt s.heap x (instObj C dx) C (some od) := ⟨w.z _ _ hx, rfl, rfl, hd⟩
/-- reading an own attribute of an object in the making -/
theorem i_get (W : W c Z s σ) (hx : Z x (instObj C dx)) (hp : Pick dx (.flds names vals) σ r) (ha : assoc names vals y = some m)
    (k1 : findIn c.K (.ref C) "__getattribute__" = some (some (.builtin "object.__getattribute__"))) (k2 : hasDictIn c.K C = true) {attr : Option Value} (k3 : findIn c.K (.ref C) y = some attr) (k4 : noGet c.K attr = true)
    {ex : Bool} (hh : ∀ v, VR Z m v → handedIn v = true) (q : ∀ s' v, Mine.W c Z s' σ → VR Z m v → Q v s') : wpAny (model prog w) A (getAttr (.ref x) y ex) Q E s := by
  obtain ⟨o, ho, es, n, vs, e, hk, hr⟩ := W.get hp
  subst e
  obtain ⟨v, hv, hm⟩ := hk.get hr ha
  exact get_value W.kin (W.inst hx ho) k1 (findObj_own k2 k3 k4 (by rw [lookIn_dict]; exact hv)) (hh v hm) (q _ v (W.tok _) hm)
/-- reading an attribute of a finished object -/
theorem i_getZ (W : W c Z s σ) (hv : VR Z (.obj C names vals) (.ref x)) (ha : assoc names vals y = some m)
    (k1 : findIn c.K (.ref C) "__getattribute__" = some (some (.builtin "object.__getattribute__"))) (k2 : hasDictIn c.K C = true) {attr : Option Value} (k3 : findIn c.K (.ref C) y = some attr) (k4 : noGet c.K attr = true)
    {ex : Bool} (hh : ∀ v, VR Z m v → handedIn v = true) (q : ∀ s' v, Mine.W c Z s' σ → VR Z m v → Q v s') : wpAny (model prog w) A (getAttr (.ref x) y ex) Q E s := by
  obtain ⟨x', dx, es, n, vs, e, hx, hd, hk, hr⟩ := hv.obj_inv
  cases e
  obtain ⟨v, hv, hm⟩ := hk.get hr ha
  exact get_value W.kin (W.inst hx (W.z _ _ hd)) k1 (findObj_own k2 k3 k4 (by rw [lookIn_dict]; exact hv)) (hh v hm) (q _ v (W.tok _) hm)

/-- a new own attribute -/
theorem i_set {Q : Unit → Shared → Prop} (W : W c Z s σ) (hx : Z x (instObj C dx)) (hp : Pick dx (.flds names vals) σ r) (hv : VR Z m v) (hn : names.any (· == y) = false) (hz : names.length ≤ 900)
    (k1 : findIn c.K (.ref C) "__setattr__" = some (some (.builtin "object.__setattr__"))) (k2 : plainOver c.K C = true) (k3 : takerIn c.K C y = some none) (k4 : hasDictIn c.K C = true)
    (q : ∀ s', Mine.W c Z s' ((dx, .flds (names ++ [y]) (vals ++ [m])) :: r) → Q () s') : wpAny (model prog w) A (setAttr (.ref x) y v) Q E s := by
  have W' := W.pick hp
  obtain ⟨o, ho, es, n, vs, e, hk, hr⟩ := W'.head
  subst e
  obtain ⟨n1, n2, n3⟩ := hk.none hn
  have hlen := hk.length
  refine set_plain W.kin (W.inst hx ho) k1 ?_
  refine osa_open (s := { s with toks := s.toks + 1 }) W.kin (W.inst hx ho) k2 k3 fun b => ?_
  obtain ⟨cd, hc, hd'⟩ := any_some k4
  have hxx := W.z _ _ hx
  refine wpAny_bind (wpAny_pure (wpAny_bind (wpAny_bind (wpAny_loadPart hxx (wpAny_bind ((looks_clsIn (W.tok (s.toks + 1)).kin hc).here (s := { s with toks := s.toks + 1 }) ?_))))))
  rw [hd']
  refine wpAny_pure (a := some dx) (wpAny_bind (wpAny_pure (wpAny_bind ?_)))
  unfold nsSet
  refine wpAny_bind (wpAny_bind (wpAny_askSetting (wpAny_pure (wpAny_bind (wpAny_mkText (wpAny_bind (wpAny_loadPart ho ?_)))))))
  have hq : (dictOf es n).data = .dict es.toArray n := rfl
  rw [hq]
  dsimp only
  have hc' : (!es.toArray.any (·.key.isStr y) && es.toArray.any (·.refKey)) = false := by
    rw [← Array.any_toList, ← Array.any_toList]
    show (!es.any (·.key.isStr y) && es.any (·.refKey)) = false
    rw [n3, Bool.and_false]
  rw [aRefKeyMayBeTheName_at, hc']
  refine wpAny_updatePart ho ?_
  have hu := Heap.get?_update_self (Obj.putName y (PyData.keyHash w.params y) (.str y (s.toks + 1)) v) ho (by rw [putName_dict]; rfl)
  rw [putName_dict] at hu
  refine wpAny_bind (wpAny_lookBehind hu (pastItsLine_dict (by
    rw [List.size_toArray, (hk.put (y := y) (hsh := PyData.keyHash w.params y) (t := s.toks + 1) (v := v) hn).length, List.length_append, List.length_singleton, sizeLine_eq]; omega)) ?_)
  refine wpAny_pure (q _ ?_)
  exact W'.set (fun b o hb e => (Heap.get?_update_other _ _ (Ne.symm hb)).trans e) hu ⟨_, _, _, rfl, hk.put hn, hr.snoc hv⟩

/-- the entry into a function, with any end -/
theorem call_fnR {n : Nat} {fa : Addr} {oc : Value} {od : Option Addr} {osl : Array (Option Value)} {name qual : Str} {params : Arguments} {body : List Stmt} {scope : Scope} {dV kV doc pm cdv ct : Value} {an : Option Addr}
    {vs : List Value} {kw : List (Str × Value)} {R : Result → Shared → Prop} (bn : List Str) {bv : List Value} (vars gl : List Str) (l : List (Option MV))
    (W : W c Z s σ) (rm : Room (n + 1) A)
    (ho : c.K.lookup fa = some ⟨oc, od, .func (fnOf name qual params body scope dV kV doc pm an cdv ct), osl⟩)
    (hcd : codeIn c.K cdv qual = true)
    (hb : BindsTo s (fnOf name qual params body scope dV kV doc pm an cdv ct) ⟨vs, kw⟩ (bn.zip bv))
    (hsc : scopeOk scope bn vars gl = true)
    (hl : LocR Z (fun x => (bn.zip bv).reverse.lookup x) vars l)
    (q : ∀ s' L env A, Room n A → EnvOk env L vars [] gl → Mine.W c Z s' ((L, .ns vars l) :: σ) → wpAny (model prog w) A (execs body env) (fun f s'' => R (.ok (.ret (retOf f))) s'') (fun _ _ => False) s') :
    codeAny (model prog w) A (.call (.ref fa) ⟨vs, kw⟩) R s := by
  unfold scopeOk at hsc
  simp only [Bool.and_eq_true, Bool.not_eq_true', beq_iff_eq, List.all_eq_true, bne_iff_ne, ne_eq, decide_eq_true_eq] at hsc
  obtain ⟨⟨⟨⟨⟨⟨⟨h1, h2⟩, h3⟩, h4⟩, h5⟩, h6⟩, h7⟩, h8⟩ := hsc
  refine codeAny_call_def rm.lt (W.base _ _ (W.b.kin _ _ ho)) rfl (W.b.nolim.keeps W.base) (codeRec_of W.kin hcd) rfl hb h4 (fun x hx => h5 _ (List.of_mem_zip hx).1) (fun h₁ hns hk => ?_) h3 h2 h1
  have W' : Mine.W c Z { s with heap := h₁, toks := s.toks + (bn.zip bv).length } ((s.heap.objs.size, .ns vars l) :: σ) := by
    obtain ⟨o, es, ep, hoL, hd, hkk, hf⟩ := hns
    exact W.add (fresh_none _) hk hoL ⟨es, ep, hd, hkk, h8, hl.congr fun y _ => hf y⟩
  have ev : EnvOk (callEnv (fnOf name qual params body scope dV kV doc pm an cdv ct) s.heap.objs.size fa) s.heap.objs.size vars [] gl :=
    ⟨h1, rfl, rfl, rfl, h6, (fun _ h => nomatch h), h7⟩
  refine wpAny_mono (q _ _ _ _ (rm.deeper _) ev W') (fun f s' hq => ?_) fun _ _ x => x.elim
  cases f <;> exact hq

/-- a class called: a new object, its dict empty, then __init__ -/
theorem i_make {n : Nat} {f : Addr} {args : List Value} (W : W c Z s σ) (rm : Room (n + 1) A) (hm : makesIn c.K C = true) (hi : findIn c.K (.ref C) "__init__" = some (some (.ref f))) (hf : typeIn c.K (.ref f) = some (.type "function"))
    (h : ∀ x dx Z' s' A', Room n A' → Z.le Z' → Mine.W c Z' s' ((dx, .flds [] []) :: σ) → Z' x (instObj C dx) →
      codeAny (model prog w) A' (.call (.ref f) ⟨.ref x :: args, []⟩) (InitBack x fun r s'' => match r with | .ok (.ret v) => Q v s'' | .ok _ => False | .error _ => False) s') :
    wpAny (model prog w) A (call (.ref C) args []) Q E s := by
  refine wpAny_call ?_
  have W₀ := W
  obtain ⟨hh, g, d, t, os⟩ := s
  refine make_core (makes_of W.kin hm) (looks_findIn W.kin hi) (fun self => bind_fn W.kin self hf) (.inl rfl) ?_
  have W1 := W.push (mo := .flds [] []) (o := emptyDict) rfl ⟨[], 0, [], rfl, .nil, .nil⟩
  have W2 := W1.zpush (o := instObj C hh.objs.size) rfl
  have e : (hh.push emptyDict).objs.size = hh.objs.size + 1 := Heap.size_push ..
  dsimp only at W2
  rw [e] at W2
  refine codeAny_mono (h (hh.objs.size + 1) hh.objs.size _ _ _ (rm.made _ _ _) (Z.le_put _ _) W2 (Z.put_self _ _)) fun r s' hr => ?_
  cases r with
  | ok f => cases f with
    | ret v => exact hr
    | next => exact hr
    | brk => exact hr
    | cont => exact hr
  | error e => exact hr.elim

theorem W.inObj (w : W c Z s ((dx, .flds names vals) :: σ)) (hx : Z x (instObj C dx)) : ∃ Z', Z.le Z' ∧ W c Z' s σ ∧ VR Z' (.obj C names vals) (.ref x) := by
  obtain ⟨o, ho, es, n, vs, e, hk, hr⟩ := w.head
  subst e
  exact ⟨_, Z.le_put _ _, w.freeze ho, .obj (Z.le_put _ _ _ _ hx) (Z.put_self _ _) hk (hr.mono (Z.le_put _ _))⟩
/-- a method of a finished object -/
theorem i_method {f : Addr} {pl : Sem Bool} {Q : Value × List Value → Shared → Prop} (W : W c Z s σ) (hv : VR Z (.obj C names vals) (.ref x)) (hn : names.any (· == y) = false)
    (k1 : findIn c.K (.ref C) "__getattribute__" = some (some (.builtin "object.__getattribute__"))) (k2 : findIn c.K (.ref C) "__getattr__" = some none) (k3 : findIn c.K (.ref C) y = some (some (.ref f))) (k4 : typeIn c.K (.ref f) = some (.type "function"))
    (q : Q (.ref f, [.ref x]) s) : wpAny (model prog w) A (getMethod (.ref x) y pl) Q E s := by
  obtain ⟨x', dx, es, n, vs, e, hx, hd, hk, hr⟩ := hv.obj_inv
  cases e
  refine method_fn W.kin (W.inst hx (W.z _ _ hd)) k1 k2 k3 k4 ?_ q
  show (lookIn y (dictOf es n)).map (·.isSome) = some false
  rw [lookIn_dict, (hk.none hn).1]; rfl
/-- a method of an object whose dict is a cell -/
theorem i_methodC {f : Addr} {pl : Sem Bool} {Q : Value × List Value → Shared → Prop} (W : W c Z s σ) (hx : Z x (instObj C dx)) (hp : Pick dx (.flds names vals) σ r) (hn : names.any (· == y) = false)
    (k1 : findIn c.K (.ref C) "__getattribute__" = some (some (.builtin "object.__getattribute__"))) (k2 : findIn c.K (.ref C) "__getattr__" = some none) (k3 : findIn c.K (.ref C) y = some (some (.ref f))) (k4 : typeIn c.K (.ref f) = some (.type "function"))
    (q : Q (.ref f, [.ref x]) s) : wpAny (model prog w) A (getMethod (.ref x) y pl) Q E s := by
  obtain ⟨o, ho, es, n, vs, e, hk, hr⟩ := W.get hp
  subst e
  refine method_fn W.kin (W.inst hx ho) k1 k2 k3 k4 ?_ q
  show (lookIn y (dictOf es n)).map (·.isSome) = some false
  rw [lookIn_dict, (hk.none hn).1]; rfl
end
end Mine
-- F18
namespace Mine
open PySem PySem.Spec PySem.Calls PyProof.Rows PySem.W

section
variable {prog : Program} {w : World} {c : Cx} {Z : ZS} {s : Shared} {σ r : Sg} {A : Around} {E : Value → Shared → Prop} {env : Env} {pos : Pos} {L : Addr} {vars : List Str} {cl : List (Str × Addr)} {gl : List Str} {a : Addr} {m₁ m₂ : MV}
  {x y n₁ n₂ a₁ a₂ : Str} {p₁ p₂ p₃ p₄ p₅ p₆ tp vp : Pos} {k k₂ : Nat}

theorem zuse {Z Z' : ZS} {a : Addr} {o : Obj} (h : Z a o) (hz : Z.le Z') : Z' a o := hz a o h
def nm2 (a b : Option Str) : List Str := [a, b].filterMap id
theorem swap_form : swappedStores [.Tuple [.Name x p₁, .Name y p₂] k tp] (.Tuple [.Attribute (.Name n₁ p₃) a₁ p₄, .Attribute (.Name n₂ p₅) a₂ p₆] k₂ vp) env =
    (let l := nm2 (if env.kindOf x == some .local && p₁.line == p₁.line then some x else none) (if env.kindOf y == some .local && p₂.line == p₁.line then some y else none)
     if (env.blockKind != .function) = true then pure none else if (l.length != 2 || l.eraseDups.length != l.length) = true then pure none else pure (some l)) := rfl
theorem swap2 (ev : EnvOk env L vars cl gl) (hx : x ∈ vars) (hy : y ∈ vars) (hl : (p₂.line == p₁.line) = true) (hne : (y == x) = false) :
    swappedStores [.Tuple [.Name x p₁, .Name y p₂] k tp] (.Tuple [.Attribute (.Name n₁ p₃) a₁ p₄, .Attribute (.Name n₂ p₅) a₂ p₆] k₂ vp) env = pure (some [x, y]) := by
  have e1 : env.blockKind = .function := by unfold Env.blockKind; rw [ev.kind]; rfl
  have e5 : nm2 (if env.kindOf x == some .local && p₁.line == p₁.line then some x else none) (if env.kindOf y == some .local && p₂.line == p₁.line then some y else none) = [x, y] := by
    rw [ev.vars x hx, ev.vars y hy, hl, beq_self_eq_true p₁.line]; rfl
  have e4 : ([x, y] : List Str).eraseDups = [x, y] := by
    rw [List.eraseDups_cons]
    show x :: ([y].filter fun b => !b == x).eraseDups = [x, y]
    rw [List.filter_cons_of_pos (by rw [hne]; rfl)]; rfl
  rw [swap_form, e1, e5]
  show (if _ then _ else if (_ || ([x, y] : List Str).eraseDups.length != _) = true then _ else _) = _
  rw [e4]; rfl

theorem x_swap2 {Q : Flow → Shared → Prop} (hA : A.handled = none) (ev : EnvOk env L vars cl gl) (hx : x ∈ vars) (hy : y ∈ vars) (hl : (p₂.line == p₁.line) = true) (hne : (y == x) = false)
    (h : wpAny (model prog w) A (eval (.Tuple [.Attribute (.Name n₁ p₃) a₁ p₄, .Attribute (.Name n₂ p₅) a₂ p₆] k₂ vp) env) (fun v s₁ => ∃ a Z σ m₁ m₂, v = .ref a ∧ W c Z s₁ σ ∧ VR Z (.tup [m₁, m₂]) (.ref a) ∧
      ∀ s' v₁ v₂, W c Z s' σ → VR Z m₁ v₁ → VR Z m₂ v₂ → wpAny (model prog w) A (storeName env y v₂) (fun _ s₂ => wpAny (model prog w) A (storeName env x v₁) (fun _ => Q .next) E s₂) E s') E s) :
    wpAny (model prog w) A (exec (.Assign [.Tuple [.Name x p₁, .Name y p₂] k tp] (.Tuple [.Attribute (.Name n₁ p₃) a₁ p₄, .Attribute (.Name n₂ p₅) a₂ p₆] k₂ vp) pos) env) Q E s := by
  refine Assign_Tuple_swapped (names := [x, y]) (wpAny_mono h (fun v s₁ h₁ => ?_) fun _ _ e => e) rfl (swap2 ev hx hy hl hne)
  obtain ⟨a, Z, σ, m₁, m₂, rfl, W, hv, q⟩ := h₁
  obtain ⟨vs, hl, hr⟩ := W.tat hv
  cases hr with | @cons _ v₁ _ _ h1 hr =>
  cases hr with | @cons _ v₂ _ _ h2 hr =>
  cases hr
  have key : ∀ h', Heap.ExtBut s₁.heap.objs.size s₁.heap h' → wpAny (model prog w) A (assignInOrder ([bindName env y, bindName env x]) [v₂, v₁]) (fun _ => Q .next) E { s₁ with heap := h' } := fun h' hx =>
    wpAny_bind (wpAny_holding (wpAny_bindName (wpAny_mono (q _ _ _ (W.keep (extBut_keep hx)) h1 h2) (fun _ s₂ h₂ => wpAny_bind (wpAny_holding (wpAny_bindName (wpAny_mono h₂ (fun _ _ e => wpAny_pure e) fun _ _ e => e)))) fun _ _ e => e)))
  exact wpAny_unpackItems_tuple (items := [v₁, v₂].toArray) hA hl key
theorem clsV {Q : Shared → Prop} {k : Nat} (W : W c Z s σ) (q : ∀ s', Mine.W c Z s' σ → Q s') : Q { s with toks := k } := q _ (W.tok _)
end
end Mine
-- F19
namespace Mine
open PySem PySem.Spec PySem.Calls PyProof.Rows PySem.W

section
variable {prog : Program} {w : World} {c : Cx} {Z : ZS} {s : Shared} {σ r : Sg} {M : Model} {A : Around} {E : Value → Shared → Prop} {Q : Value → Shared → Prop} {env : Env} {pos p : Pos} {L : Addr} {vars : List Str} {cl : List (Str × Addr)} {gl : List Str}
  {f x₀ : Value} {e : Expr} {rest : List Expr} {n : Str} {fa : Addr}

theorem mc_args (W : W c Z s σ) (hk : keepIn c.K f = true)
    (q : wpAny M A (spliced (backTo pos (starEach (e :: rest) env))) (fun vs s₁ => (∃ Z σ, Mine.W c Z s₁ σ) ∧ wpAny M A (call f (x₀ :: vs)) Q E s₁) E s)
    (he : starEach (e :: rest) env = (false, eval e env) :: starEach rest env := by rfl) (hplain : (backTo pos (starEach rest env)).any (·.1) = false := by rfl) :
    wpAny M A (callWith pos f [x₀] (backTo pos (starEach (e :: rest) env)) (backToKw pos (keywordEach [] env))) Q E s :=
  callWith_K (h₀ := c.h₀) W.b.kin hk (wpAny_mono q (fun vs s₁ h₁ => ⟨let ⟨⟨_, _, w₁⟩, _⟩ := h₁; w₁.kin, h₁.2⟩) fun _ _ x => x) he hplain
theorem mc_none (W : W c Z s σ) (hk : keepIn c.K f = true) (q : wpAny M A (call f [x₀]) Q E s) :
    wpAny M A (callWith pos f [x₀] (backTo pos (starEach [] env)) (backToKw pos (keywordEach [] env))) Q E s :=
  callWith_K0 W.kin hk q
theorem mc_kw {value : Expr} (W : W c Z s σ) (hk : keepIn c.K f = true)
    (q : wpAny M A (spliced (backTo pos (starEach (e :: rest) env))) (fun vs s₁ => wpAny M A (eval value env) (fun v s₂ => (∃ Z σ, Mine.W c Z s₂ σ) ∧ wpAny M A (call f (x₀ :: vs) [(n, v)]) Q E s₂) E s₁) E s)
    (hplain : ((backTo pos (starEach (e :: rest) env)).any (·.1) || (backToKw pos (keywordEach [⟨some n, value, p⟩] env)).any (·.1.isNone)) = false := by rfl)
    (he : starEach (e :: rest) env = (false, eval e env) :: starEach rest env := by rfl) :
    wpAny M A (callWith pos f [x₀] (backTo pos (starEach (e :: rest) env)) (backToKw pos (keywordEach [⟨some n, value, p⟩] env))) Q E s := by
  refine callWith_KW (h₀ := c.h₀) W.b.kin hk rfl (wpAny_mono q (fun vs s₁ h₁ => ?_) fun _ _ x => x) hplain he
  refine kwAll_cons (wpAny_mono h₁ (fun v s₂ h₂ => kwAll_nil ?_) fun _ _ x => x)
  obtain ⟨⟨_, _, w₂⟩, h₂⟩ := h₂
  exact ⟨w₂.kin, h₂⟩

theorem e_call0 {x : Str} {np : Pos} (W : W c Z s σ) (ev : EnvOk env L vars cl gl) (hx : x ∈ gl) (h : nsIn c.K mainGlobals x = some (some (.ref fa))) (hk : keepIn c.K (.ref fa) = true)
    (q : wpAny (model prog w) A (call (.ref fa) []) Q E s) (hd : (x == ("__debug__" : Str)) = false := by decide) :
    wpAny (model prog w) A (eval (.Call (.Name x np) [] [] pos) env) Q E s := by
  show wpAny _ _ (do callWith pos (← eval (.Name x np) env) [] (backTo pos (starEach [] env)) (backToKw pos (keywordEach [] env))) Q E s
  refine wpAny_bind (e_glob W ev hx h ?_ hd)
  exact callWith_K0 W.kin hk q
end
end Mine
-- F20
namespace Mine
open PySem PySem.Spec PySem.Calls PyProof.Rows PySem.W
open PySem.Builtin.Re

/-! the search of a pattern that is not found -/
theorem re_plain : PlainAttrs "re.Pattern" :=
  ⟨⟨"object.__getattribute__", by rw [typeLookup_type, builtinLookup_eq_fast]; kernel_rfl, by decide +kernel⟩, by rw [typeLookup_type, builtinLookup_eq_fast]; kernel_rfl⟩
theorem slot_re_search : Slot "re.Pattern" "search" "re.Pattern.search" :=
  .of (owner := "re.Pattern") (n := "search") (by rw [typeLookup_type, builtinLookup_eq_fast]; kernel_rfl) (by decide +kernel) (by decide +kernel) (by decide +kernel)
    (by first | exact .inl (by decide +kernel) | exact .inr (by decide +kernel)) (by rw [isSubtype_type]; kernel_rfl)
theorem type_re_search : typeOf (.builtin "re.Pattern.search") = pure (.type "method_descriptor") := by show builtinType _ = _; rw [builtinType_eq_fast]; kernel_rfl
theorem entry_re_search : entryFor table "re.Pattern.search" = some Builtin.«re.Pattern.search» := entryFor_of_tree (by kernel_rfl)
theorem owner_re : Manifest.owners.lookup (String.ofList ['n', 'r', 'e', 't', 't', 'a', 'P', '.', 'e', 'r'].reverse) = some Manifest.sig_re_Pattern := by kernel_rfl
theorem args_re_search (a b : Value) : argsOk "re.Pattern.search" ⟨[a, b], []⟩ := by
  unfold argsOk; rw [signature?_of (id := "re.Pattern.search") (n := ['h', 'c', 'r', 'a', 'e', 's']) (o := ['n', 'r', 'e', 't', 't', 'a', 'P', '.', 'e', 'r']) (by kernel_rfl) owner_re]; kernel_rfl

def runD : Nat → Sre.M → Option Sre.M
  | 0, _ => none
  | k + 1, m => if (m.runFor reTurnSteps).outcome.isSome then some (m.runFor reTurnSteps) else runD k (m.runFor reTurnSteps)
def reFails (code : List Nat) (text : List Nat) (groups : Nat) : Bool := match runD 100 (Sre.forSearch code.toArray text.toArray groups 0 text.length false) with
  | some m => (match m.outcome with | some .failed => true | _ => false)
  | none => false

section
variable {prog : Program} {w : World} {M : Model} {c : Cx} {Z : ZS} {s : Shared} {σ r : Sg} {A : Around} {E : Value → Shared → Prop} {Q : Value → Shared → Prop}

theorem wp_drive {Q : Sre.M → Shared → Prop} : ∀ (k n : Nat) (m m' : Sre.M), k ≤ n → runD k m = some m' → Q m' s → wpAny M A (reDrive n m) Q E s
  | 0, _, _, _, _, h, _ => by cases h
  | k + 1, 0, _, _, hk, _, _ => absurd hk (by omega)
  | k + 1, n + 1, m, m', hk, h, hq => by
    unfold reDrive
    unfold runD at h
    dsimp only
    split at h
    · rename_i ho
      rw [if_pos ho]
      cases h
      exact wpAny_pure hq
    · rename_i ho
      rw [if_neg ho]
      exact wpAny_bind (wpAny_rule (wp_drive k n _ _ (by omega) h hq))
theorem wp_rules {Q : PUnit → Shared → Prop} (c : Nat → Bool) (f : Nat → String) (hq : Q ⟨⟩ s) : ∀ l : List Nat, wpAny M A (forIn l PUnit.unit fun i _ => (if c i = true then (do rule (f i); pure (ForInStep.yield PUnit.unit)) else pure (ForInStep.yield PUnit.unit) : Sem _)) Q E s
  | [] => by rw [List.forIn_nil]; exact wpAny_pure hq
  | i :: l => by
    rw [List.forIn_cons]
    by_cases h : c i = true
    · rw [if_pos h]
      exact wpAny_bind (wpAny_bind (wpAny_rule (wpAny_pure (wp_rules c f hq l))))
    · rw [if_neg h]
      exact wpAny_bind (wpAny_pure (wp_rules c f hq l))
theorem wp_toEnd {m m' : Sre.M} {Q : Option Sre.M → Shared → Prop} (h : runD 100 m = some m') (ho : m'.outcome = some .failed) (hq : Q none s) : wpAny M A (reRunToEnd m) Q E s := by
  unfold reRunToEnd
  refine wpAny_bind (wp_drive 100 _ m m' (by decide) h ?_)
  refine wpAny_bind ?_
  first
    | refine wp_rules (fun i => m'.seen.has i) (fun i => Sre.names.getD i "") ?_ _
    | trace_state
  rw [ho]
  exact wpAny_pure hq
theorem reFails_of {code text : List Nat} {groups : Nat} (h : reFails code text groups = true) : ∃ m, runD 100 (Sre.forSearch code.toArray text.toArray groups 0 text.length false) = some m ∧ m.outcome = some .failed := by
  unfold reFails at h
  split at h
  · rename_i m hm
    refine ⟨m, hm, ?_⟩
    split at h
    · assumption
    · cases h
  · cases h
theorem re_named (v : Value) : reNamed "re.Pattern.search" "search" ["string", "pos", "endpos"] 1 [v] [] = pure [some v, none, none] := rfl

/-- what a pattern's object holds -/
def isRe (K : Frag) (a : Addr) (code : List Nat) (groups : Nat) : Bool :=
  match K.lookup a with
  | some ⟨.type T, none, .fields fs, _⟩ => T == "re.Pattern" && reRawNat (fs.getD 6 .none) == 0 && reRawNat (fs.getD 2 .none) == groups && (match fs.getD 5 .none with
    | .ref t => (match K.lookup t with
      | some ⟨_, _, .seq ws _, _⟩ => ((ws.map reRawOf).map (·.toNat)).toList == code
      | _ => false)
    | _ => false)
  | _ => false

theorem re_body {a : Addr} {x : Str} {t : Tok} {code : List Nat} {groups : Nat} {P : Fin → Shared → Prop} (hk : c.K.In s.heap) (hr : isRe c.K a code groups = true) (hf : reFails code x.cps.toList groups = true) (hz : x.cps.size < 2 ^ 40) (hq : P (.done (.ret .none)) s) :
    wpAny M A (Builtin.«re.Pattern.search» ⟨[.ref a, .str x t], []⟩) P E s := by
  unfold isRe at hr
  split at hr
  · rename_i T fs sl ho
    simp only [Bool.and_eq_true, beq_iff_eq] at hr
    obtain ⟨⟨⟨h1, h6⟩, h2⟩, h5⟩ := hr
    split at h5
    · rename_i tt ht
      split at h5
      · rename_i oc od ws n sl2 hw
        rw [beq_iff_eq] at h5
        unfold Builtin.«re.Pattern.search»
        refine wpAny_bind ?_
        unfold reTarget
        dsimp only
        rw [re_named]
        refine wpAny_bind (wpAny_pure ?_)
        dsimp only
        refine wpAny_bind (wpAny_pure ?_)
        refine wpAny_bind (wpAny_pure ?_)
        refine wpAny_bind (wpAny_fieldsOf (hk _ _ ho) rfl ?_)
        refine wpAny_bind (wpAny_pure (a := (x.cps, 0)) ?_)
        dsimp only
        rw [h6]
        rw [if_neg (by decide), if_neg (by decide)]
        refine wpAny_bind ?_
        unfold reNoCollectionInside
        rw [if_neg (by decide)]
        refine wpAny_pure (wpAny_bind ?_)
        rw [ht]
        unfold reRawItems
        refine wpAny_bind (wpAny_seqItems (hk _ _ hw) rfl (wpAny_pure (wpAny_pure ?_)))
        dsimp only
        rw [Option.getD_some]
        obtain ⟨m, hm, hmo⟩ := reFails_of hf
        have e1 : (ws.map reRawOf).map (·.toNat) = code.toArray := by rw [← h5]
        have e2 : min (2 ^ 63 - 1 : Int).toNat x.cps.size = x.cps.toList.length := by
          rw [Array.length_toList]
          exact Nat.min_eq_right (by have : (2 ^ 63 - 1 : Int).toNat = 9223372036854775807 := by decide
                                     omega)
        have e3 : min (Int.toNat 0) x.cps.size = 0 := Nat.zero_min _
        rw [e1, e2, e3, h2]
        unfold reAnswer
        refine wpAny_bind (wp_toEnd (m' := m) (by simpa using hm) hmo ?_)
        exact wpAny_pure hq
      · cases h5
    · cases h5
  · cases hr

theorem c_search {a : Addr} {x : Str} {t : Tok} {code : List Nat} {groups : Nat} (W : W c Z s σ) (hr : isRe c.K a code groups = true) (hf : reFails code x.cps.toList groups = true) (hz : x.cps.size < 2 ^ 40) (q : Q .none s) :
    wpAny (model prog w) A (call (.builtin "re.Pattern.search") [.ref a, .str x t]) Q E s := by
  have hT : s.TypeIs (.ref a) "re.Pattern" := by
    unfold isRe at hr
    split at hr
    · rename_i T fs sl ho
      simp only [Bool.and_eq_true, beq_iff_eq] at hr
      obtain ⟨⟨⟨h1, h6⟩, h2⟩, h5⟩ := hr
      subst h1
      exact ⟨_, W.kin _ _ ho, rfl⟩
    · cases hr
  exact wpAny_call_entry slot_re_search hT entry_re_search (re_body W.kin hr hf hz ⟨_, rfl, q⟩) (args_re_search _ _)
theorem g_search {a : Addr} {code : List Nat} {groups : Nat} {pl : Sem Bool} {Q : Value × List Value → Shared → Prop} (W : W c Z s σ) (hr : isRe c.K a code groups = true) (q : Q (.builtin "re.Pattern.search", [.ref a]) s) :
    wpAny M A (getMethod (.ref a) "search" pl) Q E s := by
  unfold isRe at hr
  split at hr
  · rename_i T fs sl ho
    simp only [Bool.and_eq_true, beq_iff_eq] at hr
    obtain ⟨⟨⟨h1, h6⟩, h2⟩, h5⟩ := hr
    subst h1
    exact getMethod_builtin ⟨_, W.kin _ _ ho, rfl⟩ re_plain slot_re_search type_re_search (fun b e => by cases e; exact ⟨_, W.kin _ _ ho, rfl⟩) q
  · cases hr

/-! a method of a built-in called -/
variable {env : Env} {pos : Pos} {x₀ : Value} {e : Expr} {rest : List Expr} {id : String} {L : Addr} {vars : List Str} {cl : List (Str × Addr)} {gl : List Str}
theorem mb_args (q : wpAny M A (spliced (backTo pos (starEach (e :: rest) env))) (fun vs s₁ => wpAny M A (call (.builtin id) (x₀ :: vs)) Q E s₁) E s)
    (he : starEach (e :: rest) env = (false, eval e env) :: starEach rest env := by rfl) (hplain : (backTo pos (starEach rest env)).any (·.1) = false := by rfl) :
    wpAny M A (callWith pos (.builtin id) [x₀] (backTo pos (starEach (e :: rest) env)) (backToKw pos (keywordEach [] env))) Q E s := by
  rw [he] at q ⊢
  exact Calls.callWith_builtin (by show (false || (backTo pos (starEach rest env)).any (·.1)) = false; rw [hplain]; rfl) (Calls.evalArgs_plain q)
theorem mb_none (q : wpAny M A (call (.builtin id) [x₀]) Q E s) :
    wpAny M A (callWith pos (.builtin id) [x₀] (backTo pos (starEach [] env)) (backToKw pos (keywordEach [] env))) Q E s :=
  Calls.callWith_builtin rfl (evalArgs_nil3 q)

/-! strings -/
variable {x y : Str} {t u : Tok}
theorem st_lower (W : W c Z s σ) (hz : x.length < 2 ^ 20) (q : ∀ s' t, Mine.W c Z s' σ → Q (.str (Txt.lower x) t) s') : wpAny (model prog w) A (call (.builtin "str.lower") [.str x t]) Q E s :=
  SCL.lower (by omega) fun _ => q _ _ (W.tok _)
theorem st_count (W : W c Z s σ) (q : ∀ s' t, Mine.W c Z s' σ → Q (.int (Txt.count x y) t) s') : wpAny (model prog w) A (call (.builtin "str.count") [.str x t, .str y u]) Q E s :=
  SC.count (q _ _ (W.tok _))
theorem strs_vr : ∀ l : List (Str × Tok), VRs Z ((l.map (·.1)).map MV.str) (strValues l)
  | [] => .nil
  | (x, t) :: l => .cons (.str x t) (strs_vr l)
theorem vr_strs : ∀ {l : List Str} {vs : List Value}, VRs Z (l.map MV.str) vs → ∃ r : List (Str × Tok), r.map (·.1) = l ∧ vs = strValues r
  | [], _, h => by cases h; exact ⟨[], rfl, rfl⟩
  | x :: l, _, h => by
    cases h with | cons h1 h2 =>
    obtain ⟨t, rfl⟩ := h1.str_inv
    obtain ⟨r, rfl, rfl⟩ := vr_strs h2
    exact ⟨(x, t) :: r, rfl, rfl⟩

theorem isL_of {a : Addr} {l : List (Str × Tok)} {n : Nat} (h : s.heap.get? a = some { cls := .type "list", data := .seq (strValues l).toArray n }) : s.heap.IsList a (strValues l).toArray := ⟨_, h, rfl, n, rfl⟩
theorem numbered_vr (k : Nat) (xs : List Str) : VRs Z (((numbered k xs).map (·.1)).map MV.str) (strValues (numbered k xs)) := strs_vr _
theorem st_split (W : W c Z s σ) (hy : (y.length == 0) = false) (hz : x.length < 2 ^ 20) (hsz2 : (Builtin.Str.partsBetween x (Builtin.Str.occurrences x y 0 x.length (x.length + 1)) y.length).length ≤ sizeLine)
    (q : ∀ s' D, Mine.W c Z s' ((D, .list ((Txt.split x y).map .str)) :: σ) → Q (.ref D) s') : wpAny (model prog w) A (call (.builtin "str.split") [.str x t, .str y u]) Q E s := by
  have hz' : x.length ≤ sizeLine := by rw [sizeLine_eq]; omega
  have key : ∀ (l : List (Str × Tok)) (k : Nat), l.map (·.1) = Txt.split x y → Mine.W c Z { s with heap := s.heap.push { cls := .type "list", data := .seq (strValues l).toArray }, toks := k } ((s.heap.objs.size, .list ((Txt.split x y).map .str)) :: σ) := fun l k e => by
    have w1 := W.push (mo := .list ((Txt.split x y).map .str)) (o := { cls := .type "list", data := .seq (strValues l).toArray }) rfl ⟨strValues l, 0, rfl, by rw [← e]; exact strs_vr l⟩
    exact w1.tok k
  cases h1 : (decide (x.length < y.length) || decide (Builtin.Str.strKind x < Builtin.Str.strKind y))
  · cases hf : (Builtin.Str.occurrences x y 0 x.length (x.length + 1)).isEmpty
    · refine call_meets F.slot_str_split (typeIs_str _ _ _) F.entry_str_split (F.args_str_split_2 _ _) (PySem.meets_str_split_sep x y t u h1 hy hf hz' hsz2) ?_
      show wants Q E _ { s with toks := _, heap := s.heap.push { cls := .type "list", data := .seq (strsFrom s.toks (Builtin.Str.partsBetween x (Builtin.Str.occurrences x y 0 x.length (x.length + 1)) y.length)).toArray } }
      rw [strsFrom_eq]
      exact q _ _ (key (numbered s.toks _) _ ((numbered_texts _ _).trans ((if_neg (ne_true_of_eq_false h1)).trans (if_neg (ne_true_of_eq_false hf))).symm))
    · exact call_meets F.slot_str_split (typeIs_str _ _ _) F.entry_str_split (F.args_str_split_2 _ _) (PySem.meets_str_split_not_found x y t u h1 hy hf)
        (q _ _ (key [(x, t)] _ ((if_neg (ne_true_of_eq_false h1)).trans (if_pos hf)).symm))
  · exact call_meets F.slot_str_split (typeIs_str _ _ _) F.entry_str_split (F.args_str_split_2 _ _) (PySem.meets_str_split_cannot_occur x y t u h1)
      (q _ _ (key [(x, t)] _ (if_pos h1).symm))
theorem st_join {D : Addr} {texts : List Str} (W : W c Z s σ) (h : LAtZ Z s D (texts.map .str)) (hok : JoinOk x texts = true) (q : ∀ s' t, Mine.W c Z s' σ → Q (.str (Txt.join x texts) t) s') :
    wpAny (model prog w) A (call (.builtin "str.join") [.str x t, .ref D]) Q E s := by
  obtain ⟨vs, hl, hr⟩ := h
  obtain ⟨r, e, rfl⟩ := vr_strs hr
  exact SC.join hl e hok fun t' k => q _ _ (W.tok _)
end
end Mine
-- F21
namespace Mine
open PySem PySem.Spec PySem.Calls PyProof.Rows PySem.W

section
variable {prog : Program} {w : World} {M : Model} {c : Cx} {Z : ZS} {s : Shared} {σ r : Sg} {A : Around} {E : Value → Shared → Prop} {Q : Value → Shared → Prop} {env : Env} {pos : Pos} {L : Addr} {vars : List Str} {cl : List (Str × Addr)} {gl : List Str}

/-! a for over what is empty -/
theorem x_for0 {target iter : Expr} {body : List Stmt} {Q : Flow → Shared → Prop}
    (h : wpAny (model prog w) A (eval iter env) (fun xv s₁ => wpAny (model prog w) A (pyIter xv) (fun it s₂ => wpAny (model prog w) A (pyNext it) (fun o s₃ => o = none ∧ Q .next s₃) F0 s₂) E s₁) E s)
    (hs : ∀ x, foldedSetIterable iter env x = pure x := by intro _; rfl) :
    wpAny (model prog w) A (exec (.For target iter body [] pos) env) Q E s := by
  refine wpAny_For (wpAny_mono h (fun xv s₁ h₁ => wpAny_mono h₁ (fun it s₂ h₂ => ?_) fun _ _ x => x) fun _ _ x => x) hs
  refine codeAny_forLoop_any (I := fun n s' => n = 0 ∧ s' = s₂) ?_ 0 ⟨rfl, rfl⟩
  rintro n s₃ ⟨rfl, rfl⟩
  refine wpAny_mono h₂ (fun o s₄ h₄ => ?_) fun _ _ x => x.elim
  obtain ⟨rfl, hq⟩ := h₄
  exact wpAny_execs_nil hq
theorem f_list0 {a : Addr} {Q : Shared → Prop} (hA : A.handled = none) (W : W c Z s σ) (hp : Pick a (.list []) σ r) (q : ∀ s', Mine.W c Z s' σ → Q s') :
    wpAny (model prog w) A (pyIter (.ref a)) (fun it s₂ => wpAny (model prog w) A (pyNext it) (fun o s₃ => o = none ∧ Q s₃) F0 s₂) E s := by
  obtain ⟨vs, hl, hr⟩ := W.latc hp
  cases hr
  have W' := W.push (mo := .obj (liP a 0)) (o := { cls := .type "list_iterator", data := .fields #[.ref a, .int 0 0] }) rfl ⟨rfl, rfl⟩
  refine wpAny_pyIter_list hl ?_
  obtain ⟨vs', hl', hr'⟩ := W'.latc (.tail hp)
  cases hr'
  refine wpAny_pyNext_list_end hA (liP.isIter W') hl' (by simp) fun h' he => ⟨rfl, ?_⟩
  exact q _ (W'.but fun b o hb e => he b o hb e)

theorem dict0 {h : Heap} {d : Addr} (e : h.get? d = some emptyDict) : h.DictAt (strKind prog w) d [] 0 :=
  ⟨_, #[], e, ⟨rfl, rfl, rfl⟩, rfl, (fun _ h => by simp at h), .nil, .nil⟩
theorem W.empty {d : Addr} (W : W c Z s σ) (hp : Pick d (.obj (· = emptyDict)) σ r) : s.heap.get? d = some emptyDict := by
  obtain ⟨o, ho, e⟩ := W.get hp
  cases e
  exact ho
theorem g_items {d : Addr} {pl : Sem Bool} {Q : Value × List Value → Shared → Prop} (W : W c Z s σ) (hp : Pick d (.obj (· = emptyDict)) σ r) (q : Q (.builtin "dict.items", [.ref d]) s) : wpAny M A (getMethod (.ref d) "items" pl) Q E s :=
  getMethod_builtin ⟨_, W.empty hp, rfl⟩ PySem.F.plainAttrs_dict PySem.F.slot_dict_items PySem.F.type_dict_items (fun b e => by cases e; exact ⟨_, W.empty hp, rfl⟩) q
def viewP (d : Addr) (o : Obj) : Prop := o = { cls := .type "dict_items", data := .fields #[.ref d] }
theorem c_items {d : Addr} (W : W c Z s σ) (hp : Pick d (.obj (· = emptyDict)) σ r) (hd : (d == sysModules) = false) (q : ∀ s' v, Mine.W c Z s' ((v, .obj (viewP d)) :: σ) → Q (.ref v) s') :
    wpAny (model prog w) A (call (.builtin "dict.items") [.ref d]) Q E s := by
  have e := W.empty hp
  have hm : ∃ kvs, s.heap.DictOf (strKind prog w) d kvs := ⟨[], _, #[], 0, e, ⟨rfl, rfl, rfl⟩, rfl, (fun _ h => by simp at h), .nil, .nil⟩
  exact call_meetsIn PySem.F.slot_dict_items ⟨_, e, rfl⟩ PySem.F.entry_dict_items (PySem.F.args_dict_items_1 _) (meets_dict_items (strKind prog w) d hd) ⟨hm, q _ _ (W.push rfl rfl)⟩
theorem f_items0 {d v : Addr} {r' : Sg} {Q : Shared → Prop} (hA : A.handled = none) (W : W c Z s σ) (hp : Pick d (.obj (· = emptyDict)) σ r) (hv : Pick v (.obj (viewP d)) σ r') (q : ∀ s', Mine.W c Z s' σ → Q s') :
    wpAny (model prog w) A (pyIter (.ref v)) (fun it s₂ => wpAny (model prog w) A (pyNext it) (fun o s₃ => o = none ∧ Q s₃) F0 s₂) E s := by
  obtain ⟨o, ho, e⟩ := W.get hv
  unfold viewP at e
  subst e
  refine wpAny_pyIter_items (knd := strKind prog w) ⟨_, ho, rfl, rfl⟩ (dict0 (prog := prog) (w := w) (W.empty hp)) ?_
  have W' := W.push (mo := .obj (· = { cls := .type "dict_itemiterator", data := .fields #[.none, .bool false, .ref d, .int 0 0, .int ([] : List (Str × Value)).length 0, .int 0 0, .none, .none] })) (o := { cls := .type "dict_itemiterator", data := .fields #[.none, .bool false, .ref d, .int 0 0, .int ([] : List (Str × Value)).length 0, .int 0 0, .none, .none] }) rfl rfl
  obtain ⟨o', ho', e'⟩ := W'.head
  cases e'
  refine wpAny_pyNext_items_end (knd := strKind prog w) hA ho' (dict0 (prog := prog) (w := w) (W'.empty (.tail hp))) rfl fun h' he => ⟨rfl, ?_⟩
  exact q _ (W'.but fun b o hb e => he b o hb e)

/-- the entry into a function that takes any keyword, none given -/
theorem call_fnM {n : Nat} {fa : Addr} {oc : Value} {od : Option Addr} {osl : Array (Option Value)} {name qual : Str} {params : Arguments} {body : List Stmt} {scope : Scope} {dV kV doc pm cdv ct : Value} {an : Option Addr}
    {vs : List Value} (bn : List Str) {bv : Addr → List Value} (vars gl : List Str) (l : Addr → List (Option MV))
    (W : W c Z s σ) (rm : Room (n + 1) A) (hfa : 1 < fa)
    (ho : c.K.lookup fa = some ⟨oc, od, .func (fnOf name qual params body scope dV kV doc pm an cdv ct), osl⟩)
    (hcd : codeIn c.K cdv qual = true)
    (hb : bindArgs (fnOf name qual params body scope dV kV doc pm an cdv ct) ⟨vs, []⟩ = (alloc emptyDict >>= fun d => pure (bn.zip (bv d))))
    (hsc : scopeOk scope bn vars gl = true)
    (hl : ∀ D, LocR Z (fun x => (bn.zip (bv D)).reverse.lookup x) vars (l D))
    (q : ∀ s' L D env A, Room n A → EnvOk env L vars [] gl → (D == sysModules) = false → Mine.W c Z s' ((L, .ns vars (l D)) :: (D, .obj (· = emptyDict)) :: σ) → wpAny (model prog w) A (execs body env) (fun f s'' => Q (retOf f) s'') (fun _ _ => False) s') :
    wpAny (model prog w) A (call (.ref fa) vs) Q E s := by
  unfold scopeOk at hsc
  simp only [Bool.and_eq_true, Bool.not_eq_true', beq_iff_eq, List.all_eq_true, bne_iff_ne, ne_eq, decide_eq_true_eq] at hsc
  obtain ⟨⟨⟨⟨⟨⟨⟨h1, h2⟩, h3⟩, h4⟩, h5⟩, h6⟩, h7⟩, h8⟩ := hsc
  have hfl : fa < s.heap.objs.size := Heap.lt_size (W.base _ _ (W.b.kin _ _ ho))
  refine wpAny_call (codeAny_call_function rm.lt (W.base _ _ (W.b.kin _ _ ho)) rfl h3 h2 rfl (codeRec_of W.kin hcd) ?_)
  rw [hb]
  have W1 := W.push (mo := .obj (· = emptyDict)) (o := emptyDict) rfl rfl
  refine wpAny_bind (wpAny_alloc (wpAny_pure ?_))
  refine wpAny_newFunctionEnv h4 (fun x hx => h5 _ (List.of_mem_zip hx).1) (fun h₀ hns₀ hsb₀ => ⟨(W.b.nolim.keeps W1.base).fresh _ hsb₀, codeAny_func ?_⟩) h1
  generalize hs₁ : ({ s with heap := s.heap.push emptyDict } : Shared) = s₁ at W1 hns₀ hsb₀
  have hk : ∀ b o, s₁.heap.get? b = some o → h₀.get? b = some o := fun b o e => hsb₀.extBut b o (Nat.ne_of_lt (Heap.lt_size e)) (Heap.get?_push_of_some _ e)
  have W2 : Mine.W c Z { s₁ with heap := h₀, toks := s₁.toks + (bn.zip (bv s.heap.objs.size)).length } ((s₁.heap.objs.size, .ns vars (l s.heap.objs.size)) :: (s.heap.objs.size, .obj (· = emptyDict)) :: σ) := by
    obtain ⟨o, es, ep, hoL, hd, hkk, hf⟩ := hns₀
    exact W1.add (fresh_none _) hk hoL ⟨es, ep, hd, hkk, h8, (hl _).congr fun y _ => hf y⟩
  have ev : EnvOk (callEnv (fnOf name qual params body scope dV kV doc pm an cdv ct) s₁.heap.objs.size fa) s₁.heap.objs.size vars [] gl :=
    ⟨h1, rfl, rfl, rfl, h6, (fun _ h => nomatch h), h7⟩
  have hD : (s.heap.objs.size == sysModules) = false := by
    rw [beq_eq_false_iff_ne]; exact Nat.ne_of_gt (Nat.lt_trans hfa hfl)
  subst hs₁
  refine wpAny_mono (q _ _ _ _ _ (rm.deeper _) ev hD W2) (fun f s' hq => ?_) fun _ _ x => x.elim
  cases f <;> exact hq

/-- len of an object with a __len__ of its own -/
theorem len_i {x C : Addr} {names : List Str} {vals : List MV} {f : Addr} (W : W c Z s σ) (hv : VR Z (.obj C names vals) (.ref x)) (hs : findIn c.K (.ref C) "__len__" = some (some (.ref f))) (hf : isFn c.K (.ref f) = true)
    (h : wpAny (model prog w) A.in1 (call (.ref f) [.ref x]) (PySem.W.LenBack Q) E s) : wpAny (model prog w) A (call (.builtin "len") [.ref x]) Q E s := by
  obtain ⟨x', dx, es, n, vs, e, hx, hd, hk, hr⟩ := hv.obj_inv
  cases e
  have I := W.inst hx (W.z _ _ hd)
  refine Calls.call_function_entry kind_len plain_len entry_len (args_len1 _) ?_
  unfold Builtin.«len»
  refine wpAny_bind (m := oneArg "len" _) (wpAny_pure ?_)
  refine wpAny_bind (m := callSpecial? (.ref x) (Str.ofString "__len__")) (special_fn W.kin I hs (beq_iff_eq.mp hf) (wpAny_mono h (fun r s' hr => ?_) fun _ _ y => y))
  unfold PySem.W.LenBack at hr
  cases r with
  | int k u =>
    obtain ⟨⟨k0, k1⟩, hq⟩ := hr
    refine wpAny_bind (wpAny_holding (wpAny_pure ?_))
    refine wpAny_bind (wpAny_letGo ?_)
    show wpAny _ _ (if k < 0 then _ else _) _ _ _
    rw [if_neg (Int.not_lt.mpr k0)]
    show wpAny _ _ (if k ≥ 2 ^ 63 then _ else _) _ _ _
    rw [if_neg (Int.not_le.mpr k1)]
    exact wpAny_bind (wpAny_mkInt (wpAny_pure ⟨_, rfl, hq⟩))
  | _ => exact hr.elim

/-- a sign of a text -/
theorem s_sign {value slice : Expr} {x y : Str} {t u : Tok} {i : Int} (W : W c Z s σ) (h0 : 0 ≤ i) (h1 : i < x.length) (hz : x.length < 2 ^ 20) (e : Txt.item x i = y) (q : ∀ s' t, Mine.W c Z s' σ → Q (.str y t) s')
    (hs : subscripted slice false (.str x t) (.int i u) = operate [.str x t, .int i u] (getItem (.str x t) (.int i u)) := by with_unfolding_all rfl)
    (ht : ∀ r, letTemporaryGo value (.str x t) r = pure () := by intro _; with_unfolding_all rfl) :
    wpAny (model prog w) A (subscriptTail value slice (.str x t) (.int i u)) Q E s :=
  item_str (by unfold fitsSsize; simp only [Bool.not_eq_true', Bool.or_eq_false_iff, decide_eq_false_iff_not]; omega) (by omega) h1 (fun _ => by rw [e]; exact q _ _ (W.tok _)) hs ht
end
end Mine
namespace Mine
open PySem PySem.Spec PySem.Calls PyProof.Rows PySem.W
set_option hygiene false in
local macro_rules | `(tactic| walk_at "pick") => `(tactic| ((repeat (first | exact Pick.head _ | apply Pick.tail)); done))
set_option hygiene false in
local macro_rules | `(tactic| walk_at "lget") => `(tactic| (repeat (first | exact LGet.head _ _ | apply LGet.tail)))
set_option hygiene false in
local macro_rules | `(tactic| walk_at "lset") => `(tactic| (repeat (first | exact LSet.head _ _ _ | apply LSet.tail)))
set_option hygiene false in
local macro_rules | `(tactic| walk_at "mem") => `(tactic| (first | assumption | ((repeat (first | exact List.Mem.head _ | apply List.Mem.tail)); done)))
set_option hygiene false in
local macro_rules | `(tactic| walk_at "zle") => `(tactic| ((repeat (first | assumption | exact ZS.le.refl _ | refine ZS.le.trans ?_ (by assumption))); done))
set_option hygiene false in
local macro_rules | `(tactic| walk_at "vr") => `(tactic| (first | assumption | exact VR.int _ _ | exact VR.str _ _ | exact VR.bool _ | exact VR.none | exact VR.mono' (by assumption) (by ((repeat (first | assumption | exact ZS.le.refl _ | refine ZS.le.trans ?_ (by assumption))); done)) | exact VR.ref _))
set_option hygiene false in
local macro_rules | `(tactic| walk_at "vrs") => `(tactic| (repeat (first | exact VRs.nil | (apply VRs.cons; (first | assumption | exact VR.int _ _ | exact VR.str _ _ | exact VR.bool _ | exact VR.none | exact VR.mono' (by assumption) (by ((repeat (first | assumption | exact ZS.le.refl _ | refine ZS.le.trans ?_ (by assumption))); done)) | exact VR.ref _)))))
set_option hygiene false in
local macro_rules | `(tactic| walk_at "kv0") => `(tactic| (first | (refine VR.kint ?_; intro _) | (refine VR.kstr ?_; intro _) | refine VR.kref ?_ | refine VR.knone ?_ | refine VR.kbool ?_ | (refine VR.kbox (by rfl) ?_; intro _ hv)))
set_option hygiene false in
local macro_rules | `(tactic| walk_at "kv") => `(tactic| (first | walk_at "kv0" | intro v hv))
set_option hygiene false in
local macro_rules | `(tactic| walk_at "vri") => `(tactic| (first | (revert v; walk_at "kv0") | skip))
set_option hygiene false in
local macro_rules | `(tactic| walk_at "lat") => `(tactic| (first | exact Mine.W.latz (by assumption) (by assumption) | exact Mine.W.latz (by assumption) (VR.mono' (by assumption) (by ((repeat (first | assumption | exact ZS.le.refl _ | refine ZS.le.trans ?_ (by assumption))); done))) | exact Mine.W.latc (by assumption) (by ((repeat (first | exact Pick.head _ | apply Pick.tail)); done))))
set_option hygiene false in
local macro_rules | `(tactic| walk_at "kis") => `(tactic| (rw [hK]; k_is))
set_option hygiene false in
local macro_rules | `(tactic| walk_at "own") => `(tactic| (refine CellsOwn.get (by assumption) ?_; (first | assumption | ((repeat (first | exact List.Mem.head _ | apply List.Mem.tail)); done))))
set_option hygiene false in
local macro_rules | `(tactic| walk_at "subs") => `(tactic| (repeat (first | exact Subs.refl _ | refine Subs.take (by walk_at "pick") ?_ | apply Subs.drop)))
set_option hygiene false in
local macro_rules | `(tactic| walk_at "lsub") => `(tactic| (repeat (first | exact LSub.nil | apply LSub.keep | apply LSub.forget)))
set_option hygiene false in
local macro_rules | `(tactic| walk_at "fl") => `(tactic| ((repeat (refine List.forall_mem_cons.mpr ⟨by walk_at "mem", ?_⟩)); exact (fun _ h => nomatch h)))
set_option hygiene false in
local macro_rules | `(tactic| walk_at "weak") => `(tactic| (repeat (first | ((with_reducible show Weak (_ :: _) _); refine' Weak.take ?kp_ ?km_ ?_; (case kp_ => walk_at "pick"); (case km_ => (first | ((with_reducible show MOLe (MO.ns _ _) _); refine MOLe.ns ?_; (repeat (first | exact LSub.nil | apply LSub.keep | apply LSub.forget))) | ((with_reducible show MOLe (MO.obj isCellP) (MO.cell _)); exact MOLe.cell _) | exact MOLe.refl _))) | exact Weak.refl _ | apply Weak.drop)))
set_option hygiene false in
local macro_rules | `(tactic| walk_at "ce") => `(tactic| (refine' CEnd.mk W ?kz_ ?kw_ ?_; (case kz_ => walk_at "zle"); (case kw_ => walk_at "weak")))
set_option hygiene false in
local macro_rules | `(tactic| walk_at "te") => `(tactic| (refine' TEnd.mk W ?kz_ ?kw_; (case kz_ => walk_at "zle"); (case kw_ => walk_at "weak")))
set_option hygiene false in
local macro_rules | `(tactic| walk_at "s1") => `(tactic| first
  | ((with_reducible show wpAny _ _ (getMethod (Value.ref _) (Str.ofString "items") _) _ _ _); (refine' g_items W ?kp_ ?_; (case kp_ => walk_at "pick")))
  | ((with_reducible show wpAny _ _ (eval (Expr.Call (Expr.Attribute (Expr.Name (Str.ofString "word") _) (Str.ofString "count") _) [_] [] _) _) _ _ _); refine methodCall_KW ?_)
  | ((with_reducible show wpAny _ _ (eval (Expr.Call (Expr.Name (Str.ofString "type") _) (_ :: _) [] _) _) _ _ _); (refine' e_callT W (by assumption) ?km_ ?kk_ ?kb_ ?_; (case km_ => walk_at "mem"); (case kk_ => walk_at "kis"); (case kb_ => boot_fast)))
  | ((with_reducible show wpAny _ _ (eval (Expr.Call (Expr.Name (Str.ofString "max") _) (_ :: _) [] _) _) _ _ _); (refine' e_callB2 W (by assumption) ?km_ ?kk_ ?kb_ ?_; (case km_ => walk_at "mem"); (case kk_ => walk_at "kis"); (case kb_ => boot_fast)))
  | ((with_reducible show wpAny _ _ (eval (Expr.Call (Expr.Name (Str.ofString "tuple") _) (_ :: _) [] _) _) _ _ _); (refine' e_callT W (by assumption) ?km_ ?kk_ ?kb_ ?_; (case km_ => walk_at "mem"); (case kk_ => walk_at "kis"); (case kb_ => boot_fast)))
  | ((with_reducible show wpAny _ _ (eval (Expr.Call (Expr.Name (Str.ofString "range") _) (_ :: _) [] _) _) _ _ _); (refine' e_callT W (by assumption) ?km_ ?kk_ ?kb_ ?_; (case km_ => walk_at "mem"); (case kk_ => walk_at "kis"); (case kb_ => boot_fast)))
  | ((with_reducible show wpAny _ _ (execs (_ :: _) _) _ _ _); refine wpAny_execs_cons ?_)
  | ((with_reducible show wpAny _ _ (execs [] _) _ _ _); (refine wpAny_execs_nil ?_; try dsimp only))
  | ((with_reducible show wpAny _ _ (exec (Stmt.Assign [Expr.Name _ _] _ _) _) _ _ _); refine wpAny_Assign_Name ?_)
  | ((with_reducible show wpAny _ _ (exec (Stmt.Assign [Expr.Subscript _ _ _] _ _) _) _ _ _); refine wpAny_Assign_Subscript ?_)
  | ((with_reducible show wpAny _ _ (exec (Stmt.Return (some _) _) _) _ _ _); refine wpAny_Return_some ?_)
  | ((with_reducible show wpAny _ _ (exec (Stmt.Continue _) _) _ _ _); (refine wpAny_Continue ?_; try dsimp only))
  | ((with_reducible show wpAny _ _ (exec (Stmt.Break _) _) _ _ _); (refine wpAny_Break ?_; try dsimp only))
  | ((with_reducible show wpAny _ _ (exec (Stmt.Expr _ _) _) _ _ _); refine x_expr (by assumption) ?_)
  | ((with_reducible show wpAny _ _ (eval (Expr.Name _ _) _) _ _ _); (first
      | (refine' e_local ?k1 ?k2 ?k3 ?k4 ?_; (case k1 => assumption); (case k2 => assumption); (case k3 => walk_at "pick"); (case k4 => walk_at "lget"); walk_at "kv")
      | (refine' e_cell ?k1 ?k2 ?k3 ?k4 ?_; (case k1 => assumption); (case k2 => assumption); (case k3 => walk_at "mem"); (case k4 => walk_at "pick"); walk_at "kv")
      | (refine' e_glob ?k1 ?k2 ?k3 ?k4 ?_; (case k1 => assumption); (case k2 => assumption); (case k3 => walk_at "mem"); (case k4 => walk_at "kis"); skip)
      | (refine' e_blt ?k1 ?k2 ?k3 ?k4 ?k5 ?_; (case k1 => assumption); (case k2 => assumption); (case k3 => walk_at "mem"); (case k4 => walk_at "kis"); (case k5 => boot_fast); skip)))
  | ((with_reducible show wpAny _ _ (eval (Expr.Constant (Const.int _) _ _) _) _ _ _); (refine e_int W ?_; clear W; intro s t W))
  | ((with_reducible show wpAny _ _ (eval (Expr.Constant (Const.str _) _ _) _) _ _ _); (refine e_str W ?_; clear W; intro s t W))
  | ((with_reducible show wpAny _ _ (eval (Expr.Constant Const.none _ _) _) _ _ _); refine e_none ?_)
  | ((with_reducible show wpAny _ _ (eval (Expr.Constant (Const.bool _) _ _) _) _ _ _); refine e_bool ?_)
  | ((with_reducible show wpAny _ _ (eval (Expr.BinOp _ _ _ _) _) _ _ _); refine wpAny_BinOp ?_)
  | ((with_reducible show wpAny _ _ (eval (Expr.Compare _ [_] [_] _) _) _ _ _); refine wpAny_Compare1 ?_)
  | ((with_reducible show wpAny _ _ (eval (Expr.Subscript _ _ _) _) _ _ _); refine Subscript_ ?_)
  | ((with_reducible show wpAny _ _ (eval (Expr.Tuple _ _ _) _) _ _ _); refine e_tuple ?_)
  | ((with_reducible show wpAny _ _ (eval (Expr.List _ _) _) _ _ _); refine e_list ?_)
  | ((with_reducible show wpAny _ _ (spliced (backTo _ (starEach [] _))) _ _ _); refine wpAny_items_nil ?_)
  | ((with_reducible show wpAny _ _ (spliced (backTo _ (starEach (_ :: _) _))) _ _ _); refine wpAny_items_cons ?_)
  | ((with_reducible show wpAny _ _ (newTuple _) _ _ _); (refine' n_tuple W ?k1 ?k2 ?_; (case k1 => walk_at "vrs"); (case k2 => size_fits); clear W; intro Z' s a hZ W hv))
  | ((with_reducible show wpAny _ _ (newList _) _ _ _); (refine' n_list W ?k1 ?k2 ?_; (case k1 => walk_at "vrs"); (case k2 => size_fits); clear W; intro s a W))
  | ((with_reducible show wpAny _ _ (binaryOp Operator.Add (Value.int _ _) (Value.int _ _)) _ _ _); (refine o_add W ?_; clear W; intro s t W))
  | ((with_reducible show wpAny _ _ (binaryOp Operator.Sub (Value.int _ _) (Value.int _ _)) _ _ _); (refine o_sub W ?_; clear W; intro s t W))
  | ((with_reducible show wpAny _ _ (binaryOp Operator.Mult (Value.int _ _) (Value.int _ _)) _ _ _); (refine' o_mul W ?k1 ?_; (case k1 => (first | exact PySem.IntMulOk.of_left (PySem.intBits_le_64 (by omega) (by omega)) | exact PySem.IntMulOk.of_right (PySem.intBits_le_64 (by omega) (by omega)))); clear W; intro s t W))
  | ((with_reducible show wpAny _ _ (binaryOp Operator.RShift (Value.int _ _) (Value.int _ _)) _ _ _); (refine' o_shr W ?k1 ?_; (case k1 => first | decide | omega); clear W; intro s t W))
  | ((with_reducible show wpAny _ _ (compareOp CmpOp.Lt (Value.int _ _) (Value.int _ _)) _ _ _); refine c_lt ?_)
  | ((with_reducible show wpAny _ _ (compareOp CmpOp.Gt (Value.int _ _) (Value.int _ _)) _ _ _); refine c_gt ?_)
  | ((with_reducible show wpAny _ _ (compareOp CmpOp.LtE (Value.int _ _) (Value.int _ _)) _ _ _); refine c_le ?_)
  | ((with_reducible show wpAny _ _ (compareOp CmpOp.GtE (Value.int _ _) (Value.int _ _)) _ _ _); refine c_ge ?_)
  | ((with_reducible show wpAny _ _ (compareOp CmpOp.Eq (Value.str _ _) (Value.str _ _)) _ _ _); refine c_eqs ?_)
  | ((with_reducible show wpAny _ _ (compareOp CmpOp.Lt (Value.ref _) (Value.ref _)) _ _ _); refine c_ltT W rm (by assumption) (by assumption) ?_)
  | ((with_reducible show wpAny _ _ (truthy (Value.bool _)) _ _ _); refine wpAny_truthy_bool ?_)
  | ((with_reducible show wpAny _ _ (storeName _ _ _) _ _ _); (first
      | (refine' st_local W ?k2 ?k3 ?k4 ?k5 ?_; (case k2 => assumption); (case k3 => walk_at "pick"); (case k5 => walk_at "vr"); (case k4 => walk_at "lset"); clear W; intro s W)
      | (refine' st_cell W ?k2 ?k3 ?k4 ?k5 ?k6 ?_; (case k2 => assumption); (case k3 => walk_at "mem"); (case k4 => walk_at "own"); (case k5 => walk_at "pick"); (case k6 => walk_at "vr"); clear W; intro s W)
      | (refine' st_cellO W ?k2 ?k3 ?k4 ?k5 ?k6 ?_; (case k2 => assumption); (case k3 => walk_at "mem"); (case k4 => walk_at "own"); (case k5 => walk_at "pick"); (case k6 => walk_at "vr"); clear W; intro s W)))
  | ((with_reducible show wpAny _ _ (eval (Expr.Call (Expr.Attribute _ (Str.ofString "append") _) [_] [] _) _) _ _ _); refine e_append (c := c) rfl rfl rfl ?_)
  | ((with_reducible show wpAny _ _ (eval (Expr.Call (Expr.Attribute _ (Str.ofString "pop") _) [] [] _) _) _ _ _); refine e_pop (c := c) rfl rfl ?_)
  | ((with_reducible show wpAny _ _ (eval (Expr.Call (Expr.Name (Str.ofString "len") _) [_] [] _) _) _ _ _); (refine' e_callB W (by assumption) ?km_ ?kk_ ?kb_ ?_; (case km_ => walk_at "mem"); (case kk_ => walk_at "kis"); (case kb_ => boot_fast)))
  | ((with_reducible show wpAny _ _ (call (Value.builtin "len") [Value.ref _]) _ _ _); (first | (refine' len_l W ?kp_ ?kz_ ?_; (case kp_ => walk_at "lat"); (case kz_ => (first | assumption | omega | (refine Nat.lt_of_le_of_lt keepL_le ?_; omega) | (simp only [List.length_map, List.length_append, List.length_cons, List.length_nil, List.length_set]; omega) | skip)); clear W; intro s t W) | (refine' len_t W ?kp_ ?kz_ ?_; (case kp_ => (first | exact Mine.W.tat (by assumption) (by assumption) | exact Mine.W.tat (by assumption) (VR.mono' (by assumption) (by walk_at "zle")))); (case kz_ => (first | assumption | omega | (refine Nat.lt_of_le_of_lt keepL_le ?_; omega) | (simp only [List.length_map, List.length_append, List.length_cons, List.length_nil, List.length_set]; omega) | skip)); clear W; intro s t W)))
  | ((with_reducible show wpAny _ _ (call (Value.builtin "len") [Value.str _ _]) _ _ _); (refine' len_s W ?kz_ ?_; (case kz_ => (first | assumption | omega | (refine Nat.lt_of_le_of_lt keepL_le ?_; omega) | (simp only [List.length_map, List.length_append, List.length_cons, List.length_nil, List.length_set]; omega) | skip)); clear W; intro s t W))
  | ((with_reducible show wpAny _ _ (truthy (Value.ref _)) _ _ _); (refine' truthy_l W ?kp_ ?kz_ ?_; (case kp_ => walk_at "lat"); (case kz_ => (first | assumption | omega | (refine Nat.lt_of_le_of_lt keepL_le ?_; omega) | (simp only [List.length_map, List.length_append, List.length_cons, List.length_nil, List.length_set]; omega) | skip)); clear W; intro s W))
  | ((with_reducible show wpAny _ _ (eval (Expr.Call (Expr.Name _ _) (_ :: _) [] _) _) _ _ _); (refine' e_callK W (by assumption) ?km_ ?kk_ ?kh_ ?_; (case km_ => walk_at "mem"); (case kk_ => walk_at "kis"); (case kh_ => walk_at "kis")))
  | ((with_reducible show wpAny _ _ (isTrue (Expr.Compare _ [_] [_] _) _ _) _ _ _); refine wpAny_isTrue_Compare1 ?_)
  | ((with_reducible show wpAny _ _ (isTrue (Expr.BoolOp _ _ _) _ _) _ _ _); refine wpAny_isTrue_BoolOp ?_)
  | ((with_reducible show wpAny _ _ (isTrue (Expr.UnaryOp UnaryOp.Not _ _) _ _) _ _ _); refine wpAny_isTrue_Not ?_)
  | ((with_reducible show wpAny _ _ (allTrue BoolOp.And [] _) _ _ _); refine wpAny_allTrue_And_nil ?_)
  | ((with_reducible show wpAny _ _ (allTrue BoolOp.And (_ :: _) _) _ _ _); refine wpAny_allTrue_And_cons ?_)
  | ((with_reducible show wpAny _ _ (isTrue (Expr.Name _ _) _ _) _ _ _); refine wpAny_isTrue_value ?_)
  | ((with_reducible show wpAny _ _ (isTrue (Expr.Call _ _ _ _) _ _) _ _ _); refine wpAny_isTrue_value ?_)
  | ((with_reducible show wpAny _ _ (isTrue (Expr.Attribute _ _ _) _ _) _ _ _); refine wpAny_isTrue_value ?_)
  | ((with_reducible show wpAny _ _ (call (Value.type "range") [Value.int _ _]) _ _ _); (refine r_range1 W ?_; clear W; intro s a W))
  | ((with_reducible show wpAny _ _ (call (Value.type "range") [Value.int _ _, Value.int _ _]) _ _ _); (refine r_range2 W ?_; clear W; intro s a W))
  | ((with_reducible show wpAny _ _ (call (Value.builtin "max") [Value.int _ _, Value.int _ _]) _ _ _); (refine o_max rm.h W ?_; clear W; intro s t W))
  | ((with_reducible show wpAny _ _ (call (Value.type "tuple") [Value.ref _]) _ _ _); (refine' o_tuple W ?kp_ ?kz_ ?_; (case kp_ => walk_at "lat"); (case kz_ => (first | assumption | omega | (refine Nat.lt_of_le_of_lt keepL_le ?_; omega) | (simp only [List.length_map, List.length_append, List.length_cons, List.length_nil, List.length_set]; omega) | skip)); clear W; intro Z' s a hZ W hv))
  | ((with_reducible show wpAny _ _ (eval (Expr.IfExp _ _ _ _) _) _ _ _); refine wpAny_IfExp ?_)
  | ((with_reducible show wpAny _ _ (binaryOp Operator.Mod (Value.int _ _) (Value.int _ _)) _ _ _); (refine' o_mod W ?k1 ?_; (case k1 => first | decide | omega); clear W; intro s t W))
  | ((with_reducible show wpAny _ _ (binaryOp Operator.Add (Value.str _ _) (Value.str _ _)) _ _ _); (refine' o_cat W ?kz_ ?_; (case kz_ => first | assumption | omega); clear W; intro s t W))
  | ((with_reducible show wpAny _ _ (compareOp CmpOp.Eq (Value.int _ _) (Value.int _ _)) _ _ _); refine PyProof.Rows.eq_int ?_)
  | ((with_reducible show wpAny _ _ (eval (Expr.Slice none (some _) none _) _) _ _ _); refine x_sliceTo (c := c) ?_)
  | ((with_reducible show wpAny _ _ (eval (Expr.Slice (some _) none none _) _) _ _ _); refine x_sliceFrom (c := c) ?_)
  | ((with_reducible show wpAny _ _ (eval (Expr.UnaryOp UnaryOp.USub (Expr.Constant (Const.int _) _ _) _) _) _ _ _); (refine e_neg W ?_; clear W; intro s t W))
  | ((with_reducible show wpAny _ _ (subscriptTail _ _ (Value.ref _) (Value.int _ _)) _ _ _); (first | (refine' s_item ?kl_ ?k0_ ?k1_ ?km_ ?_; (case kl_ => walk_at "lat"); (case k0_ => first | omega | decide); (case k1_ => first | omega | decide); (case km_ => first | assumption | rfl); walk_at "kv") | (refine' s_itemT ?kl_ ?k0_ ?k1_ ?km_ ?_; (case kl_ => (first | exact Mine.W.tat (by assumption) (by assumption) | exact Mine.W.tat (by assumption) (VR.mono' (by assumption) (by walk_at "zle")))); (case k0_ => first | omega | decide); (case k1_ => first | omega | decide); (case km_ => first | assumption | rfl); walk_at "kv")))
  | ((with_reducible show wpAny _ _ (exec (Stmt.Assign [Expr.Attribute _ _ _] _ _) _) _ _ _); refine plainObj_wpAny_Assign_Attribute ?_)
  | ((with_reducible show wpAny _ _ (eval (Expr.Attribute _ _ _) _) _ _ _); refine PyProof.Rows.Attribute_any_ ?_)
  | ((with_reducible show wpAny _ _ (getAttr (Value.ref _) _ _) _ _ _); (first | (refine' i_getZ W ?kv_ ?ka_ ?k1_ ?k2_ ?k3_ ?k4_ ?kh_ ?_; (case kv_ => (first | assumption | exact VR.mono' (by assumption) (by walk_at "zle"))); (case ka_ => rfl); (case k1_ => walk_at "kis"); (case k2_ => walk_at "kis"); (case k3_ => walk_at "kis"); (case k4_ => walk_at "kis"); (case kh_ => (walk_at "kv"; rfl)); clear W; intro s v W hv; walk_at "vri") | (refine' i_get W ?kx_ ?kp_ ?ka_ ?k1_ ?k2_ ?k3_ ?k4_ ?kh_ ?_; (case kx_ => (first | assumption | exact zuse (by assumption) (by walk_at "zle"))); (case kp_ => walk_at "pick"); (case ka_ => rfl); (case k1_ => walk_at "kis"); (case k2_ => walk_at "kis"); (case k3_ => walk_at "kis"); (case k4_ => walk_at "kis"); (case kh_ => (walk_at "kv"; rfl)); clear W; intro s v W hv; walk_at "vri") | (refine' cls_value (mc := .type "type") W.kin ?k1_ ?k2_ ?kh_ ?_; (case k1_ => walk_at "kis"); (case k2_ => walk_at "kis"); (case kh_ => rfl); refine Mine.clsV W ?_; clear W; intro s W)))
  | ((with_reducible show wpAny _ _ (setAttr (Value.ref _) _ _) _ _ _); (refine' i_set W ?kx_ ?kp_ ?kv_ ?kn_ ?kz_ ?k1_ ?k2_ ?k3_ ?k4_ ?_; (case kx_ => (first | assumption | exact zuse (by assumption) (by walk_at "zle"))); (case kv_ => walk_at "vr"); (case kp_ => walk_at "pick"); (case kn_ => decide); (case kz_ => decide); (case k1_ => walk_at "kis"); (case k2_ => walk_at "kis"); (case k3_ => walk_at "kis"); (case k4_ => walk_at "kis"); clear W; intro s W))
  | ((with_reducible show wpAny _ _ (binaryOp Operator.Mult (Value.ref _) (Value.int _ _)) _ _ _); (refine' o_mul1 W ?kp_ ?k1_ ?k2_ ?_; (case kp_ => walk_at "pick"); (case k1_ => omega); (case k2_ => first | omega | (simp only [List.length_map]; omega)); clear W; intro s a W))
  | ((with_reducible show wpAny _ _ (binaryOp Operator.Add (Value.ref _) (Value.ref _)) _ _ _); (refine' o_addl W ?k1_ ?k2_ ?kz_ ?_; (case k1_ => walk_at "lat"); (case k2_ => walk_at "lat"); (case kz_ => first | assumption | omega | (simp only [List.length_map, List.length_replicate, List.length_cons, List.length_nil]; omega)); clear W; intro s a W))
  | ((with_reducible show wpAny _ _ (bindAll _ (List.zip [] [])) _ _ _); (refine x_bindZ_nil ?_; try dsimp only))
  | ((with_reducible show wpAny _ _ (bindAll _ (List.zip (_ :: _) (_ :: _))) _ _ _); refine x_bindZ_cons ?_)
  | ((with_reducible show wpAny _ _ (eval (Expr.Call (Expr.Attribute _ (Str.ofString "count") _) [_] [] _) _) _ _ _); refine e_count (c := c) rfl rfl rfl ?_)
  | ((with_reducible show wpAny _ _ (emitOf _ _ _) _ _ _); refine x_emit (c := c) ?_)
  | ((with_reducible show wpAny _ _ (testsOf [] _) _ _ _); (refine t_nil ?_; try dsimp only))
  | ((with_reducible show wpAny _ _ (testsOf [_] _) _ _ _); refine t_one ?_)
  | ((with_reducible show wpAny _ _ (assign (Expr.Name _ _) _ _) _ _ _); refine a_name ?_)
  | ((with_reducible show wpAny _ _ (assign (Expr.Tuple [_, _] _ _) _ (Value.ref _)) _ _ _); (refine u_tup rm.h W (by assumption) ?_; clear W; intro s v₁ v₂ W hv₁ hv₂))
  | ((with_reducible show wpAny _ _ (isTrue (Expr.Compare _ (_ :: _ :: _) (_ :: _ :: _) _) _ _) _ _ _); refine PyProof.Rows.isTrue_chain ?_)
  | ((with_reducible show wpAny _ _ (testChain _ _ (_ :: _ :: _) (_ :: _ :: _)) _ _ _); refine PyProof.Rows.test_link ?_)
  | ((with_reducible show wpAny _ _ (testChain _ _ [_] (_ :: evalEach [] _)) _ _ _); refine PyProof.Rows.test_last ?_)
  | ((with_reducible show wpAny _ _ (testChain _ _ [_] [_]) _ _ _); refine PyProof.Rows.test_last ?_)
  | ((with_reducible show wpAny _ _ (getMethod (Value.ref _) _ _) _ _ _); (refine' i_method W ?kv_ ?kn_ ?k1_ ?k2_ ?k3_ ?k4_ ?_; (case kv_ => (first | assumption | exact VR.mono' (by assumption) (by walk_at "zle"))); (case kn_ => decide); (case k1_ => walk_at "kis"); (case k2_ => walk_at "kis"); (case k3_ => walk_at "kis"); (case k4_ => walk_at "kis")))
  | ((with_reducible show wpAny _ _ (eval (Expr.Call (Expr.Attribute _ _ _) _ _ _) _) _ _ _); refine methodCall_KW ?_)
  | ((with_reducible show wpAny _ _ (callWith _ (Value.ref _) [_] (backTo _ (starEach (_ :: _) _)) (backToKw _ (keywordEach [] _))) _ _ _); (refine' mc_args W ?kh_ ?_; (case kh_ => walk_at "kis")))
  | ((with_reducible show wpAny _ _ (callWith _ (Value.ref _) [_] (backTo _ (starEach [] _)) (backToKw _ (keywordEach [] _))) _ _ _); (refine' mc_none W ?kh_ ?_; (case kh_ => walk_at "kis")))
  | ((with_reducible show wpAny _ _ (callWith _ (Value.ref _) [_] (backTo _ (starEach (_ :: _) _)) (backToKw _ (keywordEach [_] _))) _ _ _); (refine' mc_kw W ?kh_ ?_; (case kh_ => walk_at "kis")))
  | ((with_reducible show wpAny _ _ (eval (Expr.Call (Expr.Name _ _) [] [] _) _) _ _ _); (refine' e_call0 W (by assumption) ?km_ ?kk_ ?kh_ ?_; (case km_ => walk_at "mem"); (case kk_ => walk_at "kis"); (case kh_ => walk_at "kis")))
  | ((with_reducible show wpAny _ _ (exec (Stmt.Assign [Expr.Tuple _ _ _] (Expr.Attribute _ _ _) _) _) _ _ _); refine PyProof.Rows.Assign_Tuple ?_)
  | ((with_reducible show wpAny _ _ (binaryOp Operator.FloorDiv (Value.int _ _) (Value.int _ _)) _ _ _); (refine' o_div W ?k1 ?k2 ?_; (case k1 => first | decide | omega); (case k2 => first | assumption | exact PyProof.noPylong_small (by omega)); clear W; intro s t W))
  | ((with_reducible show wpAny _ _ (call (Value.type "type") [Value.str _ _]) _ _ _); refine call_type_of (Tx := "str") rfl (by decide +kernel) ?_)
  | ((with_reducible show wpAny _ _ (compareOp CmpOp.Is (Value.type _) (Value.type _)) _ _ _); refine wpAny_is_self (by rfl) ?_)
  | ((with_reducible show wpAny _ _ (compareOp CmpOp.IsNot (Value.type _) (Value.type _)) _ _ _); refine wpAny_isNot_self (by rfl) ?_)
  | ((with_reducible show wpAny _ _ (compareOp CmpOp.IsNot Value.none Value.none) _ _ _); refine wpAny_isNot_self (by rfl) ?_)
  | ((with_reducible show wpAny _ _ (compareOp CmpOp.IsNot (Value.str _ _) Value.none) _ _ _); refine PyProof.Rows.isnot_str_none ?_)
  | ((with_reducible show wpAny _ _ (isTrue (Expr.Constant _ _ _) _ _) _ _ _); refine wpAny_isTrue_value ?_)
  | ((with_reducible show wpAny _ _ (truthy Value.none) _ _ _); refine PyProof.Rows.truthy_none ?_)
  | ((with_reducible show wpAny _ _ (getMethod (Value.str _ _) (Str.ofString "lower") _) _ _ _); refine GM.lower ?_)
  | ((with_reducible show wpAny _ _ (getMethod (Value.str _ _) (Str.ofString "count") _) _ _ _); refine GM.count ?_)
  | ((with_reducible show wpAny _ _ (getMethod (Value.str _ _) (Str.ofString "split") _) _ _ _); refine GM.split ?_)
  | ((with_reducible show wpAny _ _ (getMethod (Value.str _ _) (Str.ofString "join") _) _ _ _); refine GM.join ?_)
  | ((with_reducible show wpAny _ _ (callWith _ (Value.builtin _) [_] (backTo _ (starEach (_ :: _) _)) (backToKw _ (keywordEach [] _))) _ _ _); refine mb_args ?_)
  | ((with_reducible show wpAny _ _ (callWith _ (Value.builtin _) [_] (backTo _ (starEach [] _)) (backToKw _ (keywordEach [] _))) _ _ _); refine mb_none ?_)
  | ((with_reducible show wpAny _ _ (call (Value.builtin "dict.items") [Value.ref _]) _ _ _); (refine' c_items W ?kp_ (by assumption) ?_; (case kp_ => walk_at "pick"); clear W; intro s v W))
  | ((with_reducible show wpAny _ _ (eval (Expr.BoolOp BoolOp.And [_] _) _) _ _ _); refine PyProof.Rows.BoolOp_one ?_)
  | ((with_reducible show wpAny _ _ (eval (Expr.BoolOp BoolOp.And (_ :: _ :: _) _) _) _ _ _); refine PyProof.Rows.BoolOp_and ?_))
set_option hygiene false in
local macro_rules | `(tactic| walk_at "sb") => `(tactic| first
  | ((with_reducible show @ite _ (true = true) _ _ _); refine ite_T ?_)
  | ((with_reducible show @ite _ (false = true) _ _ _); refine ite_F ?_)
  | ((with_reducible show OnL _ _ _ _); (refine' OnL.mk W ?kp_ ?_; (case kp_ => walk_at "pick")))
  | ((with_reducible show AppAt _ _ _ _ _); (refine' AppAt.mk W ?kp_ ?kv_ ?kz_ ?_; (case kv_ => walk_at "vr"); (case kp_ => walk_at "pick"); (case kz_ => (first | assumption | omega | (refine Nat.lt_of_le_of_lt keepL_le ?_; omega) | (simp only [List.length_map, List.length_append, List.length_cons, List.length_nil, List.length_set]; omega) | skip)); clear W; intro s W))
  | ((with_reducible show (∃ Z σ, Mine.W _ Z _ σ) ∧ _); refine ⟨⟨_, _, W⟩, ?_⟩)
  | ((with_reducible show SlTo _ _ _ _); (refine SlTo.mk W ?_; clear W; intro s sl W))
  | ((with_reducible show SlFrom _ _ _ _); (refine SlFrom.mk W ?_; clear W; intro s sl W))
  | ((with_reducible show OnF _ _ _ _); refine OnF.mk W (by assumption) ?_)
  | ((with_reducible show CntAt _ _ _ _ _); (refine CntAt.mk W (by assumption) ?_; clear W; intro s t W)))
set_option hygiene false in
local macro_rules | `(tactic| walk_at "st") => `(tactic| first | walk_at "s1" | ((with_reducible show wpAny _ _ (exec (Stmt.If _ _ _ _) _) _ _ _); refine wpAny_If ?_))
set_option hygiene false in
local macro_rules | `(tactic| walk_at "go") => `(tactic| repeat' (first | walk_at "s1" | ((with_reducible show wpAny _ _ (exec (Stmt.If _ _ _ _) _) _ _ _); refine wpAny_If ?_) | walk_at "sb" | dsimp only))
set_option hygiene false in
local macro_rules | `(tactic| walk_at "gs") => `(tactic| repeat' (first | walk_at "s1" | walk_at "sb" | dsimp only))

-- P1


theorem fill0 (w : World) (h : Heap) : (KK w.params).In h → (model PySem.Challenge.rw_pg0321_01.row.prog w) = model PySem.Challenge.rw_pg0321_01.row.prog w := by
  k_fill
  intro _; rfl
abbrev P0 : Program := PySem.Challenge.rw_pg0321_01.row.prog

/-- texts as lists of numbers -/
def S (w : List Nat) : Str := ⟨w.toArray⟩
abbrev HE := Nat × List Nat
def encE (p : HE) : MV := .tup [.int (p.1 : Int), .str (S p.2)]
def eLt (p q : HE) : Bool := if p.1 = q.1 then decide (p.2 < q.2) else decide (p.1 < q.1)
theorem eLt_eq (p q : HE) : pairLt p.1 (S p.2) q.1 (S q.2) = eLt p q := by
  unfold pairLt eLt
  by_cases h : p.1 = q.1
  · rw [if_pos h, if_pos (by omega)]; rfl
  · rw [if_neg h, if_neg (by omega)]
    exact decide_eq_decide.mpr (by omega)

def downF : Nat → HE → List HE → Nat → List HE
  | 0, x, hs, pos => hs.set pos x
  | f + 1, x, hs, pos => if 0 < pos then (if eLt x (hs.getD ((pos - 1) / 2) x) then downF f x (hs.set pos (hs.getD ((pos - 1) / 2) x)) ((pos - 1) / 2) else hs.set pos x) else hs.set pos x
theorem downF_same (x : HE) : ∀ (f g : Nat) (hs : List HE) (pos : Nat), pos ≤ f → pos ≤ g → downF f x hs pos = downF g x hs pos
  | 0, 0, _, _, _, _ => rfl
  | 0, g + 1, _, _, h, _ => (if_neg (by omega)).symm
  | f + 1, 0, _, _, _, h => if_neg (by omega)
  | f + 1, g + 1, hs, pos, h1, h2 => by
    show ite _ _ _ = ite _ _ _
    by_cases hp : 0 < pos
    · rw [if_pos hp, if_pos hp, downF_same x f g _ _ (by omega) (by omega)]
    · rw [if_neg hp, if_neg hp]
def downP (x : HE) (hs : List HE) (pos : Nat) : List HE := downF pos x hs pos
theorem downP_eq (x : HE) (hs : List HE) (pos : Nat) : downP x hs pos = if 0 < pos then (if eLt x (hs.getD ((pos - 1) / 2) x) then downP x (hs.set pos (hs.getD ((pos - 1) / 2) x)) ((pos - 1) / 2) else hs.set pos x) else hs.set pos x := by
  by_cases hp : 0 < pos
  · exact (downF_same x pos (pos - 1 + 1) hs pos (by omega) (by omega)).trans (by
      show ite _ _ _ = ite _ _ _
      rw [if_pos hp, if_pos hp, downP, downF_same x (pos - 1) ((pos - 1) / 2) _ _ (by omega) (by omega)])
  · have e : pos = 0 := by omega
    subst e; rfl

theorem siftdown_ok {w : World} {c : Cx} {Z : ZS} {s : Shared} {σ : Sg} {A : Around} {E : Value → Shared → Prop} {Q : Value → Shared → Prop} {l : Addr} {hs : List HE} {pos : Nat} {t u : Tok} {x : HE}
    (hK : c.K = KK w.params) (W : W c Z s ((l, .list (hs.map encE)) :: σ)) (rm : Room 2 A) (hx : hs[pos]? = some x) (hz : hs.length < 2 ^ 20)
    (q : ∀ s', Mine.W c Z s' ((l, .list ((downP x hs pos).map encE)) :: σ) → Q .none s') :
    wpAny (model P0 w) A (call (.ref 66) [.ref l, .int 0 t, .int pos u]) Q E s := by
  refine call_fn (n := 1) ["heap", "startpos", "pos"] (bv := [.ref l, .int 0 t, .int pos u]) ["heap", "startpos", "pos", "newitem", "parentpos", "parent"] [] [some (.ref l), some (.int 0), some (.int pos), none, none, none] W rm (by rw [hK]; k_is) (by rw [hK]; k_is) (BindsTo.of_eq rfl) (by decide +kernel) ?_ ?_
  · exact ⟨⟨_, rfl, .ref _⟩, ⟨_, rfl, .int _ _⟩, ⟨_, rfl, .int _ _⟩, trivial⟩
  clear W s
  intro s L env A rm ev W
  have hlen : pos < hs.length := (List.getElem?_eq_some_iff.mp hx).1
  walk_at "go"
  refine s_item (m := encE x) (by walk_at "lat") (by omega) (by omega) (lm hx) ?_
  walk_at "kv"
  walk_at "go"
  refine x_while (fun n s => ∃ (p : Nat) (hs' : List HE), n = p ∧ p < hs'.length ∧ hs'.length = hs.length ∧ downP x hs' p = downP x hs pos ∧
    Mine.W c Z s ((L, .ns ["heap", "startpos", "pos", "newitem", "parentpos", "parent"] [some (.ref l), some (.int 0), some (.int p), some (encE x), none, none]) :: (l, .list (hs'.map encE)) :: σ)) pos ⟨pos, hs, rfl, hlen, rfl, rfl, W⟩ ?_
  clear W s
  rintro n s ⟨p, hs', rfl, hp, hl, he, W⟩
  walk_at "go"
  refine ite_dec ?_ ?_
  · intro hpos
    walk_at "go"
    have e : ((n : Int) - 1).fdiv (2 ^ Int.toNat 1) = (((n - 1) / 2 : Nat) : Int) := by
      rw [Int.fdiv_eq_ediv_of_nonneg _ (by decide)]
      show ((n : Int) - 1) / 2 = _
      omega
    rw [e] at W ⊢
    have hq : (n - 1) / 2 < hs'.length := by omega
    obtain ⟨y, hy⟩ : ∃ y, hs'[(n - 1) / 2]? = some y := ⟨_, List.getElem?_eq_getElem hq⟩
    refine s_item (m := encE y) (by walk_at "lat") (by omega) (by omega) (lm hy) ?_
    walk_at "kv"
    walk_at "go"
    have hd : hs'.getD ((n - 1) / 2) x = y := by simp [List.getD, hy]
    refine ite_b ?_ ?_
    · intro hlt
      walk_at "go"
      refine set_item (m := encE y) W (by walk_at "pick") (by omega) (by simpa using hp) (by omega) (by assumption) ?_
      clear W; intro s W
      walk_at "go"
      refine ⟨(n - 1) / 2, by omega, (n - 1) / 2, hs'.set n y, rfl, by rw [List.length_set]; omega, by rw [List.length_set]; exact hl, ?_, ?_⟩
      · rw [← he]
        conv => rhs; rw [downP_eq]
        rw [if_pos (by omega), hd, if_pos (show eLt x y = true from eLt_eq x y ▸ hlt)]
      · rw [List.map_set]
        exact (W.subs (by walk_at "subs")).forget (by walk_at "lsub")
    · intro hlt
      walk_at "go"
      refine set_item (m := encE x) W (by walk_at "pick") (by omega) (by simpa using hp) (by omega) (by assumption) ?_
      clear W; intro s W
      walk_at "go"
      refine q s ?_
      have e : downP x hs pos = hs'.set n x := by
        rw [← he]
        conv => lhs; rw [downP_eq]
        rw [if_pos (by omega), hd, if_neg (show ¬ eLt x y = true by rw [show eLt x y = false from eLt_eq x y ▸ hlt]; decide)]
      rw [e, List.map_set]
      exact W.subs (by walk_at "subs")
  · intro hpos
    walk_at "go"
    refine set_item (m := encE x) W (by walk_at "pick") (by omega) (by simpa using hp) (by omega) (by assumption) ?_
    clear W; intro s W
    walk_at "go"
    refine q s ?_
    have e : downP x hs pos = hs'.set n x := by
      rw [← he]
      conv => lhs; rw [downP_eq]
      rw [if_neg (by omega)]
    rw [e, List.map_set]
    exact W.subs (by walk_at "subs")

-- P2


theorem downP_length (x : HE) (hs : List HE) (pos : Nat) : (downP x hs pos).length = hs.length := by
  induction pos using Nat.strongRecOn generalizing hs with
  | ind pos ih =>
    rw [downP_eq]
    split
    · split
      · rw [ih _ (by omega), List.length_set]
      · rw [List.length_set]
    · rw [List.length_set]

def upC (hs : List HE) (pos : Nat) : Nat :=
  if 2 * pos + 1 + 1 < hs.length && !eLt (hs.getD (2 * pos + 1) (0, [])) (hs.getD (2 * pos + 1 + 1) (0, [])) then 2 * pos + 1 + 1 else 2 * pos + 1
def upF : Nat → List HE → Nat → List HE × Nat
  | 0, hs, pos => (hs, pos)
  | f + 1, hs, pos => if 2 * pos + 1 < hs.length then upF f (hs.set pos (hs.getD (upC hs pos) (0, []))) (upC hs pos) else (hs, pos)
theorem upC_gt (hs : List HE) (pos : Nat) : pos < upC hs pos := by
  unfold upC
  split <;> omega
theorem upF_same : ∀ (f g : Nat) (hs : List HE) (pos : Nat), hs.length - pos ≤ f → hs.length - pos ≤ g → upF f hs pos = upF g hs pos
  | 0, 0, _, _, _, _ => rfl
  | 0, g + 1, _, _, h, _ => (if_neg (by omega)).symm
  | f + 1, 0, _, _, _, h => if_neg (by omega)
  | f + 1, g + 1, hs, pos, h1, h2 => by
    show ite _ _ _ = ite _ _ _
    have hu := upC_gt hs pos
    by_cases hp : 2 * pos + 1 < hs.length
    · rw [if_pos hp, if_pos hp, upF_same f g _ _ (by rw [List.length_set]; omega) (by rw [List.length_set]; omega)]
    · rw [if_neg hp, if_neg hp]
def upL (hs : List HE) (pos : Nat) : List HE × Nat := upF (hs.length - pos) hs pos
theorem upL_eq (hs : List HE) (pos : Nat) : upL hs pos = if 2 * pos + 1 < hs.length then upL (hs.set pos (hs.getD (upC hs pos) (0, []))) (upC hs pos) else (hs, pos) := by
  have hu := upC_gt hs pos
  by_cases hp : 2 * pos + 1 < hs.length
  · exact (upF_same _ (hs.length - pos - 1 + 1) hs pos (Nat.le_refl _) (by omega)).trans (by
      show ite _ _ _ = ite _ _ _
      rw [if_pos hp, if_pos hp, upL, upF_same (hs.length - pos - 1) ((hs.set pos (hs.getD (upC hs pos) (0, []))).length - upC hs pos) _ _ (by rw [List.length_set]; omega) (Nat.le_refl _)])
  · rw [if_neg hp]
    unfold upL
    cases hs.length - pos with
    | zero => rfl
    | succ f => exact if_neg hp
def upP (x : HE) (hs : List HE) : List HE := downP x ((upL hs 0).1.set (upL hs 0).2 x) (upL hs 0).2

theorem siftup_ok {w : World} {c : Cx} {Z : ZS} {s : Shared} {σ : Sg} {A : Around} {E : Value → Shared → Prop} {Q : Value → Shared → Prop} {l : Addr} {hs : List HE} {t : Tok} {x : HE}
    (hK : c.K = KK w.params) (W : W c Z s ((l, .list (hs.map encE)) :: σ)) (rm : Room 3 A) (hx : hs[0]? = some x) (hz : hs.length < 2 ^ 20)
    (q : ∀ s', Mine.W c Z s' ((l, .list ((upP x hs).map encE)) :: σ) → Q .none s') :
    wpAny (model P0 w) A (call (.ref 73) [.ref l, .int 0 t]) Q E s := by
  refine call_fn (n := 2) ["heap", "pos"] (bv := [.ref l, .int 0 t]) ["heap", "pos", "endpos", "startpos", "newitem", "childpos", "rightpos"] ["len", "_siftdown"] [some (.ref l), some (.int 0), none, none, none, none, none] W rm (by rw [hK]; k_is) (by rw [hK]; k_is) (BindsTo.of_eq rfl) (by decide +kernel) ?_ ?_
  · exact ⟨⟨_, rfl, .ref _⟩, ⟨_, rfl, .int _ _⟩, trivial⟩
  clear W s
  intro s L env A rm ev W
  have hlen : 0 < hs.length := (List.getElem?_eq_some_iff.mp hx).1
  walk_at "go"
  refine s_item (m := encE x) (by walk_at "lat") (by omega) (by omega) (lm (i := 0) hx) ?_
  walk_at "kv"
  walk_at "go"
  refine x_while (fun n s => ∃ (p : Nat) (hs' : List HE), n = hs'.length - p ∧ p < hs'.length ∧ hs'.length = hs.length ∧ upL hs' p = upL hs 0 ∧
    Mine.W c Z s ((L, .ns ["heap", "pos", "endpos", "startpos", "newitem", "childpos", "rightpos"] [some (.ref l), some (.int p), some (.int hs.length), some (.int 0), some (encE x), some (.int (2 * p + 1)), none]) :: (l, .list (hs'.map encE)) :: σ)) hs.length ⟨0, hs, rfl, hlen, rfl, rfl, by simpa using W⟩ ?_
  clear W s
  rintro n s ⟨p, hs', rfl, hp, hl, he, W⟩
  walk_at "gs"
  refine ite_dec ?_ ?_
  · intro hc
    have hc' : 2 * p + 1 < hs'.length := by omega
    walk_at "gs"
    have hC : upC hs' p < hs'.length ∧ p < upC hs' p := by
      unfold upC
      split
      · rename_i h; rw [Bool.and_eq_true, decide_eq_true_eq] at h; omega
      · omega
    refine mid (a := Flow.next) (fun s' => Mine.W c Z s' ((L, .ns ["heap", "pos", "endpos", "startpos", "newitem", "childpos", "rightpos"] [some (.ref l), some (.int p), some (.int hs.length), some (.int 0), some (encE x), some (.int (upC hs' p)), none]) :: (l, .list (hs'.map encE)) :: σ)) ?_ ?_
    · walk_at "go"
      refine ite_dec ?_ ?_
      · intro hr
        have hr' : 2 * p + 1 + 1 < hs'.length := by omega
        obtain ⟨y, hy⟩ : ∃ y, hs'[2 * p + 1]? = some y := ⟨_, List.getElem?_eq_getElem hc'⟩
        obtain ⟨z, hz'⟩ : ∃ z, hs'[2 * p + 1 + 1]? = some z := ⟨_, List.getElem?_eq_getElem hr'⟩
        have ey : hs'.getD (2 * p + 1) (0, []) = y := by simp [List.getD, hy]
        have ez : hs'.getD (2 * p + 1 + 1) (0, []) = z := by simp [List.getD, hz']
        walk_at "go"
        refine s_item (m := encE y) (by walk_at "lat") (by omega) (by omega) (lm (i := 2 * p + 1) hy) ?_
        walk_at "kv"
        walk_at "go"
        refine s_item (m := encE z) (by walk_at "lat") (by omega) (by omega) (lm (i := 2 * p + 1 + 1) hz') ?_
        walk_at "kv"
        walk_at "go"
        refine ite_b ?_ ?_
        · intro hlt
          walk_at "go"
          refine ⟨rfl, ?_⟩
          have e : upC hs' p = 2 * p + 1 + 1 := by
            unfold upC
            rw [ey, ez, decide_eq_true hr', show eLt y z = false from by rw [← eLt_eq]; simpa using hlt]; rfl
          rw [e]
          exact (W.subs (by walk_at "subs")).forget (by walk_at "lsub")
        · intro hlt
          walk_at "go"
          refine ⟨rfl, ?_⟩
          have e : upC hs' p = 2 * p + 1 := by
            unfold upC
            rw [ey, ez, show eLt y z = true from by rw [← eLt_eq]; simpa using hlt, Bool.not_true, Bool.and_false]; rfl
          rw [e]
          exact (W.subs (by walk_at "subs")).forget (by walk_at "lsub")
      · intro hr
        walk_at "go"
        refine ⟨rfl, ?_⟩
        have e : upC hs' p = 2 * p + 1 := by
          unfold upC
          rw [decide_eq_false (by omega), Bool.false_and]; rfl
        rw [e]
        exact (W.subs (by walk_at "subs")).forget (by walk_at "lsub")
    clear W s
    intro s W
    obtain ⟨y, hy⟩ : ∃ y, hs'[upC hs' p]? = some y := ⟨_, List.getElem?_eq_getElem hC.1⟩
    have ey : hs'.getD (upC hs' p) (0, []) = y := by simp [List.getD, hy]
    walk_at "go"
    refine s_item (m := encE y) (by walk_at "lat") (by omega) (by omega) (lm hy) ?_
    walk_at "kv"
    walk_at "go"
    refine set_item (m := encE y) W (by walk_at "pick") (by omega) (by simpa using hp) (by omega) (by assumption) ?_
    clear W; intro s W
    walk_at "go"
    refine ⟨hs'.length - upC hs' p, by omega, upC hs' p, hs'.set p y, by rw [List.length_set], by rw [List.length_set]; exact hC.1, by rw [List.length_set]; exact hl, ?_, ?_⟩
    · rw [← he]
      conv => rhs; rw [upL_eq]
      rw [if_pos hc', ey]
    · rw [List.map_set]
      exact (W.subs (by walk_at "subs")).forget (by walk_at "lsub")
  · intro hc
    walk_at "go"
    refine set_item (m := encE x) W (by walk_at "pick") (by omega) (by simpa using hp) (by omega) (by assumption) ?_
    clear W; intro s W
    walk_at "go"
    have W' := W.pick (a := l) (by walk_at "pick")
    refine siftdown_ok (x := x) (hs := hs'.set p x) hK (by rw [List.map_set]; exact W') (rm.le (by decide)) (List.getElem?_set_self hp) (by rw [List.length_set]; omega) ?_
    clear W W' s
    intro s W
    walk_at "go"
    refine q s ?_
    have e : upL hs 0 = (hs', p) := by
      rw [← he]
      rw [upL_eq, if_neg (by omega)]
    unfold upP
    rw [e]
    exact W.subs (by walk_at "subs")

-- P3


def pushP (x : HE) (hs : List HE) : List HE := downP x (hs ++ [x]) hs.length
def replP (x : HE) (hs : List HE) : List HE := upP x (hs.set 0 x)
/-- the list without its last, the last known -/
def popP (hs : List HE) (last : HE) : List HE := match hs with
  | [] => []
  | _ :: _ => upP last (hs.set 0 last)

theorem heappush_ok {w : World} {c : Cx} {Z : ZS} {s : Shared} {σ : Sg} {A : Around} {E : Value → Shared → Prop} {Q : Value → Shared → Prop} {l b : Addr} {hs : List HE} {x : HE}
    (hK : c.K = KK w.params) (W : W c Z s ((l, .list (hs.map encE)) :: σ)) (rm : Room 3 A) (hv : VR Z (encE x) (.ref b)) (hz : hs.length < 2 ^ 19)
    (q : ∀ s', Mine.W c Z s' ((l, .list ((pushP x hs).map encE)) :: σ) → Q .none s') :
    wpAny (model P0 w) A (call (.ref 45) [.ref l, .ref b]) Q E s := by
  refine call_fn (n := 2) ["heap", "item"] (bv := [.ref l, .ref b]) ["heap", "item"] ["_siftdown", "len"] [some (.ref l), some (encE x)] W rm (by rw [hK]; k_is) (by rw [hK]; k_is) (BindsTo.of_eq rfl) (by decide +kernel) ?_ ?_
  · exact ⟨⟨_, rfl, .ref _⟩, ⟨_, rfl, hv⟩, trivial⟩
  clear W s hv b
  intro s L env A rm ev W
  walk_at "go"
  have e : (((hs.map encE ++ [encE x]).length : Nat) : Int) - 1 = (hs.length : Int) := by simp
  rw [e]
  have W' := W.pick (a := l) (by walk_at "pick")
  refine siftdown_ok (x := x) (hs := hs ++ [x]) hK (by rw [List.map_append]; exact W') (rm.le (by decide)) (by simp) (by simp; omega) ?_
  clear W W' s
  intro s W
  walk_at "go"
  refine q s ?_
  unfold pushP
  exact W.subs (by walk_at "subs")

theorem heapreplace_ok {w : World} {c : Cx} {Z : ZS} {s : Shared} {σ : Sg} {A : Around} {E : Value → Shared → Prop} {Q : Value → Shared → Prop} {l b : Addr} {hs : List HE} {x y : HE}
    (hK : c.K = KK w.params) (W : W c Z s ((l, .list (hs.map encE)) :: σ)) (rm : Room 4 A) (hv : VR Z (encE x) (.ref b)) (hy : hs[0]? = some y) (hz : hs.length < 2 ^ 19)
    (q : ∀ s' v, Mine.W c Z s' ((l, .list ((replP x hs).map encE)) :: σ) → VR Z (encE y) v → Q v s') :
    wpAny (model P0 w) A (call (.ref 59) [.ref l, .ref b]) Q E s := by
  refine call_fn (n := 3) ["heap", "item"] (bv := [.ref l, .ref b]) ["heap", "item", "returnitem"] ["_siftup"] [some (.ref l), some (encE x), none] W rm (by rw [hK]; k_is) (by rw [hK]; k_is) (BindsTo.of_eq rfl) (by decide +kernel) ?_ ?_
  · exact ⟨⟨_, rfl, .ref _⟩, ⟨_, rfl, hv⟩, trivial⟩
  clear W s hv b
  intro s L env A rm ev W
  have hlen : 0 < hs.length := (List.getElem?_eq_some_iff.mp hy).1
  walk_at "go"
  refine s_item (m := encE y) (by walk_at "lat") (by omega) (by omega) (lm (i := 0) hy) ?_
  walk_at "kv"
  walk_at "go"
  refine set_item (m := encE x) W (by walk_at "pick") (by omega) (by simpa using hlen) (by omega) (by assumption) ?_
  clear W; intro s W
  walk_at "go"
  have W' := W.pick (a := l) (by walk_at "pick")
  refine siftup_ok (x := x) (hs := hs.set 0 x) hK (by rw [List.map_set]; exact W') (rm.le (by decide)) (List.getElem?_set_self hlen) (by rw [List.length_set]; omega) ?_
  clear W W' s
  intro s W
  walk_at "go"
  refine q s _ ?_ (by assumption)
  unfold replP
  exact W.subs (by walk_at "subs")

theorem heappop_ok {w : World} {c : Cx} {Z : ZS} {s : Shared} {σ : Sg} {A : Around} {E : Value → Shared → Prop} {Q : Value → Shared → Prop} {l : Addr} {hs : List HE} {x y : HE}
    (hK : c.K = KK w.params) (W : W c Z s ((l, .list ((hs ++ [x]).map encE)) :: σ)) (rm : Room 4 A) (hy : (hs ++ [x])[0]? = some y) (hz : hs.length < 2 ^ 19)
    (q : ∀ s' v, Mine.W c Z s' ((l, .list ((popP hs x).map encE)) :: σ) → VR Z (encE y) v → Q v s') :
    wpAny (model P0 w) A (call (.ref 52) [.ref l]) Q E s := by
  refine call_fn (n := 3) ["heap"] (bv := [.ref l]) ["heap", "lastelt", "returnitem"] ["_siftup"] [some (.ref l), none, none] W rm (by rw [hK]; k_is) (by rw [hK]; k_is) (BindsTo.of_eq rfl) (by decide +kernel) ?_ ?_
  · exact ⟨⟨_, rfl, .ref _⟩, trivial⟩
  rw [List.map_append] at W
  clear W s
  intro s L env A rm ev W
  rw [List.map_append] at W
  walk_at "go"
  refine pop_c (l := hs.map encE) (m := encE x) W (by walk_at "pick") (by rw [List.length_map]; omega) ?_
  clear W; intro s v W hv; walk_at "vri"
  walk_at "go"
  refine ite_b ?_ ?_
  · intro hne
    cases hs with
    | nil => cases hne
    | cons z r =>
    have hzy : z = y := by simpa using hy
    subst hzy
    walk_at "go"
    try (refine s_item (m := encE z) (by walk_at "lat") (by omega) (by omega) (lm (i := 0) rfl) ?_; walk_at "kv")
    walk_at "go"
    refine set_item (m := encE x) W (by walk_at "pick") (by omega) (by simp) (by omega) (by assumption) ?_
    clear W; intro s W
    walk_at "go"
    have W' := W.pick (a := l) (by walk_at "pick")
    refine siftup_ok (x := x) (hs := (z :: r).set 0 x) hK (by rw [List.map_set]; exact W') (rm.le (by decide)) rfl (by rw [List.length_set]; omega) ?_
    clear W W' s
    intro s W
    walk_at "go"
    refine q s _ ?_ (by assumption)
    unfold popP
    exact W.subs (by walk_at "subs")
  · intro he
    cases hs with
    | cons z r => cases he
    | nil =>
    have hzy : x = y := by simpa using hy
    subst hzy
    walk_at "go"
    refine q s _ ?_ (by assumption)
    unfold popP
    exact W.subs (by walk_at "subs")

-- P4



def encI (r : List Int) : MV := .lst (r.map .int)
def atI (r : List Int) (j : Int) : Int := r.getD j.toNat 0
def countP (rows : List (List Int)) (i j : Int) : Int := ((rows.filter fun r => decide (i < atI r j)).length : Nat)
def cnts (rows : List (List Int)) : List Int := [0, 1, 2].flatMap fun i => [0, 1, 2].map fun j => countP rows i j
def thirdOk (rows : List (List Int)) (n : Int) : Bool := decide ((rows.length : Int) ≤ 3 * n) && decide (3 * n ≤ 2 * (rows.length : Int))
def thirdP (rows : List (List Int)) : Bool :=
  !((cnts rows).filter (thirdOk rows)).isEmpty

theorem atI_get {r : List Int} {j : Int} (h0 : 0 ≤ j) (h : j < (r.length : Int)) : (r.map MV.int)[j.toNat]? = some (.int (atI r j)) := by
  have hlt : j.toNat < r.length := by omega
  rw [List.getElem?_map, List.getElem?_eq_getElem hlt]
  unfold atI
  rw [List.getD_eq_getElem?_getD, List.getElem?_eq_getElem hlt]; rfl

theorem cnt_len {f : Int → Int → Int} {i j : Nat} (hi : i < 3) (hj : j < 3) : (((nums 0 3).take i).flatMap (fun i => (nums 0 3).map fun j => MV.int (f i j)) ++ ((nums 0 3).map fun j => MV.int (f (0 + i) j)).take j).length < 2 ^ 20 := by
  have h1 : i = 0 ∨ i = 1 ∨ i = 2 := by omega
  have h2 : j = 0 ∨ j = 1 ∨ j = 2 := by omega
  rcases h1 with rfl | rfl | rfl <;> rcases h2 with rfl | rfl | rfl <;> exact Nat.lt_of_le_of_lt (m := 9) (Nat.le_of_ble_eq_true rfl) (by decide)

theorem third_ok {w : World} {c : Cx} {Z : ZS} {s : Shared} {σ : Sg} {A : Around} {E : Value → Shared → Prop} {Q : Value → Shared → Prop} {a : Addr} {rows : List (List Int)}
    (hK : c.K = KK w.params) (W : W c Z s σ) (rm : Room 3 A) (hv : VR Z (.lst (rows.map encI)) (.ref a)) (hr : ∀ r ∈ rows, r.length = 3) (hz : rows.length < 2 ^ 10)
    (q : ∀ Z' s', Z.le Z' → Mine.W c Z' s' σ → Q (.bool (thirdP rows)) s') :
    wpAny (model P0 w) A (call (.ref 333) [.ref a]) Q E s := by
  refine call_fnC (n := 2) ["rows"] (bv := [.ref a]) ["counts"] ["rows"] ["range"] W rm (by rw [hK]; k_is) (by rw [hK]; k_is) (BindsTo.of_eq rfl) (by decide +kernel) ?_
  clear W s rm
  intro L a1 env ev own s W A
  walk_at "go"
  intro A rm
  walk_at "gs"
  refine x_compA2 (c := c) [("rows", a1)] ["rows"] ["i", "j"] [] ["range", "len"] rm.h ev (by walk_at "mem") (by decide +kernel) (by decide +kernel) (by walk_at "fl") ?_
  walk_at "gs"
  refine c_range W (by decide) (by decide) (by decide) (by decide) (CompK.const ?_)
  intro C acc ai aj cenv ev2 own2
  refine ⟨fun i => ((nums 0 3).take i).flatMap fun i => (nums 0 3).map fun j => MV.int (countP rows i j), rfl, ?_, ?_⟩
  · intro i m Z₂ s v I P hm hz₂ hv₂ W
    obtain ⟨hi, rfl⟩ := rangeL_get hm
    obtain ⟨t, rfl⟩ := hv₂.int_inv
    clear hv₂ hm
    walk_at "gs"
    refine x_inner1 (c := c) rm.h ?_
    walk_at "gs"
    have x3 : (nums 0 3)[i]? = some (0 + (i : Int)) := nums_get (n := 3) hi
    refine d_rangeC (C := C) (cv := []) (lv := []) (l := fun j => (((nums 0 3).take i).flatMap fun i => (nums 0 3).map fun j => MV.int (countP rows i j)) ++ ((nums 0 3).map fun j => MV.int (countP rows (0 + i) j)).take j)
      (σ₁ := (aj, .obj isCellP) :: (ai, .cell (some (.int (0 + i)))) :: (I, .obj P) :: (a1, .cell (some (.lst (rows.map encI)))) :: (L, .ns ["counts"] [none]) :: σ)
      W (by walk_at "weak") (by simp) (by decide) (by decide) (by decide) (by decide) ?_ ?_
    · clear W s
      intro j m Z₃ s v I₂ P₂ hm hz₃ hv₃ W
      obtain ⟨hj, rfl⟩ := rangeL_get hm
      obtain ⟨t, rfl⟩ := hv₃.int_inv
      clear hv₃ hm
      have y3 : (nums 0 3)[j]? = some (0 + (j : Int)) := nums_get (n := 3) hj
      walk_at "gs"
      refine x_comp1 (c := c) [("i", ai), ("j", aj)] ["i", "j"] [] ["row"] [] rm.h ev2 (by decide +kernel) (by walk_at "fl") ?_
      walk_at "gs"
      refine c_list W (by assumption) (CompK.const ?_)
      intro C₂ acc₂ cenv₂ ev3 own3
      refine ⟨keepL (fun r => decide (0 + (i : Int) < atI r (0 + (j : Int)))) (fun _ => .int 1) rows, keepL_0, ?_, ?_⟩
      · clear W s
        intro n m Z₄ s v I₃ P₃ hm hz₄ hv W
        obtain ⟨r, hrn, rfl⟩ := mapL_get hm
        have hr3 := hr r (List.mem_of_getElem? hrn)
        unfold encI at hv
        walk_at "vri"
        walk_at "gs"
        refine s_item (m := .int (atI r (0 + (j : Int)))) (by walk_at "lat") (by omega) (by omega) (atI_get (by omega) (by omega)) ?_
        walk_at "kv"
        walk_at "gs"
        refine ite_dec ?_ ?_
        · intro hlt
          walk_at "gs"
          walk_at "ce"
          exact (keepL_T (p := fun r => decide (0 + (i : Int) < atI r (0 + (j : Int)))) hrn (decide_eq_true hlt)).symm
        · intro hlt
          walk_at "ce"
          exact (keepL_F (p := fun r => decide (0 + (i : Int) < atI r (0 + (j : Int)))) hrn (decide_eq_false hlt)).symm
      · clear W s
        intro Z₄ s hz₄ W
        rw [keepL_all (by rw [List.length_map])] at W
        refine fin_frz W ?_
        clear W s
        intro Z₅ s hz₅ hv W
        have hcl := cnt_len (f := countP rows) hi hj
        have hlen := List.length_filter_le (fun r => decide (0 + (i : Int) < atI r (0 + (j : Int)))) rows
        walk_at "gs"
        have hz₆ := hz₃.trans (hz₄.trans hz₅)
        walk_at "ce"
        rw [take_mapS y3, List.length_map, List.append_assoc]
        rfl
    · clear W s
      intro Z₃ s hz₃ W
      rw [show (rangeL 0 ((3 : Int) - 0).toNat).length = 3 from rfl] at W
      have hz₆ := hz₂.trans hz₃
      walk_at "ce"
      rw [take_flat x3]; rfl
  · clear W s
    intro Z₂ s hz₂ W
    rw [show (rangeL 0 ((3 : Int) - 0).toNat).length = 3 from rfl] at W
    have e : (((nums 0 3).take 3).flatMap fun i => (nums 0 3).map fun j => MV.int (countP rows i j)) = (cnts rows).map .int := rfl
    dsimp only at W
    rw [e] at W
    refine fin_use W ev (by walk_at "pick") (by walk_at "lset") ?_
    clear W s
    intro Z₃ s hz₃ W
    walk_at "gs"
    refine x_comp1 (c := c) [("rows", a1)] ["rows"] [] ["count"] ["len"] rm.h ev (by decide +kernel) (by walk_at "fl") ?_
    walk_at "gs"
    refine c_list W (by assumption) (CompK.const ?_)
    intro C₂ acc₂ cenv₂ ev3 own3
    refine ⟨keepL (thirdOk rows) .int (cnts rows), keepL_0, ?_, ?_⟩
    · clear W s
      intro n m Z₄ s v I₃ P₃ hm hz₄ hv W
      obtain ⟨r, hrn, rfl⟩ := mapL_get hm
      walk_at "vri"
      have hcl : (keepL (thirdOk rows) MV.int (cnts rows) n).length < 2 ^ 20 := Nat.lt_of_le_of_lt keepL_le (Nat.lt_of_le_of_lt (m := 9) (Nat.le_of_ble_eq_true rfl) (by decide))
      walk_at "gs"
      refine ite_dec ?_ ?_
      · intro hlt
        walk_at "gs"
        refine ite_dec ?_ ?_
        · intro hlt2
          walk_at "gs"
          walk_at "ce"
          exact (keepL_T hrn (by unfold thirdOk; simp at hlt hlt2 ⊢; omega)).symm
        · intro hlt2
          walk_at "ce"
          exact (keepL_F hrn (by unfold thirdOk; simp at hlt hlt2 ⊢; omega)).symm
      · intro hlt
        walk_at "gs"
        walk_at "ce"
        exact (keepL_F hrn (by unfold thirdOk; simp at hlt ⊢; omega)).symm
    · clear W s
      intro Z₄ s hz₄ W
      rw [keepL_all (by rw [List.length_map])] at W
      refine fin_frz W ?_
      clear W s
      intro Z₅ s hz₅ hv W
      walk_at "gs"
      refine c_ne0 rm.units (by walk_at "lat") (by walk_at "lat") ?_
      have e : thirdP rows = !(((cnts rows).filter (thirdOk rows)).map MV.int).isEmpty := by unfold thirdP; rw [List.isEmpty_map]
      rw [← e]
      refine q Z₅ s (hz₂.trans (hz₃.trans (hz₄.trans hz₅))) (W.weak (by walk_at "weak"))

-- P5



def prs : List (Int × Int) := [(0, 1), (0, 2), (1, 2)]
def encP (p : Int × Int) : MV := .tup [.int p.1, .int p.2]
def gtF (i j : Int) (r : List Int) : Bool := decide (i < atI r j)
def helpOk (rows : List (List Int)) (p q : Int × Int) : Bool :=
  !decide (((((rows.filter (gtF p.1 q.1)).filter (gtF p.2 q.2)).length : Nat) : Int) * ((rows.length : Nat) : Int) < (((rows.filter (gtF p.1 q.1)).length : Nat) : Int) * (((rows.filter (gtF p.2 q.2)).length : Nat) : Int))
def helpP (rows : List (List Int)) : Bool := prs.all fun p => prs.all fun q => helpOk rows p q

theorem prs_ok (p : Int × Int) (h : p ∈ prs) : 0 ≤ p.1 ∧ p.1 < 3 ∧ 0 ≤ p.2 ∧ p.2 < 3 := by
  unfold prs at h
  simp only [List.mem_cons, List.not_mem_nil, or_false] at h
  rcases h with rfl | rfl | rfl <;> decide

theorem help_ok {w : World} {c : Cx} {Z : ZS} {s : Shared} {σ : Sg} {A : Around} {E : Value → Shared → Prop} {Q : Value → Shared → Prop} {a : Addr} {rows : List (List Int)}
    (hK : c.K = KK w.params) (W : W c Z s σ) (rm : Room 3 A) (hv : VR Z (.lst (rows.map encI)) (.ref a)) (hr : ∀ r ∈ rows, r.length = 3) (hz : rows.length < 2 ^ 10) (hp : helpP rows = true)
    (q : ∀ Z' s', Z.le Z' → Mine.W c Z' s' σ → Q (.bool true) s') :
    wpAny (model P0 w) A (call (.ref 338) [.ref a]) Q E s := by
  refine call_fnC (n := 2) ["rows"] (bv := [.ref a]) ["rows", "one", "other", "both"] ["i", "k", "j", "m"] ["len"] W rm (by rw [hK]; k_is) (by rw [hK]; k_is) (BindsTo.of_eq rfl) (by decide +kernel) ?_
  clear W s rm
  intro L ai ak aj am env ev own s W A
  walk_at "go"
  intro A rm
  walk_at "gs"
  refine x_forT (c := c) rm.h ?_
  walk_at "gs"
  obtain ⟨Z₁, hz₁, W, hl⟩ := W.fz (by walk_at "pick")
  refine fn_listT (xs := prs.map encP) W hl (by intro m hm; obtain ⟨p, _, rfl⟩ := List.mem_map.mp hm; exact ⟨_, rfl⟩)
    (σ₁ := fun _ => (am, .obj isCellP) :: (aj, .obj isCellP) :: (ak, .obj isCellP) :: (ai, .obj isCellP) :: (L, .ns ["rows", "one", "other", "both"] [some (.lst (rows.map encI)), none, none, none]) :: σ) (by walk_at "weak") ?_ ?_
  · skip
    intro n m Z₂ s v I P hm hz₂ hv W
    obtain ⟨p₁, hp₁, rfl⟩ := mapL_get hm
    unfold encP at hv
    walk_at "vri"
    walk_at "gs"
    refine x_forT (c := c) rm.h ?_
    walk_at "gs"
    obtain ⟨Z₃, hz₃, W, hl⟩ := W.fz (by walk_at "pick")
    refine fn_listT (xs := prs.map encP) W hl (by intro m hm; obtain ⟨p, _, rfl⟩ := List.mem_map.mp hm; exact ⟨_, rfl⟩)
      (σ₁ := fun _ => (am, .obj isCellP) :: (aj, .obj isCellP) :: (ak, .cell (some (.int p₁.2))) :: (ai, .cell (some (.int p₁.1))) :: (I, .obj P) :: (L, .ns ["rows", "one", "other", "both"] [some (.lst (rows.map encI)), none, none, none]) :: σ) (by walk_at "weak") ?_ ?_
    · skip
      intro n₂ m Z₄ s v I₂ P₂ hm hz₄ hv W
      obtain ⟨p₂, hp₂, rfl⟩ := mapL_get hm
      have b1 := prs_ok p₁ (List.mem_of_getElem? hp₁)
      have b2 := prs_ok p₂ (List.mem_of_getElem? hp₂)
      unfold encP at hv
      walk_at "vri"
      walk_at "gs"
      refine x_compA1 (c := c) [("i", ai), ("j", aj)] ["i", "j"] [] ["row"] [] rm.h ev (by walk_at "mem") (by decide +kernel) (by decide +kernel) (by walk_at "fl") ?_
      walk_at "gs"
      refine c_list (xs := rows.map encI) W (by assumption) (CompK.const ?_)
      intro C acc cenv ev2 own2
      refine ⟨keepL (gtF p₁.1 p₂.1) encI rows, keepL_0, ?_, ?_⟩
      · intro n m Z₄ s v I₃ P₃ hm hz₄ hv W
        obtain ⟨r, hrn, rfl⟩ := mapL_get hm
        have hr3 := hr r ( (List.mem_of_getElem? hrn))
        have hle := keepL_le (p := gtF p₁.1 p₂.1) (f := encI) (xs := rows) (i := n)
        have hlx := hz
        unfold encI at hv
        walk_at "vri"
        walk_at "gs"
        refine s_item (m := .int (atI r p₂.1)) (by walk_at "lat") (b2.1) (by have := b2; omega) (atI_get (b2.1) (by have := b2; omega)) ?_
        walk_at "kv"
        walk_at "gs"
        refine ite_dec ?_ ?_
        · intro hlt
          walk_at "gs"
          walk_at "ce"
          exact (keepL_T hrn (decide_eq_true hlt)).symm
        · intro hlt
          walk_at "ce"
          exact (keepL_F hrn (decide_eq_false hlt)).symm
      · intro Z₄ s hz₄ W
        rw [keepL_all (by rw [List.length_map])] at W
        refine fin_use W ev (by walk_at "pick") (by walk_at "lset") ?_
        intro Z₅ s hz₅ W
        walk_at "gs"
        refine x_compA1 (c := c) [("k", ak), ("m", am)] ["k", "m"] [] ["row"] [] rm.h ev (by walk_at "mem") (by decide +kernel) (by decide +kernel) (by walk_at "fl") ?_
        walk_at "gs"
        refine c_list (xs := rows.map encI) W (by assumption) (CompK.const ?_)
        intro C acc cenv ev2 own2
        refine ⟨keepL (gtF p₁.2 p₂.2) encI rows, keepL_0, ?_, ?_⟩
        · intro n m Z₄ s v I₃ P₃ hm hz₄ hv W
          obtain ⟨r, hrn, rfl⟩ := mapL_get hm
          have hr3 := hr r ( (List.mem_of_getElem? hrn))
          have hle := keepL_le (p := gtF p₁.2 p₂.2) (f := encI) (xs := rows) (i := n)
          have hlx := hz
          unfold encI at hv
          walk_at "vri"
          walk_at "gs"
          refine s_item (m := .int (atI r p₂.2)) (by walk_at "lat") (b2.2.2.1) (by have := b2; omega) (atI_get (b2.2.2.1) (by have := b2; omega)) ?_
          walk_at "kv"
          walk_at "gs"
          refine ite_dec ?_ ?_
          · intro hlt
            walk_at "gs"
            walk_at "ce"
            exact (keepL_T hrn (decide_eq_true hlt)).symm
          · intro hlt
            walk_at "ce"
            exact (keepL_F hrn (decide_eq_false hlt)).symm
        · intro Z₄ s hz₄ W
          rw [keepL_all (by rw [List.length_map])] at W
          refine fin_use W ev (by walk_at "pick") (by walk_at "lset") ?_
          intro Z₆ s hz₆ W
          walk_at "gs"

          refine x_compA1 (c := c) [("k", ak), ("m", am)] ["k", "m"] [] ["row"] [] rm.h ev (by walk_at "mem") (by decide +kernel) (by decide +kernel) (by walk_at "fl") ?_
          walk_at "gs"
          refine c_list (xs := (rows.filter (gtF p₁.1 p₂.1)).map encI) W (by assumption) (CompK.const ?_)
          intro C acc cenv ev2 own2
          refine ⟨keepL (gtF p₁.2 p₂.2) encI (rows.filter (gtF p₁.1 p₂.1)), keepL_0, ?_, ?_⟩
          · intro n m Z₄ s v I₃ P₃ hm hz₄ hv W
            obtain ⟨r, hrn, rfl⟩ := mapL_get hm
            have hr3 := hr r (List.mem_filter.mp (List.mem_of_getElem? hrn)).1
            have hle := keepL_le (p := gtF p₁.2 p₂.2) (f := encI) (xs := (rows.filter (gtF p₁.1 p₂.1))) (i := n)
            have hlx := List.length_filter_le (gtF p₁.1 p₂.1) rows
            unfold encI at hv
            walk_at "vri"
            walk_at "gs"
            refine s_item (m := .int (atI r p₂.2)) (by walk_at "lat") (b2.2.2.1) (by have := b2; omega) (atI_get (b2.2.2.1) (by have := b2; omega)) ?_
            walk_at "kv"
            walk_at "gs"
            refine ite_dec ?_ ?_
            · intro hlt
              walk_at "gs"
              walk_at "ce"
              exact (keepL_T hrn (decide_eq_true hlt)).symm
            · intro hlt
              walk_at "ce"
              exact (keepL_F hrn (decide_eq_false hlt)).symm
          · intro Z₄ s hz₄ W
            rw [keepL_all (by rw [List.length_map])] at W
            refine fin_use W ev (by walk_at "pick") (by walk_at "lset") ?_
            intro Z₇ s hz₇ W
            walk_at "gs"

            have l1 := List.length_filter_le (gtF p₁.1 p₂.1) rows
            have l2 := List.length_filter_le (gtF p₁.2 p₂.2) rows
            have l3 := List.length_filter_le (gtF p₁.2 p₂.2) (rows.filter (gtF p₁.1 p₂.1))
            have m0 : (rows.map encI).length = rows.length := List.length_map ..
            have m1 : ((rows.filter (gtF p₁.1 p₂.1)).map encI).length = (rows.filter (gtF p₁.1 p₂.1)).length := List.length_map ..
            have m2 : ((rows.filter (gtF p₁.2 p₂.2)).map encI).length = (rows.filter (gtF p₁.2 p₂.2)).length := List.length_map ..
            have m3 : (((rows.filter (gtF p₁.1 p₂.1)).filter (gtF p₁.2 p₂.2)).map encI).length = ((rows.filter (gtF p₁.1 p₂.1)).filter (gtF p₁.2 p₂.2)).length := List.length_map ..
            walk_at "go"
            refine ite_dec ?_ ?_
            · intro hlt
              exfalso
              rw [m0, m1, m2, m3] at hlt
              unfold helpP at hp
              have h2 := List.all_eq_true.mp (List.all_eq_true.mp hp p₁ (List.mem_of_getElem? hp₁)) p₂ (List.mem_of_getElem? hp₂)
              unfold helpOk at h2
              rw [decide_eq_true hlt] at h2
              cases h2
            · intro hlt
              walk_at "gs"
              walk_at "te"
    · intro Z₄ s hz₄ W
      walk_at "gs"
      walk_at "te"
  · intro Z₂ s hz₂ W
    walk_at "gs"
    exact q Z₂ s (by walk_at "zle") (W.weak (by walk_at "weak"))

-- P6



def below (i : Int) (r : List Int) : Int := ((r.filter fun x => decide (x ≤ i)).length : Nat)
def placesA (rows : List (List Int)) : List (List Int) := (nums 0 3).map fun j => rows.map fun r => atI r j
def placesB (rows : List (List Int)) : List (List Int) := (nums 0 3).map fun i => rows.map fun r => below i r
def cntL (found : List Int) : List Int := (nums 0 4).map fun k => ((found.count k : Nat) : Int)
def cntAt (found : List Int) (k : Int) : Int := ((found.count k : Nat) : Int)
def topOk (found : List Int) : Bool := [1, 2].all fun k => !decide (cntAt found k * cntAt found k < cntAt found (k - 1) * cntAt found (k + 1))
def topP (rows : List (List Int)) : Bool := (placesA rows ++ placesB rows).all topOk

theorem cntL_get {found : List Int} {k : Int} (h0 : 0 ≤ k) (h : k < 4) : ((cntL found).map MV.int)[k.toNat]? = some (.int (cntAt found k)) := by
  obtain ⟨n, rfl⟩ := Int.eq_ofNat_of_zero_le h0
  unfold cntL
  rw [List.getElem?_map, List.getElem?_map, Int.toNat_natCast, nums_get (by omega)]
  simp [cntAt]

theorem pl_len {rows : List (List Int)} : ∀ f ∈ placesA rows ++ placesB rows, f.length = rows.length := by
  intro f hf
  rcases List.mem_append.mp hf with h | h <;> (obtain ⟨_, _, rfl⟩ := List.mem_map.mp h; exact List.length_map ..)
theorem cntAt_le {f : List Int} {k : Int} : 0 ≤ cntAt f k ∧ cntAt f k ≤ (f.length : Int) := by
  unfold cntAt
  have := List.count_le_length (a := k) (l := f)
  omega

theorem top_ok {w : World} {c : Cx} {Z : ZS} {s : Shared} {σ : Sg} {A : Around} {E : Value → Shared → Prop} {Q : Value → Shared → Prop} {a : Addr} {rows : List (List Int)}
    (hK : c.K = KK w.params) (W : W c Z s σ) (rm : Room 3 A) (hv : VR Z (.lst (rows.map encI)) (.ref a)) (hr : ∀ r ∈ rows, r.length = 3) (hz : rows.length < 2 ^ 10) (hp : topP rows = true)
    (q : ∀ Z' s', Z.le Z' → Mine.W c Z' s' σ → Q (.bool true) s') :
    wpAny (model P0 w) A (call (.ref 343) [.ref a]) Q E s := by
  refine call_fnC (n := 2) ["rows"] (bv := [.ref a]) ["places", "k", "counts"] ["rows", "i", "found"] ["range"] W rm (by rw [hK]; k_is) (by rw [hK]; k_is) (BindsTo.of_eq rfl) (by decide +kernel) ?_
  clear W s rm
  intro L a1 ai af env ev own s W A
  walk_at "go"
  intro A rm
  walk_at "gs"
  refine x_compA1 (c := c) [("rows", a1)] ["rows"] ["j"] [] [] rm.h ev (by walk_at "mem") (by decide +kernel) (by decide +kernel) (by walk_at "fl") ?_
  walk_at "gs"
  refine c_range W (by decide) (by decide) (by decide) (by decide) (CompK.const ?_)
  intro C acc aj cenv ev2 own2
  refine ⟨fun i => ((nums 0 3).take i).map fun j => encI (rows.map fun r => atI r j), rfl, ?_, ?_⟩
  · intro i m Z₂ s v I P hm hz₂ hv₂ W
    obtain ⟨hi, rfl⟩ := rangeL_get hm
    obtain ⟨t, rfl⟩ := hv₂.int_inv
    have x3 : (nums 0 3)[i]? = some (0 + (i : Int)) := nums_get (n := 3) hi
    walk_at "gs"
    refine x_comp1 (c := c) [("j", aj)] ["j"] [] ["row"] [] rm.h ev2 (by decide +kernel) (by walk_at "fl") ?_
    walk_at "gs"
    refine c_list (xs := rows.map encI) W (by assumption) (CompK.const ?_)
    intro C₂ acc₂ cenv₂ ev3 own3
    refine ⟨fun n => (rows.map fun r => MV.int (atI r (0 + (i : Int)))).take n, rfl, ?_, ?_⟩
    · intro n m Z₃ s v I₃ P₃ hm hz₃ hv W
      obtain ⟨r, hrn, rfl⟩ := mapL_get hm
      have hr3 := hr r (List.mem_of_getElem? hrn)
      have e1 := atI_get (r := r) (j := 0 + (i : Int)) (by omega) (by omega)
      have hcl : ((rows.map fun r => MV.int (atI r (0 + (i : Int)))).take n).length < 2 ^ 20 := by rw [List.length_take, List.length_map]; omega
      unfold encI at hv
      walk_at "vri"
      walk_at "gs"
      walk_at "ce"
      exact (take_mapS hrn).symm
    · intro Z₃ s hz₃ W
      dsimp only at W
      rw [List.length_map, List.take_of_length_le (by rw [List.length_map]; exact Nat.le_refl _)] at W
      refine fin_frz W ?_
      intro Z₄ s hz₄ hv W
      have hcl : (((nums 0 3).take i).map fun j => encI (rows.map fun r => atI r j)).length < 2 ^ 20 := by rw [List.length_map, List.length_take]; omega
      have hv' : VR Z₄ (encI (rows.map fun r => atI r (0 + (i : Int)))) (.ref acc₂) := by unfold encI; rw [List.map_map]; exact hv
      clear hv
      walk_at "gs"
      walk_at "ce"
      rw [List.take_add_one, x3, List.map_append]; rfl
  · intro Z₂ s hz₂ W
    dsimp only at W
    rw [show (rangeL 0 ((3 : Int) - 0).toNat).length = 3 from rfl, show ((nums 0 3).take 3).map (fun j => encI (rows.map fun r => atI r j)) = (placesA rows).map encI by unfold placesA; rw [List.map_map]; rfl] at W
    refine fin_useK W ev (by walk_at "pick") (by walk_at "lset") ?_
    intro s W
    walk_at "gs"
    refine x_for (c := c) rm.h ?_
    walk_at "gs"
    refine fn_range W (σ₁ := fun i => (acc, .list ((placesA rows ++ ((nums 0 3).take i).map fun i => rows.map fun r => below i r).map encI)) :: (ai, .obj isCellP) :: (af, .obj isCellP) :: (a1, .cell (some (.lst (rows.map encI)))) :: (L, .ns ["places", "k", "counts"] [some (.ref acc), none, none]) :: σ)
      (by simp only [List.take_zero, List.map_nil, List.append_nil]; walk_at "weak") (by decide) (by decide) (by decide) (by decide) ?_ ?_
    · intro i m Z₃ s v I P hm hz₃ hv W
      obtain ⟨hi, rfl⟩ := rangeL_get hm
      have x3 : (nums 0 3)[i]? = some (0 + (i : Int)) := nums_get (n := 3) hi
      walk_at "vri"
      walk_at "gs"
      refine x_comp1 (c := c) [("i", ai)] ["i"] [] ["row"] ["len"] rm.h ev (by decide +kernel) (by walk_at "fl") ?_
      walk_at "gs"
      refine c_list (xs := rows.map encI) W (by assumption) (CompK.const ?_)
      intro C acc cenv ev2 own2
      refine ⟨fun n => (rows.map fun r => MV.int (below (0 + (i : Int)) r)).take n, rfl, ?_, ?_⟩
      · intro n m Z₄ s v I₃ P₃ hm hz₄ hv W
        obtain ⟨r, hrn, rfl⟩ := mapL_get hm
        have hr3 := hr r (List.mem_of_getElem? hrn)
        unfold encI at hv
        walk_at "vri"
        walk_at "gs"
        refine x_comp1 (c := c) [("i", ai)] ["i"] [] ["height"] [] rm.h ev2 (by decide +kernel) (by walk_at "fl") ?_
        walk_at "gs"
        refine c_list (xs := r.map .int) W (by assumption) (CompK.const ?_)
        intro C₂ acc₂ cenv₂ ev3 own3
        refine ⟨keepL (fun x => decide (x ≤ 0 + (i : Int))) (fun _ => .int 1) r, keepL_0, ?_, ?_⟩
        · intro k m Z₅ s v I₄ P₄ hm hz₅ hv W
          obtain ⟨x, hxk, rfl⟩ := mapL_get hm
          walk_at "vri"
          walk_at "gs"
          refine ite_dec ?_ ?_
          · intro hlt
            walk_at "gs"
            walk_at "ce"
            exact (keepL_T (p := fun x => decide (x ≤ 0 + (i : Int))) hxk (decide_eq_true hlt)).symm
          · intro hlt
            walk_at "ce"
            exact (keepL_F (p := fun x => decide (x ≤ 0 + (i : Int))) hxk (decide_eq_false hlt)).symm
        · intro Z₅ s hz₅ W
          rw [keepL_all (by rw [List.length_map])] at W
          refine fin_frz W ?_
          intro Z₆ s hz₆ hv W
          have hll := List.length_filter_le (fun x => decide (x ≤ 0 + (i : Int))) r
          have hcl : ((rows.map fun r => MV.int (below (0 + (i : Int)) r)).take n).length < 2 ^ 20 := by rw [List.length_take, List.length_map]; omega
          walk_at "gs"
          walk_at "ce"
          rw [take_mapS hrn, List.length_map]; rfl
      · intro Z₄ s hz₄ W
        dsimp only at W
        rw [List.length_map, List.take_of_length_le (by rw [List.length_map]; exact Nat.le_refl _)] at W
        refine fin_frz W ?_
        intro Z₅ s hz₅ hv W
        have hv' : VR Z₅ (encI (rows.map fun r => below (0 + (i : Int)) r)) (.ref acc) := by unfold encI; rw [List.map_map]; exact hv
        clear hv
        have hcl : ((placesA rows ++ ((nums 0 3).take i).map fun i => rows.map fun r => below i r).map encI).length < 2 ^ 20 := by rw [List.length_map, List.length_append, List.length_map, List.length_take]; unfold placesA; rw [List.length_map]; have : (nums 0 3).length = 3 := rfl; omega
        walk_at "gs"
        have e : (placesA rows ++ ((nums 0 3).take (i + 1)).map fun i => rows.map fun r => below i r).map encI = (placesA rows ++ ((nums 0 3).take i).map fun i => rows.map fun r => below i r).map encI ++ [encI (rows.map fun r => below (0 + (i : Int)) r)] := by rw [List.take_add_one, x3]; simp
        rw [← e] at W
        walk_at "te"
    · intro Z₃ s hz₃ W
      have e : (placesA rows ++ ((nums 0 3).take ((3 : Int) - 0).toNat).map fun i => rows.map fun r => below i r) = placesA rows ++ placesB rows := rfl
      rw [e] at W
      walk_at "gs"
      refine x_for (c := c) rm.h ?_
      walk_at "gs"
      obtain ⟨Z₄, hz₄, W, hl⟩ := W.fz (by walk_at "pick")
      refine fn_list W hl (σ₁ := fun _ => (ai, .obj isCellP) :: (af, .obj isCellP) :: (a1, .cell (some (.lst (rows.map encI)))) :: (L, .ns ["places", "k", "counts"] [some (.ref acc), none, none]) :: σ) (by walk_at "weak") ?_ ?_
      · intro n m Z₅ s v I P hm hz₅ hv W
        obtain ⟨f, hf, rfl⟩ := mapL_get hm
        have hlen := pl_len f (List.mem_of_getElem? hf)
        have hok : topOk f = true := List.all_eq_true.mp hp f (List.mem_of_getElem? hf)
        unfold encI at hv
        walk_at "vri"
        walk_at "gs"
        refine x_compA1 (c := c) [("found", af)] ["found"] [] ["k"] [] rm.h ev (by walk_at "mem") (by decide +kernel) (by decide +kernel) (by walk_at "fl") ?_
        walk_at "gs"
        refine c_range W (by decide) (by decide) (by decide) (by decide) (CompK.const ?_)
        intro C acc₂ cenv ev2 own2
        refine ⟨fun n => ((nums 0 4).map fun k => MV.int ((f.count k : Nat) : Int)).take n, rfl, ?_, ?_⟩
        · intro n m Z₆ s v I₂ P₂ hm hz₆ hv W
          obtain ⟨hn, rfl⟩ := rangeL_get hm
          have x4 : (nums 0 4)[n]? = some (0 + (n : Int)) := nums_get (n := 4) hn
          have hcl : (((nums 0 4).map fun k => MV.int ((f.count k : Nat) : Int)).take n).length < 2 ^ 20 := by rw [List.length_take, List.length_map]; have : (nums 0 4).length = 4 := rfl; omega
          walk_at "vri"
          walk_at "gs"
          walk_at "ce"
          exact (take_mapS x4).symm
        · intro Z₆ s hz₆ W
          dsimp only at W
          rw [show (rangeL 0 ((4 : Int) - 0).toNat).length = 4 from rfl, show ((nums 0 4).map fun k => MV.int ((f.count k : Nat) : Int)).take 4 = (cntL f).map .int by unfold cntL; rw [List.map_map]; rfl] at W
          refine fin_use W ev (by walk_at "pick") (by walk_at "lset") ?_
          intro Z₇ s hz₇ W
          walk_at "gs"
          refine x_for (c := c) rm.h ?_
          walk_at "gs"
          refine fn_tup (xs := [(1 : Int), 2].map .int) W hv (σ₁ := fun _ => (af, .cell (some (.lst (f.map .int)))) :: (I, .obj P) :: (ai, .obj isCellP) :: (a1, .cell (some (.lst (rows.map encI)))) :: (L, .ns ["places", "k", "counts"] [some (.ref acc), none, some (.lst ((cntL f).map .int))]) :: σ) (by walk_at "weak") ?_ ?_
          · intro n m Z₈ s v I₂ P₂ hm hz₈ hv W
            obtain ⟨k, hk, rfl⟩ := mapL_get hm
            have hk' := List.mem_of_getElem? hk
            have hk2 : k = 1 ∨ k = 2 := by simpa using hk'
            have e1 := cntL_get (found := f) (k := k) (by omega) (by omega)
            have e2 := cntL_get (found := f) (k := k - 1) (by omega) (by omega)
            have e3 := cntL_get (found := f) (k := k + 1) (by omega) (by omega)
            have c1 := cntAt_le (f := f) (k := k)
            have c2 := cntAt_le (f := f) (k := k - 1)
            have c3 := cntAt_le (f := f) (k := k + 1)
            walk_at "vri"
            walk_at "go"
            refine ite_dec ?_ ?_
            · intro hlt
              exfalso
              unfold topOk at hok
              have h2 := List.all_eq_true.mp hok k hk'
              rw [decide_eq_true hlt] at h2
              cases h2
            · intro hlt
              walk_at "gs"
              walk_at "te"
          · intro Z₈ s hz₈ W
            walk_at "gs"
            walk_at "te"
      · intro Z₅ s hz₅ W
        walk_at "gs"
        exact q Z₅ s (by walk_at "zle") (W.weak (by walk_at "weak"))

-- P7



def leftP (one other : List Int) : Bool := ((nums 0 4).filter fun k => decide (atI other k ≤ atI one k)).isEmpty

theorem left_ok {w : World} {c : Cx} {Z : ZS} {s : Shared} {σ : Sg} {A : Around} {E : Value → Shared → Prop} {Q : Value → Shared → Prop} {a b : Addr} {one other : List Int}
    (hK : c.K = KK w.params) (W : W c Z s σ) (rm : Room 2 A) (hv : VR Z (.lst (one.map .int)) (.ref a)) (hv' : VR Z (.lst (other.map .int)) (.ref b)) (h1 : one.length = 4) (h2 : other.length = 4)
    (q : ∀ Z' s', Z.le Z' → Mine.W c Z' s' σ → Q (.bool (leftP one other)) s') :
    wpAny (model P0 w) A (call (.ref 323) [.ref a, .ref b]) Q E s := by
  refine call_fnC (n := 1) ["one", "other"] (bv := [.ref a, .ref b]) [] ["one", "other"] ["range"] W rm (by rw [hK]; k_is) (by rw [hK]; k_is) (BindsTo.of_eq rfl) (by decide +kernel) ?_
  clear W s rm
  intro L a1 a2 env ev own s W A
  walk_at "go"
  intro A rm
  walk_at "gs"
  refine x_comp1 (c := c) [("one", a1), ("other", a2)] ["one", "other"] [] ["k"] [] rm.h ev (by decide +kernel) (by walk_at "fl") ?_
  walk_at "gs"
  refine c_range W (by decide) (by decide) (by decide) (by decide) (CompK.const ?_)
  intro C acc cenv ev2 own2
  refine ⟨keepL (fun k => decide (atI other k ≤ atI one k)) .int (nums 0 4), rfl, ?_, ?_⟩
  · intro i m Z₂ s v I P hm hz₂ hv₂ W
    obtain ⟨hi, rfl⟩ := rangeL_get hm
    obtain ⟨t, rfl⟩ := hv₂.int_inv
    have x4 : (nums 0 4)[i]? = some (0 + (i : Int)) := nums_get (n := 4) hi
    have e1 := atI_get (r := one) (j := 0 + (i : Int)) (by omega) (by omega)
    have e2 := atI_get (r := other) (j := 0 + (i : Int)) (by omega) (by omega)
    have hcl : (keepL (fun k => decide (atI other k ≤ atI one k)) MV.int (nums 0 4) i).length < 2 ^ 20 := Nat.lt_of_le_of_lt keepL_le (Nat.lt_of_le_of_lt (m := 4) (Nat.le_of_ble_eq_true rfl) (by decide))
    walk_at "gs"
    refine ite_dec ?_ ?_
    · intro hlt
      walk_at "gs"
      walk_at "ce"
      exact (keepL_T (p := fun k => decide (atI other k ≤ atI one k)) x4 (decide_eq_true hlt)).symm
    · intro hlt
      walk_at "ce"
      exact (keepL_F (p := fun k => decide (atI other k ≤ atI one k)) x4 (decide_eq_false hlt)).symm
  · intro Z₂ s hz₂ W
    rw [keepL_all (by rfl)] at W
    refine fin_frz W ?_
    intro Z₃ s hz₃ hv W
    walk_at "gs"
    refine c_eq0 rm.units (by walk_at "lat") (by walk_at "lat") ?_
    have e : leftP one other = (((nums 0 4).filter fun k => decide (atI other k ≤ atI one k)).map MV.int).isEmpty := by unfold leftP; rw [List.isEmpty_map]
    rw [← e]
    exact q Z₃ s (by walk_at "zle") (W.weak (by walk_at "weak"))

def tabS : Str := "\t"
def colStep (size : Int) (col : Int) (ch : Nat) : Int := col + (if (⟨#[ch]⟩ : Str) == "\t" then size - col.fmod size else 1)
def colAt (lead : Str) (size : Int) (i : Nat) : Int := (lead.cps.toList.take i).foldl (colStep size) 0
def colOf (lead : Str) (size : Int) : Int := colAt lead size lead.cps.size
def colsP (lead : Str) : List Int := (nums 1 4).map (colOf lead)
theorem colAt_succ {lead : Str} {size : Int} {i ch : Nat} (h : lead.cps[i]? = some ch) : colAt lead size (i + 1) = colStep size (colAt lead size i) ch := by
  unfold colAt
  rw [List.take_add_one, List.foldl_append, show lead.cps.toList[i]? = some ch by simpa using h]
  rfl

theorem cols_ok {w : World} {c : Cx} {Z : ZS} {s : Shared} {σ : Sg} {A : Around} {E : Value → Shared → Prop} {Q : Value → Shared → Prop} {lead : Str} {t : Tok}
    (hK : c.K = KK w.params) (W : W c Z s σ) (rm : Room 2 A)
    (q : ∀ Z' s' d, Z.le Z' → Mine.W c Z' s' σ → VR Z' (.lst ((colsP lead).map .int)) (.ref d) → Q (.ref d) s') :
    wpAny (model P0 w) A (call (.ref 318) [.str lead t]) Q E s := by
  refine call_fn (n := 1) ["lead"] (bv := [.str lead t]) ["lead", "columns", "size", "column", "sign"] ["range"] [some (.str lead), none, none, none, none] W rm (by rw [hK]; k_is) (by rw [hK]; k_is) (BindsTo.of_eq rfl) (by decide +kernel) ?_ ?_
  · exact ⟨⟨_, rfl, .str _ _⟩, trivial⟩
  clear W s rm t
  intro s L env A rm ev W
  walk_at "gs"
  obtain ⟨d, hd⟩ : ∃ d, d = a := ⟨a, rfl⟩
  subst hd
  refine x_for (c := c) rm.h ?_
  walk_at "gs"
  refine fn_range W (σ₁ := fun i => (d, .list (((nums 1 4).map fun n => MV.int (colOf lead n)).take i)) :: (L, .ns ["lead", "columns", "size", "column", "sign"] [some (.str lead), some (.ref d), none, none, none]) :: σ)
    (by simp only [List.take_zero]; walk_at "weak") (by decide) (by decide) (by decide) (by decide) ?_ ?_
  · intro i m Z₂ s v I P hm hz₂ hv W
    obtain ⟨hi, rfl⟩ := rangeL_get hm
    have x4 : (nums 1 4)[i]? = some (1 + (i : Int)) := nums_get (n := 4) hi
    walk_at "vri"
    walk_at "gs"
    refine x_for (c := c) rm.h ?_
    walk_at "gs"
    refine fn_str W (σ₁ := fun n => (d, .list (((nums 1 4).map fun n => MV.int (colOf lead n)).take i)) :: (I, .obj P) :: (L, .ns ["lead", "columns", "size", "column", "sign"] [some (.str lead), some (.ref d), some (.int (1 + i)), some (.int (colAt lead (1 + i) n)), none]) :: σ) (by walk_at "weak") ?_ ?_
    · intro n m Z₃ s v I₂ P₂ hm hz₃ hv W
      obtain ⟨ch, hch, rfl⟩ := strL_get hm
      walk_at "vri"
      walk_at "gs"
      refine ite_b ?_ ?_
      · intro hb
        walk_at "gs"
        have e : colAt lead (1 + i) (n + 1) = colAt lead (1 + i) n + (1 + (i : Int) - (colAt lead (1 + i) n).fmod (1 + i)) := by rw [colAt_succ hch]; unfold colStep; rw [if_pos hb]
        rw [← e] at W
        walk_at "te"
      · intro hb
        walk_at "gs"
        have e : colAt lead (1 + i) (n + 1) = colAt lead (1 + i) n + 1 := by rw [colAt_succ hch]; unfold colStep; rw [if_neg (by rw [hb]; decide)]
        rw [← e] at W
        walk_at "te"
    · intro Z₃ s hz₃ W
      have hcl : (((nums 1 4).map fun n => MV.int (colOf lead n)).take i).length < 2 ^ 20 := by rw [List.length_take, List.length_map]; have : (nums 1 4).length = 4 := rfl; omega
      rw [strL_length] at W
      walk_at "gs"
      have e := take_mapS (f := fun n => MV.int (colOf lead n)) x4
      have e2 : colOf lead (1 + (i : Int)) = colAt lead (1 + i) lead.cps.size := rfl
      rw [← e2, ← e] at W
      walk_at "te"
  · intro Z₂ s hz₂ W
    rw [show ((nums 1 4).map fun n => MV.int (colOf lead n)).take ((5 : Int) - 1).toNat = (colsP lead).map .int by unfold colsP; rw [List.map_map]; rfl] at W
    walk_at "gs"
    obtain ⟨Z₃, hz₃, W, hl⟩ := W.fz (by walk_at "pick")
    exact q Z₃ s d (by walk_at "zle") (W.weak (by walk_at "weak")) hl

def rung (n : Int) : Str := if n.fmod 3 = 0 then " " else if n.fmod 3 = 1 then "\t" else " \t"
def leadAt (ns : List Int) (i : Nat) : Str := (ns.take i).foldl (fun l n => l ++ rung n) ""
def ladderP (ns : List Int) : List Str := (List.range ns.length).map fun i => leadAt ns (i + 1)
theorem fmod3_nonneg (n : Int) : 0 ≤ n.fmod 3 := by rw [Int.fmod_eq_emod_of_nonneg n (by decide)]; exact Int.emod_nonneg n (by decide)
theorem rung_len (n : Int) : (rung n).length ≤ 2 := by unfold rung; split <;> (try split) <;> decide
theorem rung_get (n : Int) : [MV.str " ", MV.str "\t", MV.str " \t"][(n.fmod 3).toNat]? = some (.str (rung n)) := by
  have h1 := fmod3_nonneg n
  have h2 := Int.fmod_lt_of_pos n (b := 3) (by decide)
  unfold rung
  have h3 : n.fmod 3 = 0 ∨ n.fmod 3 = 1 ∨ n.fmod 3 = 2 := by omega
  rcases h3 with h | h | h <;> rw [h] <;> rfl
theorem leadAt_succ {ns : List Int} {i : Nat} {n : Int} (h : ns[i]? = some n) : leadAt ns (i + 1) = leadAt ns i ++ rung n := by
  unfold leadAt
  rw [List.take_add_one, List.foldl_append, h]; rfl
theorem leadAt_len (ns : List Int) (i : Nat) : (leadAt ns i).length ≤ 2 * i := by
  induction i with
  | zero => exact Nat.zero_le _
  | succ i ih =>
    cases h : ns[i]? with
    | none =>
      have : leadAt ns (i + 1) = leadAt ns i := by unfold leadAt; rw [List.take_add_one, h]; simp
      rw [this]; omega
    | some n =>
      rw [leadAt_succ h, Str.length_append]
      have := rung_len n
      omega

theorem ladder_ok {w : World} {c : Cx} {Z : ZS} {s : Shared} {σ : Sg} {A : Around} {E : Value → Shared → Prop} {Q : Value → Shared → Prop} {a : Addr} {ns : List Int}
    (hK : c.K = KK w.params) (W : W c Z s σ) (rm : Room 2 A) (hv : VR Z (.lst (ns.map .int)) (.ref a)) (hz : ns.length < 2 ^ 10)
    (q : ∀ Z' s' d, Z.le Z' → Mine.W c Z' s' σ → VR Z' (.lst ((ladderP ns).map .str)) (.ref d) → Q (.ref d) s') :
    wpAny (model P0 w) A (call (.ref 294) [.ref a]) Q E s := by
  refine call_fn (n := 1) ["numbers"] (bv := [.ref a]) ["numbers", "ladder", "lead", "number"] [] [some (.lst (ns.map .int)), none, none, none] W rm (by rw [hK]; k_is) (by rw [hK]; k_is) (BindsTo.of_eq rfl) (by decide +kernel) ?_ ?_
  · exact ⟨⟨_, rfl, hv⟩, trivial⟩
  clear W s rm
  intro s L env A rm ev W
  walk_at "st"
  walk_at "st"
  walk_at "gs"
  obtain ⟨d, hd⟩ : ∃ d, d = a := ⟨a, rfl⟩
  subst hd
  refine x_for (c := c) rm.h ?_
  walk_at "gs"
  refine fn_list (xs := ns.map .int) W (by assumption) (σ₁ := fun i => (d, .list ((List.range i).map fun j => MV.str (leadAt ns (j + 1)))) :: (L, .ns ["numbers", "ladder", "lead", "number"] [some (.lst (ns.map .int)), some (.ref d), some (.str (leadAt ns i)), none]) :: σ)
    (by walk_at "weak") ?_ ?_
  · intro i m Z₂ s v I P hm hz₂ hv W
    obtain ⟨n, hn, rfl⟩ := mapL_get hm
    have hi := (List.getElem?_eq_some_iff.mp hn).1
    have hl := leadAt_len ns i
    have hl2 := rung_len n
    have hzz : (leadAt ns i).length + (rung n).length ≤ sizeLine := by rw [sizeLine_eq]; omega
    have e1 := rung_get n
    have h1 := fmod3_nonneg n
    have h2 := Int.fmod_lt_of_pos n (b := 3) (by decide)
    have hcl : ((List.range i).map fun j => MV.str (leadAt ns (j + 1))).length < 2 ^ 20 := by rw [List.length_map, List.length_range]; omega
    walk_at "vri"
    walk_at "gs"
    have e2 := leadAt_succ hn
    rw [← e2] at W
    have e3 : (List.range (i + 1)).map (fun j => MV.str (leadAt ns (j + 1))) = (List.range i).map (fun j => MV.str (leadAt ns (j + 1))) ++ [.str (leadAt ns (i + 1))] := by rw [List.range_succ, List.map_append]; rfl
    rw [← e3] at W
    walk_at "te"
  · intro Z₂ s hz₂ W
    rw [show (List.range (ns.map MV.int).length).map (fun j => MV.str (leadAt ns (j + 1))) = (ladderP ns).map .str by unfold ladderP; rw [List.map_map, List.length_map]; rfl] at W
    walk_at "gs"
    obtain ⟨Z₃, hz₃, W, hl⟩ := W.fz (by walk_at "pick")
    exact q Z₃ s d (by walk_at "zle") (W.weak (by walk_at "weak")) hl

-- P8a



theorem W.up {c : Cx} {Z : ZS} {s : Shared} {σ : Sg} {a b : Addr} {l : List MV} {m : MV} (w : W c Z s ((a, .list (l ++ [.ref b])) :: σ)) (h : VR Z m (.ref b)) : W c Z s ((a, .list (l ++ [m])) :: σ) := by
  obtain ⟨o, ho, vs, n, e, hr⟩ := w.head
  refine w.set (fun _ _ _ e => e) ho ⟨vs, n, e, ?_⟩
  clear e ho w
  induction l generalizing vs with
  | nil =>
    cases hr with | cons h1 h2 =>
    cases h2
    cases h1.ref_inv
    exact .cons h .nil
  | cons x xs ih => cases hr with | cons h1 h2 => exact .cons h1 (ih _ h2)
theorem flat_len {α β : Type} {F : α → List β} {k : Nat} : ∀ {l : List α}, (∀ x, (F x).length ≤ k) → (l.flatMap F).length ≤ l.length * k
  | [], _ => by simp
  | x :: l, h => by
    rw [List.flatMap_cons, List.length_append, List.length_cons]
    have := flat_len (l := l) h
    have := h x
    rw [Nat.add_mul]; omega

def colA (ac : List (List Int)) (k : Int) : List Int := ac.getD k.toNat []
def aheadP (ac : List (List Int)) (b : List Int) : List Int := (nums 0 3).filter fun k => leftP (colA ac k) b
def behindP (ac : List (List Int)) (b : List Int) : List Int := (nums 0 3).filter fun k => leftP b (colA ac k)
def letOk (ah be : List Int) (h : Int) : Bool := (ah.filter fun k => decide (h ≤ k)).isEmpty && (be.filter fun k => decide (k < h)).isEmpty
def letP (ah be : List Int) : List Int := ([3, 2, 1, 0] : List Int).filter (letOk ah be)
def letOf (ac : List (List Int)) (lead : Str) : List Int := letP (aheadP ac (colsP lead)) (behindP ac (colsP lead))
def G3 (l2 : List Int) (x y : Int) : List (List Int) := (l2.filter fun z => decide (y ≤ z)).map fun z => [x, y, z]
def F3 (l1 l2 : List Int) (x : Int) : List (List Int) := (l1.filter fun y => decide (x ≤ y)).flatMap (G3 l2 x)
def comb (l0 l1 l2 : List Int) : List (List Int) := l0.flatMap (F3 l1 l2)
def allP (lows : List Str) (h0 h1 h2 : Str) : List (List Int) := comb (letOf (lows.map colsP) h0) (letOf (lows.map colsP) h1) (letOf (lows.map colsP) h2)

theorem colsP_len (lead : Str) : (colsP lead).length = 4 := by unfold colsP; rw [List.length_map]; rfl
theorem colA_get {lows : List Str} {k : Int} (h0 : 0 ≤ k) (h : k < (lows.length : Int)) : ((lows.map colsP).map encI)[k.toNat]? = some (encI (colA (lows.map colsP) k)) ∧ (colA (lows.map colsP) k).length = 4 := by
  have hk : k.toNat < lows.length := by omega
  unfold colA
  rw [List.getElem?_map, List.getD_eq_getElem?_getD, List.getElem?_map, List.getElem?_eq_getElem hk]
  exact ⟨rfl, colsP_len _⟩
theorem letOf_len (ac : List (List Int)) (lead : Str) : (letOf ac lead).length ≤ 4 := by
  unfold letOf letP
  exact Nat.le_trans (List.length_filter_le _ _) (by decide)

theorem G3_len {l2 : List Int} (h : l2.length ≤ 4) (x y : Int) : (G3 l2 x y).length ≤ 4 := by
  unfold G3; rw [List.length_map]; exact Nat.le_trans (List.length_filter_le _ _) h
theorem F3_len {l1 l2 : List Int} (h1 : l1.length ≤ 4) (h2 : l2.length ≤ 4) (x : Int) : (F3 l1 l2 x).length ≤ 16 := by
  unfold F3
  refine Nat.le_trans (flat_len (k := 4) fun y => G3_len h2 x y) ?_
  have := List.length_filter_le (fun y => decide (x ≤ y)) l1
  omega

/-- the last expression of _law_all -/
theorem comb_ok {w : World} {c : Cx} {Z : ZS} {s : Shared} {σ : Sg} {A : Around} {Q : Value → Shared → Prop} {env : Env} {L al dl : Addr} {vars : List Str} {cl : List (Str × Addr)} {gl : List Str} {L0 L1 L2 : List Int} {scope : Scope}
    {p1 p2 p3 p4 p5 p6 p7 p8 p9 p10 p11 p12 p13 p14 p15 p16 p17 p18 p19 p20 p21 p22 p23 : Pos}
    (W : W c Z s ((dl, .list [encI L0, encI L1, encI L2]) :: (al, .cell (some (.ref dl))) :: σ)) (rm : Room 2 A) (ev : EnvOk env L vars cl gl) (hcl : (("let" : Str), al) ∈ cl) (hok : compOk scope ["x", "y", "z"] [] ["let"] [] = true)
    (h0 : L0.length ≤ 4) (h1 : L1.length ≤ 4) (h2 : L2.length ≤ 4)
    (q : ∀ Z' s' d, Z.le Z' → Mine.W c Z' s' σ → VR Z' (.lst ((comb L0 L1 L2).map encI)) (.ref d) → Q (.ref d) s') :
    wpAny (model P0 w) A (eval (.ListComp (.List [.Name "x" p1, .Name "y" p2, .Name "z" p3] p4) [⟨.Name "x" p5, .Subscript (.Name "let" p6) (.Constant (.int 0) 0 p7) p8, [], 0⟩, ⟨.Name "y" p9, .Subscript (.Name "let" p10) (.Constant (.int 1) 0 p11) p12, [.Compare (.Name "x" p13) [.LtE] [.Name "y" p14] p15], 0⟩, ⟨.Name "z" p16, .Subscript (.Name "let" p17) (.Constant (.int 2) 0 p18) p19, [.Compare (.Name "y" p20) [.LtE] [.Name "z" p21] p22], 0⟩] scope p23) env) Q F0 s := by
  refine x_comp2 (c := c) [("let", al)] ["let"] [] ["x", "y", "z"] [] rm.h ev hok (List.forall_mem_cons.mpr ⟨hcl, fun _ h => nomatch h⟩) ?_
  walk_at "gs"
  refine c_list (xs := L0.map .int) W (by walk_at "vr") (CompK.const ?_)
  intro C acc cenv ev2 own2
  refine ⟨fun i => ((L0.take i).flatMap (F3 L1 L2)).map encI, rfl, ?_, ?_⟩
  · intro i m Z₂ s v I P hm hz₂ hv₂ W
    obtain ⟨x, hx, rfl⟩ := mapL_get hm
    obtain ⟨t, rfl⟩ := hv₂.int_inv
    walk_at "gs"
    refine x_inner1of2 (c := c) rm.h ?_
    walk_at "gs"
    have hpl : ((L0.take i).flatMap (F3 L1 L2)).length ≤ 64 := Nat.le_trans (flat_len (k := 16) fun x => F3_len h1 h2 x) (by rw [List.length_take]; omega)
    refine d_listC (xs := L1.map .int) (C := C) (cv := ["x", "y", "z"]) (lv := [some (.int x), none, none]) (l := fun j => ((L0.take i).flatMap (F3 L1 L2) ++ ((L1.take j).filter fun y => decide (x ≤ y)).flatMap (G3 L2 x)).map encI)
      (σ₁ := (I, .obj P) :: (dl, .list [encI L0, encI L1, encI L2]) :: (al, .cell (some (.ref dl))) :: σ) W (by walk_at "weak") (by simp) (by walk_at "vr") ?_ ?_
    · intro j m Z₃ s v I₂ P₂ hm hz₃ hv₃ W
      obtain ⟨y, hy, rfl⟩ := mapL_get hm
      obtain ⟨t, rfl⟩ := hv₃.int_inv
      walk_at "gs"
      refine ite_dec ?_ ?_
      · intro hxy
        walk_at "gs"
        refine x_inner2 (c := c) rm.h ?_
        walk_at "gs"
        have hpl2 : (((L1.take j).filter fun y => decide (x ≤ y)).flatMap (G3 L2 x)).length ≤ 16 := Nat.le_trans (flat_len (k := 4) fun y => G3_len h2 x y) (by have := List.length_filter_le (fun y => decide (x ≤ y)) (L1.take j); rw [List.length_take] at this; omega)
        refine d_listC (xs := L2.map .int) (C := C) (cv := ["x", "y", "z"]) (lv := [some (.int x), some (.int y), none]) (l := fun n => ((L0.take i).flatMap (F3 L1 L2) ++ ((L1.take j).filter fun y => decide (x ≤ y)).flatMap (G3 L2 x) ++ ((L2.take n).filter fun z => decide (y ≤ z)).map fun z => [x, y, z]).map encI)
          (σ₁ := (I₂, .obj P₂) :: (I, .obj P) :: (dl, .list [encI L0, encI L1, encI L2]) :: (al, .cell (some (.ref dl))) :: σ) W (by walk_at "weak") (by simp) (by walk_at "vr") ?_ ?_
        · intro n m Z₄ s v I₃ P₃ hm hz₄ hv₄ W
          obtain ⟨z, hzz, rfl⟩ := mapL_get hm
          obtain ⟨t, rfl⟩ := hv₄.int_inv
          walk_at "gs"
          refine ite_dec ?_ ?_
          · intro hyz
            repeat walk_at "st"
            obtain ⟨Z₅, hz₅, W, hb⟩ := W.fz (by walk_at "pick")
            have hb' : VR Z₅ (encI [x, y, z]) (.ref a) := hb
            clear hb
            have hlen : ((((L2.take n).filter fun z => decide (y ≤ z)).map fun z => [x, y, z])).length ≤ 4 := by rw [List.length_map]; exact Nat.le_trans (List.length_filter_le _ _) (by rw [List.length_take]; omega)
            have hcl : (((L0.take i).flatMap (F3 L1 L2) ++ ((L1.take j).filter fun y => decide (x ≤ y)).flatMap (G3 L2 x) ++ ((L2.take n).filter fun z => decide (y ≤ z)).map fun z => [x, y, z]).map encI).length < 2 ^ 20 := by rw [List.length_map, List.length_append, List.length_append]; omega
            walk_at "gs"
            walk_at "ce"
            rw [take_succ_filter _ _ _ _ hzz, decide_eq_true hyz]; simp
          · intro hyz
            walk_at "ce"
            rw [take_succ_filter _ _ _ _ hzz, decide_eq_false hyz]; simp
        · intro Z₄ s hz₄ W
          rw [List.length_map, List.take_length] at W
          walk_at "ce"
          rw [take_succ_filter _ _ _ _ hy, decide_eq_true hxy]; simp [G3]
      · intro hxy
        walk_at "ce"
        rw [take_succ_filter _ _ _ _ hy, decide_eq_false hxy]; simp
    · intro Z₃ s hz₃ W
      rw [List.length_map, List.take_length] at W
      walk_at "ce"
      rw [take_flat hx]; rfl
  · intro Z₂ s hz₂ W
    dsimp only at W
    rw [List.length_map, List.take_length] at W
    refine fin_frz W ?_
    intro Z₃ s hz₃ hv W
    exact q Z₃ s acc (by walk_at "zle") (W.weak (by walk_at "weak")) hv


-- P8



theorem all_ok {w : World} {c : Cx} {Z : ZS} {s : Shared} {σ : Sg} {A : Around} {E : Value → Shared → Prop} {Q : Value → Shared → Prop} {a b : Addr} {lows : List Str} {h0 h1 h2 : Str}
    (hK : c.K = KK w.params) (W : W c Z s σ) (rm : Room 4 A) (hv : VR Z (.lst (lows.map .str)) (.ref a)) (hv' : VR Z (.lst ([h0, h1, h2].map .str)) (.ref b)) (hl : lows.length = 3)
    (q : ∀ Z' s' d, Z.le Z' → Mine.W c Z' s' σ → VR Z' (.lst ((allP lows h0 h1 h2).map encI)) (.ref d) → Q (.ref d) s') :
    wpAny (model P0 w) A (call (.ref 328) [.ref a, .ref b]) Q E s := by
  refine call_fnC (n := 3) ["lows", "highs"] (bv := [.ref a, .ref b]) ["lows", "highs", "lead", "ahead", "behind"] ["a", "let", "b", "height"] ["_law_columns", "range"] W rm (by rw [hK]; k_is) (by rw [hK]; k_is) (BindsTo.of_eq rfl) (by decide +kernel) ?_
  clear W s rm
  intro L aa al ab ah env ev own s W A
  walk_at "go"
  intro A rm
  walk_at "gs"
  refine x_compC ev (CellsOwn.get own (by walk_at "mem")) ?_
  refine x_comp1 (c := c) [] [] [] ["lead"] ["_law_columns"] rm.h ev (by decide +kernel) (by walk_at "fl") ?_
  walk_at "gs"
  refine c_list (xs := lows.map .str) W (by assumption) (CompK.const ?_)
  intro C acc cenv ev2 own2
  refine ⟨fun i => (lows.map fun x => encI (colsP x)).take i, rfl, ?_, ?_⟩
  · intro i m Z₂ s v I P hm hz₂ hv₂ W
    obtain ⟨x, hx, rfl⟩ := mapL_get hm
    obtain ⟨t, rfl⟩ := hv₂.str_inv
    walk_at "gs"
    refine cols_ok hK W (rm.le (by decide)) ?_
    intro Z₃ s d hz₃ W hv
    have hcl : ((lows.map fun x => encI (colsP x)).take i).length < 2 ^ 20 := by rw [List.length_take, List.length_map]; omega
    have hv3 : VR Z₃ (encI (colsP x)) (.ref d) := hv
    clear hv
    walk_at "gs"
    walk_at "ce"
    exact (take_mapS hx).symm
  · intro Z₂ s hz₂ W
    dsimp only at W
    rw [List.length_map, List.take_of_length_le (by rw [List.length_map]; exact Nat.le_refl _), show (lows.map fun x => encI (colsP x)) = (lows.map colsP).map encI by rw [List.map_map]; rfl] at W
    refine fin_frz W ?_
    intro Z₃ s hz₃ hv W
    walk_at "gs"
    obtain ⟨dl, hd⟩ : ∃ d, d = a := ⟨a, rfl⟩
    subst hd
    refine x_for (c := c) rm.h ?_
    walk_at "gs"
    refine fn_list (xs := [h0, h1, h2].map .str) W (by walk_at "vr") (σ₁ := fun i => (dl, .list ((([h0, h1, h2].take i).map (letOf (lows.map colsP))).map encI)) :: (al, .cell (some (.ref dl))) :: (aa, .cell (some (.lst ((lows.map colsP).map encI)))) :: (ab, .obj isCellP) :: (ah, .obj isCellP) ::
        (L, .ns ["lows", "highs", "lead", "ahead", "behind"] [none, none, none, none, none]) :: σ) (by simp only [List.take_zero, List.map_nil]; walk_at "weak") ?_ ?_
    · intro i m Z₄ s v I P hm hz₄ hv₂ W
      obtain ⟨x, hx, rfl⟩ := mapL_get hm
      obtain ⟨t, rfl⟩ := hv₂.str_inv
      have hcl0 : ((([h0, h1, h2].take i).map (letOf (lows.map colsP))).map encI).length < 2 ^ 20 := by rw [List.length_map, List.length_map]; exact Nat.lt_of_le_of_lt (m := 3) (List.length_take_le' ..) (by decide)
      walk_at "gs"
      refine cols_ok hK W (rm.le (by decide)) ?_
      intro Z₅ s d hz₅ W hvd
      walk_at "gs"
      refine x_compA1 (c := c) [("a", aa), ("b", ab)] ["a", "b"] [] ["k"] ["_law_left"] rm.h ev (by walk_at "mem") (by decide +kernel) (by decide +kernel) (by walk_at "fl") ?_
      walk_at "gs"
      refine c_range W (by decide) (by decide) (by decide) (by decide) (CompK.const ?_)
      intro C acc cenv ev2 own2
      refine ⟨keepL (fun k => leftP (colA (lows.map colsP) k) (colsP x)) .int (nums 0 3), rfl, ?_, ?_⟩
      · intro n m Z₆ s v I₂ P₂ hm hz₆ hv₂ W
        obtain ⟨hn, rfl⟩ := rangeL_get hm
        obtain ⟨t, rfl⟩ := hv₂.int_inv
        have x3 : (nums 0 3)[n]? = some (0 + (n : Int)) := nums_get (n := 3) hn
        obtain ⟨e1, e2⟩ := colA_get (lows := lows) (k := 0 + (n : Int)) (by omega) (by omega)
        have e3 := colsP_len x
        have hcl : (keepL (fun k => leftP (colA (lows.map colsP) k) (colsP x)) MV.int (nums 0 3) n).length < 2 ^ 20 := Nat.lt_of_le_of_lt keepL_le (Nat.lt_of_le_of_lt (m := 3) (Nat.le_of_ble_eq_true rfl) (by decide))
        walk_at "gs"
        refine left_ok hK W (rm.le (by decide)) (by walk_at "vr") (by walk_at "vr") e2 e3 ?_
        intro Z₇ s hz₇ W
        walk_at "gs"
        refine ite_b ?_ ?_
        · intro hb
          walk_at "gs"
          walk_at "ce"
          exact (keepL_T (p := fun k => leftP (colA (lows.map colsP) k) (colsP x)) x3 hb).symm
        · intro hb
          walk_at "ce"
          exact (keepL_F (p := fun k => leftP (colA (lows.map colsP) k) (colsP x)) x3 hb).symm
      · intro Z₆ s hz₆ W
        rw [keepL_all (by rfl), show ((nums 0 3).filter fun k => leftP (colA (lows.map colsP) k) (colsP x)) = aheadP (lows.map colsP) (colsP x) from rfl] at W
        refine fin_use W ev (by walk_at "pick") (by walk_at "lset") ?_
        intro Z₇ s hz₇ W
        walk_at "gs"
        refine x_compA1 (c := c) [("a", aa), ("b", ab)] ["a", "b"] [] ["k"] ["_law_left"] rm.h ev (by walk_at "mem") (by decide +kernel) (by decide +kernel) (by walk_at "fl") ?_
        walk_at "gs"
        refine c_range W (by decide) (by decide) (by decide) (by decide) (CompK.const ?_)
        intro C acc cenv ev2 own2
        refine ⟨keepL (fun k => leftP (colsP x) (colA (lows.map colsP) k)) .int (nums 0 3), rfl, ?_, ?_⟩
        · intro n m Z₆ s v I₂ P₂ hm hz₆ hv₂ W
          obtain ⟨hn, rfl⟩ := rangeL_get hm
          obtain ⟨t, rfl⟩ := hv₂.int_inv
          have x3 : (nums 0 3)[n]? = some (0 + (n : Int)) := nums_get (n := 3) hn
          obtain ⟨e1, e2⟩ := colA_get (lows := lows) (k := 0 + (n : Int)) (by omega) (by omega)
          have e3 := colsP_len x
          have hcl : (keepL (fun k => leftP (colsP x) (colA (lows.map colsP) k)) MV.int (nums 0 3) n).length < 2 ^ 20 := Nat.lt_of_le_of_lt keepL_le (Nat.lt_of_le_of_lt (m := 3) (Nat.le_of_ble_eq_true rfl) (by decide))
          walk_at "gs"
          refine left_ok hK W (rm.le (by decide)) (by walk_at "vr") (by walk_at "vr") e3 e2 ?_
          intro Z₇ s hz₇ W
          walk_at "gs"
          refine ite_b ?_ ?_
          · intro hb
            walk_at "gs"
            walk_at "ce"
            exact (keepL_T (p := fun k => leftP (colsP x) (colA (lows.map colsP) k)) x3 hb).symm
          · intro hb
            walk_at "ce"
            exact (keepL_F (p := fun k => leftP (colsP x) (colA (lows.map colsP) k)) x3 hb).symm
        · intro Z₆ s hz₆ W
          rw [keepL_all (by rfl), show ((nums 0 3).filter fun k => leftP (colsP x) (colA (lows.map colsP) k)) = behindP (lows.map colsP) (colsP x) from rfl] at W
          refine fin_use W ev (by walk_at "pick") (by walk_at "lset") ?_
          intro Z₈ s hz₈ W
          walk_at "gs"

          obtain ⟨b0, hd⟩ : ∃ d, d = a := ⟨a, rfl⟩
          subst hd
          have hal : (aheadP (lows.map colsP) (colsP x)).length ≤ 3 := List.length_filter_le _ _
          have hbl : (behindP (lows.map colsP) (colsP x)).length ≤ 3 := List.length_filter_le _ _
          refine x_for (c := c) rm.h ?_
          walk_at "gs"
          refine fn_tup (xs := [(3 : Int), 2, 1, 0].map .int) W (by assumption) (σ₁ := fun j => (b0, .list ((([3, 2, 1, 0].take j).filter (letOk (aheadP (lows.map colsP) (colsP x)) (behindP (lows.map colsP) (colsP x)))).map .int)) ::
              (dl, .list ((([h0, h1, h2].take i).map (letOf (lows.map colsP))).map encI ++ [.ref b0])) :: (I, .obj P) :: (al, .cell (some (.ref dl))) :: (aa, .cell (some (.lst ((lows.map colsP).map encI)))) :: (ab, .obj isCellP) :: (ah, .obj isCellP) ::
              (L, .ns ["lows", "highs", "lead", "ahead", "behind"] [none, none, none, some (.lst ((aheadP (lows.map colsP) (colsP x)).map .int)), some (.lst ((behindP (lows.map colsP) (colsP x)).map .int))]) :: σ) (by simp only [List.take_zero, List.filter_nil, List.map_nil]; walk_at "weak") ?_ ?_
          · intro j m Z₅ s v I₂ P₂ hm hz₅ hv₂ W
            obtain ⟨h, hh, rfl⟩ := mapL_get hm
            obtain ⟨t, rfl⟩ := hv₂.int_inv
            have hj : j < 4 := (List.getElem?_eq_some_iff.mp hh).1
            have eT := fun hp => keepL_T (p := letOk (aheadP (lows.map colsP) (colsP x)) (behindP (lows.map colsP) (colsP x))) (f := MV.int) hh hp
            have eF := fun hp => keepL_F (p := letOk (aheadP (lows.map colsP) (colsP x)) (behindP (lows.map colsP) (colsP x))) (f := MV.int) hh hp
            unfold keepL at eT eF
            walk_at "gs"
            refine wpAny_If ?_
            walk_at "st"
            walk_at "st"
            walk_at "gs"
            refine x_comp1 (c := c) [("height", ah)] ["height"] [] ["k"] [] rm.h ev (by decide +kernel) (by walk_at "fl") ?_
            walk_at "gs"
            refine c_list (xs := (aheadP (lows.map colsP) (colsP x)).map .int) W (by walk_at "vr") (CompK.const ?_)
            intro C acc cenv ev2 own2
            refine ⟨keepL (fun k => decide (h ≤ k)) .int (aheadP (lows.map colsP) (colsP x)), rfl, ?_, ?_⟩
            · intro n m Z₆ s v I₃ P₃ hm hz₆ hv₂ W
              obtain ⟨k, hk, rfl⟩ := mapL_get hm
              obtain ⟨t, rfl⟩ := hv₂.int_inv
              have hcl : (keepL (fun k => decide (h ≤ k)) MV.int (aheadP (lows.map colsP) (colsP x)) n).length < 2 ^ 20 := Nat.lt_of_le_of_lt keepL_le (by omega)
              walk_at "gs"
              refine ite_dec ?_ ?_
              · intro hlt
                walk_at "gs"
                walk_at "ce"
                exact (keepL_T (p := fun k => decide (h ≤ k)) hk (decide_eq_true hlt)).symm
              · intro hlt
                walk_at "ce"
                exact (keepL_F (p := fun k => decide (h ≤ k)) hk (decide_eq_false hlt)).symm
            · intro Z₆ s hz₆ W
              rw [keepL_all (by rw [List.length_map])] at W
              refine fin_frz W ?_
              intro Z₇ s hz₇ hv W
              walk_at "gs"
              refine c_eq0 rm.units (by walk_at "lat") (by walk_at "lat") ?_
              rw [List.isEmpty_map]
              walk_at "gs"
              refine ite_b ?_ ?_
              · intro hb1
                walk_at "gs"
                refine x_comp1 (c := c) [("height", ah)] ["height"] [] ["k"] [] rm.h ev (by decide +kernel) (by walk_at "fl") ?_
                walk_at "gs"
                refine c_list (xs := (behindP (lows.map colsP) (colsP x)).map .int) W (by walk_at "vr") (CompK.const ?_)
                intro C acc cenv ev2 own2
                refine ⟨keepL (fun k => decide (k < h)) .int (behindP (lows.map colsP) (colsP x)), rfl, ?_, ?_⟩
                · intro n m Z₆ s v I₃ P₃ hm hz₆ hv₂ W
                  obtain ⟨k, hk, rfl⟩ := mapL_get hm
                  obtain ⟨t, rfl⟩ := hv₂.int_inv
                  have hcl : (keepL (fun k => decide (k < h)) MV.int (behindP (lows.map colsP) (colsP x)) n).length < 2 ^ 20 := Nat.lt_of_le_of_lt keepL_le (by omega)
                  walk_at "gs"
                  refine ite_dec ?_ ?_
                  · intro hlt
                    walk_at "gs"
                    walk_at "ce"
                    exact (keepL_T (p := fun k => decide (k < h)) hk (decide_eq_true hlt)).symm
                  · intro hlt
                    walk_at "ce"
                    exact (keepL_F (p := fun k => decide (k < h)) hk (decide_eq_false hlt)).symm
                · intro Z₆ s hz₆ W
                  rw [keepL_all (by rw [List.length_map])] at W
                  refine fin_frz W ?_
                  intro Z₇ s hz₇ hv W
                  walk_at "gs"
                  refine c_eq0 rm.units (by walk_at "lat") (by walk_at "lat") ?_
                  rw [List.isEmpty_map]
                  walk_at "gs"
                  refine ite_b ?_ ?_
                  · intro hb2
                    walk_at "gs"
                    refine s_last (by walk_at "lat") ?_
                    walk_at "kv"
                    have hcl : ((([3, 2, 1, 0].take j).filter (letOk (aheadP (lows.map colsP) (colsP x)) (behindP (lows.map colsP) (colsP x)))).map MV.int).length < 2 ^ 20 := by rw [List.length_map]; exact Nat.lt_of_le_of_lt (List.length_filter_le _ _) (by rw [List.length_take]; omega)
                    walk_at "gs"
                    rw [← eT (by unfold letOk; rw [hb1, hb2]; rfl)] at W
                    walk_at "te"
                  · intro hb2
                    walk_at "gs"
                    rw [← eF (by unfold letOk; rw [hb1, hb2]; rfl)] at W
                    walk_at "te"
              · intro hb1
                walk_at "gs"
                rw [← eF (by unfold letOk; rw [hb1]; rfl)] at W
                walk_at "te"
          · intro Z₅ s hz₅ W
            rw [show ((([3, 2, 1, 0] : List Int).take (([3, 2, 1, 0] : List Int).map MV.int).length).filter (letOk (aheadP (lows.map colsP) (colsP x)) (behindP (lows.map colsP) (colsP x)))) = letOf (lows.map colsP) x from rfl] at W
            obtain ⟨Z₆, hz₆, W, hb⟩ := W.fz (a := b0) (by walk_at "pick")
            have hb' : VR Z₆ (encI (letOf (lows.map colsP) x)) (.ref b0) := hb
            have W := (W.pick (a := dl) (by walk_at "pick")).up hb'
            have e : (([h0, h1, h2].take (i + 1)).map (letOf (lows.map colsP))).map encI = (([h0, h1, h2].take i).map (letOf (lows.map colsP))).map encI ++ [encI (letOf (lows.map colsP) x)] := by rw [List.take_add_one, hx]; simp
            rw [← e] at W
            walk_at "gs"
            walk_at "te"
    · intro Z₄ s hz₄ W
      rw [show (([h0, h1, h2].take ([h0, h1, h2].map MV.str).length).map (letOf (lows.map colsP))).map encI = [encI (letOf (lows.map colsP) h0), encI (letOf (lows.map colsP) h1), encI (letOf (lows.map colsP) h2)] from rfl] at W
      walk_at "gs"
      refine comb_ok (dl := dl) (al := al) W (rm.le (by decide)) ev (by walk_at "mem") (by decide +kernel) (letOf_len _ _) (letOf_len _ _) (letOf_len _ _) ?_
      intro Z₅ s d hz₅ W hv
      exact q Z₅ s d (by walk_at "zle") (W.weak (by walk_at "weak")) hv

-- P9



structure WS where
  count : List Int
  b : Int
  n : Int
  nt : Int
def padL (st : WS) : List Int := if (st.count.length : Int) ≤ st.b then st.count ++ List.replicate (st.b - st.count.length + 1).toNat 0 else st.count
def wsStep (st : WS) (c : Nat) : WS := if c = 32 then ⟨st.count, st.b + 1, st.n + 1, st.nt⟩ else ⟨(padL st).set st.b.toNat (atI (padL st) st.b + 1), 0, st.n + 1, st.nt + 1⟩
def wsAt (raw : Str) (i : Nat) : WS := (raw.cps.toList.take i).foldl wsStep ⟨[], 0, 0, 0⟩
def wsEnd (raw : Str) : WS := wsAt raw raw.cps.size
def wsNames : List Str := ["raw", "n", "nt", "norm", "is_simple"]
def wsVals (raw : Str) : List MV := [.str raw, .int (wsEnd raw).n, .int (wsEnd raw).nt, .tup [.tup ((wsEnd raw).count.map .int), .int (wsEnd raw).b], .bool (decide (((wsEnd raw).count.length : Int) ≤ 1))]
def encW (raw : Str) : MV := .obj 135 wsNames (wsVals raw)
theorem wsAt_succ {raw : Str} {i ch : Nat} (h : raw.cps[i]? = some ch) : wsAt raw (i + 1) = wsStep (wsAt raw i) ch := by
  unfold wsAt
  rw [List.take_add_one, List.foldl_append, show raw.cps.toList[i]? = some ch by simpa using h]
  rfl
theorem wsAt_ok (raw : Str) (i : Nat) : 0 ≤ (wsAt raw i).b ∧ (wsAt raw i).b ≤ i ∧ (wsAt raw i).count.length ≤ i ∧ 0 ≤ (wsAt raw i).n ∧ (wsAt raw i).n ≤ i ∧ 0 ≤ (wsAt raw i).nt ∧ (wsAt raw i).nt ≤ i := by
  induction i with
  | zero => exact ⟨Int.le_refl 0, Int.le_refl 0, Nat.le_refl 0, Int.le_refl 0, Int.le_refl 0, Int.le_refl 0, Int.le_refl 0⟩
  | succ i ih =>
    cases h : raw.cps[i]? with
    | none =>
      have : wsAt raw (i + 1) = wsAt raw i := by unfold wsAt; rw [List.take_add_one, show raw.cps.toList[i]? = none by simpa using h]; simp
      rw [this]; omega
    | some ch =>
      rw [wsAt_succ h]
      unfold wsStep
      split
      · exact ⟨by dsimp only; omega, by dsimp only; omega, by dsimp only; omega, by dsimp only; omega, by dsimp only; omega, by dsimp only; omega, by dsimp only; omega⟩
      · refine ⟨by dsimp only; omega, by dsimp only; omega, ?_, by dsimp only; omega, by dsimp only; omega, by dsimp only; omega, by dsimp only; omega⟩
        dsimp only
        rw [List.length_set]
        unfold padL
        split
        · rw [List.length_append, List.length_replicate]; omega
        · omega

theorem ws_init {w : World} {c : Cx} {Z : ZS} {s : Shared} {σ : Sg} {A : Around} {R : Result → Shared → Prop} {raw : Str} {t : Tok} {x dx : Addr}
    (hK : c.K = KK w.params) (W : W c Z s ((dx, .flds [] []) :: σ)) (hx : Z x (instObj 135 dx)) (rm : Room 2 A) (hch : ∀ ch ∈ raw.cps.toList, ch = 32 ∨ ch = 9) (hz : raw.cps.size < 2 ^ 10)
    (q : ∀ Z' s', Z.le Z' → Mine.W c Z' s' ((dx, .flds wsNames (wsVals raw)) :: σ) → R (.ok (.ret .none)) s') :
    codeAny (model P0 w) A (.call (.ref 90) ⟨[.ref x, .str raw t], []⟩) R s := by
  refine call_fnR (n := 1) ["self", "ws"] (bv := [.ref x, .str raw t]) ["self", "ws", "S", "T", "count", "b", "n", "nt", "ch"] ["Whitespace", "len", "tuple"] [some (.ref x), some (.str raw), none, none, none, none, none, none, none] W rm (by rw [hK]; k_is) (by rw [hK]; k_is) (BindsTo.of_eq rfl) (by decide +kernel) ?_ ?_
  · exact ⟨⟨_, rfl, .ref _⟩, ⟨_, rfl, .str _ _⟩, trivial⟩
  clear W s rm t
  intro s L env A rm ev W
  walk_at "gs"
  refine x_swap2 (c := c) rm.h ev (by walk_at "mem") (by walk_at "mem") (by decide) (by decide) ?_
  walk_at "gs"
  refine ⟨_, _, _, _, _, rfl, W, hv, ?_⟩
  intro s v₁ v₂ W h₁ h₂
  walk_at "gs"
  obtain ⟨d, hd⟩ : ∃ d, d = a := ⟨a, rfl⟩
  subst hd
  refine wpAny_Assign_three ?_
  walk_at "gs"
  refine x_for (c := c) rm.h ?_
  walk_at "gs"
  refine f_str (σ := (d, .list ((wsAt raw 0).count.map .int)) :: (L, .ns ["self", "ws", "S", "T", "count", "b", "n", "nt", "ch"] [some (.ref x), none, some (.str " "), some (.str "\t"), some (.ref d), some (.int (wsAt raw 0).b), some (.int (wsAt raw 0).n), some (.int (wsAt raw 0).nt), none]) :: (dx, .flds ["raw"] [.str raw]) :: σ) (W.weak (by walk_at "weak")) (fun i _ σ' => ∃ d, σ' = (d, .list ((wsAt raw i).count.map .int)) :: (L, .ns ["self", "ws", "S", "T", "count", "b", "n", "nt", "ch"] [some (.ref x), none, some (.str " "), some (.str "\t"), some (.ref d), some (.int (wsAt raw i).b), some (.int (wsAt raw i).n), some (.int (wsAt raw i).nt), none]) :: (dx, .flds ["raw"] [.str raw]) :: σ) ?_ ?_ ?_
  · exact ⟨d, rfl⟩
  · intro i m Z₂ σ' s v I P hm hz₂ hJ hv W
    obtain ⟨d, rfl⟩ := hJ
    obtain ⟨ch, hc, rfl⟩ := strL_get hm
    have hok := wsAt_ok raw i
    have hi : i < raw.cps.size := (Array.getElem?_eq_some_iff.mp hc).1
    have hch2 := hch ch (by simpa using Array.mem_of_getElem? hc)
    have eS := wsAt_succ hc
    walk_at "vri"
    walk_at "gs"
    refine wpAny_If ?_
    walk_at "gs"
    refine ite_b ?_ ?_
    · intro hb
      have h32 : ch = 32 := by
        rcases hch2 with h | h
        · exact h
        · subst h; exact absurd hb (by decide)
      subst h32
      walk_at "gs"
      have e : wsAt raw (i + 1) = ⟨(wsAt raw i).count, (wsAt raw i).b + 1, (wsAt raw i).n + 1, (wsAt raw i).nt⟩ := eS
      refine ⟨_, _, ZS.le.refl _, ⟨d, rfl⟩, ?_⟩
      rw [e]
      exact W.weak (by walk_at "weak")
    · intro hb
      have h9 : ch = 9 := by
        rcases hch2 with h | h
        · subst h; exact absurd hb (by decide)
        · exact h
      subst h9
      have e : wsAt raw (i + 1) = ⟨(padL (wsAt raw i)).set (wsAt raw i).b.toNat (atI (padL (wsAt raw i)) (wsAt raw i).b + 1), 0, (wsAt raw i).n + 1, (wsAt raw i).nt + 1⟩ := eS
      walk_at "gs"
      refine wpAny_If ?_
      walk_at "gs"
      refine ite_b ?_ (fun hb => absurd hb (by decide))
      intro _
      have hl2 : ((wsAt raw i).count.map MV.int).length = (wsAt raw i).count.length := List.length_map ..
      walk_at "gs"
      refine mid (a := Flow.next) (fun s' => ∃ Z₃ d', Z₂.le Z₃ ∧ Mine.W c Z₃ s' ((d', .list ((padL (wsAt raw i)).map .int)) :: (L, .ns ["self", "ws", "S", "T", "count", "b", "n", "nt", "ch"] [some (.ref x), none, some (.str " "), some (.str "\t"), some (.ref d'), some (.int (wsAt raw i).b), some (.int ((wsAt raw i).n + 1)), some (.int ((wsAt raw i).nt + 1)), none]) :: (I, .obj P) :: (dx, .flds ["raw"] [.str raw]) :: σ)) ?_ ?_
      · walk_at "go"
        refine ite_dec ?_ ?_
        · intro hlt
          walk_at "go"
          refine ⟨rfl, _, a, ZS.le.refl _, ?_⟩
          have e : (padL (wsAt raw i)).map MV.int = (wsAt raw i).count.map MV.int ++ List.replicate ((wsAt raw i).b - (((wsAt raw i).count.map MV.int).length : Int) + 1).toNat (.int 0) := by
            unfold padL; rw [if_pos (by rw [← hl2]; exact hlt), List.map_append, List.map_replicate, hl2]
          rw [e]
          exact W.weak (by walk_at "weak")
        · intro hlt
          walk_at "go"
          refine ⟨rfl, _, d, ZS.le.refl _, ?_⟩
          have e : padL (wsAt raw i) = (wsAt raw i).count := by unfold padL; rw [if_neg (by rw [← hl2]; exact hlt)]
          rw [e]
          exact W.weak (by walk_at "weak")
      · rintro s ⟨Z₃, d', hz₃, W⟩
        have hpl : (wsAt raw i).b < ((padL (wsAt raw i)).length : Int) ∧ (padL (wsAt raw i)).length < 2 ^ 12 := by
          unfold padL
          split
          · rw [List.length_append, List.length_replicate]; omega
          · omega
        have e1 := atI_get (r := padL (wsAt raw i)) (j := (wsAt raw i).b) hok.1 hpl.1
        walk_at "gs"
        refine set_item (m := .int (atI (padL (wsAt raw i)) (wsAt raw i).b + 1)) W (by walk_at "pick") hok.1 (by rw [List.length_map]; exact hpl.1) (by omega) (.int _ _) ?_
        clear W; intro s W
        walk_at "gs"
        refine ⟨_, _, hz₃, ⟨d', rfl⟩, ?_⟩
        rw [e]
        dsimp only
        rw [List.map_set]
        exact W.weak (by walk_at "weak")
  · intro Z₂ σ' s hz₂ hJ W
    obtain ⟨d, rfl⟩ := hJ
    rw [strL_length, show wsAt raw raw.cps.size = wsEnd raw from rfl] at W
    have hok := wsAt_ok raw raw.cps.size
    rw [show wsAt raw raw.cps.size = wsEnd raw from rfl] at hok
    have hl2 : ((wsEnd raw).count.map MV.int).length = (wsEnd raw).count.length := List.length_map ..
    walk_at "gs"
    rw [hl2] at W
    exact q Z' s (by walk_at "zle") (W.weak (by walk_at "weak"))

-- P10



theorem ws_make {w : World} {c : Cx} {Z : ZS} {s : Shared} {σ : Sg} {A : Around} {E : Value → Shared → Prop} {Q : Value → Shared → Prop} {raw : Str} {t : Tok}
    (hK : c.K = KK w.params) (W : W c Z s σ) (rm : Room 3 A) (hch : ∀ ch ∈ raw.cps.toList, ch = 32 ∨ ch = 9) (hz : raw.cps.size < 2 ^ 10)
    (q : ∀ Z' s' x, Z.le Z' → Mine.W c Z' s' σ → VR Z' (encW raw) (.ref x) → Q (.ref x) s') :
    wpAny (model P0 w) A (call (.ref 135) [.str raw t]) Q E s := by
  refine i_make W rm (f := 90) (by rw [hK]; k_is) (by rw [hK]; k_is) (by rw [hK]; k_is) ?_
  intro x dx Z₁ s₁ A₁ rm₁ hz₁ W₁ hx
  refine ws_init hK W₁ hx rm₁ hch hz ?_
  intro Z₂ s₂ hz₂ W₂
  refine ⟨rfl, ?_⟩
  obtain ⟨Z₃, hz₃, W₃, hv⟩ := W₂.inObj (hz₂ _ _ hx)
  exact q Z₃ s₂ x (hz₁.trans (hz₂.trans hz₃)) W₃ hv

def wsOk (st : WS) : Prop := 0 ≤ st.b ∧ st.b < 2 ^ 10 ∧ st.count.length < 2 ^ 10 ∧ 0 ≤ st.nt ∧ st.nt < 2 ^ 10
theorem wsEnd_ok {raw : Str} (hz : raw.cps.size < 2 ^ 10) : wsOk (wsEnd raw) := by
  have h := wsAt_ok raw raw.cps.size
  unfold wsOk wsEnd
  omega
def longR (st : WS) : Int := max ((st.count.length : Int) - 1) st.b

theorem longest_ok {w : World} {c : Cx} {Z : ZS} {s : Shared} {σ : Sg} {A : Around} {E : Value → Shared → Prop} {Q : Value → Shared → Prop} {raw : Str} {x : Addr}
    (hK : c.K = KK w.params) (W : W c Z s σ) (rm : Room 1 A) (hv : VR Z (encW raw) (.ref x)) (hz : raw.cps.size < 2 ^ 10)
    (q : ∀ Z' s' t, Z.le Z' → Mine.W c Z' s' σ → Q (.int (longR (wsEnd raw)) t) s') :
    wpAny (model P0 w) A (call (.ref 97) [.ref x]) Q E s := by
  refine call_fn (n := 0) ["self"] (bv := [.ref x]) ["self", "count", "trailing"] ["max", "len"] [some (encW raw), none, none] W rm (by rw [hK]; k_is) (by rw [hK]; k_is) (BindsTo.of_eq rfl) (by decide +kernel) ?_ ?_
  · exact ⟨⟨_, rfl, hv⟩, trivial⟩
  clear W s rm
  intro s L env A rm ev W
  have hok := wsEnd_ok hz
  unfold wsOk at hok
  have hl2 : ((wsEnd raw).count.map MV.int).length = (wsEnd raw).count.length := List.length_map ..
  unfold encW wsNames wsVals at hv W
  walk_at "gs"
  rw [hl2]
  exact q Z s t (by walk_at "zle") (W.weak (by walk_at "weak"))

def ilAt (st : WS) (ts : Int) (i : Nat) : Int := (List.range i).foldl (fun il (k : Nat) => il + (ts + (k : Int)).fdiv ts * atI st.count (ts + (k : Int))) 0
theorem ilAt_succ (st : WS) (ts : Int) (i : Nat) : ilAt st ts (i + 1) = ilAt st ts i + (ts + (i : Int)).fdiv ts * atI st.count (ts + (i : Int)) := by
  unfold ilAt
  rw [List.range_succ, List.foldl_append]; rfl
def levelP (st : WS) (ts : Int) : Int := st.b + ts * (ilAt st ts ((st.count.length : Int) - ts).toNat + st.nt)

theorem level_ok {w : World} {c : Cx} {Z : ZS} {s : Shared} {σ : Sg} {A : Around} {E : Value → Shared → Prop} {Q : Value → Shared → Prop} {raw : Str} {x : Addr} {ts : Int} {t₀ : Tok}
    (hK : c.K = KK w.params) (W : W c Z s σ) (rm : Room 1 A) (hv : VR Z (encW raw) (.ref x)) (hz : raw.cps.size < 2 ^ 10) (h2 : 2 ≤ ts) (h3 : ts < 2 ^ 12)
    (q : ∀ Z' s' t, Z.le Z' → Mine.W c Z' s' σ → Q (.int (levelP (wsEnd raw) ts) t) s') :
    wpAny (model P0 w) A (call (.ref 104) [.ref x, .int ts t₀]) Q E s := by
  refine call_fn (n := 0) ["self", "tabsize"] (bv := [.ref x, .int ts t₀]) ["self", "tabsize", "count", "trailing", "il", "i"] ["range", "len"] [some (encW raw), some (.int ts), none, none, none, none] W rm (by rw [hK]; k_is) (by rw [hK]; k_is) (BindsTo.of_eq rfl) (by decide +kernel) ?_ ?_
  · exact ⟨⟨_, rfl, hv⟩, ⟨_, rfl, .int _ _⟩, trivial⟩
  clear W s rm t₀
  intro s L env A rm ev W
  have hok := wsEnd_ok hz
  unfold wsOk at hok
  have hl2 : ((wsEnd raw).count.map MV.int).length = (wsEnd raw).count.length := List.length_map ..
  unfold encW wsNames wsVals at hv W
  walk_at "gs"
  refine x_for (c := c) rm.h ?_
  walk_at "gs"
  refine fn_range W (σ₁ := fun i => (L, .ns ["self", "tabsize", "count", "trailing", "il", "i"] [some (.obj 135 ["raw", "n", "nt", "norm", "is_simple"] [.str raw, .int (wsEnd raw).n, .int (wsEnd raw).nt, .tup [.tup ((wsEnd raw).count.map .int), .int (wsEnd raw).b], .bool (decide (((wsEnd raw).count.length : Int) ≤ 1))]), some (.int ts), some (.tup ((wsEnd raw).count.map .int)), some (.int (wsEnd raw).b), some (.int (ilAt (wsEnd raw) ts i)), none]) :: σ)
    (by walk_at "weak") (by omega) (by omega) (by omega) (by omega) ?_ ?_
  · intro i m Z₂ s v I P hm hz₂ hv₂ W
    obtain ⟨hi, rfl⟩ := rangeL_get hm
    have hj : ts + (i : Int) < ((wsEnd raw).count.length : Int) := by omega
    have e1 := atI_get (r := (wsEnd raw).count) (j := ts + (i : Int)) (by omega) hj
    have hd : (ts + (i : Int)).fdiv ts = (ts + (i : Int)) / ts := Int.fdiv_eq_ediv_of_nonneg _ (by omega)
    have hd1 : 0 ≤ (ts + (i : Int)).fdiv ts := by rw [hd]; exact Int.ediv_nonneg (by omega) (by omega)
    have hd2 : (ts + (i : Int)).fdiv ts ≤ ts + (i : Int) := by rw [hd]; exact Int.ediv_le_self _ (by omega)
    walk_at "vri"
    walk_at "gs"
    rw [← ilAt_succ] at W
    walk_at "te"
  · intro Z₂ s hz₂ W
    rw [hl2] at W
    walk_at "gs"
    exact q Z₂ s t (by walk_at "zle") (W.weak (by walk_at "weak"))

def lessP (x y : WS) : Bool :=
  if y.n ≤ x.n then false
  else if decide ((x.count.length : Int) ≤ 1) && decide ((y.count.length : Int) ≤ 1) then decide (x.nt ≤ y.nt)
  else (List.range (max (longR x) (longR y)).toNat).all fun (i : Nat) => !decide (levelP y (2 + i) ≤ levelP x (2 + i))

theorem less_ok {w : World} {c : Cx} {Z : ZS} {s : Shared} {σ : Sg} {A : Around} {E : Value → Shared → Prop} {Q : Value → Shared → Prop} {raw raw' : Str} {x y : Addr}
    (hK : c.K = KK w.params) (W : W c Z s σ) (rm : Room 2 A) (hv : VR Z (encW raw) (.ref x)) (hv' : VR Z (encW raw') (.ref y)) (hz : raw.cps.size < 2 ^ 10) (hz' : raw'.cps.size < 2 ^ 10)
    (q : ∀ Z' s', Z.le Z' → Mine.W c Z' s' σ → Q (.bool (lessP (wsEnd raw) (wsEnd raw'))) s') :
    wpAny (model P0 w) A (call (.ref 125) [.ref x, .ref y]) Q E s := by
  refine call_fn (n := 1) ["self", "other"] (bv := [.ref x, .ref y]) ["self", "other", "n", "ts"] ["max", "range"] [some (encW raw), some (encW raw'), none, none] W rm (by rw [hK]; k_is) (by rw [hK]; k_is) (BindsTo.of_eq rfl) (by decide +kernel) ?_ ?_
  · exact ⟨⟨_, rfl, hv⟩, ⟨_, rfl, hv'⟩, trivial⟩
  clear W s rm
  intro s L env A rm ev W
  have hok := wsEnd_ok hz
  have hok' := wsEnd_ok hz'
  unfold wsOk at hok hok'
  have hV := hv
  have hV' := hv'
  unfold encW wsNames wsVals at hv hv'
  walk_at "gs"
  refine wpAny_If ?_
  walk_at "gs"
  refine ite_dec ?_ ?_
  · intro hle
    walk_at "gs"
    have e : lessP (wsEnd raw) (wsEnd raw') = false := by unfold lessP; rw [if_pos hle]
    rw [← e]
    exact q Z s (by walk_at "zle") (W.weak (by walk_at "weak"))
  · intro hle
    walk_at "gs"
    refine wpAny_If ?_
    refine mid (a := decide (((wsEnd raw).count.length : Int) ≤ 1) && decide (((wsEnd raw').count.length : Int) ≤ 1)) (fun s' => Mine.W c Z s' ((L, .ns ["self", "other", "n", "ts"] [some (encW raw), some (encW raw'), none, none]) :: σ)) ?_ ?_
    · walk_at "gs"
      refine ite_b ?_ ?_
      · intro hb
        walk_at "gs"
        refine ite_b ?_ ?_
        · intro hb2
          walk_at "gs"
          exact ⟨by rw [hb, hb2]; rfl, W.weak (by walk_at "weak")⟩
        · intro hb2
          walk_at "gs"
          exact ⟨by rw [hb, hb2]; rfl, W.weak (by walk_at "weak")⟩
      · intro hb
        walk_at "gs"
        refine ⟨by rw [hb, Bool.false_and], W.weak (by walk_at "weak")⟩
    · intro s W
      refine ite_b ?_ ?_
      · intro hb
        walk_at "gs"
        have e : lessP (wsEnd raw) (wsEnd raw') = decide ((wsEnd raw).nt ≤ (wsEnd raw').nt) := by unfold lessP; rw [if_neg hle, if_pos hb]
        rw [← e]
        exact q Z s (by walk_at "zle") (W.weak (by walk_at "weak"))
      · intro hb
        have e : lessP (wsEnd raw) (wsEnd raw') = (List.range (max (longR (wsEnd raw)) (longR (wsEnd raw'))).toNat).all fun (i : Nat) => !decide (levelP (wsEnd raw') (2 + i) ≤ levelP (wsEnd raw) (2 + i)) := by unfold lessP; rw [if_neg hle, if_neg (by rw [hb]; decide)]
        have hlr : 0 ≤ longR (wsEnd raw) ∧ longR (wsEnd raw) < 2 ^ 10 := by unfold longR; omega
        have hlr' : 0 ≤ longR (wsEnd raw') ∧ longR (wsEnd raw') < 2 ^ 10 := by unfold longR; omega
        walk_at "gs"
        refine longest_ok hK W rm (by walk_at "vr") hz ?_
        intro Z₂ s t hz₂ W
        walk_at "gs"
        refine longest_ok hK W rm (by walk_at "vr") hz' ?_
        intro Z₃ s t hz₃ W
        walk_at "gs"
        refine x_for (c := c) rm.h ?_
        walk_at "gs"
        refine f_range (σ := (L, .ns ["self", "other", "n", "ts"] [some (encW raw), some (encW raw'), none, none]) :: σ) (W.weak (by walk_at "weak")) (by omega) (by omega) (by omega) (by omega) (fun i _ σ' => σ' = (L, .ns ["self", "other", "n", "ts"] [some (encW raw), some (encW raw'), none, none]) :: σ ∧ ∀ k, k < i → (!decide (levelP (wsEnd raw') (2 + (k : Int)) ≤ levelP (wsEnd raw) (2 + (k : Int)))) = true) ⟨rfl, fun _ h => absurd h (Nat.not_lt_zero _)⟩ ?_ ?_
        · intro i m Z₄ σ' s v I P hm hz₄ hJ hv₂ W
          obtain ⟨rfl, hJ⟩ := hJ
          obtain ⟨hi, rfl⟩ := rangeL_get hm
          walk_at "vri"
          walk_at "gs"
          refine wpAny_If ?_
          walk_at "gs"
          refine level_ok hK W rm (by walk_at "vr") hz (by omega) (by omega) ?_
          intro Z₅ s t hz₅ W
          walk_at "gs"
          refine level_ok hK W rm (by walk_at "vr") hz' (by omega) (by omega) ?_
          intro Z₆ s t hz₆ W
          walk_at "gs"
          refine ite_dec ?_ ?_
          · intro hlt
            walk_at "gs"
            have e2 : lessP (wsEnd raw) (wsEnd raw') = false := by
              rw [e, Bool.eq_false_iff]
              intro hall
              have := List.all_eq_true.mp hall i (List.mem_range.mpr (by omega))
              rw [decide_eq_true hlt] at this
              cases this
            rw [← e2]
            exact q Z₆ s (by walk_at "zle") (W.weak (by walk_at "weak"))
          · intro hlt
            walk_at "gs"
            refine ⟨Z₆, _, by walk_at "zle", ⟨rfl, ?_⟩, W.weak (by walk_at "weak")⟩
            intro k hk
            by_cases hki : k = i
            · subst hki; rw [decide_eq_false hlt]; rfl
            · exact hJ k (by omega)
        · intro Z₄ σ' s hz₄ hJ W
          obtain ⟨rfl, hJ⟩ := hJ
          rw [rangeL_length] at hJ
          walk_at "gs"
          have e2 : lessP (wsEnd raw) (wsEnd raw') = true := by
            rw [e, List.all_eq_true]
            intro k hk
            exact hJ k (by have := List.mem_range.mp hk; omega)
          rw [← e2]
          exact q Z₄ s (by walk_at "zle") (W.weak (by walk_at "weak"))

-- P11



def leadOk (x : Str) : Prop := (∀ ch ∈ x.cps.toList, ch = 32 ∨ ch = 9) ∧ x.cps.size < 2 ^ 10
def goes (own : Str) (lead : Str) : Bool := lessP (wsEnd lead) (wsEnd own)
def needAt (own : Str) (others : List Str) (i : Nat) : Int := (((others.take i).filter (goes own)).length : Nat)
def needsP (l0 l1 l2 : Str) (others : List Str) : List Int := [needAt l0 others others.length, needAt l1 others others.length, needAt l2 others others.length]
theorem needAt_T {own : Str} {others : List Str} {i : Nat} {x : Str} (h : others[i]? = some x) (hp : goes own x = true) : needAt own others (i + 1) = needAt own others i + 1 := by
  unfold needAt
  rw [take_succ_filter _ others i x h, hp, List.length_append]; simp
theorem needAt_F {own : Str} {others : List Str} {i : Nat} {x : Str} (h : others[i]? = some x) (hp : goes own x = false) : needAt own others (i + 1) = needAt own others i := by
  unfold needAt
  rw [take_succ_filter _ others i x h, hp]; simp
theorem needAt_le {own : Str} {others : List Str} {i : Nat} : 0 ≤ needAt own others i ∧ needAt own others i ≤ (others.length : Int) := by
  unfold needAt
  have h1 := List.length_filter_le (goes own) (others.take i)
  have h2 : (others.take i).length ≤ others.length := by rw [List.length_take]; exact Nat.min_le_right _ _
  omega
/-- the needs, the first j of them told anew -/
def needMix (l0 l1 l2 : Str) (others : List Str) (i j : Nat) : List MV :=
  [.int (needAt l0 others (if 0 < j then i + 1 else i)), .int (needAt l1 others (if 1 < j then i + 1 else i)), .int (needAt l2 others (if 2 < j then i + 1 else i))]
def own3 (l0 l1 l2 : Str) (j : Nat) : Str := if j = 0 then l0 else if j = 1 then l1 else l2

theorem needMix_get {l0 l1 l2 : Str} {others : List Str} {i j : Nat} (hj : j < 3) : (needMix l0 l1 l2 others i j)[j]? = some (.int (needAt (own3 l0 l1 l2 j) others i)) := by
  have : j = 0 ∨ j = 1 ∨ j = 2 := by omega
  rcases this with rfl | rfl | rfl <;> rfl
theorem needMix_T {l0 l1 l2 : Str} {others : List Str} {i j : Nat} {x : Str} (hj : j < 3) (h : others[i]? = some x) (hp : goes (own3 l0 l1 l2 j) x = true) : (needMix l0 l1 l2 others i j).set j (.int (needAt (own3 l0 l1 l2 j) others i + 1)) = needMix l0 l1 l2 others i (j + 1) := by
  rw [← needAt_T h hp]
  have : j = 0 ∨ j = 1 ∨ j = 2 := by omega
  rcases this with rfl | rfl | rfl <;> rfl
theorem needMix_F {l0 l1 l2 : Str} {others : List Str} {i j : Nat} {x : Str} (hj : j < 3) (h : others[i]? = some x) (hp : goes (own3 l0 l1 l2 j) x = false) : needMix l0 l1 l2 others i j = needMix l0 l1 l2 others i (j + 1) := by
  have e := needAt_F h hp
  have : j = 0 ∨ j = 1 ∨ j = 2 := by omega
  rcases this with rfl | rfl | rfl
  · unfold needMix; rw [if_neg (by decide), if_neg (by decide), if_neg (by decide), if_pos (by decide), if_neg (by decide), if_neg (by decide)]; rw [show needAt l0 others (i + 1) = needAt l0 others i from e]
  · unfold needMix; rw [if_pos (by decide), if_neg (by decide), if_neg (by decide), if_pos (by decide), if_pos (by decide), if_neg (by decide)]; rw [show needAt l1 others (i + 1) = needAt l1 others i from e]
  · unfold needMix; rw [if_pos (by decide), if_pos (by decide), if_neg (by decide), if_pos (by decide), if_pos (by decide), if_pos (by decide)]; rw [show needAt l2 others (i + 1) = needAt l2 others i from e]

theorem needs_ok {w : World} {c : Cx} {Z : ZS} {s : Shared} {σ : Sg} {A : Around} {E : Value → Shared → Prop} {Q : Value → Shared → Prop} {a b : Addr} {l0 l1 l2 : Str} {others : List Str}
    (hK : c.K = KK w.params) (W : W c Z s σ) (rm : Room 4 A) (hv : VR Z (.lst ([l0, l1, l2].map .str)) (.ref a)) (hv' : VR Z (.lst (others.map .str)) (.ref b)) (hl : ∀ x ∈ [l0, l1, l2], leadOk x) (ho : ∀ x ∈ others, leadOk x) (hz : others.length < 2 ^ 10)
    (q : ∀ Z' s' d, Z.le Z' → Mine.W c Z' s' σ → VR Z' (.lst ((needsP l0 l1 l2 others).map .int)) (.ref d) → Q (.ref d) s') :
    wpAny (model P0 w) A (call (.ref 299) [.ref a, .ref b]) Q E s := by
  refine call_fn (n := 3) ["ladder", "others"] (bv := [.ref a, .ref b]) ["ladder", "others", "lead", "own", "needs", "one", "k"] ["Whitespace", "range"] [some (.lst ([l0, l1, l2].map .str)), some (.lst (others.map .str)), none, none, none, none, none] W rm (by rw [hK]; k_is) (by rw [hK]; k_is) (BindsTo.of_eq rfl) (by decide +kernel) ?_ ?_
  · exact ⟨⟨_, rfl, hv⟩, ⟨_, rfl, hv'⟩, trivial⟩
  clear W s rm
  intro s L env A rm ev W
  walk_at "gs"
  refine x_compA1 (c := c) [] [] [] ["lead"] ["Whitespace"] rm.h ev (by walk_at "mem") (by decide +kernel) (by decide +kernel) (by walk_at "fl") ?_
  walk_at "gs"
  refine c_list (xs := [l0, l1, l2].map .str) W (by assumption) (CompK.const ?_)
  intro C acc cenv ev2 own2
  refine ⟨fun i => ([l0, l1, l2].map encW).take i, rfl, ?_, ?_⟩
  · intro i m Z₂ s v I P hm hz₂ hv₂ W
    obtain ⟨x, hx, rfl⟩ := mapL_get hm
    obtain ⟨t, rfl⟩ := hv₂.str_inv
    have hlx := hl x (List.mem_of_getElem? hx)
    have hcl : (([l0, l1, l2].map encW).take i).length < 2 ^ 20 := by exact Nat.lt_of_le_of_lt (m := 3) (List.length_take_le' ..) (by decide)
    walk_at "gs"
    refine ws_make hK W rm hlx.1 hlx.2 ?_
    intro Z₃ s y hz₃ W hvy
    walk_at "gs"
    walk_at "ce"
    exact (take_mapS hx).symm
  · intro Z₂ s hz₂ W
    dsimp only at W
    rw [show ([l0, l1, l2].map encW).take ([l0, l1, l2].map MV.str).length = [l0, l1, l2].map encW from rfl] at W
    refine fin_use W ev (by walk_at "pick") (by walk_at "lset") ?_
    intro Z₃ s hz₃ W
    walk_at "gs"
    obtain ⟨d, hd⟩ : ∃ d, d = a := ⟨a, rfl⟩
    subst hd
    refine x_for (c := c) rm.h ?_
    walk_at "gs"
    have e0 : needMix l0 l1 l2 others 0 0 = [.int 0, .int 0, .int 0] := by simp [needMix, needAt]
    refine fn_list (xs := others.map .str) W (by walk_at "vr") (σ₁ := fun i => (d, .list (needMix l0 l1 l2 others i 0)) :: (L, .ns ["ladder", "others", "lead", "own", "needs", "one", "k"] [some (.lst ([l0, l1, l2].map .str)), some (.lst (others.map .str)), none, some (.lst ([l0, l1, l2].map encW)), some (.ref d), none, none]) :: σ) (by simp only [e0]; walk_at "weak") ?_ ?_
    · intro i m Z₄ s v I P hm hz₄ hv₂ W
      obtain ⟨x, hx, rfl⟩ := mapL_get hm
      obtain ⟨t, rfl⟩ := hv₂.str_inv
      have hlx := ho x (List.mem_of_getElem? hx)
      walk_at "gs"
      refine ws_make hK W rm hlx.1 hlx.2 ?_
      intro Z₅ s y hz₅ W hvy
      walk_at "gs"
      refine x_for (c := c) rm.h ?_
      walk_at "gs"
      refine fn_range W (σ₁ := fun j => (d, .list (needMix l0 l1 l2 others i j)) :: (I, .obj P) :: (L, .ns ["ladder", "others", "lead", "own", "needs", "one", "k"] [some (.lst ([l0, l1, l2].map .str)), some (.lst (others.map .str)), none, some (.lst ([l0, l1, l2].map encW)), some (.ref d), some (encW x), none]) :: σ) (by walk_at "weak") (by decide) (by decide) (by decide) (by decide) ?_ ?_
      · intro j m Z₆ s v I₂ P₂ hm hz₆ hv₂ W
        obtain ⟨hj, rfl⟩ := rangeL_get hm
        have hj : j < 3 := hj
        have e1 : ([l0, l1, l2].map encW)[(0 + (j : Int)).toNat]? = some (encW (own3 l0 l1 l2 j)) := by
          have : j = 0 ∨ j = 1 ∨ j = 2 := by omega
          rcases this with rfl | rfl | rfl <;> rfl
        have e2 : (needMix l0 l1 l2 others i j)[(0 + (j : Int)).toNat]? = some (.int (needAt (own3 l0 l1 l2 j) others i)) := by
          rw [show (0 + (j : Int)).toNat = j by omega]; exact needMix_get hj
        have hlo : leadOk (own3 l0 l1 l2 j) := by
          have : j = 0 ∨ j = 1 ∨ j = 2 := by omega
          rcases this with rfl | rfl | rfl
          · exact hl l0 (by simp)
          · exact hl l1 (by simp)
          · exact hl l2 (by simp)
        walk_at "vri"
        walk_at "gs"
        refine wpAny_If ?_
        walk_at "gs"
        refine less_ok hK W (rm.le (by decide)) (by walk_at "vr") (by walk_at "vr") hlx.2 hlo.2 ?_
        intro Z₇ s hz₇ W
        walk_at "gs"
        refine ite_b ?_ ?_
        · intro hb
          walk_at "gs"
          refine set_item (m := .int (needAt (own3 l0 l1 l2 j) others i + 1)) W (by walk_at "pick") (by omega) (by show _ < ((3 : Nat) : Int); omega) (by omega) (.int _ _) ?_
          intro s W
          rw [show (0 + (j : Int)).toNat = j by omega, needMix_T hj hx hb] at W
          walk_at "gs"
          walk_at "te"
        · intro hb
          walk_at "gs"
          rw [needMix_F hj hx hb] at W
          walk_at "te"
      · intro Z₆ s hz₆ W
        rw [show needMix l0 l1 l2 others i ((3 : Int) - 0).toNat = needMix l0 l1 l2 others (i + 1) 0 from rfl] at W
        walk_at "gs"
        walk_at "te"
    · intro Z₄ s hz₄ W
      rw [List.length_map, show needMix l0 l1 l2 others others.length 0 = (needsP l0 l1 l2 others).map .int from rfl] at W
      walk_at "gs"
      obtain ⟨Z₅, hz₅, W, hl⟩ := W.fz (a := d) (by walk_at "pick")
      exact q Z₅ s d (by walk_at "zle") (W.weak (by walk_at "weak")) hl

-- P12



def nameCode : List Nat := [14, 10, 4, 1, 1, 22, 0, 31, 16, 127, 0, 13, 7, 22, 0, 31, 16, 127, 0, 1]
def valCode : List Nat := [14, 14, 4, 1, 1, 9, 4294966783, 0, 0, 2147483648, 0, 0, 0, 0, 0, 13, 11, 9, 4294966783, 0, 0, 2147483648, 0, 0, 0, 0, 0, 1]
theorem re_name (w : World) : isRe (KK w.params) 149 nameCode 0 = true := by kernel_rfl
theorem re_val (w : World) : isRe (KK w.params) 154 valCode 0 = true := by kernel_rfl

def aTexts : List (List Nat) := [[], [97], [97, 97], [97, 97, 97]]
def nTexts : List Nat := [120, 121, 122, 88, 89, 90]
theorem fails_val : ∀ t ∈ aTexts, reFails valCode t 0 = true := by decide +kernel
theorem fails_name : ∀ c ∈ nTexts, reFails nameCode [c] 0 = true := by decide +kernel
def lowC (c : Nat) : Nat := if c < 91 then c + 32 else c
theorem low_name : ∀ c ∈ nTexts, Txt.lower (S [c]) = S [lowC c] ∧ lowC c ∈ nTexts := by decide +kernel

theorem conv_ok {w : World} {c : Cx} {Z : ZS} {s : Shared} {σ : Sg} {A : Around} {E : Value → Shared → Prop} {Q : Value → Shared → Prop} {x : Value} {y : Str} {t : Tok} {b : Bool} {m : MV}
    (hK : c.K = KK w.params) (W : W c Z s σ) (rm : Room 1 A) (hv : VR Z m x) (hf : reFails (if b = true then nameCode else valCode) y.cps.toList 0 = true) (hz : y.cps.size < 2 ^ 20)
    (q : ∀ Z' s' t, Z.le Z' → Mine.W c Z' s' σ → Q (.str y t) s') :
    wpAny (model P0 w) A (call (.ref 184) [x, .str y t] [("name", .bool b)]) Q E s := by
  refine call_fn (n := 0) ["self", "value", "name"] (bv := [x, .str y t, .bool b]) ["self", "value", "name", "regex"] ["type", "str", "_name_disallowed_re", "_value_disallowed_re"] [none, some (.str y), some (.bool b), none] W rm (by rw [hK]; k_is) (by rw [hK]; k_is) (BindsTo.of_eq rfl) (by decide +kernel) ?_ ?_
  · exact ⟨⟨_, rfl, .str _ _⟩, ⟨_, rfl, .bool _⟩, trivial⟩
  clear W s rm
  intro s L env A rm ev W
  walk_at "gs"
  refine wpAny_If ?_
  walk_at "gs"
  cases b with
  | true =>
    rw [if_pos rfl] at hf
    refine ite_T ?_
    walk_at "gs"
    refine wpAny_If ?_
    walk_at "gs"
    refine g_search W (by rw [hK]; exact re_name w) ?_
    walk_at "gs"
    refine c_search W (by rw [hK]; exact re_name w) hf (by omega) ?_
    walk_at "gs"
    exact q Z s _ (by walk_at "zle") (W.weak (by walk_at "weak"))
  | false =>
    rw [if_neg Bool.false_ne_true] at hf
    refine ite_F ?_
    walk_at "gs"
    refine wpAny_If ?_
    walk_at "gs"
    refine g_search W (by rw [hK]; exact re_val w) ?_
    walk_at "gs"
    refine c_search W (by rw [hK]; exact re_val w) hf (by omega) ?_
    walk_at "gs"
    exact q Z s _ (by walk_at "zle") (W.weak (by walk_at "weak"))

/-- a table of headers, its rows in the list d -/
def encH (d : Addr) : MV := .obj 283 ["_headers"] [.ref d]

theorem typeL {Z : ZS} {s : Shared} {a : Addr} {l : List MV} (h : LAtZ Z s a l) : s.TypeIs (.ref a) "list" := by obtain ⟨vs, hl, _⟩ := h; exact hl.typeIs

theorem hd_make {w : World} {c : Cx} {Z : ZS} {s : Shared} {σ : Sg} {A : Around} {E : Value → Shared → Prop} {Q : Value → Shared → Prop}
    (hK : c.K = KK w.params) (W : W c Z s σ) (rm : Room 2 A) (q : ∀ Z' s' x d, Z.le Z' → Mine.W c Z' s' ((d, .list []) :: σ) → VR Z' (encH d) (.ref x) → Q (.ref x) s') :
    wpAny (model P0 w) A (call (.ref 283) []) Q E s := by
  refine i_make W rm (f := 177) (by rw [hK]; k_is) (by rw [hK]; k_is) (by rw [hK]; k_is) ?_
  intro x dx Z₁ s A rm hz₁ W hx
  refine call_fnR (n := 0) ["self", "headers"] (bv := [.ref x, .none]) ["self", "headers", "k", "v"] ["type", "list"] [some (.ref x), some .none, none, none] W rm (by rw [hK]; k_is) (by rw [hK]; k_is) (binds_K W.kin rfl (by rw [hK]; k_is) rfl rfl rfl) (by decide +kernel) ?_ ?_
  · exact ⟨⟨_, rfl, .ref _⟩, ⟨_, rfl, .none⟩, trivial⟩
  clear W s rm
  intro s L env A rm ev W
  walk_at "gs"
  refine wpAny_If ?_
  walk_at "gs"
  refine call_type_of (Tx := "list") (typeL (W.latc (by walk_at "pick"))) (by decide +kernel) ?_
  walk_at "gs"
  refine wpAny_If ?_
  walk_at "gs"
  refine x_for0 ?_
  walk_at "gs"
  refine f_list0 rm.h W (by walk_at "pick") ?_
  intro s W
  walk_at "gs"
  refine ⟨rfl, ?_⟩
  obtain ⟨Z₃, hz₃, W₃, hv⟩ := (W.weak (t := (dx, .flds ["_headers"] [.ref a]) :: (a, .list []) :: σ) (by walk_at "weak")).inObj hx
  exact q Z₃ s x a (hz₁.trans hz₃) W₃ hv

theorem join_one : ∀ t ∈ aTexts, JoinOk "; " [S t] = true ∧ Txt.join "; " [S t] = S t := by decide +kernel
theorem a_len : ∀ t ∈ aTexts, t.length < 4 := by decide
def rowT (n : Nat) (text : List Nat) : MV := .tup [.str (S [n]), .str (S text)]

theorem add_ok {w : World} {c : Cx} {Z : ZS} {s : Shared} {σ : Sg} {A : Around} {E : Value → Shared → Prop} {Q : Value → Shared → Prop} {x d : Addr} {n : Nat} {text : List Nat} {l : List MV} {t u : Tok}
    (hK : c.K = KK w.params) (W : W c Z s ((d, .list l) :: σ)) (rm : Room 2 A) (hv : VR Z (encH d) (.ref x)) (hn : n ∈ nTexts) (ht : text ∈ aTexts) (hl : l.length < 2 ^ 12)
    (q : ∀ Z' s', Z.le Z' → Mine.W c Z' s' ((d, .list (l ++ [rowT n text])) :: σ) → Q .none s') :
    wpAny (model P0 w) A (call (.ref 280) [.ref x, .str (S [n]) t, .str (S text) u]) Q E s := by
  refine call_fnM (n := 1) ["self", "_name", "_value", "_params"] (bv := fun D => [.ref x, .str (S [n]) t, .str (S text) u, .ref D]) ["self", "_name", "_value", "_params", "parts", "k", "v"] [] (fun D => [some (encH d), some (.str (S [n])), some (.str (S text)), some (.ref D), none, none, none]) W rm (by decide) (by rw [hK]; k_is) (by rw [hK]; k_is) rfl (by decide +kernel) ?_ ?_
  · exact fun D => ⟨⟨_, rfl, hv⟩, ⟨_, rfl, .str _ _⟩, ⟨_, rfl, .str _ _⟩, ⟨_, rfl, .ref _⟩, trivial⟩
  clear W s rm
  intro s L D env A rm ev hD W
  have hfv := fails_val text ht
  have hfn := fails_name n hn
  have hal := a_len text ht
  have hjo := join_one text ht
  have hsz1 : (S text).cps.size < 2 ^ 20 := by show text.toArray.size < _; rw [List.size_toArray]; omega
  walk_at "gs"
  obtain ⟨pa, hd⟩ : ∃ d, d = a := ⟨a, rfl⟩
  subst hd
  refine wpAny_If ?_
  walk_at "gs"
  refine conv_ok hK W rm (b := false) (by walk_at "vr") hfv hsz1 ?_
  intro Z₂ s t hz₂ W
  walk_at "gs"
  refine x_for0 ?_
  walk_at "gs"
  refine f_items0 rm.h W (by walk_at "pick") (by walk_at "pick") ?_
  intro s W
  walk_at "gs"
  refine conv_ok hK W rm (b := true) (by walk_at "vr") hfn (by show (1 : Nat) < 2 ^ 20; decide) ?_
  intro Z₃ s t hz₃ W
  walk_at "gs"
  refine st_join (texts := [S text]) W (W.latc (by walk_at "pick")) hjo.1 ?_
  intro s t W
  rw [hjo.2]
  walk_at "gs"
  exact q Z' s (by walk_at "zle") (W.weak (by walk_at "weak"))

theorem hlen_ok {w : World} {c : Cx} {Z : ZS} {s : Shared} {σ r : Sg} {A : Around} {E : Value → Shared → Prop} {Q : Value → Shared → Prop} {x d : Addr} {l : List MV}
    (hK : c.K = KK w.params) (W : W c Z s σ) (hp : Pick d (.list l) σ r) (rm : Room 3 A) (hv : VR Z (encH d) (.ref x)) (hl : l.length < 2 ^ 12)
    (q : ∀ Z' s' t, Z.le Z' → Mine.W c Z' s' σ → Q (.int (l.length : Int) t) s') :
    wpAny (model P0 w) A (call (.builtin "len") [.ref x]) Q E s := by
  refine len_i W hv (f := 191) (by rw [hK]; k_is) (by rw [hK]; k_is) ?_
  refine call_fn (n := 1) ["self"] (bv := [.ref x]) ["self"] ["len"] [some (encH d)] W rm.in1 (by rw [hK]; k_is) (by rw [hK]; k_is) (BindsTo.of_eq rfl) (by decide +kernel) ?_ ?_
  · exact ⟨⟨_, rfl, hv⟩, trivial⟩
  clear W s
  intro s L env A rm ev W
  walk_at "gs"
  refine len_l W (W.latc (.tail hp)) (by omega) ?_
  intro s t W
  walk_at "gs"
  refine ⟨⟨by omega, by omega⟩, ?_⟩
  exact q Z _ _ (by walk_at "zle") ((W.weak (by walk_at "weak")).tok _)

/-- the finished table -/
def encT (es : List (Nat × List Nat)) : MV := .obj 283 ["_headers"] [.lst (es.map fun e => rowT e.1 e.2)]
theorem encT_of {Z : ZS} {x d : Addr} {l : List MV} (hv : VR Z (encH d) (.ref x)) (hl : VR Z (.lst l) (.ref d)) : VR Z (.obj 283 ["_headers"] [.lst l]) (.ref x) := by
  unfold encH at hv
  obtain ⟨x', dx, es, n, vs, e, hx, hd, hk, hr⟩ := hv.obj_inv
  cases e
  cases hr with | cons h1 h2 =>
  cases h2
  cases h1.ref_inv
  exact .obj hx hd hk (.cons hl .nil)

theorem S1_beq (a b : Nat) : (S [a] == S [b]) = (a == b) := by
  rw [Bool.eq_iff_iff, beq_iff_eq, beq_iff_eq]
  constructor
  · intro h
    have h1 : [a].toArray = [b].toArray := congrArg Str.cps h
    have h2 := congrArg Array.toList h1
    simpa using h2
  · rintro rfl; rfl
def getP (es : List (Nat × List Nat)) (n : Nat) : List (List Nat) := (es.filter fun e => lowC e.1 == lowC n).map (·.2)

theorem get_ok {w : World} {c : Cx} {Z : ZS} {s : Shared} {σ : Sg} {A : Around} {E : Value → Shared → Prop} {Q : Value → Shared → Prop} {x : Addr} {n : Nat} {es : List (Nat × List Nat)} {t : Tok}
    (hK : c.K = KK w.params) (W : W c Z s σ) (rm : Room 2 A) (hv : VR Z (encT es) (.ref x)) (hn : n ∈ nTexts) (he : ∀ e ∈ es, e.1 ∈ nTexts) (hz : es.length < 2 ^ 12)
    (q : ∀ Z' s' d, Z.le Z' → Mine.W c Z' s' σ → VR Z' (.lst ((getP es n).map fun t => .str (S t))) (.ref d) → Q (.ref d) s') :
    wpAny (model P0 w) A (call (.ref 222) [.ref x, .str (S [n]) t]) Q E s := by
  refine call_fnC (n := 1) ["self", "name"] (bv := [.ref x, .str (S [n]) t]) ["self"] ["name"] [] W rm (by rw [hK]; k_is) (by rw [hK]; k_is) (BindsTo.of_eq rfl) (by decide +kernel) ?_
  clear W s rm
  intro L a1 env ev own s W A
  walk_at "go"
  intro A rm
  have hlo := low_name n hn
  walk_at "gs"
  refine st_lower W (by show (1 : Nat) < 2 ^ 20; decide) ?_
  intro s t W
  rw [hlo.1]
  walk_at "gs"
  refine conv_ok hK W rm (b := true) (by walk_at "vr") (fails_name _ hlo.2) (by show (1 : Nat) < 2 ^ 20; decide) ?_
  intro Z₂ s t hz₂ W
  walk_at "gs"
  refine x_comp1 (c := c) [("name", a1)] ["name"] [] ["kv"] [] rm.h ev (by decide +kernel) (by walk_at "fl") ?_
  walk_at "gs"
  refine c_list (xs := es.map fun e => rowT e.1 e.2) W (by assumption) (CompK.const ?_)
  intro C acc cenv ev2 own2
  refine ⟨keepL (fun e => lowC e.1 == lowC n) (fun e => .str (S e.2)) es, rfl, ?_, ?_⟩
  · intro i m Z₃ s v I P hm hz₃ hv W
    obtain ⟨e, hen, rfl⟩ := mapL_get hm
    have hel := low_name e.1 (he e (List.mem_of_getElem? hen))
    have hcl : (keepL (fun e => lowC e.1 == lowC n) (fun e => MV.str (S e.2)) es i).length < 2 ^ 20 := Nat.lt_of_le_of_lt keepL_le (by omega)
    unfold rowT at hv
    walk_at "vri"
    walk_at "gs"
    refine st_lower W (by show (1 : Nat) < 2 ^ 20; decide) ?_
    intro s t W
    rw [hel.1]
    walk_at "gs"
    rw [S1_beq]
    refine ite_b ?_ ?_
    · intro hb
      walk_at "gs"
      walk_at "ce"
      exact (keepL_T (p := fun (e : Nat × List Nat) => lowC e.1 == lowC n) (f := fun e => MV.str (S e.2)) hen hb).symm
    · intro hb
      walk_at "ce"
      exact (keepL_F (p := fun (e : Nat × List Nat) => lowC e.1 == lowC n) (f := fun e => MV.str (S e.2)) hen hb).symm
  · intro Z₃ s hz₃ W
    rw [keepL_all (by rw [List.length_map])] at W
    refine fin_frz W ?_
    intro Z₄ s hz₄ hv W
    refine q Z₄ s acc (by walk_at "zle") (W.weak (by walk_at "weak")) ?_
    unfold getP
    rw [List.map_map]
    exact hv

-- P13a

def cntA (w : List Nat) : Int := ((w.count 97 : Nat) : Int)
def bOf (w : List Nat) : Int := ((w.length : Nat) : Int) - cntA w
def okA (fa : List Int) (w : List Nat) : Bool := decide (cntA w < 3) && decide (atI fa (cntA w) ≤ bOf w)
def okB (fb : List Int) (w : List Nat) : Bool := decide (bOf w < 3) && decide (atI fb (bOf w) ≤ cntA w)
def partA (fa : List Int) (w : List Nat) : List HE := if okA fa w = true then [(w.length + 1, w ++ [97])] else []
def partB (fb : List Int) (w : List Nat) : List HE := if okB fb w = true then [(w.length + 1, w ++ [98])] else []
def longerP (fa fb : List Int) (w : List Nat) : List HE := partA fa w ++ partB fb w
def textAt : List Nat → Nat → List Nat
  | [], _ => []
  | c :: w, k => if c = 97 then 97 :: textAt w k else match k with
    | 0 => []
    | k + 1 => textAt w k
def nameAt (m k : Nat) : Nat := if m % 2 = 0 then 120 + k else 88 + k
def rowsOf (m : Nat) (w : List Nat) : List (Nat × List Nat) := [(nameAt m 0, textAt w 0), (nameAt (m + 1) 1, textAt w 1), (nameAt (m + 2) 2, textAt w 2)]
def wGood (w : List Nat) : Bool := decide (w.length ≤ 6) && w.all (fun c => c == 97 || c == 98)
def tGood (w : List Nat) : Bool := [0, 1, 2].all fun k => aTexts.contains (textAt w k)
def stepW (fa fb : List Int) (k : Nat) (w : List Nat) (hs : List HE) (es : List (Nat × List Nat)) : Option (List HE × List (Nat × List Nat)) :=
  if wGood w = true then
    match (longerP fa fb w).reverse with
    | [] => if tGood w = true then some (popP ((k, w) :: hs).dropLast (((k, w) :: hs).getLast (by simp)), es ++ rowsOf es.length w) else none
    | y :: P => if (replP y ((k, w) :: hs)).length < 1000 then some (P.reverse.foldl (fun h x => pushP x h) (replP y ((k, w) :: hs)), es) else none
  else none
def runW (fa fb : List Int) : Nat → List HE → List (Nat × List Nat) → Option (List (Nat × List Nat))
  | 0, _, _ => none
  | n + 1, hs, es => if (decide (hs.length < 1000) && decide (es.length < 1000)) = true then (match hs with
    | [] => some es
    | (k, w) :: hs => (match stepW fa fb k w hs es with
      | some r => runW fa fb n r.1 r.2
      | none => none)) else none
theorem runW_inv {fa fb : List Int} {n : Nat} {hs : List HE} {es esF : List (Nat × List Nat)} (h : runW fa fb n hs es = some esF) : hs.length < 1000 ∧ es.length < 1000 ∧ (hs = [] → es = esF) ∧
    ∀ k w hs', hs = (k, w) :: hs' → ∃ n' r, n = n' + 1 ∧ stepW fa fb k w hs' es = some r ∧ runW fa fb n' r.1 r.2 = some esF := by
  cases n with
  | zero => cases h
  | succ n =>
    unfold runW at h
    split at h
    · rename_i hg
      simp only [Bool.and_eq_true, decide_eq_true_eq] at hg
      refine ⟨hg.1, hg.2, fun e => ?_, fun k w hs' e => ?_⟩
      · subst e; exact Option.some.inj h
      · subst e
        dsimp only at h
        cases hst : stepW fa fb k w hs' es with
        | none => rw [hst] at h; cases h
        | some r => rw [hst] at h; exact ⟨n, r, rfl, rfl, h⟩
    · cases h
theorem stepW_inv {fa fb : List Int} {k : Nat} {w : List Nat} {hs : List HE} {es : List (Nat × List Nat)} {r : List HE × List (Nat × List Nat)} (h : stepW fa fb k w hs es = some r) : wGood w = true ∧
    ((longerP fa fb w = [] ∧ tGood w = true ∧ r = (popP ((k, w) :: hs).dropLast (((k, w) :: hs).getLast (by simp)), es ++ rowsOf es.length w)) ∨
      ∃ P y, longerP fa fb w = P ++ [y] ∧ (replP y ((k, w) :: hs)).length < 1000 ∧ r = (P.foldl (fun h x => pushP x h) (replP y ((k, w) :: hs)), es)) := by
  unfold stepW at h
  split at h
  · rename_i hg
    refine ⟨hg, ?_⟩
    cases hl : (longerP fa fb w).reverse with
    | nil =>
      rw [hl] at h
      dsimp only at h
      split at h
      · rename_i ht
        exact .inl ⟨List.reverse_eq_nil_iff.mp hl, ht, (Option.some.inj h).symm⟩
      · cases h
    | cons y P =>
      rw [hl] at h
      dsimp only at h
      split at h
      · rename_i ht
        refine .inr ⟨P.reverse, y, ?_, ht, (Option.some.inj h).symm⟩
        rw [← List.reverse_reverse (longerP fa fb w), hl, List.reverse_cons]
      · cases h
  · cases h

/-! what the built-ins say of the words -/
def allW : Nat → List (List Nat)
  | 0 => [[]]
  | n + 1 => (allW n).flatMap fun w => [97 :: w, 98 :: w]
def wordOk (w : List Nat) : Bool :=
  (Txt.count (S w) "a" == cntA w) && decide ((Builtin.Str.partsBetween (S w) (Builtin.Str.occurrences (S w) "b" 0 (S w).length ((S w).length + 1)) ("b" : Str).length).length ≤ 100) && decide ((Txt.split (S w) "b").length ≤ 100) &&
  [0, 1, 2].all fun k => JoinOk "" ((Txt.split (S w) "b").take (k + 1)) && (Txt.join "" ((Txt.split (S w) "b").take (k + 1)) == S (textAt w k))
theorem words_ok : ∀ n ∈ [0, 1, 2, 3, 4, 5, 6], ∀ w ∈ allW n, wordOk w = true := by decide +kernel
theorem mem_allW : ∀ (w : List Nat), w.all (fun c => c == 97 || c == 98) = true → w ∈ allW w.length
  | [], _ => .head _
  | c :: w, h => by
    rw [List.all_cons, Bool.and_eq_true] at h
    have ih := mem_allW w h.2
    show _ ∈ (allW w.length).flatMap _
    refine List.mem_flatMap.mpr ⟨w, ih, ?_⟩
    have hc : c = 97 ∨ c = 98 := by simpa using h.1
    rcases hc with rfl | rfl
    · exact .head _
    · exact .tail _ (.head _)
theorem word_ok {w : List Nat} (h : wGood w = true) : wordOk w = true := by
  unfold wGood at h
  rw [Bool.and_eq_true, decide_eq_true_eq] at h
  exact words_ok w.length (by have := h.1; simp only [List.mem_cons, List.not_mem_nil, or_false]; omega) w (mem_allW w h.2)
theorem S_len (w : List Nat) : (S w).length = w.length := by simp [S, Str.length]
theorem S_cat (u v : List Nat) : S u ++ S v = S (u ++ v) := by
  show Str.mk _ = Str.mk _
  simp [S]
theorem cntA_ok (w : List Nat) : 0 ≤ cntA w ∧ 0 ≤ bOf w ∧ cntA w + bOf w = (w.length : Int) := by
  unfold bOf cntA
  have := List.count_le_length (a := 97) (l := w)
  omega
theorem nameAt_ok (m k : Nat) (hk : k < 3) : nameAt m k ∈ nTexts := by
  unfold nameAt
  have : k = 0 ∨ k = 1 ∨ k = 2 := by omega
  rcases this with rfl | rfl | rfl <;> split <;> decide

-- P13



theorem partA_pre (a b : Nat) : ([] : List HE).length ≤ 1 := Nat.zero_le _
theorem partB_pre (fa : List Int) (wd : List Nat) : (partA fa wd).length ≤ 1 := by unfold partA; split <;> simp

def encR (e : Nat × List Nat) : MV := rowT e.1 e.2

theorem woven_ok {w : World} {c : Cx} {Z : ZS} {s : Shared} {σ : Sg} {A : Around} {E : Value → Shared → Prop} {Q : Value → Shared → Prop} {a b : Addr} {fa fb : List Int} {N : Nat} {esF : List (Nat × List Nat)}
    (hK : c.K = KK w.params) (W : W c Z s σ) (rm : Room 5 A) (hv : VR Z (.lst (fa.map .int)) (.ref a)) (hv' : VR Z (.lst (fb.map .int)) (.ref b)) (hfa : fa.length = 3) (hfb : fb.length = 3) (hr : runW fa fb N [(0, [])] [] = some esF)
    (q : ∀ Z' s' x, Z.le Z' → Mine.W c Z' s' σ → VR Z' (encT esF) (.ref x) → Q (.ref x) s') :
    wpAny (model P0 w) A (call (.ref 306) [.ref a, .ref b]) Q E s := by
  refine call_fn (n := 4) ["of_a", "of_b"] (bv := [.ref a, .ref b]) ["of_a", "of_b", "table", "heap", "word", "a", "b", "longer", "whole", "k", "one"] ["Headers", "len", "heappop", "range", "heapreplace", "heappush"] [some (.lst (fa.map .int)), some (.lst (fb.map .int)), none, none, none, none, none, none, none, none, none] W rm (by rw [hK]; k_is) (by rw [hK]; k_is) (BindsTo.of_eq rfl) (by decide +kernel) ?_ ?_
  · exact ⟨⟨_, rfl, hv⟩, ⟨_, rfl, hv'⟩, trivial⟩
  clear W s rm
  intro s L env A rm ev W
  walk_at "gs"
  refine hd_make hK W (rm.le (by decide)) ?_
  intro Z₂ s x d hz₂ W hvx
  walk_at "gs"
  obtain ⟨h, hh⟩ : ∃ d, d = a := ⟨_, rfl⟩
  subst hh
  refine x_while (fun n s => ∃ hs es Z', Z₂.le Z' ∧ runW fa fb n hs es = some esF ∧ Mine.W c Z' s ((h, .list (hs.map encE)) :: (d, .list (es.map encR)) :: (L, .ns ["of_a", "of_b", "table", "heap", "word", "a", "b", "longer", "whole", "k", "one"] [some (.lst (fa.map .int)), some (.lst (fb.map .int)), some (encH d), some (.ref h), none, none, none, none, none, none, none]) :: σ)) N
    ⟨[(0, [])], [], _, by walk_at "zle", hr, W.weak (by walk_at "weak")⟩ ?_
  clear W s
  rintro n s ⟨hs, es, Z₃, hz₃, hr, W⟩
  have hI := runW_inv hr
  have hhl : (hs.map encE).length < 2 ^ 40 := by rw [List.length_map]; omega
  walk_at "gs"
  refine ite_b ?_ ?_
  · intro hne
    cases hs with
    | nil => cases hne
    | cons kw hs =>
      obtain ⟨k, wd⟩ := kw
      obtain ⟨n', r, rfl, hst, hr'⟩ := hI.2.2.2 k wd hs rfl
      obtain ⟨hg, hst⟩ := stepW_inv hst
      have hwo := word_ok hg
      unfold wordOk at hwo
      rw [Bool.and_eq_true, Bool.and_eq_true, Bool.and_eq_true, beq_iff_eq, decide_eq_true_eq, decide_eq_true_eq] at hwo
      obtain ⟨⟨⟨hcnt, hparts⟩, hsplit⟩, hjoin⟩ := hwo
      have hab := cntA_ok wd
      have hwl : wd.length ≤ 6 := by
        unfold wGood at hg
        rw [Bool.and_eq_true, decide_eq_true_eq] at hg
        exact hg.1
      have hSl := S_len wd
      have hSz : (S wd).length < 2 ^ 40 := by omega
      walk_at "gs"
      refine st_count W ?_
      intro s t W
      rw [hcnt]
      walk_at "gs"
      obtain ⟨lg, hlg⟩ : ∃ d, d = a := ⟨_, rfl⟩
      subst hlg
      have eb : ((S wd).length : Int) - cntA wd = bOf wd := by unfold bOf; rw [hSl]
      rw [eb] at W
      refine mid (a := Flow.next) (fun s' => ∃ Z', Z₃.le Z' ∧ Mine.W c Z' s' ((lg, .list ((partA fa wd).map encE)) :: (L, .ns ["of_a", "of_b", "table", "heap", "word", "a", "b", "longer", "whole", "k", "one"] [some (.lst (fa.map .int)), some (.lst (fb.map .int)), some (encH d), some (.ref h), some (.str (S wd)), some (.int (cntA wd)), some (.int (bOf wd)), some (.ref lg), none, none, none]) :: (h, .list (((k, wd) :: hs).map encE)) :: (d, .list (es.map encR)) :: σ)) ?_ ?_
      · refine wpAny_If ?_
        walk_at "gs"
        refine ite_dec ?_ ?_
        · intro hlt
          have e1 := atI_get (r := fa) (j := cntA wd) (by omega) (by omega)
          walk_at "gs"
          refine ite_dec ?_ ?_
          · intro hle
            have hcat : (S wd).length + (Str.ofString "a").length ≤ sizeLine := by rw [sizeLine_eq, hSl]; have : (Str.ofString "a").length = 1 := rfl; omega
            have hcl : ((([] : List HE)).map encE).length < 2 ^ 20 := by rw [List.length_map]; exact Nat.lt_of_le_of_lt (partA_pre 0 0) (by decide)
            walk_at "gs"
            have e : (partA fa wd).map encE = (([] : List HE)).map encE ++ [MV.tup [.int (((S wd).length : Int) + 1), .str (S wd ++ Str.ofString "a")]] := by
              have e2 : partA fa wd = [(wd.length + 1, wd ++ [97])] := by unfold partA okA; rw [if_pos (by rw [decide_eq_true hlt, decide_eq_true hle]; rfl)]
              rw [hSl, show S wd ++ Str.ofString "a" = S (wd ++ [97]) from S_cat wd [97], e2]
              first | rfl | (rw [List.map_append]; rfl)
            refine ⟨rfl, _, by walk_at "zle", ?_⟩
            rw [e]
            exact W.weak (by walk_at "weak")
          · intro hle
            walk_at "gs"
            have e2 : partA fa wd = [] := by unfold partA okA; rw [if_neg (by rw [decide_eq_true hlt, decide_eq_false hle]; decide)]
            refine ⟨rfl, _, by walk_at "zle", ?_⟩
            rw [e2]
            skip
            exact W.weak (by walk_at "weak")
        · intro hlt
          walk_at "gs"
          have e2 : partA fa wd = [] := by unfold partA okA; rw [if_neg (by rw [decide_eq_false hlt, Bool.false_and]; exact Bool.false_ne_true)]
          refine ⟨rfl, _, by walk_at "zle", ?_⟩
          rw [e2]
          skip
          exact W.weak (by walk_at "weak")
      rintro s ⟨Z₄, hz₄, W⟩
      walk_at "gs"
      refine mid (a := Flow.next) (fun s' => ∃ Z', Z₄.le Z' ∧ Mine.W c Z' s' ((lg, .list ((partA fa wd ++ partB fb wd).map encE)) :: (L, .ns ["of_a", "of_b", "table", "heap", "word", "a", "b", "longer", "whole", "k", "one"] [some (.lst (fa.map .int)), some (.lst (fb.map .int)), some (encH d), some (.ref h), some (.str (S wd)), some (.int (cntA wd)), some (.int (bOf wd)), some (.ref lg), none, none, none]) :: (h, .list (((k, wd) :: hs).map encE)) :: (d, .list (es.map encR)) :: σ)) ?_ ?_
      · refine wpAny_If ?_
        walk_at "gs"
        refine ite_dec ?_ ?_
        · intro hlt
          have e1 := atI_get (r := fb) (j := bOf wd) (by omega) (by omega)
          walk_at "gs"
          refine ite_dec ?_ ?_
          · intro hle
            have hcat : (S wd).length + (Str.ofString "b").length ≤ sizeLine := by rw [sizeLine_eq, hSl]; have : (Str.ofString "b").length = 1 := rfl; omega
            have hcl : ((partA fa wd).map encE).length < 2 ^ 20 := by rw [List.length_map]; exact Nat.lt_of_le_of_lt (partB_pre _ _) (by decide)
            walk_at "gs"
            have e : (partA fa wd ++ partB fb wd).map encE = (partA fa wd).map encE ++ [MV.tup [.int (((S wd).length : Int) + 1), .str (S wd ++ Str.ofString "b")]] := by
              have e2 : partB fb wd = [(wd.length + 1, wd ++ [98])] := by unfold partB okB; rw [if_pos (by rw [decide_eq_true hlt, decide_eq_true hle]; rfl)]
              rw [hSl, show S wd ++ Str.ofString "b" = S (wd ++ [98]) from S_cat wd [98], e2]
              first | rfl | (rw [List.map_append]; rfl)
            refine ⟨rfl, _, by walk_at "zle", ?_⟩
            rw [e]
            exact W.weak (by walk_at "weak")
          · intro hle
            walk_at "gs"
            have e2 : partB fb wd = [] := by unfold partB okB; rw [if_neg (by rw [decide_eq_true hlt, decide_eq_false hle]; decide)]
            refine ⟨rfl, _, by walk_at "zle", ?_⟩
            rw [e2]
            rw [List.append_nil]
            exact W.weak (by walk_at "weak")
        · intro hlt
          walk_at "gs"
          have e2 : partB fb wd = [] := by unfold partB okB; rw [if_neg (by rw [decide_eq_false hlt, Bool.false_and]; exact Bool.false_ne_true)]
          refine ⟨rfl, _, by walk_at "zle", ?_⟩
          rw [e2]
          rw [List.append_nil]
          exact W.weak (by walk_at "weak")
      rintro s ⟨Z₅, hz₅, W⟩
      rw [show partA fa wd ++ partB fb wd = longerP fa fb wd from rfl] at W
      walk_at "gs"
      refine wpAny_If ?_
      walk_at "gs"
      refine c_eq0 rm.units (by walk_at "lat") (by walk_at "lat") ?_
      rw [List.isEmpty_map]
      walk_at "gs"
      refine ite_b ?_ ?_
      · intro hb
        rcases hst with ⟨hl0, htg, rfl⟩ | ⟨P, y, hlp, _, _⟩
        · walk_at "gs"
          have hne2 : ((k, wd) :: hs) ≠ [] := by simp
          have esp : ((k, wd) :: hs).dropLast ++ [((k, wd) :: hs).getLast hne2] = (k, wd) :: hs := List.dropLast_concat_getLast hne2
          have hhs := hI.1
          have W' := W.pick (a := h) (by walk_at "pick")
          rw [← esp] at W'
          refine heappop_ok (hs := ((k, wd) :: hs).dropLast) (x := ((k, wd) :: hs).getLast hne2) (y := (k, wd)) hK W' (rm.le (by decide)) (by rw [esp]; rfl) (by rw [List.length_dropLast]; omega) ?_
          clear W W'
          intro s v W hv
          walk_at "vri"
          walk_at "gs"
          refine x_for (c := c) rm.h ?_
          walk_at "gs"
          refine fn_range W (σ₁ := fun j => (d, .list ((es ++ (rowsOf es.length wd).take j).map encR)) :: (h, .list ((popP ((k, wd) :: hs).dropLast (((k, wd) :: hs).getLast hne2)).map encE)) :: (L, .ns ["of_a", "of_b", "table", "heap", "word", "a", "b", "longer", "whole", "k", "one"] [some (.lst (fa.map .int)), some (.lst (fb.map .int)), some (encH d), some (.ref h), none, none, none, none, some (.str (S wd)), none, none]) :: σ)
            (by simp only [List.take_zero, List.append_nil]; walk_at "weak") (by decide) (by decide) (by decide) (by decide) ?_ ?_
          · intro j m Z₆ s v I P hm hz₆ hv₂ W
            obtain ⟨hj, rfl⟩ := rangeL_get hm
            have hj : j < 3 := hj
            have hj3 : j = 0 ∨ j = 1 ∨ j = 2 := by omega
            have hjm : j ∈ [0, 1, 2] := by rcases hj3 with rfl | rfl | rfl <;> simp
            have hjj := List.all_eq_true.mp hjoin j hjm
            rw [Bool.and_eq_true, beq_iff_eq] at hjj
            have htx : textAt wd j ∈ aTexts := by
              have := List.all_eq_true.mp htg j hjm
              simpa using this
            have hjr : (rowsOf es.length wd)[j]? = some (nameAt (es.length + j) j, textAt wd j) := by rcases hj3 with rfl | rfl | rfl <;> rfl
            have hlen : ((es ++ (rowsOf es.length wd).take j).map encR).length = es.length + j := by
              rw [List.length_map, List.length_append, List.length_take]
              have : (rowsOf es.length wd).length = 3 := rfl
              omega
            have hhe := hI.2.1
            have f0 : 0 ≤ ((es.length + j : Nat) : Int).fmod 2 := by rw [Int.fmod_eq_emod_of_nonneg _ (by decide)]; exact Int.emod_nonneg _ (by decide)
            have f1 := Int.fmod_lt_of_pos ((es.length + j : Nat) : Int) (b := 2) (by decide)
            have f2 : (((es.length + j : Nat) : Int).fmod 2).toNat = (es.length + j) % 2 := by rw [Int.fmod_eq_emod_of_nonneg _ (by decide)]; omega
            have epick : [MV.str (Str.ofString "xyz"), MV.str (Str.ofString "XYZ")][(((es.length + j : Nat) : Int).fmod 2).toNat]? = some (.str (if (es.length + j) % 2 = 0 then Str.ofString "xyz" else Str.ofString "XYZ")) := by
              rw [f2]
              have : (es.length + j) % 2 = 0 ∨ (es.length + j) % 2 = 1 := by omega
              rcases this with h | h <;> rw [h] <;> rfl
            have eitem : Txt.item (if (es.length + j) % 2 = 0 then Str.ofString "xyz" else Str.ofString "XYZ") (0 + (j : Int)) = S [nameAt (es.length + j) j] := by
              unfold nameAt
              have : (es.length + j) % 2 = 0 ∨ (es.length + j) % 2 = 1 := by omega
              rcases this with h | h <;> rw [h] <;> rcases hj3 with rfl | rfl | rfl <;> decide +kernel
            have elen3 : (if (es.length + j) % 2 = 0 then Str.ofString "xyz" else Str.ofString "XYZ").length = 3 := by split <;> rfl
            walk_at "vri"
            walk_at "gs"
            refine hlen_ok hK W (by walk_at "pick") (rm.le (by decide)) (by walk_at "vr") (by rw [hlen]; omega) ?_
            intro Z₇ s t hz₇ W
            rw [hlen]
            walk_at "gs"
            refine s_sign W (by omega) (by rw [elen3]; omega) (by rw [elen3]; decide) eitem ?_
            intro s t W
            walk_at "gs"
            refine st_split W (by decide) (by omega) (by rw [sizeLine_eq]; omega) ?_
            intro s D W
            walk_at "gs"
            refine sl_to W (W.latc (by walk_at "pick")) (by walk_at "pick") (by omega) (by rw [List.length_map]; omega) ?_
            intro s D₂ W
            rw [show ((Txt.split (S wd) (Str.ofString "b")).map MV.str).take (0 + (j : Int) + 1).toNat = ((Txt.split (S wd) (Str.ofString "b")).take (j + 1)).map .str by rw [List.map_take]; congr 1; omega] at W
            walk_at "gs"
            refine st_join W (W.latc (by walk_at "pick")) hjj.1 ?_
            intro s t W
            rw [hjj.2]
            walk_at "gs"
            refine add_ok hK (W.pick (a := d) (by walk_at "pick")) (rm.le (by decide)) (by walk_at "vr") (nameAt_ok _ _ hj) htx (by rw [hlen]; omega) ?_
            intro Z₈ s hz₈ W
            walk_at "gs"
            have e2 : (es ++ (rowsOf es.length wd).take (j + 1)).map encR = (es ++ (rowsOf es.length wd).take j).map encR ++ [rowT (nameAt (es.length + j) j) (textAt wd j)] := by
              rw [List.take_add_one, hjr, ← List.append_assoc, List.map_append]; rfl
            refine TEnd.mk W (by walk_at "zle") ?_
            rw [e2]
            walk_at "weak"
          · intro Z₆ s hz₆ W
            rw [show (rowsOf es.length wd).take ((3 : Int) - 0).toNat = rowsOf es.length wd from rfl] at W
            walk_at "gs"
            exact ⟨n', by omega, _, _, Z₆, by walk_at "zle", hr', W.weak (by walk_at "weak")⟩
        · rw [hlp] at hb
          simp at hb
      · intro hb
        rcases hst with ⟨hl0, _, _⟩ | ⟨P, y, hlp, hrl, rfl⟩
        · rw [hl0] at hb
          cases hb
        · have hP : P.length ≤ 1 := by
            have h1 : (longerP fa fb wd).length ≤ 2 := by unfold longerP partA partB; rw [List.length_append]; split <;> split <;> simp
            rw [hlp, List.length_append, List.length_singleton] at h1
            omega
          rw [hlp, List.map_append] at W
          walk_at "gs"
          refine s_last (l := P.map encE) (m := encE y) (W.latc (by walk_at "pick")) ?_
          walk_at "kv"
          walk_at "gs"
          have hhs := hI.1
          refine heapreplace_ok (hs := (k, wd) :: hs) (x := y) (y := (k, wd)) hK (W.pick (by walk_at "pick")) (rm.le (by decide)) (by walk_at "vr") rfl (by omega) ?_
          clear W
          intro s v W hvy
          walk_at "gs"
          refine x_for (c := c) rm.h ?_
          walk_at "gs"
          refine sl_init W (W.latc (by walk_at "pick")) (by walk_at "pick") (by rw [List.length_append, List.length_map]; simp; omega) ?_
          clear W
          intro s D W
          rw [show (List.map encE P ++ List.map encE [y]).dropLast = P.map encE by simp] at W
          obtain ⟨Z₆, hz₆, W, hD⟩ := W.fz (a := D) (by walk_at "pick")
          refine fn_list (xs := P.map encE) W hD (σ₁ := fun i => (h, .list (((P.take i).foldl (fun h x => pushP x h) (replP y ((k, wd) :: hs))).map encE)) :: (d, .list (es.map encR)) :: (L, .ns ["of_a", "of_b", "table", "heap", "word", "a", "b", "longer", "whole", "k", "one"] [some (.lst (fa.map .int)), some (.lst (fb.map .int)), some (encH d), some (.ref h), none, none, none, none, none, none, none]) :: σ) (by simp only [List.take_zero, List.foldl_nil]; walk_at "weak") ?_ ?_
          · intro i m Z₇ s v I Pr hm hz₇ hv W
            obtain ⟨e, he, rfl⟩ := mapL_get hm
            have hi : i = 0 := by have := (List.getElem?_eq_some_iff.mp he).1; omega
            subst hi
            walk_at "vri"
            walk_at "gs"
            refine heappush_ok (hs := replP y ((k, wd) :: hs)) (x := e) hK (W.pick (by walk_at "pick")) (rm.le (by decide)) (by walk_at "vr") (by omega) ?_
            clear W
            intro s W
            walk_at "gs"
            have e2 : (P.take (0 + 1)).foldl (fun h x => pushP x h) (replP y ((k, wd) :: hs)) = pushP e (replP y ((k, wd) :: hs)) := by
              rw [List.take_add_one, he]; rfl
            refine TEnd.mk W (by walk_at "zle") ?_
            rw [e2]
            walk_at "weak"
          · intro Z₇ s hz₇ W
            rw [List.length_map, List.take_length] at W
            walk_at "gs"
            exact ⟨n', by omega, _, _, Z₇, by walk_at "zle", hr', W.weak (by walk_at "weak")⟩
  · intro hne
    have he : hs = [] := by
      cases hs with
      | nil => rfl
      | cons _ _ => cases hne
    subst he
    have hes := hI.2.2.1 rfl
    subst hes
    walk_at "gs"
    obtain ⟨Z₄, hz₄, W, hD⟩ := W.fz (a := d) (by walk_at "pick")
    have hve := encT_of (by walk_at "vr") hD
    refine q Z₄ s _ (by walk_at "zle") (W.weak (by walk_at "weak")) hve

-- P14



def lensP (es : List (Nat × List Nat)) (n : Nat) : List Int := (getP es n).map fun t => ((t.length : Nat) : Int)
def toldP (es : List (Nat × List Nat)) : List (List Int) := (nums 0 (lensP es 120).length).map fun k => [atI (lensP es 120) k, atI (lensP es 89) k, atI (lensP es 122) k]
theorem getP_mem {es : List (Nat × List Nat)} {n : Nat} {t : List Nat} (h : t ∈ getP es n) : ∃ e ∈ es, e.2 = t := by
  unfold getP at h
  obtain ⟨e, he, rfl⟩ := List.mem_map.mp h
  exact ⟨e, (List.mem_filter.mp he).1, rfl⟩
theorem getP_len (es : List (Nat × List Nat)) (n : Nat) : (getP es n).length ≤ es.length := by
  unfold getP; rw [List.length_map]; exact List.length_filter_le _ _
theorem lensP_len (es : List (Nat × List Nat)) (n : Nat) : (lensP es n).length = (getP es n).length := by unfold lensP; rw [List.length_map]

theorem told_ok {w : World} {c : Cx} {Z : ZS} {s : Shared} {σ : Sg} {A : Around} {E : Value → Shared → Prop} {Q : Value → Shared → Prop} {x : Addr} {es : List (Nat × List Nat)}
    (hK : c.K = KK w.params) (W : W c Z s σ) (rm : Room 4 A) (hv : VR Z (encT es) (.ref x)) (he : ∀ e ∈ es, e.1 ∈ nTexts ∧ e.2 ∈ aTexts) (hz : es.length < 1000)
    (h1 : (lensP es 89).length = (lensP es 120).length) (h2 : (lensP es 122).length = (lensP es 120).length)
    (q : ∀ Z' s' d, Z.le Z' → Mine.W c Z' s' σ → VR Z' (.lst ((toldP es).map encI)) (.ref d) → Q (.ref d) s') :
    wpAny (model P0 w) A (call (.ref 311) [.ref x]) Q E s := by
  refine call_fnC (n := 3) ["table"] (bv := [.ref x]) [] ["table", "heights"] ["range", "len"] W rm (by rw [hK]; k_is) (by rw [hK]; k_is) (BindsTo.of_eq rfl) (by decide +kernel) ?_
  clear W s rm
  intro L a1 a2 env ev own s W A
  walk_at "go"
  intro A rm
  walk_at "gs"
  refine x_compC ev (CellsOwn.get own (by walk_at "mem")) ?_
  refine x_comp1 (c := c) [("table", a1)] ["table"] [] ["letter"] [] rm.h ev (by decide +kernel) (by walk_at "fl") ?_
  walk_at "gs"
  refine c_str W (CompK.const ?_)
  intro C acc cenv ev2 own2
  refine ⟨fun i => ([120, 89, 122].take i).map fun n => encI (lensP es n), rfl, ?_, ?_⟩
  · intro i m Z₂ s v I P hm hz₂ hv₂ W
    obtain ⟨ch, hch, rfl⟩ := strL_get hm
    have hch2 : ([120, 89, 122] : List Nat)[i]? = some ch := by
      rw [← hch]; show _ = (#[120, 89, 122] : Array Nat)[i]?; simp
    have hcn : ch ∈ nTexts := by
      have := List.mem_of_getElem? hch2
      simp only [List.mem_cons, List.not_mem_nil, or_false] at this
      rcases this with rfl | rfl | rfl <;> decide
    obtain ⟨t, rfl⟩ := hv₂.str_inv
    walk_at "gs"
    refine x_comp1 (c := c) [] [] [] ["text"] ["len"] rm.h ev2 (by decide +kernel) (by walk_at "fl") ?_
    walk_at "gs"
    refine get_ok (n := ch) hK W (rm.le (by decide)) (by walk_at "vr") hcn (fun e h => (he e h).1) (by omega) ?_
    intro Z₃ s d hz₃ W hv₃
    walk_at "gs"
    refine c_list (xs := (getP es ch).map fun t => .str (S t)) W (by walk_at "vr") (CompK.const ?_)
    intro C₂ acc₂ cenv₂ ev3 own3
    refine ⟨fun j => ((getP es ch).map fun t => MV.int ((t.length : Nat) : Int)).take j, rfl, ?_, ?_⟩
    · intro j m Z₄ s v I₂ P₂ hm hz₄ hv₄ W
      obtain ⟨tx, htx, rfl⟩ := mapL_get hm
      obtain ⟨t, rfl⟩ := hv₄.str_inv
      obtain ⟨e, hee, rfl⟩ := getP_mem (List.mem_of_getElem? htx)
      have hal := a_len e.2 (he e hee).2
      have hsz : (S e.2).length < 2 ^ 40 := by rw [S_len]; omega
      have hcl : (((getP es ch).map fun t => MV.int ((t.length : Nat) : Int)).take j).length < 2 ^ 20 := by
        rw [List.length_take, List.length_map]
        have := getP_len es ch
        omega
      walk_at "gs"
      rw [S_len] at W
      walk_at "ce"
      exact (take_mapS htx).symm
    · intro Z₄ s hz₄ W
      dsimp only at W
      rw [List.length_map, List.take_of_length_le (by rw [List.length_map]; exact Nat.le_refl _)] at W
      refine fin_frz W ?_
      intro Z₅ s hz₅ hv₅ W
      have hv6 : VR Z₅ (encI (lensP es ch)) (.ref acc₂) := by unfold encI lensP; rw [List.map_map]; exact hv₅
      clear hv₅
      have hcl : (([120, 89, 122].take i).map fun n => encI (lensP es n)).length < 2 ^ 20 := by
        rw [List.length_map]; exact Nat.lt_of_le_of_lt (m := 3) (List.length_take_le' ..) (by decide)
      walk_at "gs"
      walk_at "ce"
      rw [List.take_add_one, hch2, List.map_append]; rfl
  · intro Z₂ s hz₂ W
    dsimp only at W
    rw [show ([120, 89, 122].take (strL (Str.ofString "xYz")).length).map (fun n => encI (lensP es n)) = [120, 89, 122].map fun n => encI (lensP es n) from rfl] at W
    refine fin_frz W ?_
    intro Z₃ s hz₃ hv₃ W
    walk_at "gs"
    refine x_comp1 (c := c) [("heights", a2)] ["heights"] [] ["k"] [] rm.h ev (by decide +kernel) (by walk_at "fl") ?_
    have hl0 := lensP_len es 120
    have hl1 := getP_len es 120
    walk_at "gs"
    refine c_range W (by omega) (by rw [List.length_map]; omega) (by omega) (by omega) (CompK.const ?_)
    intro C₂ acc₂ cenv₂ ev3 own3
    refine ⟨fun j => ((toldP es).map encI).take j, rfl, ?_, ?_⟩
    · intro j m Z₄ s v I₂ P₂ hm hz₄ hv₄ W
      obtain ⟨hj, rfl⟩ := rangeL_get hm
      have hj : j < (lensP es 120).length := by rw [List.length_map] at hj; omega
      have xk : (toldP es)[j]? = some [atI (lensP es 120) (0 + (j : Int)), atI (lensP es 89) (0 + (j : Int)), atI (lensP es 122) (0 + (j : Int))] := by
        unfold toldP
        rw [List.getElem?_map, nums_get hj]; rfl
      have e0 := atI_get (r := lensP es 120) (j := 0 + (j : Int)) (by omega) (by omega)
      have e1 := atI_get (r := lensP es 89) (j := 0 + (j : Int)) (by omega) (by omega)
      have e2 := atI_get (r := lensP es 122) (j := 0 + (j : Int)) (by omega) (by omega)
      walk_at "vri"
      repeat walk_at "st"
      refine ite_T ?_
      repeat walk_at "st"
      obtain ⟨Z₅, hz₅, W, hb⟩ := W.fz (a := a) (by walk_at "pick")
      have hb' : VR Z₅ (encI [atI (lensP es 120) (0 + (j : Int)), atI (lensP es 89) (0 + (j : Int)), atI (lensP es 122) (0 + (j : Int))]) (.ref a) := hb
      clear hb
      have htl : (toldP es).length = (lensP es 120).length := by unfold toldP; rw [List.length_map]; simp [nums]
      have hcl : (((toldP es).map encI).take j).length < 2 ^ 20 := by rw [List.length_take, List.length_map]; omega
      walk_at "gs"
      walk_at "ce"
      exact (take_mapS xk).symm
    · intro Z₄ s hz₄ W
      have htl : (toldP es).length = (lensP es 120).length := by unfold toldP; rw [List.length_map]; simp [nums]
      dsimp only at W
      rw [rangeL_length, List.length_map, show (((lensP es 120).length : Int) - 0).toNat = ((toldP es).map encI).length by rw [List.length_map, htl]; omega, List.take_length] at W
      refine fin_frz W ?_
      intro Z₅ s hz₅ hv₅ W
      exact q Z₅ s acc₂ (by walk_at "zle") (W.weak (by walk_at "weak")) hv₅

-- P15



theorem six (ns : List Int) : ∃ a b c d e f : Int, (ns.take 6 ++ [0, 1, 0, 2, 1, 0]).take 6 = [a, b, c, d, e, f] := by
  rcases ns with _ | ⟨a, _ | ⟨b, _ | ⟨c, _ | ⟨d, _ | ⟨e, _ | ⟨f, r⟩⟩⟩⟩⟩⟩
  · exact ⟨_, _, _, _, _, _, rfl⟩
  · exact ⟨_, _, _, _, _, _, rfl⟩
  · exact ⟨_, _, _, _, _, _, rfl⟩
  · exact ⟨_, _, _, _, _, _, rfl⟩
  · exact ⟨_, _, _, _, _, _, rfl⟩
  · exact ⟨_, _, _, _, _, _, rfl⟩
  · exact ⟨a, b, c, d, e, f, rfl⟩

/-- what the plain law must say of the two ladders -/
structure LawOk (l0 l1 l2 h0 h1 h2 : Str) (es : List (Nat × List Nat)) (N : Nat) : Prop where
  lk : ∀ x ∈ [l0, l1, l2], leadOk x
  hk : ∀ x ∈ [h0, h1, h2], leadOk x
  run : runW (needsP l0 l1 l2 [h0, h1, h2]) (needsP h0 h1 h2 [l0, l1, l2]) N [(0, [])] [] = some es
  ens : ∀ e ∈ es, e.1 ∈ nTexts ∧ e.2 ∈ aTexts
  len : es.length < 1000
  y : (lensP es 89).length = (lensP es 120).length
  z : (lensP es 122).length = (lensP es 120).length
  third : thirdP (toldP es) = true
  help : helpP (toldP es) = true
  top : topP (toldP es) = true
  all : toldP es = allP [l0, l1, l2] h0 h1 h2
theorem toldP_3 (es : List (Nat × List Nat)) : ∀ r ∈ toldP es, r.length = 3 := by
  intro r hr
  obtain ⟨k, _, rfl⟩ := List.mem_map.mp hr
  rfl
theorem toldP_len (es : List (Nat × List Nat)) : (toldP es).length ≤ es.length := by
  unfold toldP
  rw [List.length_map, show (nums 0 (lensP es 120).length).length = (lensP es 120).length by simp [nums], lensP_len]
  exact getP_len es 120
theorem ladder3 (a b c : Int) : ladderP [a, b, c] = [leadAt [a, b, c] 1, leadAt [a, b, c] 2, leadAt [a, b, c] 3] := rfl

theorem walk_law {ns : List Int} (hl63 : ns.length ≤ 63) (hlaw : ∀ a b c d e f : Int, ∃ es N, LawOk (leadAt [a, b, c] 1) (leadAt [a, b, c] 2) (leadAt [a, b, c] 3) (leadAt [d, e, f] 1) (leadAt [d, e, f] 2) (leadAt [d, e, f] 3) es N)
    {w : World} {c : Cx} {Z : ZS} {s : Shared} {A : Around} {E : Value → Shared → Prop} {Q : Value → Shared → Prop} {sa : Addr}
    (hK : c.K = KK w.params) (W : W c Z s []) (rm : Room 8 A) (hv : ∀ Z s σ, Mine.W c Z s σ → LAtZ Z s sa (ns.map .int))
    (q : ∀ Z' s', Mine.W c Z' s' [] → Q (.bool true) s') :
    wpAny (model P0 w) A (call (.ref 350) [.ref sa]) Q E s := by
  refine call_fn (n := 7) ["script"] (bv := [.ref sa]) ["script", "numbers", "lows", "highs", "rows"] ["_law_ladder", "_law_told", "_law_woven", "_law_needs", "_law_a_third", "_law_help", "_law_one_top", "_law_all"] [some (.ref sa), none, none, none, none] W rm (by rw [hK]; k_is) (by rw [hK]; k_is) (BindsTo.of_eq rfl) (by decide +kernel) ?_ ?_
  · exact ⟨⟨_, rfl, .ref _⟩, trivial⟩
  clear W s rm
  intro s L env A rm ev W
  have hml : (ns.map MV.int).length = ns.length := List.length_map ..
  walk_at "gs"
  refine sl_to W (hv _ _ _ W) (by walk_at "pick") (by decide) (by omega) ?_
  clear W
  intro s D₁ W
  have hz1 : ((ns.map MV.int).take (6 : Int).toNat).length + [MV.int 0, MV.int 1, MV.int 0, MV.int 2, MV.int 1, MV.int 0].length < 2 ^ 20 := by
    rw [List.length_take]
    have : [MV.int 0, MV.int 1, MV.int 0, MV.int 2, MV.int 1, MV.int 0].length = 6 := rfl
    omega
  walk_at "gs"
  refine sl_to W (W.latc (by walk_at "pick")) (by walk_at "pick") (by decide) (by rw [List.length_append]; exact hz1) ?_
  clear W
  intro s D₂ W
  obtain ⟨x0, x1, x2, x3, x4, x5, hx⟩ := six ns
  have e6 : ((ns.map MV.int).take (6 : Int).toNat ++ [MV.int 0, MV.int 1, MV.int 0, MV.int 2, MV.int 1, MV.int 0]).take (6 : Int).toNat = [MV.int x0, MV.int x1, MV.int x2, MV.int x3, MV.int x4, MV.int x5] := by
    have := congrArg (List.map MV.int) hx
    rw [List.map_take, List.map_append, List.map_take] at this
    exact this
  rw [e6] at W
  walk_at "gs"
  refine sl_to W (W.latc (by walk_at "pick")) (by walk_at "pick") (by decide) (by show (6 : Nat) < 2 ^ 20; decide) ?_
  clear W
  intro s D₃ W
  rw [show [MV.int x0, MV.int x1, MV.int x2, MV.int x3, MV.int x4, MV.int x5].take (3 : Int).toNat = [x0, x1, x2].map MV.int from rfl] at W
  obtain ⟨Z₂, hz₂, W, hv₂⟩ := W.fz (a := D₃) (by walk_at "pick")
  walk_at "gs"
  refine ladder_ok (ns := [x0, x1, x2]) hK W (rm.le (by decide)) hv₂ (by show (3 : Nat) < 2 ^ 10; decide) ?_
  clear W
  intro Z₃ s d₁ hz₃ W hl
  rw [ladder3] at hl
  walk_at "gs"
  refine sl_from W (W.latc (by walk_at "pick")) (by walk_at "pick") (by decide) (by show (6 : Nat) < 2 ^ 20; decide) ?_
  clear W
  intro s D₄ W
  rw [show [MV.int x0, MV.int x1, MV.int x2, MV.int x3, MV.int x4, MV.int x5].drop (3 : Int).toNat = [x3, x4, x5].map MV.int from rfl] at W
  obtain ⟨Z₄, hz₄, W, hv₄⟩ := W.fz (a := D₄) (by walk_at "pick")
  walk_at "gs"
  refine ladder_ok (ns := [x3, x4, x5]) hK W (rm.le (by decide)) hv₄ (by show (3 : Nat) < 2 ^ 10; decide) ?_
  clear W
  intro Z₅ s d₂ hz₅ W hh
  rw [ladder3] at hh
  obtain ⟨es, N, LO⟩ := hlaw x0 x1 x2 x3 x4 x5
  generalize leadAt [x0, x1, x2] 1 = l0 at hl LO W
  generalize leadAt [x0, x1, x2] 2 = l1 at hl LO W
  generalize leadAt [x0, x1, x2] 3 = l2 at hl LO W
  generalize leadAt [x3, x4, x5] 1 = h0 at hh LO
  generalize leadAt [x3, x4, x5] 2 = h1 at hh LO
  generalize leadAt [x3, x4, x5] 3 = h2 at hh LO
  walk_at "gs"
  refine needs_ok hK W (rm.le (by decide)) (by walk_at "vr") (by walk_at "vr") LO.lk LO.hk (by show (3 : Nat) < 2 ^ 10; decide) ?_
  clear W
  intro Z₆ s n₁ hz₆ W hn₁
  walk_at "gs"
  refine needs_ok hK W (rm.le (by decide)) (by walk_at "vr") (by walk_at "vr") LO.hk LO.lk (by show (3 : Nat) < 2 ^ 10; decide) ?_
  clear W
  intro Z₇ s n₂ hz₇ W hn₂
  walk_at "gs"
  have hrun := LO.run
  have f1 : (needsP l0 l1 l2 [h0, h1, h2]).length = 3 := rfl
  have f2 : (needsP h0 h1 h2 [l0, l1, l2]).length = 3 := rfl
  generalize needsP l0 l1 l2 [h0, h1, h2] = fa at hn₁ hrun f1 W
  generalize needsP h0 h1 h2 [l0, l1, l2] = fb at hn₂ hrun f2 W
  refine woven_ok hK W (rm.le (by decide)) (by walk_at "vr") (by walk_at "vr") f1 f2 hrun ?_
  clear W
  intro Z₈ s tb hz₈ W htb
  walk_at "gs"
  refine told_ok hK W (rm.le (by decide)) (by walk_at "vr") LO.ens LO.len LO.y LO.z ?_
  clear W
  intro Z₉ s rw_ hz₉ W hrw
  have hrl := toldP_len es
  have hel := LO.len
  have hr3 := toldP_3 es
  have p1 := LO.third
  have p2 := LO.help
  have p3 := LO.top
  have p4 := LO.all
  clear LO
  generalize toldP es = rows at hrw hrl hr3 p1 p2 p3 p4
  generalize hal0 : allP [l0, l1, l2] h0 h1 h2 = rows2 at p4
  subst p4
  walk_at "gs"
  refine third_ok hK W (rm.le (by decide)) (by walk_at "vr") hr3 (by omega) ?_
  clear W
  intro Z₁₀ s hz₁₀ W
  rw [p1]
  walk_at "gs"
  refine help_ok hK W (rm.le (by decide)) (by walk_at "vr") hr3 (by omega) p2 ?_
  clear W
  intro Z₁₁ s hz₁₁ W
  walk_at "gs"
  refine top_ok hK W (rm.le (by decide)) (by walk_at "vr") hr3 (by omega) p3 ?_
  clear W
  intro Z₁₂ s hz₁₂ W
  walk_at "gs"
  refine all_ok (lows := [l0, l1, l2]) hK W (rm.le (by decide)) (by walk_at "vr") (by walk_at "vr") rfl ?_
  clear W
  intro Z₁₃ s al hz₁₃ W hal
  rw [hal0] at hal
  walk_at "gs"
  refine c_eqR (rows := rows) (by have := rm.u; show _ < 9900; omega) W (by walk_at "lat") (by walk_at "lat") ?_
  exact q Z₁₃ s (W.weak (by walk_at "weak"))

-- P16

/-! the plain law -/
def rungR (r : Nat) : Str := if r = 0 then " " else if r = 1 then "\t" else " \t"
def lead1 (a : Nat) : Str := rungR a
def lead2 (a b : Nat) : Str := rungR a ++ rungR b
def lead3 (a b c : Nat) : Str := rungR a ++ rungR b ++ rungR c
def needR (a b c d e f : Nat) : List Int := needsP (lead1 a) (lead2 a b) (lead3 a b c) [lead1 d, lead2 d e, lead3 d e f]
def allR (a b c d e f : Nat) : List (List Int) := allP [lead1 a, lead2 a b, lead3 a b c] (lead1 d) (lead2 d e) (lead3 d e f)
def esOk (es : List (Nat × List Nat)) : Bool :=
  es.all (fun e => nTexts.contains e.1 && aTexts.contains e.2) && decide (es.length < 1000) && decide ((lensP es 89).length = (lensP es 120).length) && decide ((lensP es 122).length = (lensP es 120).length)
def pairOk (fa fb : List Int) (rows : List (List Int)) : Bool := match runW fa fb 80 [(0, [])] [] with
  | some es => esOk es && (toldP es == rows) && thirdP rows && helpP rows && topP rows && decide (rows.length < 1000)
  | none => false
noncomputable def tab0 : List (List Int × List Int × List (List Int)) := [
  ([0, 1, 2], [0, 1, 2], [[1, 2, 3], [1, 2, 2], [1, 1, 3], [1, 1, 2], [0, 2, 3], [0, 2, 2], [0, 1, 3], [0, 1, 2]]),
  ([0, 1, 2], [0, 1, 3], [[1, 2, 3], [1, 1, 3], [0, 2, 3], [0, 1, 3]]),
  ([0, 1, 1], [0, 1, 2], [[1, 3, 3], [1, 2, 3], [1, 2, 2], [1, 1, 3], [1, 1, 2], [0, 3, 3], [0, 2, 3], [0, 2, 2], [0, 1, 3], [0, 1, 2]]),
  ([0, 1, 1], [0, 1, 3], [[1, 3, 3], [1, 2, 3], [1, 1, 3], [0, 3, 3], [0, 2, 3], [0, 1, 3]]),
  ([0, 1, 1], [0, 2, 3], [[1, 3, 3], [1, 2, 3], [0, 3, 3], [0, 2, 3]]),
  ([0, 0, 0], [0, 1, 2], [[3, 3, 3], [2, 3, 3], [2, 2, 3], [2, 2, 2], [1, 3, 3], [1, 2, 3], [1, 2, 2], [1, 1, 3], [1, 1, 2], [0, 3, 3], [0, 2, 3], [0, 2, 2], [0, 1, 3], [0, 1, 2]]),
  ([0, 0, 0], [0, 1, 3], [[3, 3, 3], [2, 3, 3], [2, 2, 3], [1, 3, 3], [1, 2, 3], [1, 1, 3], [0, 3, 3], [0, 2, 3], [0, 1, 3]]),
  ([0, 0, 0], [0, 2, 3], [[3, 3, 3], [2, 3, 3], [2, 2, 3], [1, 3, 3], [1, 2, 3], [0, 3, 3], [0, 2, 3]])]
theorem tab0_ok : ∀ p ∈ tab0, pairOk p.1 p.2.1 p.2.2 = true := by decide +kernel
noncomputable def tab1 : List (List Int × List Int × List (List Int)) := [
  ([0, 0, 0], [1, 2, 3], [[3, 3, 3], [2, 3, 3], [2, 2, 3], [1, 3, 3], [1, 2, 3]]),
  ([0, 0, 0], [1, 3, 3], [[3, 3, 3], [2, 3, 3], [1, 3, 3]]),
  ([0, 0, 0], [1, 2, 2], [[3, 3, 3], [2, 3, 3], [2, 2, 3], [2, 2, 2], [1, 3, 3], [1, 2, 3], [1, 2, 2]]),
  ([0, 1, 3], [0, 1, 2], [[1, 2, 2], [1, 1, 2], [0, 2, 2], [0, 1, 2]]),
  ([0, 1, 1], [0, 2, 2], [[1, 3, 3], [1, 2, 3], [1, 2, 2], [0, 3, 3], [0, 2, 3], [0, 2, 2]]),
  ([0, 0, 0], [0, 2, 2], [[3, 3, 3], [2, 3, 3], [2, 2, 3], [2, 2, 2], [1, 3, 3], [1, 2, 3], [1, 2, 2], [0, 3, 3], [0, 2, 3], [0, 2, 2]]),
  ([0, 1, 2], [0, 1, 1], [[1, 2, 3], [1, 2, 2], [1, 1, 3], [1, 1, 2], [1, 1, 1], [0, 2, 3], [0, 2, 2], [0, 1, 3], [0, 1, 2], [0, 1, 1]]),
  ([0, 0, 1], [0, 1, 2], [[2, 3, 3], [2, 2, 3], [2, 2, 2], [1, 3, 3], [1, 2, 3], [1, 2, 2], [1, 1, 3], [1, 1, 2], [0, 3, 3], [0, 2, 3], [0, 2, 2], [0, 1, 3], [0, 1, 2]])]
theorem tab1_ok : ∀ p ∈ tab1, pairOk p.1 p.2.1 p.2.2 = true := by decide +kernel
noncomputable def tab2 : List (List Int × List Int × List (List Int)) := [
  ([0, 0, 1], [0, 1, 3], [[2, 3, 3], [2, 2, 3], [1, 3, 3], [1, 2, 3], [1, 1, 3], [0, 3, 3], [0, 2, 3], [0, 1, 3]]),
  ([0, 0, 1], [0, 2, 3], [[2, 3, 3], [2, 2, 3], [1, 3, 3], [1, 2, 3], [0, 3, 3], [0, 2, 3]]),
  ([0, 0, 1], [1, 2, 3], [[2, 3, 3], [2, 2, 3], [1, 3, 3], [1, 2, 3]]),
  ([0, 0, 1], [1, 3, 3], [[2, 3, 3], [1, 3, 3]]),
  ([0, 0, 2], [0, 1, 2], [[2, 2, 3], [2, 2, 2], [1, 2, 3], [1, 2, 2], [1, 1, 3], [1, 1, 2], [0, 2, 3], [0, 2, 2], [0, 1, 3], [0, 1, 2]]),
  ([0, 0, 1], [1, 2, 2], [[2, 3, 3], [2, 2, 3], [2, 2, 2], [1, 3, 3], [1, 2, 3], [1, 2, 2]]),
  ([0, 1, 3], [0, 1, 1], [[1, 2, 2], [1, 1, 2], [1, 1, 1], [0, 2, 2], [0, 1, 2], [0, 1, 1]]),
  ([0, 0, 1], [0, 2, 2], [[2, 3, 3], [2, 2, 3], [2, 2, 2], [1, 3, 3], [1, 2, 3], [1, 2, 2], [0, 3, 3], [0, 2, 3], [0, 2, 2]])]
theorem tab2_ok : ∀ p ∈ tab2, pairOk p.1 p.2.1 p.2.2 = true := by decide +kernel
noncomputable def tab3 : List (List Int × List Int × List (List Int)) := [
  ([0, 0, 2], [1, 2, 2], [[2, 2, 3], [2, 2, 2], [1, 2, 3], [1, 2, 2]]),
  ([0, 2, 3], [0, 1, 1], [[1, 1, 2], [1, 1, 1], [0, 1, 2], [0, 1, 1]]),
  ([0, 2, 2], [0, 1, 1], [[1, 1, 3], [1, 1, 2], [1, 1, 1], [0, 1, 3], [0, 1, 2], [0, 1, 1]]),
  ([0, 0, 1], [0, 1, 1], [[2, 3, 3], [2, 2, 3], [2, 2, 2], [1, 3, 3], [1, 2, 3], [1, 2, 2], [1, 1, 3], [1, 1, 2], [1, 1, 1], [0, 3, 3], [0, 2, 3], [0, 2, 2], [0, 1, 3], [0, 1, 2], [0, 1, 1]]),
  ([0, 0, 1], [1, 1, 1], [[2, 3, 3], [2, 2, 3], [2, 2, 2], [1, 3, 3], [1, 2, 3], [1, 2, 2], [1, 1, 3], [1, 1, 2], [1, 1, 1]]),
  ([0, 0, 1], [1, 1, 3], [[2, 3, 3], [2, 2, 3], [1, 3, 3], [1, 2, 3], [1, 1, 3]]),
  ([0, 0, 1], [1, 1, 2], [[2, 3, 3], [2, 2, 3], [2, 2, 2], [1, 3, 3], [1, 2, 3], [1, 2, 2], [1, 1, 3], [1, 1, 2]]),
  ([0, 0, 3], [0, 1, 1], [[2, 2, 2], [1, 2, 2], [1, 1, 2], [1, 1, 1], [0, 2, 2], [0, 1, 2], [0, 1, 1]])]
theorem tab3_ok : ∀ p ∈ tab3, pairOk p.1 p.2.1 p.2.2 = true := by decide +kernel
noncomputable def tab4 : List (List Int × List Int × List (List Int)) := [
  ([0, 0, 2], [0, 1, 1], [[2, 2, 3], [2, 2, 2], [1, 2, 3], [1, 2, 2], [1, 1, 3], [1, 1, 2], [1, 1, 1], [0, 2, 3], [0, 2, 2], [0, 1, 3], [0, 1, 2], [0, 1, 1]]),
  ([0, 0, 2], [1, 1, 1], [[2, 2, 3], [2, 2, 2], [1, 2, 3], [1, 2, 2], [1, 1, 3], [1, 1, 2], [1, 1, 1]]),
  ([0, 0, 2], [1, 1, 2], [[2, 2, 3], [2, 2, 2], [1, 2, 3], [1, 2, 2], [1, 1, 3], [1, 1, 2]]),
  ([0, 0, 3], [1, 1, 1], [[2, 2, 2], [1, 2, 2], [1, 1, 2], [1, 1, 1]]),
  ([0, 1, 2], [0, 0, 0], [[1, 2, 3], [1, 2, 2], [1, 1, 3], [1, 1, 2], [1, 1, 1], [0, 2, 3], [0, 2, 2], [0, 1, 3], [0, 1, 2], [0, 1, 1], [0, 0, 3], [0, 0, 2], [0, 0, 1], [0, 0, 0]]),
  ([0, 1, 2], [0, 0, 1], [[1, 2, 3], [1, 2, 2], [1, 1, 3], [1, 1, 2], [1, 1, 1], [0, 2, 3], [0, 2, 2], [0, 1, 3], [0, 1, 2], [0, 1, 1], [0, 0, 3], [0, 0, 2], [0, 0, 1]]),
  ([0, 1, 2], [0, 0, 2], [[1, 2, 3], [1, 2, 2], [1, 1, 3], [1, 1, 2], [0, 2, 3], [0, 2, 2], [0, 1, 3], [0, 1, 2], [0, 0, 3], [0, 0, 2]]),
  ([0, 1, 1], [0, 0, 1], [[1, 3, 3], [1, 2, 3], [1, 2, 2], [1, 1, 3], [1, 1, 2], [1, 1, 1], [0, 3, 3], [0, 2, 3], [0, 2, 2], [0, 1, 3], [0, 1, 2], [0, 1, 1], [0, 0, 3], [0, 0, 2], [0, 0, 1]])]
theorem tab4_ok : ∀ p ∈ tab4, pairOk p.1 p.2.1 p.2.2 = true := by decide +kernel
noncomputable def tab5 : List (List Int × List Int × List (List Int)) := [
  ([0, 1, 1], [0, 0, 3], [[1, 3, 3], [1, 2, 3], [1, 1, 3], [0, 3, 3], [0, 2, 3], [0, 1, 3], [0, 0, 3]]),
  ([0, 1, 1], [0, 0, 2], [[1, 3, 3], [1, 2, 3], [1, 2, 2], [1, 1, 3], [1, 1, 2], [0, 3, 3], [0, 2, 3], [0, 2, 2], [0, 1, 3], [0, 1, 2], [0, 0, 3], [0, 0, 2]]),
  ([0, 1, 3], [0, 0, 0], [[1, 2, 2], [1, 1, 2], [1, 1, 1], [0, 2, 2], [0, 1, 2], [0, 1, 1], [0, 0, 2], [0, 0, 1], [0, 0, 0]]),
  ([0, 1, 3], [0, 0, 1], [[1, 2, 2], [1, 1, 2], [1, 1, 1], [0, 2, 2], [0, 1, 2], [0, 1, 1], [0, 0, 2], [0, 0, 1]]),
  ([0, 2, 3], [0, 0, 0], [[1, 1, 2], [1, 1, 1], [0, 1, 2], [0, 1, 1], [0, 0, 2], [0, 0, 1], [0, 0, 0]]),
  ([0, 2, 2], [0, 0, 0], [[1, 1, 3], [1, 1, 2], [1, 1, 1], [0, 1, 3], [0, 1, 2], [0, 1, 1], [0, 0, 3], [0, 0, 2], [0, 0, 1], [0, 0, 0]]),
  ([0, 2, 3], [0, 0, 1], [[1, 1, 2], [1, 1, 1], [0, 1, 2], [0, 1, 1], [0, 0, 2], [0, 0, 1]]),
  ([0, 2, 2], [0, 0, 1], [[1, 1, 3], [1, 1, 2], [1, 1, 1], [0, 1, 3], [0, 1, 2], [0, 1, 1], [0, 0, 3], [0, 0, 2], [0, 0, 1]])]
theorem tab5_ok : ∀ p ∈ tab5, pairOk p.1 p.2.1 p.2.2 = true := by decide +kernel
noncomputable def tab6 : List (List Int × List Int × List (List Int)) := [
  ([1, 2, 3], [0, 0, 0], [[0, 1, 2], [0, 1, 1], [0, 0, 2], [0, 0, 1], [0, 0, 0]]),
  ([1, 2, 2], [0, 0, 0], [[0, 1, 3], [0, 1, 2], [0, 1, 1], [0, 0, 3], [0, 0, 2], [0, 0, 1], [0, 0, 0]]),
  ([1, 2, 3], [0, 0, 1], [[0, 1, 2], [0, 1, 1], [0, 0, 2], [0, 0, 1]]),
  ([1, 2, 2], [0, 0, 1], [[0, 1, 3], [0, 1, 2], [0, 1, 1], [0, 0, 3], [0, 0, 2], [0, 0, 1]]),
  ([1, 2, 2], [0, 0, 2], [[0, 1, 3], [0, 1, 2], [0, 0, 3], [0, 0, 2]]),
  ([1, 1, 1], [0, 0, 1], [[0, 3, 3], [0, 2, 3], [0, 2, 2], [0, 1, 3], [0, 1, 2], [0, 1, 1], [0, 0, 3], [0, 0, 2], [0, 0, 1]]),
  ([1, 1, 1], [0, 0, 2], [[0, 3, 3], [0, 2, 3], [0, 2, 2], [0, 1, 3], [0, 1, 2], [0, 0, 3], [0, 0, 2]]),
  ([1, 1, 1], [0, 0, 3], [[0, 3, 3], [0, 2, 3], [0, 1, 3], [0, 0, 3]])]
theorem tab6_ok : ∀ p ∈ tab6, pairOk p.1 p.2.1 p.2.2 = true := by decide +kernel
noncomputable def tab7 : List (List Int × List Int × List (List Int)) := [
  ([1, 1, 3], [0, 0, 1], [[0, 2, 2], [0, 1, 2], [0, 1, 1], [0, 0, 2], [0, 0, 1]]),
  ([1, 1, 2], [0, 0, 2], [[0, 2, 3], [0, 2, 2], [0, 1, 3], [0, 1, 2], [0, 0, 3], [0, 0, 2]]),
  ([1, 1, 2], [0, 0, 1], [[0, 2, 3], [0, 2, 2], [0, 1, 3], [0, 1, 2], [0, 1, 1], [0, 0, 3], [0, 0, 2], [0, 0, 1]]),
  ([1, 3, 3], [0, 0, 0], [[0, 1, 1], [0, 0, 1], [0, 0, 0]]),
  ([1, 3, 3], [0, 0, 1], [[0, 1, 1], [0, 0, 1]])]
theorem tab7_ok : ∀ p ∈ tab7, pairOk p.1 p.2.1 p.2.2 = true := by decide +kernel
noncomputable def tabT : List (List Int × List Int × List (List Int)) := tab0 ++ (tab1 ++ (tab2 ++ (tab3 ++ (tab4 ++ (tab5 ++ (tab6 ++ (tab7)))))))
theorem tab_ok : ∀ p ∈ tabT, pairOk p.1 p.2.1 p.2.2 = true := by
  intro p h
  unfold tabT at h
  rcases List.mem_append.mp h with h | h
  · exact tab0_ok p h
  rcases List.mem_append.mp h with h | h
  · exact tab1_ok p h
  rcases List.mem_append.mp h with h | h
  · exact tab2_ok p h
  rcases List.mem_append.mp h with h | h
  · exact tab3_ok p h
  rcases List.mem_append.mp h with h | h
  · exact tab4_ok p h
  rcases List.mem_append.mp h with h | h
  · exact tab5_ok p h
  rcases List.mem_append.mp h with h | h
  · exact tab6_ok p h
  exact tab7_ok p h
noncomputable def resOk (a b c d e f : Nat) : Bool := tabT.contains (needR a b c d e f, needR d e f a b c, allR a b c d e f)
noncomputable def resAll (a b : Nat) : Bool := [0, 1, 2].all fun c => [0, 1, 2].all fun d => [0, 1, 2].all fun e => [0, 1, 2].all fun f => resOk a b c d e f
theorem res00 : resAll 0 0 = true := by decide +kernel
theorem res01 : resAll 0 1 = true := by decide +kernel
theorem res02 : resAll 0 2 = true := by decide +kernel
theorem res10 : resAll 1 0 = true := by decide +kernel
theorem res11 : resAll 1 1 = true := by decide +kernel
theorem res12 : resAll 1 2 = true := by decide +kernel
theorem res20 : resAll 2 0 = true := by decide +kernel
theorem res21 : resAll 2 1 = true := by decide +kernel
theorem res22 : resAll 2 2 = true := by decide +kernel
theorem res_ok {a b c d e f : Nat} (ha : a < 3) (hb : b < 3) (hc : c < 3) (hd : d < 3) (he : e < 3) (hf : f < 3) : resOk a b c d e f = true := by
  have m : ∀ {x : Nat}, x < 3 → x ∈ [0, 1, 2] := fun {x} h => by
    have : x = 0 ∨ x = 1 ∨ x = 2 := by omega
    rcases this with rfl | rfl | rfl <;> simp
  have h : resAll a b = true := by
    have h1 : a = 0 ∨ a = 1 ∨ a = 2 := by omega
    have h2 : b = 0 ∨ b = 1 ∨ b = 2 := by omega
    rcases h1 with rfl | rfl | rfl <;> rcases h2 with rfl | rfl | rfl
    · exact res00
    · exact res01
    · exact res02
    · exact res10
    · exact res11
    · exact res12
    · exact res20
    · exact res21
    · exact res22
  exact List.all_eq_true.mp (List.all_eq_true.mp (List.all_eq_true.mp (List.all_eq_true.mp h c (m hc)) d (m hd)) e (m he)) f (m hf)
def rs (n : Int) : Nat := (n.fmod 3).toNat
theorem rs_lt (n : Int) : rs n < 3 := by
  have h1 := fmod3_nonneg n
  have h2 := Int.fmod_lt_of_pos n (b := 3) (by decide)
  unfold rs; omega
theorem rung_rs (n : Int) : rung n = rungR (rs n) := by
  have h1 := fmod3_nonneg n
  have h2 := Int.fmod_lt_of_pos n (b := 3) (by decide)
  unfold rung rungR rs
  have h3 : n.fmod 3 = 0 ∨ n.fmod 3 = 1 ∨ n.fmod 3 = 2 := by omega
  rcases h3 with h | h | h <;> rw [h] <;> rfl
theorem str_nil (x : Str) : ("" : Str) ++ x = x := by
  cases x
  show Str.mk _ = Str.mk _
  congr 1
  exact Array.empty_append
theorem lead_1 (a b c : Int) : leadAt [a, b, c] 1 = lead1 (rs a) := by
  show ("" : Str) ++ rung a = _
  rw [str_nil, rung_rs]; rfl
theorem lead_2 (a b c : Int) : leadAt [a, b, c] 2 = lead2 (rs a) (rs b) := by
  show (("" : Str) ++ rung a) ++ rung b = _
  rw [str_nil, rung_rs, rung_rs]; rfl
theorem lead_3 (a b c : Int) : leadAt [a, b, c] 3 = lead3 (rs a) (rs b) (rs c) := by
  show ((("" : Str) ++ rung a) ++ rung b) ++ rung c = _
  rw [str_nil, rung_rs, rung_rs, rung_rs]; rfl
def leadB (x : Str) : Bool := x.cps.toList.all (fun ch => ch == 32 || ch == 9) && decide (x.cps.size < 2 ^ 10)
theorem leadB_ok {x : Str} (h : leadB x = true) : leadOk x := by
  unfold leadB at h
  rw [Bool.and_eq_true, decide_eq_true_eq] at h
  exact ⟨fun ch hc => by simpa using List.all_eq_true.mp h.1 ch hc, h.2⟩
theorem leads_b : ∀ a ∈ [0, 1, 2], ∀ b ∈ [0, 1, 2], ∀ c ∈ [0, 1, 2], (leadB (lead1 a) && leadB (lead2 a b) && leadB (lead3 a b c)) = true := by decide +kernel
theorem leads_ok {a b c : Nat} (ha : a < 3) (hb : b < 3) (hc : c < 3) : ∀ x ∈ [lead1 a, lead2 a b, lead3 a b c], leadOk x := by
  have m : ∀ {x : Nat}, x < 3 → x ∈ [0, 1, 2] := fun {x} h => by
    have : x = 0 ∨ x = 1 ∨ x = 2 := by omega
    rcases this with rfl | rfl | rfl <;> simp
  have h := leads_b a (m ha) b (m hb) c (m hc)
  rw [Bool.and_eq_true, Bool.and_eq_true] at h
  obtain ⟨⟨h1, h2⟩, h3⟩ := h
  intro x hx
  simp only [List.mem_cons, List.not_mem_nil, or_false] at hx
  rcases hx with rfl | rfl | rfl
  · exact leadB_ok h1
  · exact leadB_ok h2
  · exact leadB_ok h3
theorem plain_law (a b c d e f : Int) : ∃ es N, LawOk (leadAt [a, b, c] 1) (leadAt [a, b, c] 2) (leadAt [a, b, c] 3) (leadAt [d, e, f] 1) (leadAt [d, e, f] 2) (leadAt [d, e, f] 3) es N := by
  rw [lead_1, lead_2, lead_3, lead_1, lead_2, lead_3]
  have h1 := leads_ok (rs_lt a) (rs_lt b) (rs_lt c)
  have h2 := leads_ok (rs_lt d) (rs_lt e) (rs_lt f)
  have hr := res_ok (rs_lt a) (rs_lt b) (rs_lt c) (rs_lt d) (rs_lt e) (rs_lt f)
  unfold resOk at hr
  have hp := tab_ok _ (List.contains_iff_mem.mp hr)
  unfold pairOk at hp
  dsimp only at hp
  split at hp
  · rename_i es hrun
    simp only [Bool.and_eq_true, beq_iff_eq, decide_eq_true_eq] at hp
    obtain ⟨⟨⟨⟨⟨hes, hall⟩, h3⟩, h4⟩, h5⟩, h6⟩ := hp
    unfold esOk at hes
    simp only [Bool.and_eq_true, decide_eq_true_eq, List.all_eq_true] at hes
    obtain ⟨⟨⟨he, hlen⟩, hy⟩, hz⟩ := hes
    refine ⟨es, 80, ⟨h1, h2, hrun, fun e he' => ?_, hlen, hy, hz, ?_, ?_, ?_, hall⟩⟩
    · have := he e he'
      exact ⟨List.contains_iff_mem.mp this.1, List.contains_iff_mem.mp this.2⟩
    · rw [hall]; exact h3
    · rw [hall]; exact h4
    · rw [hall]; exact h5
  · cases hp

end Mine
-- P17
namespace Mine
open PySem PySem.W PyProof.Rows
theorem ints_vr {Z : ZS} : ∀ {vs : List Value} {ns : List Int}, IntsAre vs ns → VRs Z (ns.map .int) vs
  | _, _, .nil => .nil
  | _, _, .cons n t h => .cons (.int n t) (ints_vr h)
end Mine
open PySem PySem.W PyProof.Rows Mine
theorem PySem.Challenge.cw_pg0321_01_holds : PySem.Challenge.rw_pg0321_01.Holds := by
  w_on
  refine holds_law Mine.said fun said => ?_
  refine holds_open (q := vw) (loose := lse) (Xt := XT) (XP := XL vw []) (Yf := HK.obs) (Ya := HK.val) (YP := HK.says) (N := 4164) left HK.of HK.keeps (fun s e => xl_of s (Bool.and_eq_true_iff.mp e).1) XL.keeps (by rfl) (by rfl) (by rfl) (fun s e => recFacts_of (Bool.and_eq_true_iff.mp e).2) (by rfl) (by first | assumption | decide +kernel) (by decide +kernel) ⟨rfl, rfl, rfl, rfl, rfl, by decide +kernel⟩ ?hw ?hc
  case hw => w_witness2
  k_fill
  intro w s₀ s₁ mg mb G Y fa o pm cd doc dV kV ho hdd hcd hD hmg hg args vals as hpre hlay hrd hwl hlo
  have KX := kIn_of Y
  refine Ground.open G ?_
  intro T B D TE TW
  have hfa : some (Value.ref fa) = some (Value.ref 350) := hmg.symm.trans (mg_of KX (Top.g T) (by k_is))
  cases hfa
  clear D TE TW B hD
  wrow_args hpre hlay hrd hwl hlo
  rename_i ns hs h1 h2 h3 h4 as1 as2 sa vs as3 hL ra w1 r0 hI hr hc1 hc2
  have W : Mine.W ⟨KK w.params, s₁.heap, s₁.gens, s₁.drawn, s₁.os⟩ (fun _ _ => False) s₁ [] :=
    { b := ⟨KX, T.nolimit, ⟨mg, T.g⟩, ⟨mb, T.b, T.builtins⟩⟩, base := fun _ _ e => e, gens := rfl, drawn := rfl, os := rfl, z := fun _ _ h => h.elim, cell := fun _ h => (nomatch h), new := fun _ h => (nomatch h), nodup := List.nodup_nil }
  refine walk_law (ns := ns) (by omega) plain_law rfl W ⟨rfl, by decide, by decide⟩ (fun Z s σ W' => ⟨vs, let ⟨o, ho, hc, n, hd⟩ := hL; ⟨o, W'.base _ _ ho, hc, n, hd⟩, ints_vr hI⟩) ?_
  intro Z' s' W'
  refine GoodW.toG ⟨.inl ⟨_, .bool true, [], rfl, ?_, .bool true, ?_, unshared_nil⟩, W'.base, W'.os, W'.gens.trans hg⟩
  · intro cls; rfl
  · wrow_post
#print axioms PySem.Challenge.cw_pg0321_01_holds
