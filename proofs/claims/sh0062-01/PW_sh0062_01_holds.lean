import PyProof.Rows.All
import Wide.All
import OpenK.AllK
import Wide.FinOn
import PySem.Sre
import PySem.Challenge.RW_sh0062_01
set_option Elab.async false

section -- KDef
open PySem PySem.W PySem.Spec PySem.Calls PyProof.Rows
namespace Mine
set_option maxRecDepth 100000
noncomputable abbrev pw : Program := PySem.Challenge.pw_sh0062_01
noncomputable def pS (i : Nat) : Stmt := pw.main.body.getD i (.Pass default)
noncomputable def pM (i : Nat) : Stmt := match pS 18 with
  | .ClassDef _ _ _ b _ _ _ _ _ _ _ => b.getD i (.Pass default)
  | _ => .Pass default
noncomputable def parOf : Stmt → Arguments
  | .FunctionDef _ a _ _ _ _ _ _ _ _ => a
  | _ => ⟨[], [], none, [], [], none, []⟩
noncomputable def bodOf : Stmt → List Stmt
  | .FunctionDef _ _ b _ _ _ _ _ _ _ => b
  | _ => []
noncomputable def scoOf : Stmt → Scope
  | .FunctionDef _ _ _ _ _ _ s _ _ _ => s
  | _ => { kind := .module, names := [], isGenerator := false, isCoroutine := false, more := [] }
noncomputable def b3Keys : List Expr × List Expr := match pS 13 with
  | .Assign _ (.Dict ks vs _) _ => (ks.filterMap id, vs)
  | _ => ([], [])
noncomputable def constInt : Expr → Int
  | .Constant (.int i) _ _ => i
  | _ => 0
noncomputable def constStr : Expr → Str
  | .Constant (.str x) _ _ => x
  | _ => Str.empty
noncomputable def b3T : List (Int × Str) := (b3Keys.1.map constInt).zip (b3Keys.2.map constStr)
noncomputable def b3Tok (i : Nat) : Nat := if i < 647 then 439 + 3 * i else 439 + 3 * 646 + 2 * (i - 646)
noncomputable def b3E : List DictEntry := b3T.zipIdx.map fun p => ⟨p.1.1, .int p.1.1 (b3Tok p.2), .str p.1.2 (b3Tok p.2 + 1)⟩
noncomputable def b3O : Obj := ⟨.type "dict", none, .dict b3E.toArray 650, #[]⟩
noncomputable def b1O (P : Params) : Obj := ⟨.type "set", none, (.set #[(65024, .int 65024 388), (65025, .int 65025 389), (65026, .int 65026 390), (65027, .int 65027 391), (65028, .int 65028 392), (65029, .int 65029 393), (6150, .int 6150 374), (65030, .int 65030 394), (65031, .int 65031 395), (65032, .int 65032 396), (65033, .int 65033 397), (6155, .int 6155 375), (6156, .int 6156 376), (6157, .int 6157 377), (8203, .int 8203 378), (8204, .int 8204 379), (8205, .int 8205 380), (65034, .int 65034 398), (65035, .int 65035 399), (65036, .int 65036 400), (65037, .int 65037 401), (65038, .int 65038 402), (65039, .int 65039 403), (173, .int 173 372), (847, .int 847 373), (8288, .int 8288 381), (65279, .int 65279 382)] 29 ⟨127, #[0, 1, 2, 3, 4, 5, 6, 7, 8, 9, 10, 11, 12, 13, 14, 15, 16, 17, 18, 19, 20, 21, 22, 45, 79, 96, 127], #[], 0, !P.followText "set-order", 2, true⟩), #[]⟩
noncomputable def KK : Params → Frag := fun P =>
  (nat_lit 3, ⟨.type "dict", none, (.dict [⟨PyData.keyHash P (Str.ofString "__name__"), .str (Str.ofString "__name__") 165, .str (Str.ofString "law_sh0062_01") 2616⟩, ⟨PyData.keyHash P (Str.ofString "__doc__"), .str (Str.ofString "__doc__") 166, .none⟩, ⟨PyData.keyHash P (Str.ofString "__package__"), .str (Str.ofString "__package__") 167, .none⟩, ⟨PyData.keyHash P (Str.ofString "__loader__"), .str (Str.ofString "__loader__") 168, .builtin "__main__.__loader__#opaque"⟩, ⟨PyData.keyHash P (Str.ofString "__spec__"), .str (Str.ofString "__spec__") 169, .none⟩, ⟨PyData.keyHash P (Str.ofString "__annotations__"), .str (Str.ofString "__annotations__") 170, .ref 6⟩, ⟨PyData.keyHash P (Str.ofString "__builtins__"), .str (Str.ofString "__builtins__") 171, .ref 4⟩, ⟨PyData.keyHash P (Str.ofString "__file__"), .str (Str.ofString "__file__") 173, .str (Str.ofString "/claim/cut.py") 172⟩, ⟨PyData.keyHash P (Str.ofString "__cached__"), .str (Str.ofString "__cached__") 174, .none⟩, ⟨PyData.keyHash P (Str.ofString "_sre"), .str (Str.ofString "_sre") 275, .ref 12⟩, ⟨PyData.keyHash P (Str.ofString "_wall"), .str (Str.ofString "_wall") 288, .ref 38⟩, ⟨PyData.keyHash P (Str.ofString "TICK"), .str (Str.ofString "TICK") 292, .str (Str.ofString "'") 291⟩, ⟨PyData.keyHash P (Str.ofString "decode_rfc2231"), .str (Str.ofString "decode_rfc2231") 300, .ref 45⟩, ⟨PyData.keyHash P (Str.ofString "_twin_re_1"), .str (Str.ofString "_twin_re_1") 318, .ref 50⟩, ⟨PyData.keyHash P (Str.ofString "_twin_re_2"), .str (Str.ofString "_twin_re_2") 360, .ref 55⟩, ⟨PyData.keyHash P (Str.ofString "CRLF"), .str (Str.ofString "CRLF") 362, .str (Str.ofString "\x0d\n") 361⟩, ⟨PyData.keyHash P (Str.ofString "quotedata"), .str (Str.ofString "quotedata") 369, .ref 62⟩, ⟨PyData.keyHash P (Str.ofString "b1_set"), .str (Str.ofString "b1_set") 431, .ref 70⟩, ⟨PyData.keyHash P (Str.ofString "in_table_b1"), .str (Str.ofString "in_table_b1") 438, .ref 80⟩, ⟨PyData.keyHash P (Str.ofString "b3_exceptions"), .str (Str.ofString "b3_exceptions") 2389, .ref 81⟩, ⟨PyData.keyHash P (Str.ofString "map_table_b3"), .str (Str.ofString "map_table_b3") 2397, .ref 126⟩, ⟨PyData.keyHash P (Str.ofString "_name_disallowed_re"), .str (Str.ofString "_name_disallowed_re") 2425, .ref 131⟩, ⟨PyData.keyHash P (Str.ofString "_value_disallowed_re"), .str (Str.ofString "_value_disallowed_re") 2459, .ref 136⟩, ⟨PyData.keyHash P (Str.ofString "Headers"), .str (Str.ofString "Headers") 2615, .ref 259⟩, ⟨PyData.keyHash P (Str.ofString "_law_numbers"), .str (Str.ofString "_law_numbers") 2623, .ref 268⟩, ⟨PyData.keyHash P (Str.ofString "_law_hidden"), .str (Str.ofString "_law_hidden") 2631, .ref 275⟩, ⟨PyData.keyHash P (Str.ofString "_law_rules"), .str (Str.ofString "_law_rules") 2637, .ref 280⟩, ⟨PyData.keyHash P (Str.ofString "_law_start"), .str (Str.ofString "_law_start") 2654, .ref 287⟩, ⟨PyData.keyHash P (Str.ofString "_law_marked"), .str (Str.ofString "_law_marked") 2660, .ref 292⟩, ⟨PyData.keyHash P (Str.ofString "_law_prepared"), .str (Str.ofString "_law_prepared") 2666, .ref 297⟩, ⟨PyData.keyHash P (Str.ofString "_law_run"), .str (Str.ofString "_law_run") 2681, .ref 304⟩, ⟨PyData.keyHash P (Str.ofString "_law_word"), .str (Str.ofString "_law_word") 2694, .ref 311⟩, ⟨PyData.keyHash P (Str.ofString "_law_heard"), .str (Str.ofString "_law_heard") 2705, .ref 318⟩, ⟨PyData.keyHash P (Str.ofString "law"), .str (Str.ofString "law") 2719, .ref 325⟩].toArray 34), #[]⟩) ::
  (nat_lit 44, ⟨.type "code", none, (.fields [.str (Str.ofString "decode_rfc2231") 293, .str (Str.ofString "decode_rfc2231") 294, .str (Str.ofString "/claim/cut.py") 295, .int 7 0, .int 1 0, .int 0 0, .int 0 0, .int 3 0, .ref 39, .bool true, .int 276 0, .ref 40, .none, .ref 41, .ref 42, .ref 43, .int 298 0, .int 7 0, .str (Str.ofString "/claim/cut.py") 299].toArray), #[]⟩) ::
  (nat_lit 45, ⟨.type "function", none, .func (fnOf (Str.ofString "decode_rfc2231") (Str.ofString "decode_rfc2231") (parOf (pS 4)) (bodOf (pS 4)) (scoOf (pS 4)) (.none) .none .none (.str (Str.ofString "cpy313.email.utils") 289) none (.ref 44) .none), #[]⟩) ::
  (nat_lit 49, ⟨.type "tuple", none, (.seq [.int 14 0, .int 4 0, .int 0 0, .int 1 0, .int 1 0, .int 6 0, .int 1 0, .int 16 0, .int 46 0, .int 1 0].toArray 0), #[]⟩) ::
  (nat_lit 50, ⟨.type "re.Pattern", none, (.fields [.str (Str.ofString "(?m)^\\.") 304, .int 40 317, .int 0 0, .none, .none, .ref 49, .int 0 0].toArray), #[]⟩) ::
  (nat_lit 54, ⟨.type "tuple", none, (.seq [.int 14 0, .int 9 0, .int 4 0, .int 1 0, .int 2 0, .int 16 0, .int 10 0, .int 16 0, .int 13 0, .int 0 0, .int 7 0, .int 7 0, .int 16 0, .int 13 0, .int 16 0, .int 10 0, .int 15 0, .int 18 0, .int 5 0, .int 16 0, .int 10 0, .int 15 0, .int 13 0, .int 11 0, .int 16 0, .int 13 0, .int 5 0, .int 5 0, .int 0 0, .int 16 0, .int 10 0, .int 1 0, .int 15 0, .int 2 0, .int 0 0, .int 1 0].toArray 0), #[]⟩) ::
  (nat_lit 55, ⟨.type "re.Pattern", none, (.fields [.str (Str.ofString "(?:\\r\\n|\\n|\\r(?!\\n))") 320, .int 32 359, .int 0 0, .none, .none, .ref 54, .int 0 0].toArray), #[]⟩) ::
  (nat_lit 61, ⟨.type "code", none, (.fields [.str (Str.ofString "quotedata") 363, .str (Str.ofString "quotedata") 364, .str (Str.ofString "/claim/cut.py") 365, .int 16 0, .int 1 0, .int 0 0, .int 0 0, .int 3 0, .ref 56, .bool true, .int 276 0, .ref 57, .none, .ref 58, .ref 59, .ref 60, .int 367 0, .int 16 0, .str (Str.ofString "/claim/cut.py") 368].toArray), #[]⟩) ::
  (nat_lit 62, ⟨.type "function", none, .func (fnOf (Str.ofString "quotedata") (Str.ofString "quotedata") (parOf (pS 9)) (bodOf (pS 9)) (scoOf (pS 9)) (.none) .none .none (.str (Str.ofString "cpy313.smtplib") 301) none (.ref 61) .none), #[]⟩) ::
  (nat_lit 70, b1O P) ::
  (nat_lit 79, ⟨.type "code", none, (.fields [.str (Str.ofString "in_table_b1") 432, .str (Str.ofString "in_table_b1") 433, .str (Str.ofString "/claim/cut.py") 434, .int 20 0, .int 1 0, .int 0 0, .int 0 0, .int 3 0, .ref 74, .bool true, .int 276 0, .ref 75, .none, .ref 76, .ref 77, .ref 78, .int 436 0, .int 20 0, .str (Str.ofString "/claim/cut.py") 437].toArray), #[]⟩) ::
  (nat_lit 80, ⟨.type "function", none, .func (fnOf (Str.ofString "in_table_b1") (Str.ofString "in_table_b1") (parOf (pS 12)) (bodOf (pS 12)) (scoOf (pS 12)) (.none) .none .none (.str (Str.ofString "cpy313.stringprep") 370) none (.ref 79) .none), #[]⟩) ::
  (nat_lit 81, b3O) ::
  (nat_lit 125, ⟨.type "code", none, (.fields [.str (Str.ofString "map_table_b3") 2390, .str (Str.ofString "map_table_b3") 2391, .str (Str.ofString "/claim/cut.py") 2392, .int 23 0, .int 1 0, .int 0 0, .int 0 0, .int 3 0, .ref 120, .bool true, .int 276 0, .ref 121, .none, .ref 122, .ref 123, .ref 124, .int 2395 0, .int 23 0, .str (Str.ofString "/claim/cut.py") 2396].toArray), #[]⟩) ::
  (nat_lit 126, ⟨.type "function", none, .func (fnOf (Str.ofString "map_table_b3") (Str.ofString "map_table_b3") (parOf (pS 14)) (bodOf (pS 14)) (scoOf (pS 14)) (.none) .none .none (.str (Str.ofString "cpy313.stringprep") 370) none (.ref 125) .none), #[]⟩) ::
  (nat_lit 130, ⟨.type "tuple", none, (.seq [.int 14 0, .int 10 0, .int 4 0, .int 1 0, .int 1 0, .int 22 0, .int 0 0, .int 31 0, .int 16 0, .int 127 0, .int 0 0, .int 13 0, .int 7 0, .int 22 0, .int 0 0, .int 31 0, .int 16 0, .int 127 0, .int 0 0, .int 1 0].toArray 0), #[]⟩) ::
  (nat_lit 131, ⟨.type "re.Pattern", none, (.fields [.str (Str.ofString "[\\x00-\\x1F\\x7F]") 2401, .int 32 2424, .int 0 0, .none, .none, .ref 130, .int 0 0].toArray), #[]⟩) ::
  (nat_lit 135, ⟨.type "tuple", none, (.seq [.int 14 0, .int 14 0, .int 4 0, .int 1 0, .int 1 0, .int 9 0, .int 4294966783 0, .int 0 0, .int 0 0, .int 2147483648 0, .int 0 0, .int 0 0, .int 0 0, .int 0 0, .int 0 0, .int 13 0, .int 11 0, .int 9 0, .int 4294966783 0, .int 0 0, .int 0 0, .int 2147483648 0, .int 0 0, .int 0 0, .int 0 0, .int 0 0, .int 0 0, .int 1 0].toArray 0), #[]⟩) ::
  (nat_lit 136, ⟨.type "re.Pattern", none, (.fields [.str (Str.ofString "[\\x00-\\x08\\x0A-\\x1F\\x7F]") 2427, .int 32 2458, .int 0 0, .none, .none, .ref 135, .int 0 0].toArray), #[]⟩) ::
  (nat_lit 144, ⟨.type "tuple", none, (.seq [.none].toArray 0), #[]⟩) ::
  (nat_lit 150, ⟨.type "code", none, (.fields [.str (Str.ofString "__init__") 2472, .str (Str.ofString "Headers.__init__") 2473, .str (Str.ofString "/claim/cut.py") 2474, .int 33 0, .int 2 0, .int 0 0, .int 0 0, .int 3 0, .ref 145, .bool true, .int 276 0, .ref 146, .none, .ref 147, .ref 148, .ref 149, .int 2479 0, .int 33 0, .str (Str.ofString "/claim/cut.py") 2480].toArray), #[]⟩) ::
  (nat_lit 151, ⟨.type "function", none, .func (fnOf (Str.ofString "__init__") (Str.ofString "Headers.__init__") (parOf (pM 0)) (bodOf (pM 0)) (scoOf (pM 0)) (.ref 144) .none .none (.str (Str.ofString "cpy313.wsgiref.headers") 2398) none (.ref 150) .none), #[]⟩) ::
  (nat_lit 157, ⟨.type "code", none, (.fields [.str (Str.ofString "_convert_string_type") 2482, .str (Str.ofString "Headers._convert_string_type") 2483, .str (Str.ofString "/claim/cut.py") 2484, .int 43 0, .int 2 0, .int 0 0, .int 1 0, .int 3 0, .ref 152, .bool true, .int 276 0, .ref 153, .none, .ref 154, .ref 155, .ref 156, .int 2489 0, .int 43 0, .str (Str.ofString "/claim/cut.py") 2490].toArray), #[]⟩) ::
  (nat_lit 158, ⟨.type "function", none, .func (fnOf (Str.ofString "_convert_string_type") (Str.ofString "Headers._convert_string_type") (parOf (pM 1)) (bodOf (pM 1)) (scoOf (pM 1)) (.none) .none .none (.str (Str.ofString "cpy313.wsgiref.headers") 2398) none (.ref 157) .none), #[]⟩) ::
  (nat_lit 199, ⟨.type "tuple", none, (.seq [.none].toArray 0), #[]⟩) ::
  (nat_lit 205, ⟨.type "code", none, (.fields [.str (Str.ofString "get") 2538, .str (Str.ofString "Headers.get") 2539, .str (Str.ofString "/claim/cut.py") 2540, .int 71 0, .int 3 0, .int 0 0, .int 0 0, .int 3 0, .ref 200, .bool true, .int 276 0, .ref 201, .none, .ref 202, .ref 203, .ref 204, .int 2546 0, .int 71 0, .str (Str.ofString "/claim/cut.py") 2547].toArray), #[]⟩) ::
  (nat_lit 206, ⟨.type "function", none, .func (fnOf (Str.ofString "get") (Str.ofString "Headers.get") (parOf (pM 8)) (bodOf (pM 8)) (scoOf (pM 8)) (.ref 199) .none .none (.str (Str.ofString "cpy313.wsgiref.headers") 2398) none (.ref 205) .none), #[]⟩) ::
  (nat_lit 258, ⟨.type "dict", none, (.dict [⟨PyData.keyHash P (Str.ofString "__module__"), .str (Str.ofString "__module__") 2467, .str (Str.ofString "cpy313.wsgiref.headers") 2398⟩, ⟨PyData.keyHash P (Str.ofString "__firstlineno__"), .str (Str.ofString "__firstlineno__") 2471, .int 31 2470⟩, ⟨PyData.keyHash P (Str.ofString "__init__"), .str (Str.ofString "__init__") 2481, .ref 151⟩, ⟨PyData.keyHash P (Str.ofString "_convert_string_type"), .str (Str.ofString "_convert_string_type") 2491, .ref 158⟩, ⟨PyData.keyHash P (Str.ofString "__len__"), .str (Str.ofString "__len__") 2498, .ref 165⟩, ⟨PyData.keyHash P (Str.ofString "__setitem__"), .str (Str.ofString "__setitem__") 2507, .ref 172⟩, ⟨PyData.keyHash P (Str.ofString "__delitem__"), .str (Str.ofString "__delitem__") 2513, .ref 177⟩, ⟨PyData.keyHash P (Str.ofString "__getitem__"), .str (Str.ofString "__getitem__") 2521, .ref 184⟩, ⟨PyData.keyHash P (Str.ofString "__contains__"), .str (Str.ofString "__contains__") 2529, .ref 191⟩, ⟨PyData.keyHash P (Str.ofString "get_all"), .str (Str.ofString "get_all") 2537, .ref 198⟩, ⟨PyData.keyHash P (Str.ofString "get"), .str (Str.ofString "get") 2548, .ref 206⟩, ⟨PyData.keyHash P (Str.ofString "keys"), .str (Str.ofString "keys") 2554, .ref 211⟩, ⟨PyData.keyHash P (Str.ofString "values"), .str (Str.ofString "values") 2560, .ref 216⟩, ⟨PyData.keyHash P (Str.ofString "items"), .str (Str.ofString "items") 2567, .ref 223⟩, ⟨PyData.keyHash P (Str.ofString "__repr__"), .str (Str.ofString "__repr__") 2574, .ref 230⟩, ⟨PyData.keyHash P (Str.ofString "__str__"), .str (Str.ofString "__str__") 2580, .ref 235⟩, ⟨PyData.keyHash P (Str.ofString "__bytes__"), .str (Str.ofString "__bytes__") 2587, .ref 242⟩, ⟨PyData.keyHash P (Str.ofString "setdefault"), .str (Str.ofString "setdefault") 2596, .ref 249⟩, ⟨PyData.keyHash P (Str.ofString "add_header"), .str (Str.ofString "add_header") 2606, .ref 256⟩, ⟨PyData.keyHash P (Str.ofString "__static_attributes__"), .str (Str.ofString "__static_attributes__") 2608, .ref 257⟩, ⟨PyData.keyHash P (Str.ofString "__dict__"), .str (Str.ofString "__dict__") 2610, .ref 260⟩, ⟨PyData.keyHash P (Str.ofString "__weakref__"), .str (Str.ofString "__weakref__") 2612, .ref 261⟩, ⟨PyData.keyHash P (Str.ofString "__doc__"), .str (Str.ofString "__doc__") 2613, .none⟩].toArray 4), #[]⟩) ::
  (nat_lit 259, ⟨.type "type", none, (.cls ⟨(Str.ofString "Headers"), [.type "object"], [.ref 259, .type "object"], 258, (Str.ofString "Headers"), true, [], [], false, none, false⟩), #[none, none, (some (.str (Str.ofString "Headers") 2460)), (some (.str (Str.ofString "Headers") 2468)), (some (.builtin "object.__new__")), (some (.bool true))]⟩) ::
  (nat_lit 260, ⟨.type "getset_descriptor", none, (.fields [.str (Str.ofString "__dict__") 2609, .ref 259, .builtin "function.__dict__", .builtin "function.__dict__#set"].toArray), #[]⟩) ::
  (nat_lit 261, ⟨.type "getset_descriptor", none, (.fields [.str (Str.ofString "__weakref__") 2611, .ref 259, .builtin "ExceptionGroup.__weakref__", .none].toArray), #[]⟩) ::
  (nat_lit 267, ⟨.type "code", none, (.fields [.str (Str.ofString "_law_numbers") 2618, .str (Str.ofString "_law_numbers") 2619, .str (Str.ofString "/claim/cut.py") 2620, .int 102 0, .int 1 0, .int 0 0, .int 0 0, .int 3 0, .ref 264, .bool true, .int 276 0, .ref 265, .none, .none, .none, .ref 266, .int 2621 0, .int 102 0, .str (Str.ofString "/claim/cut.py") 2622].toArray), #[]⟩) ::
  (nat_lit 268, ⟨.type "function", none, .func (fnOf (Str.ofString "_law_numbers") (Str.ofString "_law_numbers") (parOf (pS 20)) (bodOf (pS 20)) (scoOf (pS 20)) (.none) .none .none (.str (Str.ofString "law_sh0062_01") 2616) none (.ref 267) .none), #[]⟩) ::
  (nat_lit 274, ⟨.type "code", none, (.fields [.str (Str.ofString "_law_hidden") 2624, .str (Str.ofString "_law_hidden") 2625, .str (Str.ofString "/claim/cut.py") 2626, .int 105 0, .int 1 0, .int 0 0, .int 0 0, .int 3 0, .ref 269, .bool true, .int 276 0, .ref 270, .none, .ref 271, .ref 272, .ref 273, .int 2629 0, .int 105 0, .str (Str.ofString "/claim/cut.py") 2630].toArray), #[]⟩) ::
  (nat_lit 275, ⟨.type "function", none, .func (fnOf (Str.ofString "_law_hidden") (Str.ofString "_law_hidden") (parOf (pS 21)) (bodOf (pS 21)) (scoOf (pS 21)) (.none) .none .none (.str (Str.ofString "law_sh0062_01") 2616) none (.ref 274) .none), #[]⟩) ::
  (nat_lit 279, ⟨.type "code", none, (.fields [.str (Str.ofString "_law_rules") 2632, .str (Str.ofString "_law_rules") 2633, .str (Str.ofString "/claim/cut.py") 2634, .int 108 0, .int 3 0, .int 0 0, .int 0 0, .int 3 0, .ref 276, .bool true, .int 276 0, .ref 277, .none, .none, .none, .ref 278, .int 2635 0, .int 108 0, .str (Str.ofString "/claim/cut.py") 2636].toArray), #[]⟩) ::
  (nat_lit 280, ⟨.type "function", none, .func (fnOf (Str.ofString "_law_rules") (Str.ofString "_law_rules") (parOf (pS 22)) (bodOf (pS 22)) (scoOf (pS 22)) (.none) .none .none (.str (Str.ofString "law_sh0062_01") 2616) none (.ref 279) .none), #[]⟩) ::
  (nat_lit 286, ⟨.type "code", none, (.fields [.str (Str.ofString "_law_start") 2638, .str (Str.ofString "_law_start") 2639, .str (Str.ofString "/claim/cut.py") 2640, .int 115 0, .int 2 0, .int 0 0, .int 0 0, .int 3 0, .ref 281, .bool true, .int 276 0, .ref 282, .none, .ref 283, .ref 284, .ref 285, .int 2652 0, .int 115 0, .str (Str.ofString "/claim/cut.py") 2653].toArray), #[]⟩) ::
  (nat_lit 287, ⟨.type "function", none, .func (fnOf (Str.ofString "_law_start") (Str.ofString "_law_start") (parOf (pS 23)) (bodOf (pS 23)) (scoOf (pS 23)) (.none) .none .none (.str (Str.ofString "law_sh0062_01") 2616) none (.ref 286) .none), #[]⟩) ::
  (nat_lit 291, ⟨.type "code", none, (.fields [.str (Str.ofString "_law_marked") 2655, .str (Str.ofString "_law_marked") 2656, .str (Str.ofString "/claim/cut.py") 2657, .int 129 0, .int 1 0, .int 0 0, .int 0 0, .int 3 0, .ref 288, .bool true, .int 276 0, .ref 289, .none, .none, .none, .ref 290, .int 2658 0, .int 129 0, .str (Str.ofString "/claim/cut.py") 2659].toArray), #[]⟩) ::
  (nat_lit 292, ⟨.type "function", none, .func (fnOf (Str.ofString "_law_marked") (Str.ofString "_law_marked") (parOf (pS 24)) (bodOf (pS 24)) (scoOf (pS 24)) (.none) .none .none (.str (Str.ofString "law_sh0062_01") 2616) none (.ref 291) .none), #[]⟩) ::
  (nat_lit 296, ⟨.type "code", none, (.fields [.str (Str.ofString "_law_prepared") 2661, .str (Str.ofString "_law_prepared") 2662, .str (Str.ofString "/claim/cut.py") 2663, .int 131 0, .int 1 0, .int 0 0, .int 0 0, .int 3 0, .ref 293, .bool true, .int 276 0, .ref 294, .none, .none, .none, .ref 295, .int 2664 0, .int 131 0, .str (Str.ofString "/claim/cut.py") 2665].toArray), #[]⟩) ::
  (nat_lit 297, ⟨.type "function", none, .func (fnOf (Str.ofString "_law_prepared") (Str.ofString "_law_prepared") (parOf (pS 25)) (bodOf (pS 25)) (scoOf (pS 25)) (.none) .none .none (.str (Str.ofString "law_sh0062_01") 2616) none (.ref 296) .none), #[]⟩) ::
  (nat_lit 303, ⟨.type "code", none, (.fields [.str (Str.ofString "_law_run") 2667, .str (Str.ofString "_law_run") 2668, .str (Str.ofString "/claim/cut.py") 2669, .int 133 0, .int 2 0, .int 0 0, .int 0 0, .int 3 0, .ref 298, .bool true, .int 276 0, .ref 299, .none, .ref 300, .ref 301, .ref 302, .int 2679 0, .int 133 0, .str (Str.ofString "/claim/cut.py") 2680].toArray), #[]⟩) ::
  (nat_lit 304, ⟨.type "function", none, .func (fnOf (Str.ofString "_law_run") (Str.ofString "_law_run") (parOf (pS 26)) (bodOf (pS 26)) (scoOf (pS 26)) (.none) .none .none (.str (Str.ofString "law_sh0062_01") 2616) none (.ref 303) .none), #[]⟩) ::
  (nat_lit 310, ⟨.type "code", none, (.fields [.str (Str.ofString "_law_word") 2682, .str (Str.ofString "_law_word") 2683, .str (Str.ofString "/claim/cut.py") 2684, .int 148 0, .int 4 0, .int 0 0, .int 0 0, .int 3 0, .ref 305, .bool true, .int 276 0, .ref 306, .none, .ref 307, .ref 308, .ref 309, .int 2692 0, .int 148 0, .str (Str.ofString "/claim/cut.py") 2693].toArray), #[]⟩) ::
  (nat_lit 311, ⟨.type "function", none, .func (fnOf (Str.ofString "_law_word") (Str.ofString "_law_word") (parOf (pS 27)) (bodOf (pS 27)) (scoOf (pS 27)) (.none) .none .none (.str (Str.ofString "law_sh0062_01") 2616) none (.ref 310) .none), #[]⟩) ::
  (nat_lit 317, ⟨.type "code", none, (.fields [.str (Str.ofString "_law_heard") 2695, .str (Str.ofString "_law_heard") 2696, .str (Str.ofString "/claim/cut.py") 2697, .int 162 0, .int 2 0, .int 0 0, .int 0 0, .int 3 0, .ref 312, .bool true, .int 276 0, .ref 313, .none, .ref 314, .ref 315, .ref 316, .int 2703 0, .int 162 0, .str (Str.ofString "/claim/cut.py") 2704].toArray), #[]⟩) ::
  (nat_lit 318, ⟨.type "function", none, .func (fnOf (Str.ofString "_law_heard") (Str.ofString "_law_heard") (parOf (pS 28)) (bodOf (pS 28)) (scoOf (pS 28)) (.none) .none .none (.str (Str.ofString "law_sh0062_01") 2616) none (.ref 317) .none), #[]⟩) ::
  (nat_lit 324, ⟨.type "code", none, (.fields [.str (Str.ofString "law") 2706, .str (Str.ofString "law") 2707, .str (Str.ofString "/claim/cut.py") 2708, .int 172 0, .int 1 0, .int 0 0, .int 0 0, .int 3 0, .ref 319, .bool true, .int 276 0, .ref 320, .none, .ref 321, .ref 322, .ref 323, .int 2717 0, .int 172 0, .str (Str.ofString "/claim/cut.py") 2718].toArray), #[]⟩) ::
  (nat_lit 325, ⟨.type "function", none, .func (fnOf (Str.ofString "law") (Str.ofString "law") (parOf (pS 29)) (bodOf (pS 29)) (scoOf (pS 29)) (.none) .none .none (.str (Str.ofString "law_sh0062_01") 2616) none (.ref 324) .none), #[]⟩) :: []
noncomputable abbrev KAs : List Addr := [3, 44, 45, 49, 50, 54, 55, 61, 62, 70, 79, 80, 81, 125, 126, 130, 131, 135, 136, 144, 150, 151, 157, 158, 199, 205, 206, 258, 259, 260, 261, 267, 268, 274, 275, 279, 280, 286, 287, 291, 292, 296, 297, 303, 304, 310, 311, 317, 318, 324, 325]
end Mine
end

section -- Base
open PySem PySem.W PySem.Spec PySem.Calls PyProof.Rows PyProof.Rows.LCg
namespace Mine
set_option maxRecDepth 100000

section
variable {prog : Program} {w : World} {A : Around} {E : Value → Shared → Prop} {s : Shared} {h₀ : Heap} {L : Addr} {m : Str → Option Value} {env : Env}

theorem str_hio {ty : String} {x : Str} {t : Tok} {I : Addr} : ∀ (i : Nat) (h : Heap), h.IsStrIter I ty x t i → ∃ o, h.get? I = some o := fun _ _ ⟨o, e, _⟩ => ⟨o, e⟩
theorem str_st {ty : String} {x : Str} {t : Tok} {I : Addr} : ∀ (i : Nat) (h h' : Heap) (o : Obj) (nw : List (Addr × Obj)), h.IsStrIter I ty x t i → h.get? I = some o → h'.get? I = some o → (∀ b o, h₀.get? b = some o → h'.get? b = some o) → News h₀ L h' nw → True → h'.IsStrIter I ty x t i :=
  fun _ _ _ o _ st e e' _ _ _ => by
    obtain ⟨o', q, r⟩ := st
    rw [e] at q; cases q
    exact ⟨o, e', r⟩

theorem sa_snoc {y : Str} {t : Tok} : ∀ {vs : List Value} {ys : List Str}, StrsAre vs ys → StrsAre (vs ++ [.str y t]) (ys ++ [y])
  | _, _, .nil => .cons y t .nil
  | _, _, .cons z u r => .cons z u (sa_snoc r)

/-- one more value of the block's: nothing else is new -/
noncomputable def El (news : List (Addr × Obj)) (r : Str) (y : Value) (news' : List (Addr × Obj)) : Prop := news' = news ∧ ∃ t : Tok, y = .str r t

theorem rest_str {elt : Expr} {x : Str} {scope : Scope} {cl : List (Str × Addr)} {Fin : List Value → List (Addr × Obj) → Prop} {news : List (Addr × Obj)} (y : Str) (g : Nat → Str)
    (turn : ∀ c ∈ y.cps.toList, ∀ t I oI C oC D m₂ ys h tk (E' : Value → Shared → Prop), NsObj oC m₂ → m₂ x = some (.str ⟨#[c]⟩ t) → Fr h₀ L h m → News h₀ L h ((I, oI) :: (C, oC) :: (D, lst ys) :: news) → Off3 I C D news → ((@Ne Nat I C) ∧ (@Ne Nat I D) ∧ (@Ne Nat C D)) →
      wpAny (model prog w) A (eval elt (compEnvC scope cl C env)) (CompEnd h₀ L m { s with heap := h, toks := tk } I oI C oC D (lst ys) (fun _ => True) (El news (g c))) E' { s with heap := h, toks := tk })
    (fin : ∀ ys, StrsAre ys (y.cps.toList.map g) → Fin ys news) :
    CompRest prog w A h₀ L m env elt x scope cl s (fun _ => True) (SignAt y) Fin y.cps.size 0 [] news := by
  have key : ∀ (j i : Nat) (ys : List Value), i + j = y.cps.size → StrsAre ys ((y.cps.toList.take i).map g) → CompRest prog w A h₀ L m env elt x scope cl s (fun _ => True) (SignAt y) Fin j i ys news := by
    intro j
    induction j with
    | zero =>
      intro i ys hi hy
      have e : y.cps.toList.take i = y.cps.toList := List.take_of_length_le (by simp; omega)
      rw [e] at hy
      exact CompRest.zero (fin ys hy)
    | succ j ih =>
      intro i ys hi hy
      refine CompRest.succ ?_
      rintro v I oI C oC D m₂ h tk E' ⟨c, u, hc, rfl⟩ hC hx F N off ne
      have hc' : y.cps.toList[i]? = some c := by simpa using hc
      refine wpAny_mono (turn c (List.mem_of_getElem? hc') u I oI C oC D m₂ ys h tk E' hC hx F N off ne) (fun z s₂ hq => ?_) fun _ _ e => e
      obtain ⟨h', tk', nw, e, F', N', off', _, hn, t', hy'⟩ := hq
      rw [hn] at N' off'
      refine ⟨h', tk', news, e, F', N', off', trivial, ?_⟩
      rw [hy']
      refine ih (i + 1) _ (by omega) ?_
      rw [List.take_add_one, hc']
      simpa using sa_snoc hy
  exact key y.cps.size 0 [] (by omega) (by simpa using StrsAre.nil)

noncomputable def LcSrc (prog : Program) (w : World) (A : Around) (h₀ : Heap) (L : Addr) (m : Str → Option Value) (env : Env) (elt : Expr) (x : Str) (scope : Scope) (cl : List (Str × Addr)) (g : Nat → Str) (Q : Value → Shared → Prop) (xv : Value) (s₁ : Shared) : Prop :=
  ∃ y t news, xv = .str y t ∧ y.length ≤ sizeLine ∧ Fr h₀ L s₁.heap m ∧ News h₀ L s₁.heap news ∧
      (∀ c ∈ y.cps.toList, ∀ t I oI C oC D m₂ ys h tk (E' : Value → Shared → Prop), NsObj oC m₂ → m₂ x = some (.str ⟨#[c]⟩ t) → Fr h₀ L h m → News h₀ L h ((I, oI) :: (C, oC) :: (D, lst ys) :: news) → Off3 I C D news → ((@Ne Nat I C) ∧ (@Ne Nat I D) ∧ (@Ne Nat C D)) →
        wpAny (model prog w) A (eval elt (compEnvC scope cl C env)) (CompEnd h₀ L m { s₁ with heap := h, toks := tk } I oI C oC D (lst ys) (fun _ => True) (El news (g c))) E' { s₁ with heap := h, toks := tk }) ∧
      (∀ ys D h tk, StrsAre ys (y.cps.toList.map g) → Fr h₀ L h m → News h₀ L h ((D, lst ys) :: news) → Off1 D news → Q (.ref D) { s₁ with heap := h, toks := tk })

theorem lc_str {elt iter : Expr} {x : Str} {px : Pos} {scope : Scope} {cl : List (Str × Addr)} {pos : Pos} {Q : Value → Shared → Prop} (F₀ : Fr h₀ L s.heap m) (g : Nat → Str) (hh : A.handled = none)
    (hclos : closureFor scope env = pure cl) (hcell : ∀ y ∈ scope.names, y.2 ≠ .cell) (hkind : scope.kind = .function)
    (hnames : ∀ y ∈ scope.names, y.2 = .local → scope.names.lookup y.1 = some .local) (hx : scope.names.lookup x = some .local)
    (h : wpAny (model prog w) A (eval iter env) (LcSrc prog w A h₀ L m env elt x scope cl g Q) E s)
    (hs : ∀ x, foldedSetIterable iter env x = pure x := by intro _; rfl) :
    wpAny (model prog w) A (eval (.ListComp elt [⟨.Name x px, iter, [], 0⟩] scope pos) env) Q E s := by
  rw [eval_ListComp]
  refine wpAny_comprehension_free (use := none) rfl hs hclos hkind hnames (wpAny_mono h (fun xv s₁ h₁ => ?_) fun _ _ e => e)
  obtain ⟨y, t, news, rfl, hsz, F, N, turn, fin⟩ := h₁
  have go : ∀ (ty : String) (W : ∀ I, Walks prog w A I [I] [I] y.cps.size (SignAt y) (fun i h => h.IsStrIter I ty y t i)),
      wpAny (model prog w) A (newList []) (fun acc s₃ => wpAny (model prog w) A (newFunctionEnv scope env.globals cl [] env.qual none .none (some env)) (fun cenv s₄ =>
      codeAny (model prog w) A (.compStart (.ListComp elt [⟨.Name x px, iter, [], 0⟩] scope pos) 0 (.ref s₁.heap.objs.size) acc { cenv with scope := relabel scope env }) (compPost (model prog w) A E none Q acc cenv.locals) s₄) E s₃) E { s₁ with heap := s₁.heap.push { cls := .type ty, data := .fields #[.str y t, .int 0 0] } } := by
    intro ty W
    refine block_U (s₂ := { s₁ with heap := s₁.heap.push { cls := .type ty, data := .fields #[.str y t, .int 0 0] } }) (W _) hsz str_hio str_st hcell hkind hx ⟨_, Heap.get?_push_size _ rfl, rfl, rfl⟩ (fun b hb => ?_)
      (F.keeps fun _ _ e => Heap.get?_push_of_some _ e) (N.grown fun _ _ e => Heap.get?_push_of_some _ e) (Nat.ne_of_lt F.ns.lt) (next_is_new F) (fun p hp => Nat.ne_of_lt (Heap.lt_size (N p hp).1)) trivial
      (rest_str (Fin := fun ys news' => news' = news ∧ StrsAre ys (y.cps.toList.map g)) y g (fun c hc t I oI C oC D m₂ ys h tk E' a1 a2 a3 a4 a5 a6 => turn c hc t I oI C oC D m₂ ys h tk E' a1 a2 a3 a4 a5 a6) fun ys hy => ⟨rfl, hy⟩) ?_
    · rw [List.mem_singleton.mp hb]
      show s₁.heap.objs.size < (s₁.heap.push _).objs.size
      rw [Heap.size_push]; exact Nat.lt_succ_self _
    · rintro D C h tk m' ys news' F' N' o1 hn hC₀ hD₀ hCL hDL hCD offC ⟨e, hy⟩
      rw [e] at N' o1 offC
      refine ⟨m', hn, fun h'' hs'' => fin ys D h'' tk hy (F'.change hs'' hCL hC₀) (fun p hp => ?_) o1⟩
      refine ⟨hs''.extBut _ _ ?_ (N' p hp).1, (N' p hp).2⟩
      rcases List.mem_cons.mp hp with rfl | hp
      · exact Ne.symm hCD
      · exact offC p hp
  cases ha : y.cps.all (· < 128)
  · exact wpAny_pyIter_wide ha (go _ fun I => Walks.strWide hh I y t)
  · exact wpAny_pyIter_ascii ha (go _ fun I => Walks.strAscii hh I y t)
end
end Mine
namespace Mine
/-- a text by its signs' numbers -/
noncomputable def S (l : List Nat) : Str := ⟨l.toArray⟩
theorem S_len (l : List Nat) : (S l).length = l.length := by simp [S, Str.length]
theorem S_list (l : List Nat) : (S l).cps.toList = l := by simp [S]
noncomputable def mk (l : List Nat) : List Nat := l.flatMap fun c => [c, 39]
theorem mk_len (l : List Nat) : (mk l).length = 2 * l.length := by
  induction l with
  | nil => rfl
  | cons c l ih => simp only [mk, List.flatMap_cons, List.length_append, List.length_cons, List.length_nil] at ih ⊢; omega
theorem S_add (a b : List Nat) : S a ++ S b = S (a ++ b) := by
  apply Str.ext'
  rw [Str.cps_append]
  simp [S]
theorem txt_join (l : List (List Nat)) : Txt.join (S []) (l.map S) = S l.flatten := by
  rw [beq_iff_eq.mp (join_plain_closes (S []) (l.map S))]
  have : ∀ l : List (List Nat), Str.join ⟨#[]⟩ (l.map S) = S l.flatten := by
    intro l
    induction l with
    | nil => rfl
    | cons a l ih => rw [List.map_cons, PyProof.Rows.join_nil_cons, ih, List.flatten_cons, S_add]
  exact this l
end Mine
namespace Mine
section
variable {w : World} {dp un : Nat} {gd : Option (List Code)} {cn : Str} {cs : Scope} {L a : Addr} {ccd : Value} {cl : List (Str × Addr)} {outer : List Env} {A₀ : Around} {base h₀ : Heap} {m : Str → Option Value} {news : List (Addr × Obj)} {s : Shared} {Q E : Value → Shared → Prop} {mean : ExcName → Option Value} {mg mb : Str → Option Value} {vp : Program} {loose : List Str}
/-- what a called def's walk must end in -/
noncomputable def Back (h₀ : Heap) (L : Addr) (m : Str → Option Value) (g : Heap) (Q : Value → Shared → Prop) (fl : Flow) (s' : Shared) : Prop :=
  LeaveK h₀ L m g (fun r s' => match r with | .ok (.ret v) => Q v s' | _ => False) (match fl with | .ret v => v | _ => .none) s'
theorem ent {f : Addr} {args : List Value} {name qual : Str} {par : Arguments} {bod : List Stmt} {sco : Scope} {dV pm cdv : Value} (binds : List (Str × Value))
    (B : Below A₀ base outer h₀) (F : Fr h₀ L s.heap m) (X : (KK w.params).In h₀) (N : News h₀ L s.heap news) (T : Top vp loose mean mg mb h₀) (hk : cs.kind = .function)
    (ho : (KK w.params).lookup f = some ⟨.type "function", none, .func (fnOf name qual par bod sco dV .none .none pm none cdv .none), #[]⟩) (hcd : codeIn (KK w.params) cdv qual = true) (hdp : dp < recursionLimit)
    (hb : BindsTo s (fnOf name qual par bod sco dV .none .none pm none cdv .none) ⟨args, []⟩ binds) (hloc : (binds.all fun x => decide (sco.names.lookup x.1 = some .local)) = true)
    (hco : sco.isCoroutine = false) (hgen : sco.isGenerator = false) (hkf : sco.kind = .function) (hcell : ∀ x ∈ sco.names, x.2 ≠ .cell)
    (h : ∀ g L' h₁ tk, Fr h₀ L g m → Fr g L' h₁ (fun y => binds.reverse.lookup y) → News g L' h₁ news → Below (ktrTop dp un gd cn cs L a ccd cl outer) base (envX cn cs L a ccd cl :: outer) g → (KK w.params).In g → Top vp loose mean mg mb g →
      ∀ E', wpAny (model pw w) (ktrTop (dp + 1) (un + 3) gd qual sco L' f cdv [] (envX cn cs L a ccd cl :: outer)) (execs bod (envOf qual sco L' f cdv)) (Back h₀ L m g Q) E' { s with heap := h₁, toks := tk }) :
    wpAny (model pw w) (ktrTop dp un gd cn cs L a ccd cl outer) (call (.ref f) args) Q E s := by
  refine wpAny_call (code_def B F X N T rfl rfl hk ho hcd hdp hb (locs hloc) (fun g L' h₁ FG F' N' B' X' T' => ?_) hco hgen hkf hcell)
  refine wpAny_mono (h g L' h₁ _ FG F' N' B' X' T' _) (fun fl s' hq => ?_) fun _ _ e => e
  obtain ⟨L₂, m', news', f1, n1, k⟩ := hq
  refine ⟨L₂, m', news', f1, n1, fun a b => ?_⟩
  have := k a b
  revert this
  cases fl <;> exact id
end
end Mine
namespace Mine
theorem back {h₀ g : Heap} {L L' : Addr} {m m' : Str → Option Value} {news' : List (Addr × Obj)} {Q : Value → Shared → Prop} {v : Value} {s' : Shared} (F : Fr g L' s'.heap m') (N : News g L' s'.heap news')
    (k : Fr h₀ L s'.heap m → News h₀ L s'.heap news' → Q v s') : Back h₀ L m g Q (.ret v) s' := ⟨L', m', news', F, N, k⟩
theorem News.sub {h₀ h : Heap} {L : Addr} {a b : List (Addr × Obj)} (N : News h₀ L h a) (hs : ∀ p ∈ b, p ∈ a) : News h₀ L h b := fun p hp => N p (hs p hp)
theorem News.tl {h₀ h : Heap} {L : Addr} {p : Addr × Obj} {a : List (Addr × Obj)} (N : News h₀ L h (p :: a)) : News h₀ L h a := fun q hq => N q (.tail _ hq)
theorem tick : Str.ofString "'" = S [39] := by decide +kernel
theorem nostr : Str.ofString "" = S [] := by decide +kernel
theorem join_S {prog : Program} {w : World} {A : Around} {E : Value → Shared → Prop} {s : Shared} {t : Tok} {Q : Value → Shared → Prop} {D : Addr} {ys : List Value} {n : Nat} (ls : List (List Nat)) {h₀ : Heap} {L : Addr} {news : List (Addr × Obj)} {x : Str} (hx : x = S [])
    (N : News h₀ L s.heap news) (hm : (D, ({ cls := .type "list", data := .seq ys.toArray n } : Obj)) ∈ news) (hy : StrsAre ys (ls.map S)) (hok : ls.flatten.length ≤ 16777216)
    (h : ∀ t' k, Q (.str (S ls.flatten) t') { s with toks := k }) : wpAny (model prog w) A (call (.builtin "str.join") [.str x t, .ref D]) Q E s := by
  subst hx
  refine join_list (ys := ls.map S) ⟨_, (N _ hm).1, rfl, _, rfl⟩ (by simpa using hy) ?_ fun t' k => ?_
  · have : (List.map (fun x => x.length) (ls.map S)).sum = ls.flatten.length := by
      rw [List.map_map, List.length_flatten]
      rw [show ((fun x : Str => x.length) ∘ S) = List.length from funext fun a => S_len a]
    rw [this, S_len]
    simpa using hok
  · rw [txt_join]
    exact h t' k
end Mine
end

section -- Tabs
open PySem PySem.W PySem.Spec PySem.Calls PyProof.Rows PyProof.Rows.LCg
namespace Mine
set_option maxRecDepth 100000
noncomputable def hidL : List Nat := [173, 847, 6150, 6155, 6156, 6157, 8203, 8204, 8205, 8288, 65279] ++ (List.range 16).map (65024 + ·)
noncomputable def b1has (c : Nat) : Bool := hidL.contains c
noncomputable def b3Look (c : Nat) : Option Str := (b3T.find? fun p => p.1 == (c : Int)).map (·.2)
noncomputable def b3 (c : Nat) : List Nat := match b3Look c with
  | some x => x.cps.toList
  | none => (Txt.lower ⟨#[c]⟩).cps.toList

theorem find_zip {α β γ : Type} (f : α × β → γ) (p : α → Bool) (q : γ → Bool) (h : ∀ x, q (f x) = p x.1) : ∀ (l : List (α × β)), (l.map f).find? q = (l.find? fun x => p x.1).map f
  | [] => rfl
  | x :: l => by
    rw [List.map_cons, List.find?_cons, List.find?_cons, h]
    cases p x.1 with
    | true => rfl
    | false => exact find_zip f p q h l
theorem find_fst {α : Type} (p : α → Bool) : ∀ (l : List α) (n : Nat), ((l.zipIdx n).find? fun x => p x.1).map (·.1) = l.find? p
  | [], _ => rfl
  | x :: l, n => by
    rw [List.zipIdx_cons, List.find?_cons, List.find?_cons]
    dsimp only
    cases p x with
    | true => rfl
    | false => exact find_fst p l (n + 1)
theorem b3_find (c : Nat) : ∃ t, findBy Value.isInt b3E.toArray (c : Int) = (b3Look c).map fun x => .str x t := by
  unfold findBy b3E b3Look
  rw [List.find?_toArray, find_zip _ (fun p : Int × Str => p.1 == (c : Int)) _ (fun x => rfl)]
  rw [← find_fst (fun p : Int × Str => p.1 == (c : Int)) b3T 0]
  cases List.find? (fun x : (Int × Str) × Nat => x.1.1 == (c : Int)) b3T.zipIdx with
  | none => exact ⟨0, rfl⟩
  | some x => exact ⟨_, rfl⟩
theorem hash_small {k : Int} (h0 : 0 ≤ k) (h1 : k < 2 ^ 60) : hashInt k = k := by
  have e : (if k < 0 then -((k.natAbs : Int) % ((2 ^ 61 - 1 : Nat) : Int)) else ((k.natAbs : Int) % ((2 ^ 61 - 1 : Nat) : Int))) = k := by
    rw [if_neg (by omega)]
    omega
  have f : rawHash k = k := by
    simp only [rawHash]
    rw [e]
    split
    · rename_i h
      have := beq_iff_eq.mp h
      omega
    · rfl
  unfold hashInt
  rw [f]
  split
  · rename_i h
    have := beq_iff_eq.mp h
    omega
  · rfl
theorem b3T_small : (b3T.all fun p => decide (0 ≤ p.1 ∧ p.1 < 2 ^ 60)) = true := by decide +kernel
section
variable {w : World} {A : Around} {E : Value → Shared → Prop} {s : Shared} {h₀ : Heap} {L : Addr} {m : Str → Option Value} {t : Tok} {Q : Value → Shared → Prop}
theorem b3_map (X : (KK w.params).In s.heap) : s.heap.MapOf (intKind pw w) 81 (findBy Value.isInt b3E.toArray) := by
  refine ⟨b3O, b3E.toArray, 650, X 81 b3O rfl, ⟨rfl, rfl, rfl⟩, rfl, fun e he => ?_, fun _ => rfl⟩
  rw [List.mem_toArray] at he
  unfold b3E at he
  obtain ⟨p, hp, rfl⟩ := List.mem_map.mp he
  refine ⟨p.1.1, by simp [intKind, Value.isInt], ?_⟩
  have hm : p.1 ∈ b3T := (List.mem_zipIdx hp).2.2 ▸ List.getElem_mem _
  have := List.all_eq_true.mp b3T_small p.1 hm
  have := of_decide_eq_true this
  exact (hash_small this.1 this.2).symm
theorem b3_get (F : Fr h₀ L s.heap m) (X₀ : (KK w.params).In h₀) {c : Nat}
    (h : ∀ u, Q (match b3Look c with | some x => .str x u | none => .none) { s with toks := s.toks + 1 }) : wpAny (model pw w) A (call (.builtin "dict.get") [.ref 81, .int (c : Int) t]) Q E s := by
  have M := b3_map (X₀.keeps F.keep)
  obtain ⟨u, hu⟩ := b3_find c
  refine call_meetsIn PySem.F.slot_dict_get M.typeIs PySem.F.entry_dict_get (PySem.F.args_dict_get_2 _ _) (meets_dict_get (intKind pw w) 81 (k := (c : Int)) (key := .int c t) (intKind_is _ _ _ _) rfl) ⟨_, M, ?_⟩
  rw [hu]
  have := h u
  revert this
  cases b3Look c <;> exact id
theorem b3_meth {pl : Sem Bool} {Q : Value × List Value → Shared → Prop} (F : Fr h₀ L s.heap m) (X₀ : (KK w.params).In h₀) (h : Q (.builtin "dict.get", [.ref 81]) s) : wpAny (model pw w) A (getMethod (.ref 81) "get" pl) Q E s :=
  have M := b3_map (X₀.keeps F.keep)
  getMethod_builtin M.typeIs PySem.F.plainAttrs_dict PySem.F.slot_dict_get PySem.F.type_dict_get M.noDict h
noncomputable def b1E : List (Int × Value) := [(65024, .int 65024 388), (65025, .int 65025 389), (65026, .int 65026 390), (65027, .int 65027 391), (65028, .int 65028 392), (65029, .int 65029 393), (6150, .int 6150 374), (65030, .int 65030 394), (65031, .int 65031 395), (65032, .int 65032 396), (65033, .int 65033 397), (6155, .int 6155 375), (6156, .int 6156 376), (6157, .int 6157 377), (8203, .int 8203 378), (8204, .int 8204 379), (8205, .int 8205 380), (65034, .int 65034 398), (65035, .int 65035 399), (65036, .int 65036 400), (65037, .int 65037 401), (65038, .int 65038 402), (65039, .int 65039 403), (173, .int 173 372), (847, .int 847 373), (8288, .int 8288 381), (65279, .int 65279 382)]
noncomputable def bInt (v : Value) : Int := match v with
  | .int i _ => i
  | _ => -1
theorem b1E_ok : (b1E.all fun e => decide (0 ≤ e.1 ∧ e.1 < 2 ^ 60) && (bInt e.2 == e.1) && (match e.2 with | .int _ _ => true | _ => false)) = true := by decide +kernel
theorem b1E_codes : b1E.map (fun e => e.1) = [65024, 65025, 65026, 65027, 65028, 65029, 6150, 65030, 65031, 65032, 65033, 6155, 6156, 6157, 8203, 8204, 8205, 65034, 65035, 65036, 65037, 65038, 65039, 173, 847, 8288, 65279].map (fun n : Nat => (n : Int)) := by decide +kernel
theorem b1has_iff (c : Nat) : b1has c = true ↔ c ∈ [65024, 65025, 65026, 65027, 65028, 65029, 6150, 65030, 65031, 65032, 65033, 6155, 6156, 6157, 8203, 8204, 8205, 65034, 65035, 65036, 65037, 65038, 65039, 173, 847, 8288, 65279] := by
  unfold b1has
  rw [List.contains_iff_mem]
  have a : hidL.all (fun x => ([65024, 65025, 65026, 65027, 65028, 65029, 6150, 65030, 65031, 65032, 65033, 6155, 6156, 6157, 8203, 8204, 8205, 65034, 65035, 65036, 65037, 65038, 65039, 173, 847, 8288, 65279] : List Nat).contains x) = true := by decide +kernel
  have b : ([65024, 65025, 65026, 65027, 65028, 65029, 6150, 65030, 65031, 65032, 65033, 6155, 6156, 6157, 8203, 8204, 8205, 65034, 65035, 65036, 65037, 65038, 65039, 173, 847, 8288, 65279] : List Nat).all (fun x => hidL.contains x) = true := by decide +kernel
  exact ⟨fun h => List.contains_iff_mem.mp (List.all_eq_true.mp a c h), fun h => List.contains_iff_mem.mp (List.all_eq_true.mp b c h)⟩
theorem b1_in (F : Fr h₀ L s.heap m) (X₀ : (KK w.params).In h₀) {c : Nat} (h : Q (.bool (b1has c)) { s with toks := s.toks + 1 }) : wpAny (model pw w) A (compareOp .In (.int (c : Int) t) (.ref 70)) Q E s := by
  have X := X₀.keeps F.keep
  have SO : s.heap.SetOf (intKind pw w) 70 (fun k : Int => decide (0 ≤ k) && b1has k.toNat) 27 := by
    refine ⟨b1O w.params, b1E.toArray, 29, _, X 70 (b1O w.params) rfl, ⟨rfl, rfl, rfl⟩, rfl, fun e he => ?_, fun k => ?_, by decide, rfl, rfl⟩
    · have he' : e ∈ b1E := by simpa using he
      have q := List.all_eq_true.mp b1E_ok e he'
      simp only [Bool.and_eq_true, decide_eq_true_eq, beq_iff_eq] at q
      obtain ⟨⟨q1, q2⟩, q3⟩ := q
      obtain ⟨i, v⟩ := e
      cases v <;> simp only [bInt, Bool.false_eq_true] at q2 q3
      rename_i j u
      refine ⟨⟨i, by simp [intKind, Value.isInt, q2], (hash_small q1.1 q1.2).symm⟩, rfl⟩
    · have key : (∃ e ∈ b1E.toArray.toList, (intKind pw w).is k e.2 = true) ↔ k ∈ b1E.map (fun e => e.1) := by
        rw [List.mem_map]
        constructor
        · rintro ⟨e, he, hk⟩
          have he' : e ∈ b1E := by simpa using he
          have q := List.all_eq_true.mp b1E_ok e he'
          simp only [Bool.and_eq_true, decide_eq_true_eq, beq_iff_eq] at q
          refine ⟨e, he', ?_⟩
          obtain ⟨i, v⟩ := e
          cases v <;> simp [intKind, Value.isInt, bInt] at hk q ⊢
          omega
        · rintro ⟨e, he, rfl⟩
          have q := List.all_eq_true.mp b1E_ok e he
          simp only [Bool.and_eq_true, decide_eq_true_eq, beq_iff_eq] at q
          refine ⟨e, by simpa using he, ?_⟩
          obtain ⟨i, v⟩ := e
          cases v <;> simp [intKind, Value.isInt, bInt] at q ⊢
          omega
      rw [key, b1E_codes, List.mem_map, Bool.and_eq_true, decide_eq_true_eq, b1has_iff]
      constructor
      · rintro ⟨a, b⟩
        exact ⟨_, b, by omega⟩
      · rintro ⟨n, hn, rfl⟩
        exact ⟨by omega, by simpa using hn⟩
  refine wpAny_inSet_of (knd := intKind pw w) (k := (c : Int)) (intKind_is _ _ _ _) rfl SO ?_
  simpa using h
end
end Mine
namespace Mine
noncomputable def hid (n : Int) : Nat := hidL.getD (n % 27).toNat 0
theorem S_of (x : Str) : S x.cps.toList = x := by cases x; simp [S]
theorem b3_none {c : Nat} (h : b3Look c = none) : S (b3 c) = Txt.lower (S [c]) := by unfold b3; rw [h]; exact S_of _
theorem b3_some {c : Nat} {x : Str} (h : b3Look c = some x) : S (b3 c) = x := by unfold b3; rw [h]; exact S_of _
theorem hid_at {n : Int} : ((hidL.map fun k : Nat => (k : Int))[(n % 27).toNat]? = some ((hid n : Nat) : Int)) := by
  have h0 := Int.emod_nonneg n (show (27 : Int) ≠ 0 by decide)
  have h1 := Int.emod_lt_of_pos n (show (0 : Int) < 27 by decide)
  have hl : (n % 27).toNat < hidL.length := by show _ < 27; omega
  rw [List.getElem?_map, List.getElem?_eq_getElem hl, Option.map_some]
  unfold hid
  rw [List.getD_eq_getElem?_getD, List.getElem?_eq_getElem hl, Option.getD_some]
theorem hid_le {n : Int} : hid n ≤ 1114111 := by
  have : hidL.all (fun c => decide (c ≤ 1114111)) = true := by decide +kernel
  unfold hid
  rw [List.getD_eq_getElem?_getD]
  cases h : hidL[(n % 27).toNat]? with
  | none => simp
  | some c => exact of_decide_eq_true (List.all_eq_true.mp this c (List.mem_of_getElem? h))
end Mine
end

section -- CompT
open PySem PySem.W PySem.Spec PySem.Calls PyProof.Rows PyProof.Rows.LCg PyProof.Rows.LCt
namespace Mine
set_option maxRecDepth 100000
section
variable {prog : Program} {w : World} {A : Around} {E : Value → Shared → Prop} {s : Shared} {h₀ : Heap} {L : Addr} {m : Str → Option Value} {env : Env}

noncomputable def TestEnd (prog : Program) (w : World) (A : Around) (h₀ : Heap) (L : Addr) (m : Str → Option Value) (env : Env) (elt : Expr) (scope : Scope) (cl : List (Str × Addr)) (s₁ : Shared) (I : Addr) (oI : Obj) (C : Addr) (oC : Obj) (D : Addr) (ys : List Value) (news : List (Addr × Obj)) (b : Bool) (x : Str) (E' : Value → Shared → Prop) (ok : Bool) (s' : Shared) : Prop :=
  ok = b ∧ if ok = true then wpAny (model prog w) A (eval elt (compEnvC scope cl C env)) (CompEnd h₀ L m s₁ I oI C oC D (lst ys) (fun _ => True) (El news x)) E' s'
    else CompEnd h₀ L m s₁ I oI C oC D (lst ys) (fun _ => True) (fun _ news' => news' = news) Value.none s'

theorem rest_strT {ct elt : Expr} {x : Str} {scope : Scope} {cl : List (Str × Addr)} {Fin : List Value → List (Addr × Obj) → Prop} {news : List (Addr × Obj)} (y : Str) (p : Nat → Bool) (g : Nat → Str)
    (turn : ∀ c ∈ y.cps.toList, ∀ t I oI C oC D m₂ ys h tk (E' : Value → Shared → Prop), NsObj oC m₂ → m₂ x = some (.str ⟨#[c]⟩ t) → Fr h₀ L h m → News h₀ L h ((I, oI) :: (C, oC) :: (D, lst ys) :: news) → Off3 I C D news → ((@Ne Nat I C) ∧ (@Ne Nat I D) ∧ (@Ne Nat C D)) →
      wpAny (model prog w) A (isTrue ct (compEnvC scope cl C env) (eval ct (compEnvC scope cl C env))) (TestEnd prog w A h₀ L m env elt scope cl { s with heap := h, toks := tk } I oI C oC D ys news (p c) (g c) E') E' { s with heap := h, toks := tk })
    (fin : ∀ ys, StrsAre ys ((y.cps.toList.filter p).map g) → Fin ys news) :
    CompRestT prog w A h₀ L m env ct elt x scope cl s (fun _ => True) (SignAt y) Fin y.cps.size 0 [] news := by
  have key : ∀ (j i : Nat) (ys : List Value), i + j = y.cps.size → StrsAre ys (((y.cps.toList.take i).filter p).map g) → CompRestT prog w A h₀ L m env ct elt x scope cl s (fun _ => True) (SignAt y) Fin j i ys news := by
    intro j
    induction j with
    | zero =>
      intro i ys hi hy
      have e : y.cps.toList.take i = y.cps.toList := List.take_of_length_le (by simp; omega)
      rw [e] at hy
      exact CompRestT.zero (fin ys hy)
    | succ j ih =>
      intro i ys hi hy
      refine CompRestT.succ ?_
      rintro v I oI C oC D m₂ h tk E' ⟨c, u, hc, rfl⟩ hC hx F N off ne
      have hc' : y.cps.toList[i]? = some c := by simpa using hc
      refine wpAny_mono (turn c (List.mem_of_getElem? hc') u I oI C oC D m₂ ys h tk E' hC hx F N off ne) (fun ok s₂ hq => ?_) fun _ _ e => e
      obtain ⟨hok, hq⟩ := hq
      cases ok with
      | true =>
        simp only [if_true] at hq ⊢
        refine wpAny_mono hq (fun z s₂ hq => ?_) fun _ _ e => e
        obtain ⟨h', tk', nw, e, F', N', off', _, hn, t', hy'⟩ := hq
        rw [hn] at N' off'
        refine ⟨h', tk', news, e, F', N', off', trivial, ?_⟩
        rw [hy']
        refine ih (i + 1) _ (by omega) ?_
        rw [List.take_add_one, hc', List.filter_append, List.map_append]
        have : ([c].filter p).map g = [g c] := by simp [← hok]
        show StrsAre _ (_ ++ ([c].filter p).map g)
        rw [this]
        exact sa_snoc hy
      | false =>
        simp only [Bool.false_eq_true, if_false] at hq ⊢
        obtain ⟨h', tk', nw, e, F', N', off', _, hn⟩ := hq
        rw [hn] at N' off'
        refine ⟨h', tk', news, e, F', N', off', trivial, ?_⟩
        refine ih (i + 1) _ (by omega) ?_
        rw [List.take_add_one, hc', List.filter_append, List.map_append]
        have : ([c].filter p).map g = [] := by simp [← hok]
        show StrsAre _ (_ ++ ([c].filter p).map g)
        rw [this, List.append_nil]
        exact hy
  exact key y.cps.size 0 [] (by omega) (by simpa using StrsAre.nil)

noncomputable def LcSrcT (prog : Program) (w : World) (A : Around) (h₀ : Heap) (L : Addr) (m : Str → Option Value) (env : Env) (ct elt : Expr) (x : Str) (scope : Scope) (cl : List (Str × Addr)) (p : Nat → Bool) (g : Nat → Str) (Q : Value → Shared → Prop) (xv : Value) (s₁ : Shared) : Prop :=
  ∃ y t news, xv = .str y t ∧ y.length ≤ sizeLine ∧ Fr h₀ L s₁.heap m ∧ News h₀ L s₁.heap news ∧
      (∀ c ∈ y.cps.toList, ∀ t I oI C oC D m₂ ys h tk (E' : Value → Shared → Prop), NsObj oC m₂ → m₂ x = some (.str ⟨#[c]⟩ t) → Fr h₀ L h m → News h₀ L h ((I, oI) :: (C, oC) :: (D, lst ys) :: news) → Off3 I C D news → ((@Ne Nat I C) ∧ (@Ne Nat I D) ∧ (@Ne Nat C D)) →
        wpAny (model prog w) A (isTrue ct (compEnvC scope cl C env) (eval ct (compEnvC scope cl C env))) (TestEnd prog w A h₀ L m env elt scope cl { s₁ with heap := h, toks := tk } I oI C oC D ys news (p c) (g c) E') E' { s₁ with heap := h, toks := tk }) ∧
      (∀ ys D h tk, StrsAre ys ((y.cps.toList.filter p).map g) → Fr h₀ L h m → News h₀ L h ((D, lst ys) :: news) → Off1 D news → Q (.ref D) { s₁ with heap := h, toks := tk })

theorem lc_strT {ct elt iter : Expr} {x : Str} {px : Pos} {scope : Scope} {cl : List (Str × Addr)} {pos : Pos} {Q : Value → Shared → Prop} (F₀ : Fr h₀ L s.heap m) (p : Nat → Bool) (g : Nat → Str) (hh : A.handled = none)
    (hclos : closureFor scope env = pure cl) (hcell : ∀ y ∈ scope.names, y.2 ≠ .cell) (hkind : scope.kind = .function)
    (hnames : ∀ y ∈ scope.names, y.2 = .local → scope.names.lookup y.1 = some .local) (hx : scope.names.lookup x = some .local)
    (h : wpAny (model prog w) A (eval iter env) (LcSrcT prog w A h₀ L m env ct elt x scope cl p g Q) E s)
    (hs : ∀ x, foldedSetIterable iter env x = pure x := by intro _; rfl) :
    wpAny (model prog w) A (eval (.ListComp elt [⟨.Name x px, iter, [ct], 0⟩] scope pos) env) Q E s := by
  rw [eval_ListComp]
  refine wpAny_comprehension_free (use := none) rfl hs hclos hkind hnames (wpAny_mono h (fun xv s₁ h₁ => ?_) fun _ _ e => e)
  obtain ⟨y, t, news, rfl, hsz, F, N, turn, fin⟩ := h₁
  have go : ∀ (ty : String) (W : ∀ I, Walks prog w A I [I] [I] y.cps.size (SignAt y) (fun i h => h.IsStrIter I ty y t i)),
      wpAny (model prog w) A (newList []) (fun acc s₃ => wpAny (model prog w) A (newFunctionEnv scope env.globals cl [] env.qual none .none (some env)) (fun cenv s₄ =>
      codeAny (model prog w) A (.compStart (.ListComp elt [⟨.Name x px, iter, [ct], 0⟩] scope pos) 0 (.ref s₁.heap.objs.size) acc { cenv with scope := relabel scope env }) (compPost (model prog w) A E none Q acc cenv.locals) s₄) E s₃) E { s₁ with heap := s₁.heap.push { cls := .type ty, data := .fields #[.str y t, .int 0 0] } } := by
    intro ty W
    refine block_T (s₂ := { s₁ with heap := s₁.heap.push { cls := .type ty, data := .fields #[.str y t, .int 0 0] } }) (W _) hsz str_hio str_st hcell hkind hx ⟨_, Heap.get?_push_size _ rfl, rfl, rfl⟩ (fun b hb => ?_)
      (F.keeps fun _ _ e => Heap.get?_push_of_some _ e) (N.grown fun _ _ e => Heap.get?_push_of_some _ e) (Nat.ne_of_lt F.ns.lt) (next_is_new F) (fun p hp => Nat.ne_of_lt (Heap.lt_size (N p hp).1)) trivial
      (rest_strT (Fin := fun ys news' => news' = news ∧ StrsAre ys ((y.cps.toList.filter p).map g)) y p g (fun c hc t I oI C oC D m₂ ys h tk E' a1 a2 a3 a4 a5 a6 => turn c hc t I oI C oC D m₂ ys h tk E' a1 a2 a3 a4 a5 a6) fun ys hy => ⟨rfl, hy⟩) ?_
    · rw [List.mem_singleton.mp hb]
      show s₁.heap.objs.size < (s₁.heap.push _).objs.size
      rw [Heap.size_push]; exact Nat.lt_succ_self _
    · rintro D C h tk m' ys news' F' N' o1 hn hC₀ hD₀ hCL hDL hCD offC ⟨e, hy⟩
      rw [e] at N' o1 offC
      refine ⟨m', hn, fun h'' hs'' => fin ys D h'' tk hy (F'.change hs'' hCL hC₀) (fun p hp => ?_) o1⟩
      refine ⟨hs''.extBut _ _ ?_ (N' p hp).1, (N' p hp).2⟩
      rcases List.mem_cons.mp hp with rfl | hp
      · exact Ne.symm hCD
      · exact offC p hp
  cases ha : y.cps.all (· < 128)
  · exact wpAny_pyIter_wide ha (go _ fun I => Walks.strWide hh I y t)
  · exact wpAny_pyIter_ascii ha (go _ fun I => Walks.strAscii hh I y t)
end
end Mine
end

local macro_rules | `(tactic| walk_at "mine pad") => `(tactic| fail)
section -- WMark
open PySem PySem.W PySem.Spec PySem.Calls PyProof.Rows PyProof.Rows.LCg
namespace Mine
set_option maxRecDepth 100000
set_option pp.deepTerms false
set_option pp.deepTerms.threshold 6
set_option pp.proofs false
example : (PySem.Challenge.rw_sh0062_01, KK) = (PySem.Challenge.rw_sh0062_01, KK) := by k_fill; rfl

section
local macro_rules | `(tactic| walk_at "eval ListComp") => `(tactic| (k_here; k_dflt (refine lc_str (by k_asm) (fun c => S [c, 39]) (by rfl) (by rfl) (by decide) (by rfl) (by decide) (by rfl) ?_)))

set_option maxHeartbeats 8000000 in
theorem sp_marked {w : World} {dp un : Nat} {gd : Option (List Code)} {cn : Str} {cs : Scope} {L a : Addr} {ccd : Value} {cl : List (Str × Addr)} {outer : List Env} {A₀ : Around} {base h₀ : Heap} {m : Str → Option Value} {news : List (Addr × Obj)} {s : Shared} {Q E : Value → Shared → Prop} {mean : ExcName → Option Value} {mg mb : Str → Option Value} {vp : Program} {loose : List Str}
   (B : Below A₀ base outer h₀) (F : Fr h₀ L s.heap m) (X : (KK w.params).In h₀) (N : News h₀ L s.heap news) (T : Top vp loose mean mg mb h₀) (hk : cs.kind = .function) (l : List Nat) (t : Tok) (hx : l.length ≤ 4000) (hdp : dp + 20 < recursionLimit) (hun : un + 200 < cLine) (ret : ∀ t h' tk', Fr h₀ L h' m → News h₀ L h' news → Q (.str (S (mk l)) t) { s with heap := h', toks := tk' }) :
   wpAny (model pw w) (ktrTop dp un gd cn cs L a ccd cl outer) (call (.ref 292) [.str (S l) t]) Q E s := by
  refine ent [(Str.ofString "word", .str (S l) t)] B F X N T hk (by k_is) (by k_is) (by omega) (BindsTo.of_eq rfl) (by rfl) (by rfl) (by rfl) (by rfl) (by decide) ?_
  clear B F X N T
  intro g L' h₁ tk FG F N B X T E'
  k_steps
  rename Fr _ _ _ _ => F1
  rename News _ _ _ _ => N1
  refine ⟨S l, t, _, rfl, ?_, F1, N1, ?_, ?_⟩
  · rw [S_len, sizeLine_eq]; omega
  · intro c hc t1 I oI C oC D m₂ ys h tk E' hC hx F2 N2 off ne
    k_steps
    refine CompEnd.intro (by assumption) (by assumption) news (fun p hp => hp) off trivial ⟨rfl, ?_⟩
    rw [tick]
    exact ⟨_, congrArg (fun x => Value.str x _) (S_add [c] [39])⟩
  · intro ys D h tk hy F2 N2 off
    rw [S_list] at hy
    k_steps
    refine join_S (l.map fun c => [c, 39]) nostr N2 (List.mem_cons_self ..) (by rw [List.map_map]; exact hy) ?_ ?_
    · rw [← List.flatMap_def]; have := mk_len l; unfold mk at this; omega
    · intro t' k
      rw [← List.flatMap_def]
      exact back F2 N2 fun f n => ret _ _ _ f (News.tl n)

end
end Mine
end

local macro_rules | `(tactic| walk_at "mine pad") => `(tactic| fail)
local macro_rules | `(tactic| walk_at "mine pad") => `(tactic| fail)
section -- WTab
open PySem PySem.W PySem.Spec PySem.Calls PyProof.Rows PyProof.Rows.LCg
namespace Mine
set_option maxRecDepth 100000
set_option pp.deepTerms false
set_option pp.deepTerms.threshold 6
set_option pp.proofs false
example : (PySem.Challenge.rw_sh0062_01, KK) = (PySem.Challenge.rw_sh0062_01, KK) := by k_fill; rfl

section
local macro_rules | `(tactic| walk_at "compareOp In int ref") => `(tactic| (k_here; (with_reducible show wpAny _ _ (compareOp CmpOp.In (Value.int _ _) (Value.ref _)) _ _ _); k_dflt (refine b1_in (by k_asm) (by k_asm) ?_)))

set_option maxHeartbeats 8000000 in
theorem sp_b1 {w : World} {dp un : Nat} {gd : Option (List Code)} {cn : Str} {cs : Scope} {L a : Addr} {ccd : Value} {cl : List (Str × Addr)} {outer : List Env} {A₀ : Around} {base h₀ : Heap} {m : Str → Option Value} {news : List (Addr × Obj)} {s : Shared} {Q E : Value → Shared → Prop} {mean : ExcName → Option Value} {mg mb : Str → Option Value} {vp : Program} {loose : List Str}
   (B : Below A₀ base outer h₀) (F : Fr h₀ L s.heap m) (X : (KK w.params).In h₀) (N : News h₀ L s.heap news) (T : Top vp loose mean mg mb h₀) (hk : cs.kind = .function) (c : Nat) (t : Tok) (hdp : dp + 20 < recursionLimit) (hun : un + 200 < cLine) (ret : ∀ h' tk', Fr h₀ L h' m → News h₀ L h' news → Q (.bool (b1has c)) { s with heap := h', toks := tk' }) :
   wpAny (model pw w) (ktrTop dp un gd cn cs L a ccd cl outer) (call (.ref 80) [.str (S [c]) t]) Q E s := by
  refine ent [(Str.ofString "code", .str (S [c]) t)] B F X N T hk (by k_is) (by k_is) (by omega) (BindsTo.of_eq rfl) (by rfl) (by rfl) (by rfl) (by rfl) (by decide) ?_
  clear B F X N T
  intro g L' h₁ tk FG F N B X T E'
  k_steps
  exact back F N fun f n => ret _ _ f n

end
section
local macro_rules | `(tactic| walk_at "getMethod ref") => `(tactic| (k_here; (with_reducible show wpAny _ _ (getMethod (Value.ref _) _ _) _ _ _); k_dflt (refine b3_meth (by k_asm) (by k_asm) ?_)))
local macro_rules | `(tactic| walk_at "call builtin:dict.get") => `(tactic| (k_here; k_dflt (refine b3_get (by k_asm) (by k_asm) ?_); intro u; generalize hb : b3Look _ = bl; cases bl; all_goals (try dsimp only)))

set_option maxHeartbeats 8000000 in
theorem sp_b3 {w : World} {dp un : Nat} {gd : Option (List Code)} {cn : Str} {cs : Scope} {L a : Addr} {ccd : Value} {cl : List (Str × Addr)} {outer : List Env} {A₀ : Around} {base h₀ : Heap} {m : Str → Option Value} {news : List (Addr × Obj)} {s : Shared} {Q E : Value → Shared → Prop} {mean : ExcName → Option Value} {mg mb : Str → Option Value} {vp : Program} {loose : List Str}
   (B : Below A₀ base outer h₀) (F : Fr h₀ L s.heap m) (X : (KK w.params).In h₀) (N : News h₀ L s.heap news) (T : Top vp loose mean mg mb h₀) (hk : cs.kind = .function) (c : Nat) (t : Tok) (hdp : dp + 20 < recursionLimit) (hun : un + 200 < cLine) (ret : ∀ t h' tk', Fr h₀ L h' m → News h₀ L h' news → Q (.str (S (b3 c)) t) { s with heap := h', toks := tk' }) :
   wpAny (model pw w) (ktrTop dp un gd cn cs L a ccd cl outer) (call (.ref 126) [.str (S [c]) t]) Q E s := by
  refine ent [(Str.ofString "code", .str (S [c]) t)] B F X N T hk (by k_is) (by k_is) (by omega) (BindsTo.of_eq rfl) (by rfl) (by rfl) (by rfl) (by rfl) (by decide) ?_
  clear B F X N T
  intro g L' h₁ tk FG F N B X T E'
  k_steps
  · rename b3Look _ = _ => hb
    rename Fr _ _ _ _ => F1
    rename News _ _ _ _ => N1
    dsimp only
    refine SCL.lower (by rw [S_len]; exact Nat.le_of_ble_eq_true rfl) fun _ => ?_
    rw [← b3_none hb]
    exact back F1 N1 fun f n => ret _ _ _ f n
  · rename b3Look _ = _ => hb
    rename Fr _ _ _ _ => F1
    rename News _ _ _ _ => N1
    dsimp only
    rw [← b3_some hb]
    exact back F1 N1 fun f n => ret _ _ _ f n

end

set_option maxHeartbeats 8000000 in
theorem sp_hid {w : World} {dp un : Nat} {gd : Option (List Code)} {cn : Str} {cs : Scope} {L a : Addr} {ccd : Value} {cl : List (Str × Addr)} {outer : List Env} {A₀ : Around} {base h₀ : Heap} {m : Str → Option Value} {news : List (Addr × Obj)} {s : Shared} {Q E : Value → Shared → Prop} {mean : ExcName → Option Value} {mg mb : Str → Option Value} {vp : Program} {loose : List Str}
   (B : Below A₀ base outer h₀) (F : Fr h₀ L s.heap m) (X : (KK w.params).In h₀) (N : News h₀ L s.heap news) (T : Top vp loose mean mg mb h₀) (hk : cs.kind = .function) (n : Int) (t : Tok) (hdp : dp + 20 < recursionLimit) (hun : un + 200 < cLine) (ret : ∀ t h' tk', Fr h₀ L h' m → News h₀ L h' news → Q (.str (S [hid n]) t) { s with heap := h', toks := tk' }) :
   wpAny (model pw w) (ktrTop dp un gd cn cs L a ccd cl outer) (call (.ref 275) [.int n t]) Q E s := by
  refine ent [(Str.ofString "number", .int n t)] B F X N T hk (by k_is) (by k_is) (by omega) (BindsTo.of_eq rfl) (by rfl) (by rfl) (by rfl) (by rfl) (by decide) ?_
  clear B F X N T
  intro g L' h₁ tk FG F N B X T E'
  k_steps
  rename Heap.IsList _ _ _ => L2
  rename CarriedAll _ _ => C2
  rename News _ _ _ _ => N1
  rename Fr _ _ _ _ => F1
  refine kmk_add_ints F1 N1 ⟨_, (N1 _ (.head _)).1, rfl, _, rfl⟩ L2 (by repeat' constructor) (IntsAre.ofCarried C2) ?_ (by decide)
  intro D us h' F2 N2 l1 hI
  have hI' : IntsAre us (hidL.map fun k : Nat => (k : Int)) := hI
  clear hI C2 L2 F1 N1
  k_steps
  rename Fr _ _ _ _ => F1
  rename News _ _ _ _ => N1
  have e : (List.map (fun k : Nat => (k : Int)) hidL).getD (n.fmod 27).toNat 0 = ((hid n : Nat) : Int) := by
    rw [List.getD_eq_getElem?_getD, Int.fmod_eq_emod_of_nonneg n (by decide), hid_at, Option.getD_some]
  rw [e]
  refine chr_of_range (by omega) (by have := hid_le (n := n); omega) ?_
  exact back F1 N1 fun f n => ret _ _ _ f (News.tl (News.tl n))

end Mine
end

local macro_rules | `(tactic| walk_at "mine pad") => `(tactic| fail)
local macro_rules | `(tactic| walk_at "mine pad") => `(tactic| fail)
local macro_rules | `(tactic| walk_at "mine pad") => `(tactic| fail)
local macro_rules | `(tactic| walk_at "mine pad") => `(tactic| fail)
section -- WPrep
open PySem PySem.W PySem.Spec PySem.Calls PyProof.Rows PyProof.Rows.LCg
namespace Mine
set_option maxRecDepth 100000
set_option pp.deepTerms false
set_option pp.deepTerms.threshold 6
set_option pp.proofs false
example : (PySem.Challenge.rw_sh0062_01, KK) = (PySem.Challenge.rw_sh0062_01, KK) := by k_fill; rfl

noncomputable def pre0 (l : List Nat) : List Nat := (l.filter fun c => !b1has c).flatMap b3
noncomputable def prep (l : List Nat) : List Nat := mk (pre0 l)
theorem notE {M : Model} {A : Around} {E : Value → Shared → Prop} {s : Shared} {e : Expr} {pos : Pos} {env : Env} {whole : Sem Value} {Q : Bool → Shared → Prop} (h : wpAny M A (isTrue e env (eval e env)) (fun b => Q (!b)) E s) : wpAny M A (isTrue (.UnaryOp .Not e pos) env whole) Q E s := isTrue_not h
section
local macro_rules | `(tactic| walk_at "eval ListComp") => `(tactic| (k_here; k_dflt (refine lc_strT (by k_asm) (fun c => !b1has c) (fun c => S (b3 c)) (by rfl) (by rfl) (by decide) (by rfl) (by decide) (by rfl) ?_)))
local macro_rules | `(tactic| walk_at "call ref") => `(tactic| (k_here; k_dflt (first
  | (refine sp_b3 (by k_asm) (by k_asm) (by k_asm) (by k_asm) (by k_asm) (by rfl) _ _ (by omega) (by omega) ?_; intro t' h' tk' F' N')
  | (refine sp_b1 (by k_asm) (by k_asm) (by k_asm) (by k_asm) (by k_asm) (by rfl) _ _ (by omega) (by omega) ?_; intro h' tk' F' N')
  | (refine sp_marked (by k_asm) (by k_asm) (by k_asm) (by k_asm) (by k_asm) (by rfl) _ _ (by assumption) (by omega) (by omega) ?_; intro t' h' tk' F' N'))))

set_option maxHeartbeats 8000000 in
theorem sp_prep {w : World} {dp un : Nat} {gd : Option (List Code)} {cn : Str} {cs : Scope} {L a : Addr} {ccd : Value} {cl : List (Str × Addr)} {outer : List Env} {A₀ : Around} {base h₀ : Heap} {m : Str → Option Value} {news : List (Addr × Obj)} {s : Shared} {Q E : Value → Shared → Prop} {mean : ExcName → Option Value} {mg mb : Str → Option Value} {vp : Program} {loose : List Str}
   (B : Below A₀ base outer h₀) (F : Fr h₀ L s.heap m) (X : (KK w.params).In h₀) (N : News h₀ L s.heap news) (T : Top vp loose mean mg mb h₀) (hk : cs.kind = .function) (l : List Nat) (t : Tok) (hl : l.length ≤ 4000) (hx : (pre0 l).length ≤ 4000) (hdp : dp + 25 < recursionLimit) (hun : un + 250 < cLine) (ret : ∀ t h' tk', Fr h₀ L h' m → News h₀ L h' news → Q (.str (S (prep l)) t) { s with heap := h', toks := tk' }) :
   wpAny (model pw w) (ktrTop dp un gd cn cs L a ccd cl outer) (call (.ref 297) [.str (S l) t]) Q E s := by
  refine ent [(Str.ofString "text", .str (S l) t)] B F X N T hk (by k_is) (by k_is) (by omega) (BindsTo.of_eq rfl) (by rfl) (by rfl) (by rfl) (by rfl) (by decide) ?_
  clear B F X N T
  intro g L' h₁ tk FG F N B X T E'
  k_steps
  rename Fr _ _ _ _ => F1
  rename News _ _ _ _ => N1
  refine ⟨S l, t, _, rfl, ?_, F1, N1, ?_, ?_⟩
  · rw [S_len, sizeLine_eq]; omega
  · intro c hc t1 I oI C oC D m₂ ys h tk E' hC hx F2 N2 off ne
    k_steps
    rename Fr _ _ _ _ => F3
    rename News _ _ _ _ => N3
    refine ⟨rfl, ?_⟩
    cases hb : b1has c
    · rw [if_pos (by rfl)]
      k_steps
      exact CompEnd.intro (by assumption) (by assumption) news (fun p hp => hp) off trivial ⟨rfl, _, rfl⟩
    · rw [if_neg (by decide)]
      exact CompEnd.intro F3 N3 news (fun p hp => hp) off trivial rfl
  · intro ys D h tk hy F2 N2 off
    rw [S_list] at hy
    k_steps
    refine join_S ((l.filter fun c => !b1has c).map b3) nostr N2 (List.mem_cons_self ..) (by rw [List.map_map]; exact hy) ?_ ?_
    · rw [← List.flatMap_def]; unfold pre0 at hx; omega
    · intro t' k
      rw [← List.flatMap_def]
      change wpAny _ _ _ _ _ _
      have hx' : ((l.filter fun c => !b1has c).flatMap b3).length ≤ 4000 := hx
      k_steps
      exact back (by assumption) (by assumption) fun f n => ret _ _ _ f (News.tl n)

end
end Mine
end

section -- Split
open PySem PySem.W PySem.Spec PySem.Calls PyProof.Rows PySem.StrLaws PySem.Builtin.Str
namespace Mine
set_option maxRecDepth 100000
noncomputable def stp (s sub : Str) (hi limit : Nat) (st : Array Nat × Nat) (i : Nat) : Array Nat × Nat :=
  if ((st.1.size < limit ∧ st.2 ≤ i) ∧ i + sub.length ≤ hi) ∧ subAt s sub i = true then (st.1.push i, i + sub.length) else st
theorem occ_fold (s sub : Str) (hi limit : Nat) : ∀ (l : List Nat) (st : Array Nat × Nat), (forIn l st (occBody s sub hi limit)).run = l.foldl (stp s sub hi limit) st
  | [], _ => rfl
  | i :: l, st => by
    rw [List.forIn_cons, List.foldl_cons]
    unfold occBody stp
    split
    · exact occ_fold s sub hi limit l _
    · exact occ_fold s sub hi limit l _
theorem fold_quiet (s sub : Str) (hi limit : Nat) (st : Array Nat × Nat) : ∀ (l : List Nat), (∀ i ∈ l, ¬ (((st.1.size < limit ∧ st.2 ≤ i) ∧ i + sub.length ≤ hi) ∧ subAt s sub i = true)) → l.foldl (stp s sub hi limit) st = st
  | [], _ => rfl
  | i :: l, h => by
    rw [List.foldl_cons]
    have : stp s sub hi limit st i = st := if_neg (h i (.head _))
    rw [this]
    exact fold_quiet s sub hi limit st l fun j hj => h j (.tail _ hj)
theorem subAt_iff (x sub : List Nat) (i : Nat) : subAt (S x) (S sub) i = true ↔ (x.drop i).take sub.length = sub := by
  have e : ((S x).cps.extract i (i + sub.length)).toList = (x.drop i).take sub.length := by
    show (x.toArray.extract i (i + sub.length)).toList = _
    rw [Array.toList_extract]
    show (x.drop i).take (i + sub.length - i) = _
    rw [Nat.add_sub_cancel_left]
  unfold subAt
  rw [beq_iff_eq, ← Array.toList_inj, S_len, e]
  exact Iff.rfl
theorem subAt_first {x : List Nat} {c : Nat} {ct : List Nat} {i : Nat} (h : subAt (S x) (S (c :: ct)) i = true) : x[i]? = some c := by
  rw [subAt_iff] at h
  cases e : x.drop i with
  | nil => rw [e] at h; simp at h
  | cons d r =>
    rw [e, List.length_cons, List.take_succ_cons, List.cons.injEq] at h
    have := congrArg (fun l => l[0]?) e
    simp only [List.getElem?_drop, List.getElem?_cons_zero, Nat.add_zero] at this
    rw [this, h.1]
theorem subAt_here (a sub r : List Nat) : subAt (S (a ++ sub ++ r)) (S sub) a.length = true := by
  rw [subAt_iff, List.append_assoc, List.drop_left, List.take_left]
theorem range_split (A M R : Nat) : List.range' 0 (A + 1 + M + 1 + R) = List.range' 0 A ++ A :: (List.range' (A + 1) M ++ (A + 1 + M) :: List.range' (A + 1 + M + 1) R) := by
  have e1 := List.range'_append (s := 0) (m := A) (n := 1 + M + 1 + R) (step := 1)
  have e2 := List.range'_append (s := A + 1) (m := M) (n := 1 + R) (step := 1)
  rw [show A + 1 + M + 1 + R = A + (1 + M + 1 + R) by omega, ← e1, show 0 + 1 * A = A by omega]
  congr 1
  rw [show 1 + M + 1 + R = (M + (1 + R)) + 1 by omega, List.range'_succ, ← e2, show A + 1 + 1 * M = A + 1 + M by omega]
  congr 2
  rw [show 1 + R = R + 1 by omega, List.range'_succ]

theorem occ_two {a b r sub ct : List Nat} {c lim : Nat} (hs : sub = c :: ct) (ha : c ∉ a) (hb : c ∉ b) (hl : lim = 2 ∨ (3 ≤ lim ∧ c ∉ r)) :
    occurrences (S (a ++ sub ++ b ++ sub ++ r)) (S sub) 0 (S (a ++ sub ++ b ++ sub ++ r)).length lim = [a.length, a.length + sub.length + b.length] := by
  have hn : sub.length = ct.length + 1 := by rw [hs]; rfl
  rw [occ_eq, S_len, occ_fold]
  have hlen : (a ++ sub ++ b ++ sub ++ r).length = a.length + sub.length + b.length + sub.length + r.length := by simp only [List.length_append]
  rw [hlen, Nat.sub_zero]
  rw [show a.length + sub.length + b.length + sub.length + r.length + 1 = a.length + 1 + (ct.length + b.length) + 1 + (sub.length + r.length) by omega, range_split]
  generalize hX : a ++ sub ++ b ++ sub ++ r = X
  have q1 : (List.range' 0 a.length).foldl (stp (S X) (S sub) (a.length + sub.length + b.length + sub.length + r.length) lim) (#[], 0) = (#[], 0) := by
    refine fold_quiet _ _ _ _ _ _ fun i hi hc => ?_
    rw [List.mem_range'_1] at hi
    have q := hc.2
    rw [hs] at q
    have q := subAt_first q
    rw [← hX, List.getElem?_append_left (by simp only [List.length_append]; omega), List.getElem?_append_left (by simp only [List.length_append]; omega), List.getElem?_append_left (by simp only [List.length_append]; omega), List.getElem?_append_left (by omega)] at q
    exact ha (List.mem_of_getElem? q)
  have s1 : stp (S X) (S sub) (a.length + sub.length + b.length + sub.length + r.length) lim (#[], 0) a.length = (#[a.length], a.length + sub.length) := by
    unfold stp
    rw [S_len]
    have h := subAt_here a sub (b ++ sub ++ r)
    have e : a ++ sub ++ (b ++ sub ++ r) = X := by rw [← hX]; simp only [List.append_assoc]
    rw [e] at h
    rw [if_pos ⟨⟨⟨by simp; omega, by simp⟩, by omega⟩, h⟩]
    rfl
  have q2 : (List.range' (a.length + 1) (ct.length + b.length)).foldl (stp (S X) (S sub) (a.length + sub.length + b.length + sub.length + r.length) lim) (#[a.length], a.length + sub.length) = (#[a.length], a.length + sub.length) := by
    refine fold_quiet _ _ _ _ _ _ fun i hi hc => ?_
    rw [List.mem_range'_1] at hi
    have q := hc.2
    rw [hs] at q
    have q := subAt_first q
    have hge : a.length + sub.length ≤ i := hc.1.1.2
    rw [← hX, List.getElem?_append_left (by simp only [List.length_append]; omega), List.getElem?_append_left (by simp only [List.length_append]; omega), List.getElem?_append_right (by simp only [List.length_append]; omega)] at q
    exact hb (List.mem_of_getElem? q)
  have s2 : stp (S X) (S sub) (a.length + sub.length + b.length + sub.length + r.length) lim (#[a.length], a.length + sub.length) (a.length + 1 + (ct.length + b.length)) = (#[a.length, a.length + sub.length + b.length], a.length + sub.length + b.length + sub.length) := by
    unfold stp
    rw [S_len]
    have h := subAt_here (a ++ sub ++ b) sub r
    rw [hX] at h
    have e : (a ++ sub ++ b).length = a.length + 1 + (ct.length + b.length) := by simp only [List.length_append]; omega
    rw [e] at h
    rw [if_pos ⟨⟨⟨by simp; omega, by simp; omega⟩, by omega⟩, h⟩]
    have e2 : a.length + 1 + (ct.length + b.length) = a.length + sub.length + b.length := by omega
    rw [e2]
    rfl
  have q3 : (List.range' (a.length + 1 + (ct.length + b.length) + 1) (sub.length + r.length)).foldl (stp (S X) (S sub) (a.length + sub.length + b.length + sub.length + r.length) lim) (#[a.length, a.length + sub.length + b.length], a.length + sub.length + b.length + sub.length) = (#[a.length, a.length + sub.length + b.length], a.length + sub.length + b.length + sub.length) := by
    refine fold_quiet _ _ _ _ _ _ fun i hi hc => ?_
    rw [List.mem_range'_1] at hi
    rcases hl with hl | ⟨hl, hr⟩
    · rw [hl] at hc; exact absurd hc.1.1.1 (by simp)
    · have q := hc.2
      rw [hs] at q
      have q := subAt_first q
      have hge : a.length + sub.length + b.length + sub.length ≤ i := hc.1.1.2
      rw [← hX, List.getElem?_append_right (by simp only [List.length_append]; omega)] at q
      exact hr (List.mem_of_getElem? q)
  rw [List.foldl_append, q1, List.foldl_cons, s1, List.foldl_append, q2, List.foldl_cons, s2, q3]
theorem occ_one {a r sub ct : List Nat} {c lim : Nat} (hs : sub = c :: ct) (ha : c ∉ a) (hl : 1 ≤ lim) (hr : c ∉ r) :
    occurrences (S (a ++ sub ++ r)) (S sub) 0 (S (a ++ sub ++ r)).length lim = [a.length] := by
  have hn : sub.length = ct.length + 1 := by rw [hs]; rfl
  rw [occ_eq, S_len, occ_fold]
  have hlen : (a ++ sub ++ r).length = a.length + sub.length + r.length := by simp only [List.length_append]
  rw [hlen, Nat.sub_zero]
  generalize hX : a ++ sub ++ r = X
  have e1 := List.range'_append (s := 0) (m := a.length) (n := (sub.length + r.length) + 1) (step := 1)
  rw [show 0 + 1 * a.length = a.length by omega] at e1
  have q1 : (List.range' 0 a.length).foldl (stp (S X) (S sub) (a.length + sub.length + r.length) lim) (#[], 0) = (#[], 0) := by
    refine fold_quiet _ _ _ _ _ _ fun i hi hc => ?_
    rw [List.mem_range'_1] at hi
    have q := hc.2
    rw [hs] at q
    have q := subAt_first q
    rw [← hX, List.getElem?_append_left (by simp only [List.length_append]; omega), List.getElem?_append_left (by omega)] at q
    exact ha (List.mem_of_getElem? q)
  have s1 : stp (S X) (S sub) (a.length + sub.length + r.length) lim (#[], 0) a.length = (#[a.length], a.length + sub.length) := by
    unfold stp
    rw [S_len]
    have h := subAt_here a sub r
    rw [hX] at h
    rw [if_pos ⟨⟨⟨by simp; omega, by simp⟩, by omega⟩, h⟩]
    rfl
  have q2 : (List.range' (a.length + 1) (sub.length + r.length)).foldl (stp (S X) (S sub) (a.length + sub.length + r.length) lim) (#[a.length], a.length + sub.length) = (#[a.length], a.length + sub.length) := by
    refine fold_quiet _ _ _ _ _ _ fun i hi hc => ?_
    rw [List.mem_range'_1] at hi
    have q := hc.2
    rw [hs] at q
    have q := subAt_first q
    have hge : a.length + sub.length ≤ i := hc.1.1.2
    rw [← hX, List.getElem?_append_right (by simp only [List.length_append]; omega)] at q
    exact hr (List.mem_of_getElem? q)
  rw [show a.length + sub.length + r.length + 1 = a.length + ((sub.length + r.length) + 1) by omega, ← e1, List.foldl_append, q1, List.range'_succ, List.foldl_cons, s1, q2]

theorem strSub_S (x : List Nat) (i j : Nat) : strSub (S x) i j = S ((x.take j).drop i) := by
  unfold strSub S
  congr 1
  rw [← Array.toList_inj]
  simp [List.drop_take]
theorem parts_two (a b r sub : List Nat) : partsBetween (S (a ++ sub ++ b ++ sub ++ r)) [a.length, a.length + sub.length + b.length] sub.length = [S a, S b, S r] := by
  unfold partsBetween
  simp only [List.map_cons, List.map_nil, List.cons_append, List.nil_append, List.zip_cons_cons, List.zip_nil_left, S_len]
  rw [strSub_S, strSub_S, strSub_S]
  have e1 : ((a ++ sub ++ b ++ sub ++ r).take a.length).drop 0 = a := by
    simp only [List.append_assoc, List.take_left, List.drop_zero]
  have e2 : ((a ++ sub ++ b ++ sub ++ r).take (a.length + sub.length + b.length)).drop (a.length + sub.length) = b := by
    have : a.length + sub.length + b.length = (a ++ sub ++ b).length := by simp only [List.length_append]
    rw [this, show a ++ sub ++ b ++ sub ++ r = (a ++ sub ++ b) ++ (sub ++ r) by simp only [List.append_assoc], List.take_left]
    have : a.length + sub.length = (a ++ sub).length := by simp only [List.length_append]
    rw [this, List.drop_left]
  have e3 : ((a ++ sub ++ b ++ sub ++ r).take (a ++ sub ++ b ++ sub ++ r).length).drop (a.length + sub.length + b.length + sub.length) = r := by
    rw [List.take_length]
    have : a.length + sub.length + b.length + sub.length = (a ++ sub ++ b ++ sub).length := by simp only [List.length_append]
    rw [this, List.drop_left]
  rw [e1, e2, e3]
theorem parts_one (a r sub : List Nat) : partsBetween (S (a ++ sub ++ r)) [a.length] sub.length = [S a, S r] := by
  unfold partsBetween
  simp only [List.map_cons, List.map_nil, List.cons_append, List.nil_append, List.zip_cons_cons, List.zip_nil_left, S_len]
  rw [strSub_S, strSub_S]
  have e1 : ((a ++ sub ++ r).take a.length).drop 0 = a := by
    simp only [List.append_assoc, List.take_left, List.drop_zero]
  have e3 : ((a ++ sub ++ r).take (a ++ sub ++ r).length).drop (a.length + sub.length) = r := by
    rw [List.take_length]
    have : a.length + sub.length = (a ++ sub).length := by simp only [List.length_append]
    rw [this, List.drop_left]
  rw [e1, e3]
theorem kind_pos (x : Str) : 1 ≤ Builtin.Str.strKind x := by
  unfold Builtin.Str.strKind
  split
  · exact Nat.le_refl _
  · split <;> decide
theorem splitMax_three {a b r : List Nat} (ha : 39 ∉ a) (hb : 39 ∉ b) : Txt.splitMax (S (a ++ [39] ++ b ++ [39] ++ r)) (S [39]) 2 = [S a, S b, S r] := by
  unfold Txt.splitMax
  have o := occ_two (sub := [39]) (lim := 2) rfl ha hb (r := r) (.inl rfl)
  have hk := kind_pos (S (a ++ [39] ++ b ++ [39] ++ r))
  have h1 : (decide ((S (a ++ [39] ++ b ++ [39] ++ r)).length < (S [39]).length) || decide (Builtin.Str.strKind (S (a ++ [39] ++ b ++ [39] ++ r)) < Builtin.Str.strKind (S [39]))) = false := by
    rw [S_len, S_len, Bool.or_eq_false_iff, decide_eq_false_iff_not, decide_eq_false_iff_not]
    refine ⟨by simp only [List.length_append, List.length_cons, List.length_nil]; omega, ?_⟩
    have : Builtin.Str.strKind (S [39]) = 1 := by decide +kernel
    omega
  rw [h1, if_neg (by decide)]
  show (if (occurrences _ _ 0 _ 2).isEmpty = true then _ else partsBetween _ (occurrences _ _ 0 _ 2) _) = _
  rw [o, if_neg (by simp), S_len]
  exact parts_two a b r [39]
theorem splitMax_two {a : List Nat} (ha : 39 ∉ a) : Txt.splitMax (S (a ++ [39])) (S [39]) 2 = [S a, S []] := by
  unfold Txt.splitMax
  have o := occ_one (sub := [39]) (lim := 2) rfl ha (by decide) (r := []) (by simp)
  rw [List.append_nil] at o
  have hk := kind_pos (S (a ++ [39]))
  have h1 : (decide ((S (a ++ [39])).length < (S [39]).length) || decide (Builtin.Str.strKind (S (a ++ [39])) < Builtin.Str.strKind (S [39]))) = false := by
    rw [S_len, S_len, Bool.or_eq_false_iff, decide_eq_false_iff_not, decide_eq_false_iff_not]
    refine ⟨by simp only [List.length_append, List.length_cons, List.length_nil]; omega, ?_⟩
    have : Builtin.Str.strKind (S [39]) = 1 := by decide +kernel
    omega
  rw [h1, if_neg (by decide)]
  show (if (occurrences _ _ 0 _ 2).isEmpty = true then _ else partsBetween _ (occurrences _ _ 0 _ 2) _) = _
  rw [o, if_neg (by simp), S_len]
  have := parts_one a [] [39]
  rwa [List.append_nil] at this
theorem split_rows {a b r : List Nat} (ha : 13 ∉ a) (hb : 13 ∉ b) (hr : 13 ∉ r) : Txt.split (S (a ++ [13, 10] ++ b ++ [13, 10] ++ r)) (S [13, 10]) = [S a, S b, S r] := by
  unfold Txt.split
  have hk := kind_pos (S (a ++ [13, 10] ++ b ++ [13, 10] ++ r))
  have o := occ_two (sub := [13, 10]) (lim := (S (a ++ [13, 10] ++ b ++ [13, 10] ++ r)).length + 1) rfl ha hb (r := r) (.inr ⟨by rw [S_len]; simp only [List.length_append, List.length_cons, List.length_nil]; omega, hr⟩)
  have h1 : (decide ((S (a ++ [13, 10] ++ b ++ [13, 10] ++ r)).length < (S [13, 10]).length) || decide (Builtin.Str.strKind (S (a ++ [13, 10] ++ b ++ [13, 10] ++ r)) < Builtin.Str.strKind (S [13, 10]))) = false := by
    rw [S_len, S_len, Bool.or_eq_false_iff, decide_eq_false_iff_not, decide_eq_false_iff_not]
    refine ⟨by simp only [List.length_append, List.length_cons, List.length_nil]; omega, ?_⟩
    have : Builtin.Str.strKind (S [13, 10]) = 1 := by decide +kernel
    omega
  rw [h1, if_neg (by decide), o, if_neg (by simp), S_len]
  exact parts_two a b r [13, 10]
end Mine
end

local macro_rules | `(tactic| walk_at "mine pad") => `(tactic| fail)
local macro_rules | `(tactic| walk_at "mine pad") => `(tactic| fail)
local macro_rules | `(tactic| walk_at "mine pad") => `(tactic| fail)
section -- WDec
open PySem PySem.W PySem.Spec PySem.Calls PyProof.Rows PyProof.Rows.LCg
namespace Mine
set_option maxRecDepth 100000
set_option pp.deepTerms false
set_option pp.deepTerms.threshold 6
set_option pp.proofs false
example : (PySem.Challenge.rw_sh0062_01, KK) = (PySem.Challenge.rw_sh0062_01, KK) := by k_fill; rfl

section
variable {prog : Program} {w : World} {A : Around} {E : Value → Shared → Prop} {s : Shared} {t u v : Tok} {h₀ : Heap} {L : Addr} {m : Str → Option Value} {news : List (Addr × Obj)} {Q : Value → Shared → Prop}
theorem split_wp {x y : Str} {k : Int} {ls : List Str} (hF : Fr h₀ L s.heap m) (hN : News h₀ L s.heap news) (hs : Txt.splitMax x y k = ls) (hy : (y.length == 0) = false) (hk : (decide (k < -(2 ^ 63 : Int)) || decide (k ≥ 2 ^ 63)) = false)
    (h : ∀ D l h' tk, l.map (·.1) = ls → Fr h₀ L h' m → News h₀ L h' ((D, listOf (strValues l).toArray 0) :: news) → (∀ p ∈ news, p.1 < D) → Q (.ref D) { s with heap := h', toks := tk }) (hsz : x.length + 2 ≤ sizeLine) :
    wpAny (model prog w) A (call (.builtin "str.split") [.str x t, .str y u, .int k v]) Q E s :=
  splitN2A hF hN hy hk (fun l h' tk e _ _ _ F N => h _ l h' tk (e.trans hs) F N fun p hp => Heap.lt_size (hN p hp).1) hsz
theorem split3_wp {a b r : List Nat} {y : Str} (hF : Fr h₀ L s.heap m) (hN : News h₀ L s.heap news) (ha : 39 ∉ a) (hb : 39 ∉ b) (hl : (a ++ [39] ++ b ++ [39] ++ r).length ≤ 10000) (hy : y = S [39])
    (h : ∀ D ta tb tr h' tk, Fr h₀ L h' m → News h₀ L h' ((D, listOf (#[.str (S a) ta, .str (S b) tb, .str (S r) tr] : Array Value) 0) :: news) → (∀ p ∈ news, p.1 < D) → Q (.ref D) { s with heap := h', toks := tk }) :
    wpAny (model prog w) A (call (.builtin "str.split") [.str (S (a ++ [39] ++ b ++ [39] ++ r)) t, .str y u, .int 2 v]) Q E s := by
  subst hy
  refine split_wp hF hN (splitMax_three ha hb) (by decide +kernel) (by decide) (fun D l h' tk e F N q => ?_) (by rw [S_len, sizeLine_eq]; omega)
  obtain ⟨t1, l1, e1, e⟩ := KSpl.cons_of e
  obtain ⟨t2, l2, e2, e⟩ := KSpl.cons_of e
  obtain ⟨t3, l3, e3, e⟩ := KSpl.cons_of e
  have e4 := KSpl.nil_of e
  subst e4 e3 e2 e1
  exact h _ t1 t2 t3 _ _ F N q
theorem split2_wp {a : List Nat} {y : Str} (hF : Fr h₀ L s.heap m) (hN : News h₀ L s.heap news) (ha : 39 ∉ a) (hl : a.length ≤ 10000) (hy : y = S [39])
    (h : ∀ D ta tb h' tk, Fr h₀ L h' m → News h₀ L h' ((D, listOf (#[.str (S a) ta, .str (S []) tb] : Array Value) 0) :: news) → (∀ p ∈ news, p.1 < D) → Q (.ref D) { s with heap := h', toks := tk }) :
    wpAny (model prog w) A (call (.builtin "str.split") [.str (S (a ++ [39])) t, .str y u, .int 2 v]) Q E s := by
  subst hy
  refine split_wp hF hN (splitMax_two ha) (by decide +kernel) (by decide) (fun D l h' tk e F N q => ?_) (by rw [S_len, sizeLine_eq, List.length_append, List.length_singleton]; omega)
  obtain ⟨t1, l1, e1, e⟩ := KSpl.cons_of e
  obtain ⟨t2, l2, e2, e⟩ := KSpl.cons_of e
  have e4 := KSpl.nil_of e
  subst e4 e2 e1
  exact h _ t1 t2 _ _ F N q
theorem splitR_wp {a b r : List Nat} {y : Str} (hF : Fr h₀ L s.heap m) (hN : News h₀ L s.heap news) (ha : 13 ∉ a) (hb : 13 ∉ b) (hr : 13 ∉ r) (hl : (a ++ [13, 10] ++ b ++ [13, 10] ++ r).length ≤ 10000) (hy : y = S [13, 10])
    (h : ∀ D ta tb tr h' tk, Fr h₀ L h' m → News h₀ L h' ((D, listOf (#[.str (S a) ta, .str (S b) tb, .str (S r) tr] : Array Value) 0) :: news) → (∀ p ∈ news, p.1 < D) → Q (.ref D) { s with heap := h', toks := tk }) :
    wpAny (model prog w) A (call (.builtin "str.split") [.str (S (a ++ [13, 10] ++ b ++ [13, 10] ++ r)) t, .str y u]) Q E s := by
  subst hy
  refine KSpl.split1 hF hN (by decide +kernel) (fun D l h' tk e _ F N q => ?_) (by rw [S_len, sizeLine_eq]; omega)
  rw [split_rows ha hb hr] at e
  obtain ⟨t1, l1, e1, e⟩ := KSpl.cons_of e
  obtain ⟨t2, l2, e2, e⟩ := KSpl.cons_of e
  obtain ⟨t3, l3, e3, e⟩ := KSpl.cons_of e
  have e4 := KSpl.nil_of e
  subst e4 e3 e2 e1
  exact h _ t1 t2 t3 _ _ F N q
end
section
local macro_rules | `(tactic| walk_at "call builtin:str.split") => `(tactic| (k_here; (with_reducible show wpAny _ _ (call (Value.builtin "str.split") _) _ _ _); (refine split3_wp (by k_asm) (by k_asm) (by assumption) (by assumption) (by assumption) (by decide +kernel) ?_); intro D' ta' tb' tr' h' k' F' N' l1; (try k_lt l1)))
local macro_rules | `(tactic| walk_at "call builtin:str.split") => `(tactic| (k_here; (with_reducible show wpAny _ _ (call (Value.builtin "str.split") _) _ _ _); (refine split2_wp (by k_asm) (by k_asm) (by assumption) (by assumption) (by decide +kernel) ?_); intro D' ta' tb' h' k' F' N' l1; (try k_lt l1)))

set_option maxHeartbeats 8000000 in
theorem sp_dec3 {w : World} {dp un : Nat} {gd : Option (List Code)} {cn : Str} {cs : Scope} {L a : Addr} {ccd : Value} {cl : List (Str × Addr)} {outer : List Env} {A₀ : Around} {base h₀ : Heap} {m : Str → Option Value} {news : List (Addr × Obj)} {s : Shared} {Q E : Value → Shared → Prop} {mean : ExcName → Option Value} {mg mb : Str → Option Value} {vp : Program} {loose : List Str}
   (B : Below A₀ base outer h₀) (F : Fr h₀ L s.heap m) (X : (KK w.params).In h₀) (N : News h₀ L s.heap news) (T : Top vp loose mean mg mb h₀) (hk : cs.kind = .function) (a₁ b r : List Nat) (t : Tok) (ha : 39 ∉ a₁) (hb : 39 ∉ b) (hl : (a₁ ++ [39] ++ b ++ [39] ++ r).length ≤ 10000) (hdp : dp + 20 < recursionLimit) (hun : un + 200 < cLine) (ret : ∀ D ta tb tr h' tk', Fr h₀ L h' m → News h₀ L h' ((D, listOf (#[.str (S a₁) ta, .str (S b) tb, .str (S r) tr] : Array Value) 0) :: news) → (∀ p ∈ news, p.1 < D) → Q (.ref D) { s with heap := h', toks := tk' }) :
   wpAny (model pw w) (ktrTop dp un gd cn cs L a ccd cl outer) (call (.ref 45) [.str (S (a₁ ++ [39] ++ b ++ [39] ++ r)) t]) Q E s := by
  refine ent [(Str.ofString "s", .str (S (a₁ ++ [39] ++ b ++ [39] ++ r)) t)] B F X N T hk (by k_is) (by k_is) (by omega) (BindsTo.of_eq rfl) (by rfl) (by rfl) (by rfl) (by rfl) (by decide) ?_
  clear B F X N T
  intro g L' h₁ tk FG F N B X T E'
  k_steps
  rename Fr _ _ _ _ => F1
  rename News _ _ _ _ => N1
  exact back F1 N1 fun f n => ret _ _ _ _ _ _ f n (by assumption)


set_option maxHeartbeats 8000000 in
theorem sp_dec2 {w : World} {dp un : Nat} {gd : Option (List Code)} {cn : Str} {cs : Scope} {L a : Addr} {ccd : Value} {cl : List (Str × Addr)} {outer : List Env} {A₀ : Around} {base h₀ : Heap} {m : Str → Option Value} {news : List (Addr × Obj)} {s : Shared} {Q E : Value → Shared → Prop} {mean : ExcName → Option Value} {mg mb : Str → Option Value} {vp : Program} {loose : List Str}
   (B : Below A₀ base outer h₀) (F : Fr h₀ L s.heap m) (X : (KK w.params).In h₀) (N : News h₀ L s.heap news) (T : Top vp loose mean mg mb h₀) (hk : cs.kind = .function) (a₁ : List Nat) (t : Tok) (ha : 39 ∉ a₁) (hl : a₁.length ≤ 10000) (hdp : dp + 20 < recursionLimit) (hun : un + 200 < cLine) (ret : ∀ D ta h' tk', Fr h₀ L h' m → News h₀ L h' ((D, ({ cls := .type "tuple", data := .seq (#[.none, .none, .str (S (a₁ ++ [39])) ta] : Array Value) 0 } : Obj)) :: news) → (∀ p ∈ news, p.1 < D) → Q (.ref D) { s with heap := h', toks := tk' }) :
   wpAny (model pw w) (ktrTop dp un gd cn cs L a ccd cl outer) (call (.ref 45) [.str (S (a₁ ++ [39])) t]) Q E s := by
  refine ent [(Str.ofString "s", .str (S (a₁ ++ [39])) t)] B F X N T hk (by k_is) (by k_is) (by omega) (BindsTo.of_eq rfl) (by rfl) (by rfl) (by rfl) (by rfl) (by decide) ?_
  clear B F X N T
  intro g L' h₁ tk FG F N B X T E'
  k_steps
  rename Fr _ _ _ _ => F1
  rename News _ _ _ _ => N1
  rename _ ∧ AllLt _ _ => q
  exact back F1 N1 fun f n => ret _ _ _ _ f (News.sub n fun p hp => (List.mem_cons.mp hp).elim (fun h => h ▸ .head _) fun h => .tail _ (.tail _ h)) (ktn_ltOf q.2)

end
end Mine
end

section -- ReF
open PySem PySem.W PySem.Spec PySem.Calls PyProof.Rows
namespace Mine
set_option maxRecDepth 100000
theorem plainAttrs_re : PlainAttrs "re.Pattern" :=
  ⟨⟨"object.__getattribute__", by rw [typeLookup_type, builtinLookup_eq_fast]; kernel_rfl, by decide +kernel⟩, by rw [typeLookup_type, builtinLookup_eq_fast]; kernel_rfl⟩
theorem owner_re : Manifest.owners.lookup (String.ofList ['n', 'r', 'e', 't', 't', 'a', 'P', '.', 'e', 'r'].reverse) = some Manifest.sig_re_Pattern := by kernel_rfl
theorem slot_search : Slot "re.Pattern" "search" "re.Pattern.search" :=
  .of (owner := "re.Pattern") (n := "search") (by rw [typeLookup_type, builtinLookup_eq_fast]; kernel_rfl) (by decide +kernel) (by decide +kernel) (by decide +kernel)
    (by first | exact .inl (by decide +kernel) | exact .inr (by decide +kernel)) (by rw [isSubtype_type]; kernel_rfl)
theorem type_search : typeOf (.builtin "re.Pattern.search") = pure (.type "method_descriptor") := by show builtinType _ = _; rw [builtinType_eq_fast]; kernel_rfl
theorem entry_search : entryFor table "re.Pattern.search" = some Builtin.«re.Pattern.search» := entryFor_of_tree (by kernel_rfl)
theorem args_search (a b : Value) : argsOk "re.Pattern.search" ⟨[a, b], []⟩ := by
  unfold argsOk; rw [signature?_of (id := "re.Pattern.search") (n := ['h', 'c', 'r', 'a', 'e', 's']) (o := ['n', 'r', 'e', 't', 't', 'a', 'P', '.', 'e', 'r']) (by kernel_rfl) owner_re]
  kernel_rfl
theorem slot_sub : Slot "re.Pattern" "sub" "re.Pattern.sub" :=
  .of (owner := "re.Pattern") (n := "sub") (by rw [typeLookup_type, builtinLookup_eq_fast]; kernel_rfl) (by decide +kernel) (by decide +kernel) (by decide +kernel)
    (by first | exact .inl (by decide +kernel) | exact .inr (by decide +kernel)) (by rw [isSubtype_type]; kernel_rfl)
theorem type_sub : typeOf (.builtin "re.Pattern.sub") = pure (.type "method_descriptor") := by show builtinType _ = _; rw [builtinType_eq_fast]; kernel_rfl
theorem entry_sub : entryFor table "re.Pattern.sub" = some Builtin.«re.Pattern.sub» := entryFor_of_tree (by kernel_rfl)
theorem entry_loop : entryFor table "re.Pattern.sub.loop" = some Builtin.«re.Pattern.sub.loop» := entryFor_of_tree (by kernel_rfl)
theorem args_sub (a b c : Value) : argsOk "re.Pattern.sub" ⟨[a, b, c], []⟩ := by
  unfold argsOk; rw [signature?_of (id := "re.Pattern.sub") (n := ['b', 'u', 's']) (o := ['n', 'r', 'e', 't', 't', 'a', 'P', '.', 'e', 'r']) (by kernel_rfl) owner_re]
  kernel_rfl
end Mine
end

section -- Mach
open PySem PySem.Sre
namespace Mine
set_option maxRecDepth 100000
noncomputable def cN : Array Nat := #[14, 10, 4, 1, 1, 22, 0, 31, 16, 127, 0, 13, 7, 22, 0, 31, 16, 127, 0, 1]
noncomputable def cV : Array Nat := #[14, 14, 4, 1, 1, 9, 4294966783, 0, 0, 2147483648, 0, 0, 0, 0, 0, 13, 11, 9, 4294966783, 0, 0, 2147483648, 0, 0, 0, 0, 0, 1]
noncomputable def c1 : Array Nat := #[14, 4, 0, 1, 1, 6, 1, 16, 46, 1]
noncomputable def c2 : Array Nat := #[14, 9, 4, 1, 2, 16, 10, 16, 13, 0, 7, 7, 16, 13, 16, 10, 15, 18, 5, 16, 10, 15, 13, 11, 16, 13, 5, 5, 0, 16, 10, 1, 15, 2, 0, 1]
noncomputable def Ends : Nat → M → (M → Prop) → Prop
  | 0, m, P => m.outcome.isSome = true ∧ P m
  | k + 1, m, P => (m.outcome.isSome = true ∧ P m) ∨ Ends k m.step P
theorem step_done {m : M} (h : m.outcome.isSome = true) : m.step = m := by unfold M.step; rw [if_pos h]
theorem ends_done {P : M → Prop} : ∀ {k : Nat} {m : M}, Ends k m P → m.outcome.isSome = true → P m
  | 0, _, h, _ => h.2
  | k + 1, m, h, e => by
    rcases h with h | h
    · exact h.2
    · rw [step_done e] at h; exact ends_done h e
theorem ends_mono {P : M → Prop} : ∀ {k j : Nat} {m : M}, Ends k m P → k ≤ j → Ends j m P
  | 0, 0, _, h, _ => h
  | 0, j + 1, _, h, _ => .inl h
  | k + 1, 0, _, _, hj => absurd hj (by omega)
  | k + 1, j + 1, m, h, hj => by
    rcases h with h | h
    · exact .inl h
    · exact .inr (ends_mono h (by omega))
theorem ends_runFor {P : M → Prop} : ∀ (j : Nat) {k : Nat} {m : M}, Ends k m P → Ends (k - j) (M.runFor j m) P
  | 0, _, _, h => h
  | j + 1, k, m, h => by
    unfold M.runFor
    by_cases e : m.outcome.isSome = true
    · rw [if_pos e]
      exact ends_mono (k := 0) ⟨e, ends_done h e⟩ (by omega)
    · rw [if_neg e]
      cases k with
      | zero => exact absurd h.1 e
      | succ k =>
        rcases h with h | h
        · exact absurd h.1 e
        · have := ends_runFor j h
          rwa [Nat.add_sub_add_right]
noncomputable def okB {α : Type} : Except String (α × Seen) → Option α
  | .ok (b, _) => some b
  | .error _ => none
theorem okB_ex {α : Type} {r : Except String (α × Seen)} {b : α} (h : okB r = some b) : ∃ σ, r = .ok (b, σ) := by
  cases r with
  | error e => cases h
  | ok p => exact ⟨p.2, by cases h; rfl⟩
theorem inSet_N (c : Nat) (σ : Seen) (h : 32 ≤ c) (h' : c ≠ 127) : okB (inSet cN c cN.size 5 true σ) = some false := by
  show okB (if (decide (0 ≤ c) && decide (c ≤ 31)) = true then _ else if (c == 127) = true then _ else _) = _
  rw [if_neg (by simp; omega), if_neg (by simpa using h')]
  rfl
theorem inSet_V (c : Nat) (σ : Seen) (h : 32 ≤ c) (h' : c ≠ 127) : okB (inSet cV c cV.size 5 true σ) = some false := by
  have key : c < 256 → (cV.getD (5 + (1 + c / 32)) 0).testBit (c % 32) = false := by
    intro hc
    have : ∀ d : Fin 256, 32 ≤ d.val → d.val ≠ 127 → (cV.getD (5 + (1 + d.val / 32)) 0).testBit (d.val % 32) = false := by decide +kernel
    exact this ⟨c, hc⟩ h h'
  have e : (decide (c < 256) && (cV.getD (5 + (1 + c / 32)) 0).testBit (c % 32)) = false := by
    by_cases hc : c < 256
    · rw [key hc, Bool.and_false]
    · rw [decide_eq_false hc, Bool.false_and]
  show okB (if (decide (c < 256) && (cV.getD (5 + (1 + c / 32)) 0).testBit (c % 32)) = true then _ else _) = _
  rw [e, if_neg (by decide)]
  rfl
theorem inSet_2 (c : Nat) (σ : Seen) : okB (inSet c2 c c2.size 5 true σ) = some (c == 10 || c == 13) := by
  show okB (if (c == 10) = true then _ else if (c == 13) = true then _ else _) = _
  by_cases h1 : (c == 10) = true
  · rw [if_pos h1, h1]; rfl
  · rw [if_neg h1]
    by_cases h2 : (c == 13) = true
    · rw [if_pos h2, h2, Bool.or_true]; rfl
    · rw [if_neg h2, Bool.eq_false_iff.mpr h1, Bool.eq_false_iff.mpr h2]; rfl
theorem admitted_none {m : M} : ∀ (f s : Nat) (σ : Seen), (∀ i σ, s ≤ i → i < m.lim → okB (inSet m.code (m.text.getD i 0) m.code.size 5 true σ) = some false) → okB (M.admitted m f s σ) = some none
  | 0, s, σ, h => rfl
  | f + 1, s, σ, h => by
    unfold M.admitted
    by_cases hs : s ≥ m.lim
    · rw [if_pos hs]; rfl
    · rw [if_neg hs]
      obtain ⟨σ', e⟩ := okB_ex (h s σ (Nat.le_refl _) (by omega))
      simp only [e]
      exact admitted_none f (s + 1) σ' fun i σ h1 h2 => h i σ (by omega) h2
theorem admitted_some {m : M} {e : Nat} (he : e < m.lim) (hy : ∀ σ, okB (inSet m.code (m.text.getD e 0) m.code.size 5 true σ) = some true) : ∀ (f s : Nat) (σ : Seen), s ≤ e → e < s + f → (∀ i σ, s ≤ i → i < e → okB (inSet m.code (m.text.getD i 0) m.code.size 5 true σ) = some false) → okB (M.admitted m f s σ) = some (some e)
  | 0, s, σ, h1, h2, _ => absurd h2 (by omega)
  | f + 1, s, σ, h1, h2, h => by
    unfold M.admitted
    rw [if_neg (by omega)]
    by_cases hs : s = e
    · subst hs
      obtain ⟨σ', e⟩ := okB_ex (hy σ)
      simp only [e]
      rfl
    · obtain ⟨σ', e'⟩ := okB_ex (h s σ (Nat.le_refl _) (by omega))
      simp only [e']
      exact admitted_some he hy f (s + 1) σ' (by omega) (by omega) fun i σ h1 h2 => h i σ (by omega) h2
noncomputable def Failed (m : M) : Prop := m.outcome = some .failed
noncomputable def Matched (b e : Nat) (m : M) : Prop := m.outcome = some .matched ∧ m.start = b ∧ m.handed = e
theorem ends_say {m : M} {b : Bool} {k : Nat} {P : M → Prop} (h0 : m.outcome = none) (h1 : m.answer = some b) (h2 : m.frames = []) (h : P { m with outcome := some (if b then .matched else .failed) }) : Ends (k + 2) m P := by
  refine .inr (.inl ?_)
  have e : m.step = { m with outcome := some (if b then .matched else .failed) } := by
    unfold M.step
    rw [h0, h1, h2]
    rfl
  rw [e]
  exact ⟨rfl, h⟩
noncomputable def st (C T : Array Nat) (n b ls : Nat) (must : Bool) (pc pos h : Nat) (om : Bool) (fr : List PySem.Sre.Frame) (wt : Nat) (ans : Option Bool) (σ : Seen) : M :=
  { code := C, text := T, lim := n, start := b, lastStart := ls, mustAdvance := must, pc, pos, handed := h, outermost := om, marks := #[], frames := fr, weight := wt, answer := ans, seen := σ }
noncomputable def σ0 : Seen := ({} : Seen).add 14
noncomputable def hd (C : Array Nat) : Nat := (header C).2
noncomputable def Known (C : Array Nat) : Prop := C = cN ∨ C = cV ∨ C = c2 ∨ C = c1
theorem forSearch_eq {C T : Array Nat} {s n : Nat} {must : Bool} (hc : Known C) : forSearch C T 0 s n must = if (decide (s > n) || decide (n - s < 1)) = true then st C T n s 0 must (hd C) s s true [] 0 (some false) σ0 else (st C T n s n must (hd C) s s true [] 0 none σ0).attemptFrom s true := by
  rcases hc with rfl | rfl | rfl | rfl <;> rfl
/-- a search by a first set: none of it -/
theorem search_none {C T : Array Nat} {s : Nat} {must : Bool} (hc : C = cN ∨ C = cV ∨ C = c2) (h : ∀ i σ, s ≤ i → i < T.size → okB (inSet C (T.getD i 0) C.size 5 true σ) = some false) : Ends 2 (forSearch C T 0 s T.size must) Failed := by
  have hK : Known C := by rcases hc with h | h | h <;> simp [Known, h]
  rw [forSearch_eq hK]
  split
  · exact ends_say rfl rfl rfl rfl
  · unfold M.attemptFrom
    rw [if_neg (by unfold M.hasFirstSet; rcases hc with rfl | rfl | rfl <;> (show ¬ (!true) = true; decide))]
    obtain ⟨σ', e⟩ := okB_ex (admitted_none (m := st C T T.size s T.size must (hd C) s s true [] 0 none σ0) (T.size + 1 - s) s σ0 h)
    have e' : M.admitted (st C T T.size s T.size must (hd C) s s true [] 0 none σ0) ((st C T T.size s T.size must (hd C) s s true [] 0 none σ0).lim + 1 - s) s (st C T T.size s T.size must (hd C) s s true [] 0 none σ0).seen = .ok (none, σ') := e
    rw [e']
    exact ends_say rfl rfl rfl rfl
/-- a search by a first set: it goes on from the first of it -/
theorem search_some {C T : Array Nat} {s e k : Nat} {must : Bool} {P : M → Prop} (hc : C = cN ∨ C = cV ∨ C = c2) (hs : s ≤ e) (he : e < T.size) (hy : ∀ σ, okB (inSet C (T.getD e 0) C.size 5 true σ) = some true) (h : ∀ i σ, s ≤ i → i < e → okB (inSet C (T.getD i 0) C.size 5 true σ) = some false)
    (hk : ∀ σ, Ends k (st C T T.size e T.size false (hd C) e e true [{ wait := .nextStart, pc := hd C, pos := e, outermost := true }] 1 none σ) P) : Ends k (forSearch C T 0 s T.size must) P := by
  have hK : Known C := by rcases hc with h | h | h <;> simp [Known, h]
  rw [forSearch_eq hK, if_neg (by simp; omega)]
  unfold M.attemptFrom
  rw [if_neg (by unfold M.hasFirstSet; rcases hc with rfl | rfl | rfl <;> (show ¬ (!true) = true; decide))]
  obtain ⟨σ', e1⟩ := okB_ex (admitted_some (m := st C T T.size s T.size must (hd C) s s true [] 0 none σ0) he hy (T.size + 1 - s) s σ0 hs (by omega) h)
  have e' : M.admitted (st C T T.size s T.size must (hd C) s s true [] 0 none σ0) ((st C T T.size s T.size must (hd C) s s true [] 0 none σ0).lim + 1 - s) s (st C T T.size s T.size must (hd C) s s true [] 0 none σ0).seen = .ok (some e, σ') := e1
  rw [e']
  exact hk σ'
/-- one step on -/
theorem ends_on {m m' : M} {k : Nat} {P : M → Prop} (e : m.step = m') (h : Ends k m' P) : Ends (k + 1) m P := .inr (e ▸ h)
/-! the end of a match, for any pattern of ours: the answer is yes in the frame of the start -/
theorem ends_yes {C T : Array Nat} {n b ls pc pos e w pc' pos' : Nat} {must om om' : Bool} {σ : Seen} {k : Nat} (hw : w = 1) : Ends (k + 3) (st C T n b ls must pc pos e om [{ wait := .nextStart, pc := pc', pos := pos', outermost := om' }] w (some true) σ) (Matched b e) :=
  ends_on rfl (ends_say rfl rfl rfl ⟨rfl, rfl, rfl⟩)
section
variable {C T : Array Nat} {n b ls pc pos h wt : Nat} {must om : Bool} {fr : List PySem.Sre.Frame} {σ : Seen} {k : Nat}
theorem step_exec (hpc : pc < C.size) : (st C T n b ls must pc pos h om fr wt none σ).step = (st C T n b ls must pc pos h om fr wt none σ).exec := by
  show (if pc < C.size then _ else _) = _
  rw [if_pos hpc]
theorem lit_yes (hpc : pc < C.size) (ho : C.getD pc 0 = 16) (hp : pos < n) (hT : T.getD pos 0 = C.getD (pc + 1) 0) : (st C T n b ls must pc pos h om fr wt none σ).step = st C T n b ls must (pc + 2) (pos + 1) h om fr wt none (σ.add 16) := by
  rw [step_exec hpc]
  have hw : (st C T n b ls must pc pos h om fr wt none σ).word 0 = 16 := ho
  unfold M.exec
  simp only [hw]
  show (if pos ≥ n then _ else _) = _
  rw [if_neg (by omega)]
  have ha : accepts C pc (T.getD pos 0) (σ.add 16) = .ok (true, σ.add 16) := by
    unfold accepts
    rw [ho]
    show Except.ok (T.getD pos 0 == C.getD (pc + 1) 0, _) = _
    rw [hT, beq_self_eq_true]
  show (match accepts C pc (T.getD pos 0) (σ.add 16) with | .error why => _ | .ok (false, seen) => _ | .ok (true, seen) => _) = _
  rw [ha]
  have hi : itemWidth C pc = 2 := by unfold itemWidth; rw [ho]; rfl
  show ({ st C T n b ls must pc pos h om fr wt none (σ.add 16) with seen := σ.add 16, pc := pc + itemWidth C pc, pos := pos + 1 } : M) = _
  rw [hi]
  rfl
theorem lit_no (hpc : pc < C.size) (ho : C.getD pc 0 = 16) (hT : pos < n → T.getD pos 0 ≠ C.getD (pc + 1) 0) : (st C T n b ls must pc pos h om fr wt none σ).step = st C T n b ls must pc pos h om fr wt (some false) (σ.add 16) := by
  rw [step_exec hpc]
  have hw : (st C T n b ls must pc pos h om fr wt none σ).word 0 = 16 := ho
  unfold M.exec
  simp only [hw]
  show (if pos ≥ n then _ else _) = _
  by_cases hp : pos ≥ n
  · rw [if_pos hp]; rfl
  rw [if_neg hp]
  have ha : accepts C pc (T.getD pos 0) (σ.add 16) = .ok (false, σ.add 16) := by
    unfold accepts
    rw [ho]
    show Except.ok (T.getD pos 0 == C.getD (pc + 1) 0, _) = _
    rw [show (T.getD pos 0 == C.getD (pc + 1) 0) = false by simpa using hT (by omega)]
  show (match accepts C pc (T.getD pos 0) (σ.add 16) with | .error why => _ | .ok (false, seen) => _ | .ok (true, seen) => _) = _
  rw [ha]
  rfl
end
section
variable {T : Array Nat} {n b : Nat} {σ : Seen} {k : Nat}
/-! the second pattern, at a sign of the first set -/
noncomputable abbrev top2 (n b : Nat) : PySem.Sre.Frame := { wait := .nextStart, pc := 10, pos := b, outermost := true }
theorem two_crlf (h : b + 1 < n) (h1 : T.getD b 0 = 13) (h2 : T.getD (b + 1) 0 = 10) : Ends 20 (st c2 T n b n false 10 b b true [top2 n b] 1 none σ) (Matched b (b + 2)) := by
  refine ends_on (m' := st c2 T n b n false 12 b b true [{ wait := .nextBranch, pc := 11, pos := b, outermost := true, kept := {} }, top2 n b] 2 none (σ.add 7)) rfl ?_
  refine ends_on (lit_yes (by decide) rfl (by omega) h1) ?_
  refine ends_on (lit_yes (by decide) rfl (by omega) h2) ?_
  refine ends_on (m' := st c2 T n b n false 35 (b + 2) b true [{ wait := .nextBranch, pc := 11, pos := b, outermost := true, kept := {} }, top2 n b] 2 none _) rfl ?_
  refine ends_on (m' := st c2 T n b n false 35 (b + 2) (b + 2) true [{ wait := .nextBranch, pc := 11, pos := b, outermost := true, kept := {} }, top2 n b] 2 (some true) _) rfl ?_
  refine ends_on (m' := st c2 T n b n false 11 b (b + 2) true [top2 n b] 1 (some true) _) rfl ?_
  exact ends_yes rfl
theorem two_lf (h : b < n) (h1 : T.getD b 0 = 10) : Ends 20 (st c2 T n b n false 10 b b true [top2 n b] 1 none σ) (Matched b (b + 1)) := by
  refine ends_on (m' := st c2 T n b n false 12 b b true [{ wait := .nextBranch, pc := 11, pos := b, outermost := true, kept := {} }, top2 n b] 2 none (σ.add 7)) rfl ?_
  refine ends_on (lit_no (by decide) rfl fun _ => by rw [h1]; decide) ?_
  refine ends_on (m' := st c2 T n b n false 19 b b true [{ wait := .nextBranch, pc := 18, pos := b, outermost := true, kept := {} }, top2 n b] 2 none _) rfl ?_
  refine ends_on (lit_yes (by decide) rfl (by omega) h1) ?_
  refine ends_on (m' := st c2 T n b n false 35 (b + 1) b true [{ wait := .nextBranch, pc := 18, pos := b, outermost := true, kept := {} }, top2 n b] 2 none _) rfl ?_
  refine ends_on (m' := st c2 T n b n false 35 (b + 1) (b + 1) true [{ wait := .nextBranch, pc := 18, pos := b, outermost := true, kept := {} }, top2 n b] 2 (some true) _) rfl ?_
  refine ends_on (m' := st c2 T n b n false 18 b (b + 1) true [top2 n b] 1 (some true) _) rfl ?_
  exact ends_yes rfl
theorem two_cr (h : b < n) (h1 : T.getD b 0 = 13) (h2 : b + 1 < n → T.getD (b + 1) 0 ≠ 10) : Ends 20 (st c2 T n b n false 10 b b true [top2 n b] 1 none σ) (Matched b (b + 1)) := by
  refine ends_on (m' := st c2 T n b n false 12 b b true [{ wait := .nextBranch, pc := 11, pos := b, outermost := true, kept := {} }, top2 n b] 2 none (σ.add 7)) rfl ?_
  refine ends_on (lit_yes (by decide) rfl (by omega) h1) ?_
  refine ends_on (lit_no (by decide) rfl h2) ?_
  refine ends_on (m' := st c2 T n b n false 19 b b true [{ wait := .nextBranch, pc := 18, pos := b, outermost := true, kept := {} }, top2 n b] 2 none _) rfl ?_
  refine ends_on (lit_no (by decide) rfl fun _ => by rw [h1]; decide) ?_
  refine ends_on (m' := st c2 T n b n false 24 b b true [{ wait := .nextBranch, pc := 23, pos := b, outermost := true, kept := {} }, top2 n b] 2 none _) rfl ?_
  refine ends_on (lit_yes (by decide) rfl (by omega) h1) ?_
  refine ends_on (m' := st c2 T n b n false 29 (b + 1) (b + 1) false [{ wait := .lookNot, pc := 26, pos := b + 1, outermost := true, kept := {} }, { wait := .nextBranch, pc := 23, pos := b, outermost := true, kept := {} }, top2 n b] 3 none _) rfl ?_
  refine ends_on (lit_no (by decide) rfl h2) ?_
  refine ends_on (m' := st c2 T n b n false 32 (b + 1) (b + 1) true [{ wait := .nextBranch, pc := 23, pos := b, outermost := true, kept := {} }, top2 n b] 2 none _) rfl ?_
  refine ends_on (m' := st c2 T n b n false 35 (b + 1) (b + 1) true [{ wait := .nextBranch, pc := 23, pos := b, outermost := true, kept := {} }, top2 n b] 2 none _) rfl ?_
  refine ends_on (m' := st c2 T n b n false 35 (b + 1) (b + 1) true [{ wait := .nextBranch, pc := 23, pos := b, outermost := true, kept := {} }, top2 n b] 2 (some true) _) rfl ?_
  refine ends_on (m' := st c2 T n b n false 23 b (b + 1) true [top2 n b] 1 (some true) _) rfl ?_
  exact ends_yes rfl
end
section
variable {T : Array Nat} {n s e : Nat} {om : Bool} {σ : Seen} {k : Nat} {P : M → Prop}
/-! the first pattern -/
noncomputable def A1 (T : Array Nat) (n s : Nat) (om : Bool) (σ : Seen) : M := st c1 T n s n false 5 s s om [{ wait := .nextStart, pc := 5, pos := s, outermost := om }] 1 none σ
noncomputable def Line (T : Array Nat) (s : Nat) : Prop := s = 0 ∨ T.getD (s - 1) 0 = 10
theorem at_yes (h : Line T s) : (A1 T n s om σ).step = st c1 T n s n false 7 s s om [{ wait := .nextStart, pc := 5, pos := s, outermost := om }] 1 none ((σ.add 6).add 44) := by
  have hb : (s == 0 || T.getD (s - 1) 0 == 10) = true := by rcases h with h | h <;> simp [h]
  show (match (Except.ok (s == 0 || T.getD (s - 1) 0 == 10) : Except String Bool) with | .error why => (st c1 T n s n false 5 s s om [{ wait := .nextStart, pc := 5, pos := s, outermost := om }] 1 none (σ.add 6)).stick why | .ok yes => if yes then st c1 T n s n false 7 s s om [{ wait := .nextStart, pc := 5, pos := s, outermost := om }] 1 none ((σ.add 6).add 44) else (st c1 T n s n false 5 s s om [{ wait := .nextStart, pc := 5, pos := s, outermost := om }] 1 none ((σ.add 6).add 44)).say false) = _
  rw [hb]
  rfl
theorem at_no (h : ¬ Line T s) : (A1 T n s om σ).step = st c1 T n s n false 5 s s om [{ wait := .nextStart, pc := 5, pos := s, outermost := om }] 1 (some false) ((σ.add 6).add 44) := by
  have hb : (s == 0 || T.getD (s - 1) 0 == 10) = false := by
    unfold Line at h
    rw [Bool.or_eq_false_iff, beq_eq_false_iff_ne, beq_eq_false_iff_ne]
    exact ⟨fun e => h (.inl e), fun e => h (.inr e)⟩
  show (match (Except.ok (s == 0 || T.getD (s - 1) 0 == 10) : Except String Bool) with | .error why => (st c1 T n s n false 5 s s om [{ wait := .nextStart, pc := 5, pos := s, outermost := om }] 1 none (σ.add 6)).stick why | .ok yes => if yes then st c1 T n s n false 7 s s om [{ wait := .nextStart, pc := 5, pos := s, outermost := om }] 1 none ((σ.add 6).add 44) else (st c1 T n s n false 5 s s om [{ wait := .nextStart, pc := 5, pos := s, outermost := om }] 1 none ((σ.add 6).add 44)).say false) = _
  rw [hb]
  rfl
theorem no_more {pc pos h : Nat} {om' : Bool} (hs : s < n) : (st c1 T n s n false pc pos h om [{ wait := .nextStart, pc := 5, pos := s, outermost := om' }] 1 (some false) σ).step = A1 T n (s + 1) false σ := by
  show (if s < n then _ else _) = _
  rw [if_pos hs]
  rfl
theorem no_end {pc pos h : Nat} {om' : Bool} (hs : ¬ s < n) : (st c1 T n s n false pc pos h om [{ wait := .nextStart, pc := 5, pos := s, outermost := om' }] 1 (some false) σ).step = st c1 T n s n false 5 s h om' [] 0 (some false) σ := by
  show (if s < n then _ else _) = _
  rw [if_neg hs]
  rfl
noncomputable def Hit (T : Array Nat) (n s : Nat) : Prop := Line T s ∧ s < n ∧ T.getD s 0 = 46
theorem one_no (h : ¬ Hit T n s) (hs : s < n) (hk : ∀ σ, Ends k (A1 T n (s + 1) false σ) P) : Ends (k + 3) (A1 T n s om σ) P := by
  by_cases hl : Line T s
  · refine ends_on (at_yes hl) ?_
    refine ends_on (lit_no (by decide) rfl fun _ hc => h ⟨hl, hs, hc⟩) ?_
    exact ends_on (no_more hs) (hk _)
  · refine ends_mono (ends_on (at_no hl) (ends_on (no_more hs) (hk _))) (by omega)
theorem one_end (hs : ¬ s < n) : Ends 5 (A1 T n s om σ) Failed := by
  by_cases hl : Line T s
  · refine ends_on (at_yes hl) ?_
    refine ends_on (lit_no (by decide) rfl fun h => absurd h hs) ?_
    exact ends_on (no_end hs) (ends_say rfl rfl rfl rfl)
  · exact ends_mono (ends_on (at_no hl) (ends_on (no_end hs) (ends_say (k := 0) rfl rfl rfl rfl))) (by omega)
theorem one_hit (h : Hit T n s) : Ends 6 (A1 T n s om σ) (Matched s (s + 1)) := by
  refine ends_on (at_yes h.1) ?_
  refine ends_on (lit_yes (by decide) rfl h.2.1 h.2.2) ?_
  refine ends_on (m' := st c1 T n s n false 9 (s + 1) (s + 1) om [{ wait := .nextStart, pc := 5, pos := s, outermost := om }] 1 (some true) ((((σ.add 6).add 44).add 16).add 1)) ?_ (ends_yes rfl)
  show (if (om && (false || false)) = true then _ else _) = _
  rw [if_neg (by simp)]
  rfl
theorem one_scan : ∀ (d s : Nat) (om : Bool) (σ : Seen), s + d = e → e ≤ n → (∀ i, s ≤ i → i < e → ¬ Hit T n i) → (∀ om σ, Ends k (A1 T n e om σ) P) → Ends (k + 3 * d) (A1 T n s om σ) P
  | 0, s, om, σ, hd, _, _, hk => by
    have : s = e := by omega
    subst this
    exact hk _ _
  | d + 1, s, om, σ, hd, he, hn, hk => by
    rw [show k + 3 * (d + 1) = k + 3 * d + 3 by omega]
    exact one_no (hn s (Nat.le_refl _) (by omega)) (by omega) fun σ => one_scan d (s + 1) false σ (by omega) he (fun i h1 h2 => hn i (by omega) h2) hk
theorem find_one (hs : s ≤ e) (he : Hit T n e) (hn : ∀ i, s ≤ i → i < e → ¬ Hit T n i) : Ends (6 + 3 * (e - s)) (forSearch c1 T 0 s n false) (Matched e (e + 1)) := by
  have := he.2.1
  rw [forSearch_eq (by simp [Known]), if_neg (by simp; omega)]
  show Ends _ (A1 T n s true σ0) _
  exact one_scan (e - s) s true _ (by omega) (by omega) hn fun _ _ => one_hit he
theorem find_none (hn : ∀ i, s ≤ i → i < n → ¬ Hit T n i) : Ends (5 + 3 * (n - s)) (forSearch c1 T 0 s n false) Failed := by
  rw [forSearch_eq (by simp [Known])]
  split
  · exact ends_mono (k := 2) (ends_say rfl rfl rfl rfl) (by omega)
  · rename_i h
    simp at h
    show Ends _ (A1 T n s true σ0) _
    exact one_scan (n - s) s true _ (by omega) (by omega) hn fun _ _ => one_end (by omega)
end
end Mine
end

section -- WRe
open PySem PySem.W PySem.Spec PySem.Calls PyProof.Rows PySem.Builtin.Re PySem.Builtin
namespace Mine
set_option maxRecDepth 100000
section
variable {M : Model} {A : Around} {E : Value → Shared → Prop} {s : Shared}
theorem drive_wp {P : Sre.M → Prop} {Q : Sre.M → Shared → Prop} : ∀ (k turns : Nat) {m : Sre.M}, Ends k m P → k < turns → (∀ m', m'.outcome.isSome = true → P m' → Q m' s) → wpAny M A (reDrive turns m) Q E s := by
  intro k
  induction k using Nat.strongRecOn with
  | _ k ih =>
    intro turns m h hk hQ
    cases turns with
    | zero => omega
    | succ turns =>
      unfold reDrive
      have h' := ends_runFor 4 h
      show wpAny M A (if (Sre.M.runFor 4 m).outcome.isSome = true then pure (Sre.M.runFor 4 m) else (rule "sre.turn" >>= fun _ => reDrive turns (Sre.M.runFor 4 m))) Q E s
      by_cases e : (Sre.M.runFor 4 m).outcome.isSome = true
      · rw [if_pos e]; exact wpAny_pure (hQ _ e (ends_done h' e))
      · rw [if_neg e]
        refine wpAny_bind (wpAny_rule ?_)
        cases k with
        | zero => exact absurd (show (Sre.M.runFor 4 m).outcome.isSome = true by have := h'.1; exact this) e
        | succ k => exact ih (k + 1 - 4) (by omega) turns h' (by omega) hQ
theorem rules_wp {Q : PUnit → Shared → Prop} (p : Nat → Bool) (f : Nat → String) (h : Q ⟨⟩ s) : ∀ l : List Nat, wpAny M A (forIn l PUnit.unit fun i _ => if p i = true then (rule (f i) >>= fun _ => pure (ForInStep.yield PUnit.unit)) else pure (ForInStep.yield PUnit.unit)) Q E s := by
  intro l
  induction l with
  | nil => exact wpAny_pure h
  | cons i l ih =>
    rw [List.forIn_cons]
    refine wpAny_bind ?_
    by_cases e : p i = true
    · rw [if_pos e]; exact wpAny_bind (wpAny_rule (wpAny_pure ih))
    · rw [if_neg e]; exact wpAny_pure ih
theorem ends_wp {P : Sre.M → Prop} {Q : Option Sre.M → Shared → Prop} {k : Nat} {m : Sre.M} (h : Ends k m P) (hk : k < 2 ^ 64) (hQ : ∀ m', P m' → (m'.outcome = some .matched ∧ Q (some m') s) ∨ (m'.outcome = some .failed ∧ Q none s)) : wpAny M A (reRunToEnd m) Q E s := by
  unfold reRunToEnd
  refine wpAny_bind (drive_wp k _ h hk fun m' _ hp => ?_)
  refine wpAny_bind (rules_wp (fun i => m'.seen.has i) (fun i => Sre.names.getD i "") ?_ _)
  rcases hQ m' hp with ⟨e, q⟩ | ⟨e, q⟩ <;> (simp only [e]; exact wpAny_pure q)
theorem named1 (v : Value) (id f : String) : reNamed id f ["string", "pos", "endpos"] 1 [v] [] = pure [some v, none, none] := rfl
theorem named2 (v x : Value) (id f : String) : reNamed id f ["repl", "string", "count"] 2 [v, x] [] = pure [some v, some x, none] := rfl

/-- a pattern of ours at p, its code's words -/
noncomputable def IsPat (h : Heap) (p : Addr) (C : Array Nat) : Prop := ∃ o vs c oc items n t1 t2, h.get? p = some o ∧ o.cls = .type "re.Pattern" ∧ o.dict = none ∧ o.data = .fields vs ∧ vs.getD 5 .none = .ref c ∧ vs.getD 2 .none = .int 0 t1 ∧ vs.getD 6 .none = .int 0 t2 ∧ h.get? c = some oc ∧ oc.cls = .type "tuple" ∧ oc.data = .seq items n ∧ (items.map reRawOf).map (·.toNat) = C
theorem textOf_wp {x : Str} {t : Tok} {Q : Array Nat × Nat → Shared → Prop} (h : Q (x.cps, 0) s) : wpAny M A (reTextOf (.str x t)) Q E s := by
  unfold reTextOf
  exact wpAny_bind (wpAny_pure (wpAny_pure h))
theorem rawItems_wp {a : Addr} {o : Obj} {items n} {Q : Array Int → Shared → Prop} (ho : s.heap.get? a = some o) (hd : o.data = .seq items n) (h : Q (items.map reRawOf) s) : wpAny M A (reRawItems (.ref a)) Q E s := by
  unfold reRawItems
  exact wpAny_bind (wpAny_seqItems ho hd (wpAny_pure h))
theorem whole_wp {p : Addr} {C : Array Nat} {x : Str} {t : Tok} {Q : ReTarget → Shared → Prop} (hp : IsPat s.heap p C) (h : Q { pattern := .ref p, string := .str x t, code := C, text := x.cps, kind := 0, groups := 0, pos := 0, lim := x.cps.size } s) :
    wpAny M A (reWholeTarget (.ref p) (.str x t)) Q E s := by
  obtain ⟨o, vs, c, oc, items, n, t1, t2, ho, _, _, hd, h5, h2, h6, hc, _, hcd, hi⟩ := hp
  unfold reWholeTarget
  refine wpAny_bind (wpAny_fieldsOf ho hd ?_)
  refine wpAny_bind (textOf_wp ?_)
  simp only [h6, h5, h2, reRawNat]
  refine wpAny_bind (wpAny_pure ?_)
  refine wpAny_bind (rawItems_wp hc hcd ?_)
  refine wpAny_pure ?_
  rw [hi]
  exact h
theorem target_wp {p : Addr} {C : Array Nat} {x : Str} {t : Tok} {id f : String} {Q : ReTarget → Shared → Prop} (hp : IsPat s.heap p C) (hx : x.length ≤ 16777216) (h : Q { pattern := .ref p, string := .str x t, code := C, text := x.cps, kind := 0, groups := 0, pos := 0, lim := x.cps.size } s) :
    wpAny M A (reTarget id f ⟨[.ref p, .str x t], []⟩) Q E s := by
  obtain ⟨o, vs, c, oc, items, n, t1, t2, ho, _, _, hd, h5, h2, h6, hc, _, hcd, hi⟩ := hp
  unfold reTarget
  simp only [named1]
  refine wpAny_bind (wpAny_pure ?_)
  refine wpAny_bind (wpAny_pure ?_)
  refine wpAny_bind (wpAny_pure ?_)
  refine wpAny_bind (wpAny_fieldsOf ho hd ?_)
  refine wpAny_bind (textOf_wp ?_)
  simp only [h6, h5, h2, reRawNat]
  refine wpAny_bind (wpAny_pure ?_)
  refine wpAny_bind (rawItems_wp hc hcd ?_)
  refine wpAny_pure ?_
  rw [hi]
  have e1 : min (Int.toNat 0) x.cps.size = 0 := by simp
  have hx' : x.cps.size ≤ 16777216 := hx
  have e2 : min (Int.toNat (2 ^ 63 - 1)) x.cps.size = x.cps.size := by
    rw [show Int.toNat (2 ^ 63 - 1) = 9223372036854775807 by decide]; omega
  rw [e1, e2]
  exact h
end
section
variable {prog : Program} {w : World} {A : Around} {E : Value → Shared → Prop} {s : Shared}
theorem IsPat.typeIs {p : Addr} {C : Array Nat} (hp : IsPat s.heap p C) : s.TypeIs (.ref p) "re.Pattern" := by
  obtain ⟨o, vs, c, oc, items, n, t1, t2, ho, hc, _⟩ := hp
  exact ⟨o, ho, hc⟩
theorem IsPat.noDict {h : Heap} {p : Addr} {C : Array Nat} (hp : IsPat h p C) : ∀ a, (Value.ref p) = .ref a → ∃ o, h.get? a = some o ∧ o.dict = none := by
  obtain ⟨o, vs, c, oc, items, n, t1, t2, ho, hc, hd, _⟩ := hp
  rintro _ ⟨⟩
  exact ⟨o, ho, hd⟩
theorem search_no_wp {p : Addr} {C : Array Nat} {x : Str} {t : Tok} {Q : Value → Shared → Prop} (hp : IsPat s.heap p C) (hC : C = cN ∨ C = cV) (hx : x.length ≤ 16777216) (hok : ∀ c ∈ x.cps, 32 ≤ c ∧ c ≠ 127) (h : Q .none s) :
    wpAny (model prog w) A (call (.builtin "re.Pattern.search") [.ref p, .str x t]) Q E s := by
  refine call_meetsIn (S := fun A R s' => s' = s ∧ R (.ok (.ret .none)) s) slot_search hp.typeIs entry_search (args_search _ _) (MeetsIn.of_wp fun A R s' hs => ?_) ⟨rfl, h⟩
  obtain ⟨rfl, hR⟩ := hs
  unfold «re.Pattern.search»
  refine wpAny_bind (target_wp hp hx ?_)
  unfold reAnswer
  refine wpAny_bind (ends_wp (search_none (hC.elim .inl fun h => .inr (.inl h)) fun i σ _ hi => ?_) (by decide) fun m' hm => .inr ⟨hm, ?_⟩)
  · have hc := hok (x.cps.getD i 0) (by rw [Array.getD_eq_getD_getElem?, Array.getElem?_eq_getElem hi]; exact Array.getElem_mem hi)
    rcases hC with rfl | rfl
    · exact inSet_N _ σ hc.1 hc.2
    · exact inSet_V _ σ hc.1 hc.2
  · exact wpAny_pure ⟨_, rfl, hR⟩
end
end Mine
end

section -- WSub
open PySem PySem.W PySem.Spec PySem.Calls PyProof.Rows PySem.Builtin.Re PySem.Builtin
namespace Mine
set_option maxRecDepth 100000
theorem str_no_call : typeLookup (.type "str") "__call__" = pure none := by rw [typeLookup_type, builtinLookup_eq_fast]; kernel_rfl
noncomputable def cutL (x : Str) (b e : Nat) : List Str := if b < e then [⟨x.cps.extract b e⟩] else []
section
variable {prog : Program} {w : World} {A : Around} {E : Value → Shared → Prop} {s : Shared}
theorem slice_wp {M : Model} {x : Str} {b e : Nat} {Q : Value → Shared → Prop} (hx : x.length ≤ 10000) (h : ∀ t k, Q (.str ⟨x.cps.extract b e⟩ t) { s with toks := k }) : wpAny M A (reSlice x.cps 0 b e) Q E s := by
  show wpAny M A (mkStr _) Q E s
  refine wpAny_mkStr (h _ _) ?_
  show (x.cps.extract b e).size ≤ sizeLine
  have hx' : x.cps.size ≤ 10000 := hx
  rw [Array.size_extract, sizeLine_eq]; omega
/-- the list of the pieces, as it grows -/
noncomputable def Grows (h₁ : Heap) (D : Addr) (h : Heap) (ys : List Str) : Prop := Heap.SameBut D h₁ h ∧ ∃ vs n, h.get? D = some { cls := .type "list", data := .seq vs n } ∧ StrsAre vs.toList ys
theorem are_len {ys : List Str} {vs : Array Value} (hv : StrsAre vs.toList ys) : vs.size = ys.length := by
  have := hv.length
  simpa using this
theorem push_wp {M : Model} {h₁ : Heap} {D : Addr} {ys : List Str} {y : Str} {t : Tok} {Q : Unit → Shared → Prop} (g : Grows h₁ D s.heap ys) (hl : ys.length ≤ 10000) (h : ∀ h', Grows h₁ D h' (ys ++ [y]) → Q () { s with heap := h' }) : wpAny M A (updateSeq D (·.push (.str y t))) Q E s := by
  obtain ⟨sb, vs, n, hD, hv⟩ := g
  have hz := are_len hv
  obtain ⟨q, hq⟩ : ∃ q, Obj.mapSeq (·.push (.str y t)) { cls := .type "list", data := .seq vs n } = ({ cls := .type "list", data := .seq (vs.push (.str y t)) q } : Obj) := ⟨_, rfl⟩
  refine wpAny_updateSeq hD rfl (h (s.heap.update D (Obj.mapSeq (·.push (.str y t)))) ⟨sb.trans (Heap.SameBut.update ..), vs.push (.str y t), q, ?_, ?_⟩) (by rw [sizeLine_eq]; omega) (by rw [sizeLine_eq, Array.size_push]; omega)
  · rw [Heap.get?_update_self _ hD rfl, ← hq]
  · rw [Array.toList_push]; exact sa_snoc hv

theorem codeAny_b {id : String} {args : Args} {b : Builtin} {R : Result → Shared → Prop} (hb : entryFor table id = some b)
    (h : wpAny (model prog w) (A.under (.builtin id args)) (b args) (fun fin s' => match fin with | .done f => R (.ok f) s' | .again c' => c'.quiet = true ∧ codeAny (model prog w) A c' R s') (fun e s' => R (.error e) s') s) :
    codeAny (model prog w) A (.builtin id args) R s := by
  refine codeAny_of_tree ?_
  have hden : (model prog w).den (.builtin id args) = b args := by
    show (match entryFor table id with | some b => b args | none => unsupported ((withoutEnding? id "#data").getD id)) = _
    rw [hb]
  rw [hden]
  exact h
noncomputable def loopArgs (p D : Addr) (x r : Str) (t tr : Tok) (n done start : Int) (must : Bool) : Args := ⟨[.ref p, .str x t, .str r tr, rawInt 0, rawInt 0, rawInt n, rawInt done, rawInt start, .bool must, .ref D, .bool false], []⟩
theorem IsPat.keeps {h h' : Heap} {p : Addr} {C : Array Nat} (hp : IsPat h p C) (k : ∀ b o, h.get? b = some o → h'.get? b = some o) : IsPat h' p C := by
  obtain ⟨o, vs, c, oc, items, n, t1, t2, ho, hc, hd, e, h5, h2, h6, hc', r⟩ := hp
  exact ⟨o, vs, c, oc, items, n, t1, t2, k _ _ ho, hc, hd, e, h5, h2, h6, k _ _ hc', r⟩
theorem IsPat.grows {h₁ h : Heap} {p D : Addr} {C : Array Nat} {ys : List Str} (hp : IsPat h₁ p C) (hD : h₁.get? D = some { cls := .type "list", data := .seq #[] }) (g : Grows h₁ D h ys) : IsPat h p C := by
  obtain ⟨o, vs, c, oc, items, n, t1, t2, ho, hc, hd, e, h5, h2, h6, hc', hcc, r⟩ := hp
  have n1 : p ≠ D := by rintro rfl; rw [hD] at ho; cases ho; exact absurd hc (by simp)
  have n2 : c ≠ D := by rintro rfl; rw [hD] at hc'; cases hc'; exact absurd hcc (by simp)
  exact ⟨o, vs, c, oc, items, n, t1, t2, (g.1.2 _ n1).trans ho, hc, hd, e, h5, h2, h6, (g.1.2 _ n2).trans hc', hcc, r⟩
theorem loop_turn {p D : Addr} {C : Array Nat} {x r : Str} {t tr : Tok} {n done start b e k : Nat} {must : Bool} {h₁ : Heap} {ys : List Str} {R : Result → Shared → Prop}
    (hp : IsPat s.heap p C) (g : Grows h₁ D s.heap ys) (hl : ys.length ≤ 9000) (hx : x.length ≤ 10000) (hE : Ends k (Sre.forSearch C x.cps 0 start x.cps.size must) (Matched b e)) (hk : k < 2 ^ 64)
    (h : ∀ h' tk, Grows h₁ D h' (ys ++ cutL x done b ++ [r]) → codeAny (model prog w) A (.builtin "re.Pattern.sub.loop" (loopArgs p D x r t tr (n + 1) e e (e == b))) R { s with heap := h', toks := tk }) :
    codeAny (model prog w) A (.builtin "re.Pattern.sub.loop" (loopArgs p D x r t tr n done start must)) R s := by
  refine codeAny_b entry_loop ?_
  unfold «re.Pattern.sub.loop» loopArgs rawInt
  refine wpAny_bind (whole_wp hp ?_)
  dsimp only
  rw [if_pos (by rfl)]
  refine wpAny_bind (wpAny_bind (wpAny_pure ?_))
  rw [if_neg (by simp)]
  refine wpAny_pure ?_
  rw [if_neg (by simp)]
  refine wpAny_bind (ends_wp hE hk fun m' hm => .inl ⟨hm.1, ?_⟩)
  dsimp only
  rw [hm.2.1, hm.2.2]
  have fin : ∀ h' tk ys', Grows h₁ D h' ys' → ys' = ys ++ cutL x done b → wpAny (model prog w) (A.under (.builtin "re.Pattern.sub.loop" (loopArgs p D x r t tr n done start must)))
      (updateSeq D (·.push (.str r tr)) >>= fun _ => again (.builtin "re.Pattern.sub.loop" (loopArgs p D x r t tr (n + 1) e e (e == b)))) (fun fin s' => match fin with | .done f => R (.ok f) s' | .again c' => c'.quiet = true ∧ codeAny (model prog w) A c' R s') (fun e s' => R (.error e) s') { s with heap := h', toks := tk } := by
    intro h' tk ys' g' e'
    subst e'
    refine wpAny_bind (push_wp g' ?_ fun h'' g'' => ?_)
    · unfold cutL; split <;> simp <;> omega
    · exact wpAny_pure ⟨Code.quiet_builtin _ (by decide +kernel), h _ _ g''⟩
  by_cases hb : done < b
  · rw [if_pos (by simpa using hb)]
    refine wpAny_bind (slice_wp hx fun t' k' => ?_)
    refine wpAny_bind (push_wp g (by omega) fun h' g' => ?_)
    dsimp only
    rw [if_pos (by rfl)]
    refine wpAny_bind (wpAny_pure ?_)
    rw [if_pos (by rfl)]
    exact fin h' _ _ g' (by unfold cutL; rw [if_pos hb]; rfl)
  · rw [if_neg (by simpa using hb)]
    rw [if_pos (by rfl)]
    refine wpAny_bind (wpAny_pure ?_)
    rw [if_pos (by rfl)]
    exact fin s.heap s.toks ys g (by unfold cutL; rw [if_neg hb, List.append_nil])

theorem loop_end {p D : Addr} {C : Array Nat} {x r : Str} {t tr : Tok} {n done start k : Nat} {must : Bool} {h₁ : Heap} {ys : List Str} {R : Result → Shared → Prop}
    (hp : IsPat s.heap p C) (g : Grows h₁ D s.heap ys) (hl : ys.length ≤ 9000) (hx : x.length ≤ 10000) (hE : Ends k (Sre.forSearch C x.cps 0 start x.cps.size must) Failed) (hk : k < 2 ^ 64) (hne : ys ≠ [])
    (hsz : ((ys ++ cutL x done x.cps.size).map (·.length)).sum ≤ 16777216)
    (h : ∀ h' tk t', Heap.SameBut D h₁ h' → R (.ok (.ret (.str (Txt.join ⟨#[]⟩ (ys ++ cutL x done x.cps.size)) t'))) { s with heap := h', toks := tk }) :
    codeAny (model prog w) A (.builtin "re.Pattern.sub.loop" (loopArgs p D x r t tr n done start must)) R s := by
  refine codeAny_b entry_loop ?_
  unfold «re.Pattern.sub.loop» loopArgs rawInt
  refine wpAny_bind (whole_wp hp ?_)
  dsimp only
  rw [if_pos (by rfl)]
  refine wpAny_bind (wpAny_bind (wpAny_pure ?_))
  rw [if_neg (by simp)]
  refine wpAny_pure ?_
  rw [if_neg (by simp)]
  refine wpAny_bind (ends_wp hE hk fun m' hm => .inr ⟨hm, ?_⟩)
  dsimp only
  have fin : ∀ h' tk ys' (j : Sem PySem.Fin), Grows h₁ D h' ys' → ys' = ys ++ cutL x done x.cps.size → j = (do
      let joiner ← reSlice x.cps 0 0 0
      let l ← seqItems? (Value.ref D)
      if (l.getD #[]).isEmpty = true then (do let text ← pure joiner; ret text) else (do let text ← call (.builtin "str.join") [joiner, .ref D]; ret text)) → wpAny (model prog w) (A.under (.builtin "re.Pattern.sub.loop" (loopArgs p D x r t tr n done start must)))
      j (fun fin s' => match fin with | .done f => R (.ok f) s' | .again c' => c'.quiet = true ∧ codeAny (model prog w) A c' R s') (fun e s' => R (.error e) s') { s with heap := h', toks := tk } := by
    rintro h' tk ys' j g' e' rfl
    refine wpAny_bind (slice_wp hx fun t' k' => ?_)
    have g'' := g'
    obtain ⟨sb, vs, m, hD, hv⟩ := g'
    refine wpAny_bind (wpAny_seqItems hD rfl ?_)
    have hz := are_len hv
    rw [if_neg (by
      intro hem
      have : vs.size = 0 := by simpa using hem
      rw [hz, e', List.length_append] at this
      exact hne (List.eq_nil_of_length_eq_zero (by omega)))]
    refine wpAny_bind ?_
    subst e'
    have e0 : (⟨x.cps.extract 0 0⟩ : Str) = ⟨#[]⟩ := by simp
    rw [e0]
    refine join_list (ys := ys ++ cutL x done x.cps.size) ⟨_, hD, rfl, _, rfl⟩ hv (by simpa [Str.length] using hsz) fun t' k' => ?_
    exact wpAny_pure (h _ _ _ sb)
  by_cases hb : done < x.cps.size
  · rw [if_pos (by simpa using hb)]
    refine wpAny_bind (slice_wp hx fun t' k' => ?_)
    refine wpAny_bind (push_wp g (by omega) fun h' g' => ?_)
    exact fin h' _ _ _ g' (by unfold cutL; rw [if_pos hb]; rfl) rfl
  · rw [if_neg (by simpa using hb)]
    exact fin s.heap s.toks ys _ g (by unfold cutL; rw [if_neg hb, List.append_nil]) rfl

noncomputable def Finds (C T : Array Nat) (start : Nat) : List (Nat × Nat) → Prop
  | [] => ∃ k, k < 2 ^ 64 ∧ Ends k (Sre.forSearch C T 0 start T.size false) Failed
  | (b, e) :: ms => ∃ k, k < 2 ^ 64 ∧ Ends k (Sre.forSearch C T 0 start T.size false) (Matched b e) ∧ e ≠ b ∧ Finds C T e ms
noncomputable def pieces (x r : Str) (done : Nat) : List (Nat × Nat) → List Str
  | [] => cutL x done x.cps.size
  | (b, e) :: ms => cutL x done b ++ [r] ++ pieces x r e ms
theorem loop_all {p D : Addr} {C : Array Nat} {x r : Str} {t tr : Tok} {h₁ : Heap} {R : Result → Shared → Prop} (hp : IsPat h₁ p C) (hD : h₁.get? D = some { cls := .type "list", data := .seq #[] }) (hx : x.length ≤ 10000) : ∀ (ms : List (Nat × Nat)) (done n : Nat) (ys : List Str) (s : Shared), Finds C x.cps done ms → Grows h₁ D s.heap ys → ys.length + 2 * ms.length ≤ 9000 → (ys ≠ [] ∨ ms ≠ []) →
    ((ys ++ pieces x r done ms).map (·.length)).sum ≤ 16777216 →
    (∀ h' tk t', Heap.SameBut D h₁ h' → R (.ok (.ret (.str (Txt.join ⟨#[]⟩ (ys ++ pieces x r done ms)) t'))) { s with heap := h', toks := tk }) →
    codeAny (model prog w) A (.builtin "re.Pattern.sub.loop" (loopArgs p D x r t tr n done done false)) R s := by
  intro ms
  induction ms with
  | nil =>
    intro done n ys s hF g hl hne hsz h
    obtain ⟨k, hk, hE⟩ := hF
    exact loop_end (hp.grows hD g) g (by simpa using hl) hx hE hk (hne.elim id fun h => absurd rfl h) hsz h
  | cons m ms ih =>
    obtain ⟨b, e⟩ := m
    intro done n ys s hF g hl hne hsz h
    obtain ⟨k, hk, hE, hne', hF⟩ := hF
    rw [List.length_cons] at hl
    refine loop_turn (hp.grows hD g) g (by omega) hx hE hk fun h' tk g' => ?_
    have e1 : (e == b) = false := by simpa using hne'
    have e2 : ys ++ cutL x done b ++ [r] ++ pieces x r e ms = ys ++ pieces x r done ((b, e) :: ms) := by
      show _ = ys ++ (cutL x done b ++ [r] ++ pieces x r e ms)
      simp only [List.append_assoc]
    rw [e1]
    refine ih e (n + 1) (ys ++ cutL x done b ++ [r]) _ hF g' ?_ (.inl (by simp)) (by rw [e2]; exact hsz) (by rw [e2]; exact h)
    have : (cutL x done b).length ≤ 1 := by unfold cutL; split <;> simp
    simp only [List.length_append, List.length_singleton]; omega
theorem sub_wp {p : Addr} {C : Array Nat} {x r : Str} {t tr : Tok} {Q : Value → Shared → Prop} {h₀ : Heap} {L : Addr} {m : Str → Option Value} {news : List (Addr × Obj)} {ms : List (Nat × Nat)} (F : Fr h₀ L s.heap m) (N : News h₀ L s.heap news)
    (hp : IsPat s.heap p C) (hr : r.cps.contains 92 = false) (hx : x.length ≤ 10000) (hF : Finds C x.cps 0 ms) (hms : ms ≠ []) (hlen : ms.length ≤ 4000) (hsz : ((pieces x r 0 ms).map (·.length)).sum ≤ 16777216)
    (h : ∀ h' tk t', Fr h₀ L h' m → News h₀ L h' news → Q (.str (Txt.join ⟨#[]⟩ (pieces x r 0 ms)) t') { s with heap := h', toks := tk }) :
    wpAny (model prog w) A (call (.builtin "re.Pattern.sub") [.ref p, .str r tr, .str x t]) Q E s := by
  refine call_meetsIn (S := fun A R s' => s' = s ∧ codeAny (model prog w) A (.builtin "re.Pattern.sub.loop" (loopArgs p s.heap.objs.size x r t tr 0 0 0 false)) R { s with heap := s.heap.push { cls := .type "list", data := .seq #[] } })
    slot_sub hp.typeIs entry_sub (args_sub _ _ _) (fun A R s' hs => ?_) ⟨rfl, ?_⟩
  · obtain ⟨rfl, hR⟩ := hs
    unfold «re.Pattern.sub» reSubstitute
    simp only [named2]
    refine wpAny_bind (wpAny_pure ?_)
    refine wpAny_bind (wpAny_pure ?_)
    refine wpAny_bind (wpAny_specialOf (typeIs_str _ _ _) str_no_call ?_)
    rw [if_neg (by decide)]
    refine wpAny_bind (wpAny_pure ?_)
    dsimp only
    rw [hr]
    refine wpAny_bind (wpAny_pure ?_)
    rw [if_neg (by decide), if_pos (by decide)]
    refine wpAny_bind (wpAny_pure ?_)
    refine wpAny_bind (wpAny_holding (whole_wp hp ?_))
    dsimp only
    rw [if_neg (by decide)]
    refine wpAny_bind (wpAny_newList ?_)
    exact wpAny_pure ⟨Code.quiet_builtin _ (by decide +kernel), hR⟩
  · have o0 : (s.heap.push { cls := .type "list", data := .seq #[] }).get? s.heap.objs.size = some { cls := .type "list", data := .seq #[] } := Heap.get?_push_size _ rfl
    refine loop_all (h₁ := s.heap.push { cls := .type "list", data := .seq #[] }) (hp.keeps fun _ _ e => Heap.get?_push_of_some _ e) o0 hx ms 0 0 [] _ hF ⟨.refl .., #[], 0, o0, .nil⟩ (by simp; omega) (.inr hms) hsz fun h' tk t' hs => ?_
    refine h h' tk t' (((Fr.pushS F _).change hs (Nat.ne_of_gt F.ns.lt) (next_is_new F))) fun q hq => ⟨?_, (N q hq).2⟩
    have hN := (N.grown (h' := s.heap.push { cls := .type "list", data := .seq #[] }) fun _ _ e => Heap.get?_push_of_some _ e) q hq
    exact hs.extBut _ _ (Nat.ne_of_lt (Heap.lt_size (N q hq).1)) hN.1
end
end Mine
end

section -- Quote
open PySem PySem.W PySem.Spec PySem.Calls PyProof.Rows PySem.Builtin.Re PySem.Builtin
namespace Mine
set_option maxRecDepth 100000
noncomputable def flat (l r : List Nat) (done : Nat) : List (Nat × Nat) → List Nat
  | [] => l.drop done
  | (b, e) :: ms => (l.take b).drop done ++ r ++ flat l r e ms
noncomputable def cds (y : Str) : List Nat := y.cps.toList
theorem S_cds (y : Str) : S (cds y) = y := by
  obtain ⟨a⟩ := y
  simp [S, cds]
theorem join_flat (ys : List Str) : Txt.join ⟨#[]⟩ ys = S (ys.flatMap cds) := by
  have h := txt_join (ys.map cds)
  rw [List.map_map, show (S ∘ cds) = fun x => x from funext S_cds, List.map_id'] at h
  rw [List.flatMap_def]
  exact h
theorem cutL_cds (l : List Nat) (b e : Nat) : (cutL (S l) b e).flatMap cds = (l.take e).drop b := by
  unfold cutL
  split
  · rw [List.flatMap_cons, List.flatMap_nil, List.append_nil]
    have := strSub_S l b e
    unfold Builtin.Str.strSub at this
    rw [this]
    simp [cds, S_list]
  · rename_i h
    rw [List.flatMap_nil, List.drop_eq_nil_of_le]
    rw [List.length_take]; omega
theorem pieces_flat (l r : List Nat) : ∀ (ms : List (Nat × Nat)) (done : Nat), (pieces (S l) (S r) done ms).flatMap cds = flat l r done ms
  | [], done => by
    show (cutL (S l) done (S l).length).flatMap cds = _
    rw [cutL_cds, S_len, List.take_length]; rfl
  | (b, e) :: ms, done => by
    show (cutL (S l) done b ++ [S r] ++ pieces (S l) (S r) e ms).flatMap cds = _
    rw [List.flatMap_append, List.flatMap_append, cutL_cds, pieces_flat l r ms e, List.flatMap_cons, List.flatMap_nil, List.append_nil]
    simp only [cds, S_list]
    rfl
theorem sum_cds (ys : List Str) : (ys.map (·.length)).sum = (ys.flatMap cds).length := by
  rw [List.length_flatMap]
  congr 1
theorem getD_S (l : List Nat) (i : Nat) : l.toArray.getD i 0 = l.getD i 0 := by simp
noncomputable def ends (i : Nat) : List Nat := if i % 3 = 0 then [10, 13] else if i % 3 = 1 then [13, 13] else [13, 10, 10]
noncomputable def hits2 (a i : Nat) : List (Nat × Nat) := if i % 3 = 2 then [(a, a + 2), (a + 2, a + 3)] else [(a, a + 1), (a + 1, a + 2)]
noncomputable def Plain (l : List Nat) : Prop := ∀ c ∈ l, c ≠ 10 ∧ c ≠ 13
theorem no_first {T : Array Nat} {i : Nat} {σ : Sre.Seen} (h : T.getD i 0 ≠ 10 ∧ T.getD i 0 ≠ 13) : okB (Sre.inSet c2 (T.getD i 0) c2.size 5 true σ) = some false := by
  rw [inSet_2, beq_false_of_ne h.1, beq_false_of_ne h.2]
  rfl
theorem yes_first {T : Array Nat} {i : Nat} {σ : Sre.Seen} (h : T.getD i 0 = 10 ∨ T.getD i 0 = 13) : okB (Sre.inSet c2 (T.getD i 0) c2.size 5 true σ) = some true := by
  rw [inSet_2]
  rcases h with h | h <;> (rw [h]; rfl)
theorem plain_get {a b : List Nat} {i : Nat} (h : Plain a) (hi : i < a.length) : (a ++ b).getD i 0 ≠ 10 ∧ (a ++ b).getD i 0 ≠ 13 := by
  rw [List.getD_eq_getElem?_getD, List.getElem?_append_left hi, List.getElem?_eq_getElem hi]
  exact h _ (List.getElem_mem hi)
theorem skip_get {a b : List Nat} {i : Nat} : (a ++ b).getD (a.length + i) 0 = b.getD i 0 := by
  rw [List.getD_eq_getElem?_getD, List.getElem?_append_right (by omega), List.getD_eq_getElem?_getD, Nat.add_sub_cancel_left]
theorem finds2 {tape ck : List Nat} (ht : Plain tape) (hc : Plain ck) (i : Nat) : Finds c2 (tape ++ (ends i ++ 46 :: ck)).toArray 0 (hits2 tape.length i) := by
  have hck : Plain (46 :: ck) := by
    intro c h
    rcases List.mem_cons.mp h with rfl | h
    · decide
    · exact hc c h
  generalize hT : (tape ++ (ends i ++ 46 :: ck)).toArray = T
  have gt : ∀ j, j < tape.length → T.getD j 0 ≠ 10 ∧ T.getD j 0 ≠ 13 := by
    intro j hj
    rw [← hT, getD_S]
    exact plain_get ht hj
  have ge : ∀ j, T.getD (tape.length + j) 0 = (ends i ++ 46 :: ck).getD j 0 := by
    intro j
    rw [← hT, getD_S]
    exact skip_get
  have gc : ∀ j, T.getD (tape.length + ((ends i).length + j)) 0 = (46 :: ck).getD j 0 := by
    intro j
    rw [ge]
    exact skip_get
  have hsz : T.size = tape.length + (ends i).length + 1 + ck.length := by
    rw [← hT]; simp; omega
  have hend : ∀ j, tape.length + (ends i).length ≤ j → j < T.size → T.getD j 0 ≠ 10 ∧ T.getD j 0 ≠ 13 := by
    intro j h1 h2
    obtain ⟨d, rfl⟩ : ∃ d, j = tape.length + ((ends i).length + d) := ⟨j - tape.length - (ends i).length, by omega⟩
    rw [gc]
    have hd : d < (46 :: ck).length := by rw [List.length_cons]; omega
    rw [List.getD_eq_getElem?_getD, List.getElem?_eq_getElem hd]
    exact hck _ (List.getElem_mem hd)
  have hf : Finds c2 T (tape.length + (ends i).length) [] := ⟨2, by decide, search_none (.inr (.inr rfl)) fun j σ h1 h2 => no_first (hend j h1 h2)⟩
  have c0 := gc 0
  rw [show (46 :: ck).getD 0 0 = 46 from rfl] at c0
  have go : ∀ {s b e : Nat} {ms : List (Nat × Nat)}, s ≤ b → b < T.size → (T.getD b 0 = 10 ∨ T.getD b 0 = 13) → (∀ j, s ≤ j → j < b → T.getD j 0 ≠ 10 ∧ T.getD j 0 ≠ 13) → e ≠ b → (∀ σ, Ends 20 (st c2 T T.size b T.size false 10 b b true [top2 T.size b] 1 none σ) (Matched b e)) → Finds c2 T e ms → Finds c2 T s ((b, e) :: ms) := by
    intro s b e ms h1 h2 h3 h4 h5 h6 h7
    exact ⟨20, by decide, search_some (.inr (.inr rfl)) h1 h2 (fun σ => yes_first h3) (fun j σ a b => no_first (h4 j a b)) h6, h5, h7⟩
  unfold hits2
  by_cases i2 : i % 3 = 2
  · rw [if_pos i2]
    have he : ends i = [13, 10, 10] := by unfold ends; rw [i2]; rfl
    rw [he] at ge hsz hf c0
    have e0 : T.getD tape.length 0 = 13 := ge 0
    have e1 : T.getD (tape.length + 1) 0 = 10 := ge 1
    have e2 : T.getD (tape.length + 2) 0 = 10 := ge 2
    simp only [List.length_cons, List.length_nil] at hsz hf
    exact go (Nat.zero_le _) (by omega) (.inr e0) (fun j _ h => gt j h) (by omega) (fun σ => two_crlf (by omega) e0 e1)
      (go (Nat.le_refl _) (by omega) (.inl e2) (fun j _ _ => by omega) (by omega) (fun σ => two_lf (by omega) e2) hf)
  · rw [if_neg i2]
    by_cases i0 : i % 3 = 0
    · have he : ends i = [10, 13] := by unfold ends; rw [i0]; rfl
      rw [he] at ge hsz hf c0
      have e0 : T.getD tape.length 0 = 10 := ge 0
      have e1 : T.getD (tape.length + 1) 0 = 13 := ge 1
      simp only [List.length_cons, List.length_nil] at hsz hf c0
      exact go (Nat.zero_le _) (by omega) (.inl e0) (fun j _ h => gt j h) (by omega) (fun σ => two_lf (by omega) e0)
        (go (Nat.le_refl _) (by omega) (.inr e1) (fun j _ _ => by omega) (by omega) (fun σ => two_cr (by omega) e1 fun _ => by rw [show tape.length + 1 + 1 = tape.length + (0 + 1 + 1 + 0) by omega, c0]; decide) hf)
    · have he : ends i = [13, 13] := by unfold ends; rw [if_neg i0, if_pos (by omega)]
      rw [he] at ge hsz hf c0
      have e0 : T.getD tape.length 0 = 13 := ge 0
      have e1 : T.getD (tape.length + 1) 0 = 13 := ge 1
      simp only [List.length_cons, List.length_nil] at hsz hf c0
      exact go (Nat.zero_le _) (by omega) (.inr e0) (fun j _ h => gt j h) (by omega) (fun σ => two_cr (by omega) e0 fun _ => by rw [e1]; decide)
        (go (Nat.le_refl _) (by omega) (.inr e1) (fun j _ _ => by omega) (by omega) (fun σ => two_cr (by omega) e1 fun _ => by rw [show tape.length + 1 + 1 = tape.length + (0 + 1 + 1 + 0) by omega, c0]; decide) hf)
theorem flat2 (tape ck : List Nat) (i : Nat) : flat (tape ++ (ends i ++ 46 :: ck)) [13, 10] 0 (hits2 tape.length i) = tape ++ ([13, 10, 13, 10] ++ 46 :: ck) := by
  have key : ∀ (en : List Nat) (b1 b2 : Nat), en.length = b2 → b1 ≤ b2 → flat (tape ++ (en ++ 46 :: ck)) [13, 10] 0 [(tape.length, tape.length + b1), (tape.length + b1, tape.length + b2)] = tape ++ ([13, 10, 13, 10] ++ 46 :: ck) := by
    intro en b1 b2 h1 h2
    subst h1
    show ((tape ++ _).take tape.length).drop 0 ++ [13, 10] ++ (((tape ++ (en ++ 46 :: ck)).take (tape.length + b1)).drop (tape.length + b1) ++ [13, 10] ++ (tape ++ (en ++ 46 :: ck)).drop (tape.length + en.length)) = _
    rw [List.take_left, List.drop_zero, List.drop_eq_nil_of_le (by rw [List.length_take]; omega), ← List.append_assoc tape en, show tape.length + en.length = (tape ++ en).length by rw [List.length_append], List.drop_left]
    simp
  unfold hits2 ends
  by_cases i2 : i % 3 = 2
  · rw [if_pos i2, i2]; exact key [13, 10, 10] 2 3 rfl (by omega)
  · rw [if_neg i2]
    by_cases i0 : i % 3 = 0
    · rw [i0]; exact key [10, 13] 1 2 rfl (by omega)
    · rw [if_neg i0, if_pos (by omega)]; exact key [13, 13] 1 2 rfl (by omega)

/-! the first pattern: dots at the rows' heads -/
noncomputable def dd (l : List Nat) : List Nat := if l.head? = some 46 then 46 :: l else l
noncomputable def hits1 (tape : List Nat) : List (Nat × Nat) := (if tape.head? = some 46 then [(0, 1)] else []) ++ [(tape.length + 4, tape.length + 5)]
theorem finds1 {tape ck : List Nat} (ht : Plain tape) (hc : Plain ck) (l1 : tape.length ≤ 10000000) (l2 : ck.length ≤ 10000000) : Finds c1 (tape ++ ([13, 10, 13, 10] ++ 46 :: ck)).toArray 0 (hits1 tape) := by
  have hck : Plain (46 :: ck) := by
    intro c h
    rcases List.mem_cons.mp h with rfl | h
    · decide
    · exact hc c h
  generalize hT : (tape ++ ([13, 10, 13, 10] ++ 46 :: ck)).toArray = T
  have hsz : T.size = tape.length + 4 + 1 + ck.length := by rw [← hT]; simp; omega
  have gt : ∀ j, j < tape.length → T.getD j 0 ≠ 10 := by
    intro j hj
    rw [← hT, getD_S]
    exact (plain_get ht hj).1
  have ge : ∀ j, T.getD (tape.length + j) 0 = ([13, 10, 13, 10] ++ 46 :: ck).getD j 0 := by
    intro j
    rw [← hT, getD_S]
    exact skip_get
  have gc : ∀ j, T.getD (tape.length + (4 + j)) 0 = (46 :: ck).getD j 0 := by
    intro j
    rw [ge]
    exact skip_get (a := [13, 10, 13, 10])
  have e0 : T.getD tape.length 0 = 13 := ge 0
  have e1 : T.getD (tape.length + 1) 0 = 10 := ge 1
  have e2 : T.getD (tape.length + 2) 0 = 13 := ge 2
  have e3 : T.getD (tape.length + 3) 0 = 10 := ge 3
  have e4 : T.getD (tape.length + 4) 0 = 46 := gc 0
  have none_ : ∀ j, 0 < j → j < T.size → j ≠ tape.length + 4 → ¬ Hit T T.size j := by
    rintro j h0 h1 h2 ⟨hl, -, h46⟩
    rcases hl with rfl | hl
    · omega
    · by_cases a : j - 1 < tape.length
      · exact gt _ a hl
      · by_cases b : j - 1 < tape.length + 4
        · obtain ⟨d, hd, hd'⟩ : ∃ d, j - 1 = tape.length + d ∧ d < 4 := ⟨j - 1 - tape.length, by omega, by omega⟩
          have hj : j = tape.length + d + 1 := by omega
          rw [hd] at hl
          match d, hd' with
          | 0, _ => rw [Nat.add_zero, e0] at hl; exact absurd hl (by decide)
          | 1, _ => rw [hj, e2] at h46; exact absurd h46 (by decide)
          | 2, _ => rw [e2] at hl; exact absurd hl (by decide)
          | 3, _ => exact h2 (by omega)
        · obtain ⟨d, hd⟩ : ∃ d, j - 1 = tape.length + (4 + d) := ⟨j - 1 - tape.length - 4, by omega⟩
          rw [hd, gc] at hl
          have hd2 : d < (46 :: ck).length := by rw [List.length_cons]; omega
          rw [List.getD_eq_getElem?_getD, List.getElem?_eq_getElem hd2] at hl
          exact (hck _ (List.getElem_mem hd2)).1 hl
  have z : tape.head? = some 46 ↔ Hit T T.size 0 := by
    have h0 : T.getD 0 0 = (tape ++ [13]).getD 0 0 := by
      rw [← hT, getD_S]
      cases tape <;> rfl
    unfold Hit Line
    rw [h0]
    cases tape with
    | nil => simp
    | cons c r => simp; omega
  have h4 : Hit T T.size (tape.length + 4) := ⟨.inr e3, by omega, e4⟩
  have last : ∀ s, s ≤ tape.length + 4 → (∀ j, s ≤ j → j < tape.length + 4 → ¬ Hit T T.size j) → Finds c1 T s [(tape.length + 4, tape.length + 5)] := by
    intro s hs hn
    refine ⟨_, ?_, find_one hs h4 hn, by omega, _, ?_, find_none fun j h1 h2 => none_ j (by omega) h2 (by omega)⟩
    · omega
    · omega
  unfold hits1
  by_cases hh : tape.head? = some 46
  · rw [if_pos hh]
    refine ⟨_, ?_, find_one (Nat.le_refl 0) (z.mp hh) (fun j h1 h2 => absurd h2 (by omega)), by omega, ?_⟩
    · omega
    · exact last 1 (by omega) fun j h1 h2 => none_ j (by omega) (by omega) (by omega)
  · rw [if_neg hh]
    refine last 0 (by omega) fun j h1 h2 => ?_
    by_cases j0 : j = 0
    · subst j0; exact fun h => hh (z.mpr h)
    · exact none_ j (by omega) (by omega) (by omega)
theorem flat1 (tape ck : List Nat) : flat (tape ++ ([13, 10, 13, 10] ++ 46 :: ck)) [46, 46] 0 (hits1 tape) = dd tape ++ ([13, 10, 13, 10] ++ 46 :: 46 :: ck) := by
  have tl : ∀ d, d ≤ tape.length → flat (tape ++ ([13, 10, 13, 10] ++ 46 :: ck)) [46, 46] d [(tape.length + 4, tape.length + 5)] = tape.drop d ++ ([13, 10, 13, 10] ++ 46 :: 46 :: ck) := by
    intro d hd
    show ((tape ++ ([13, 10, 13, 10] ++ 46 :: ck)).take (tape.length + 4)).drop d ++ [46, 46] ++ (tape ++ ([13, 10, 13, 10] ++ 46 :: ck)).drop (tape.length + 5) = _
    have a1 : (tape ++ ([13, 10, 13, 10] ++ 46 :: ck)).take (tape.length + 4) = tape ++ [13, 10, 13, 10] := by
      rw [← List.append_assoc, show tape.length + 4 = (tape ++ [13, 10, 13, 10]).length by simp, List.take_left]
    have a2 : (tape ++ ([13, 10, 13, 10] ++ 46 :: ck)).drop (tape.length + 5) = ck := by
      rw [show tape ++ ([13, 10, 13, 10] ++ 46 :: ck) = (tape ++ [13, 10, 13, 10, 46]) ++ ck by simp, show tape.length + 5 = (tape ++ [13, 10, 13, 10, 46]).length by simp, List.drop_left]
    rw [a1, a2, List.drop_append_of_le_length hd]
    simp
  unfold hits1 dd
  by_cases hh : tape.head? = some 46
  · rw [if_pos hh, if_pos hh]
    cases tape with
    | nil => cases hh
    | cons c r =>
      have hc : c = 46 := by simpa using hh
      subst hc
      show ((_ : List Nat).take 0).drop 0 ++ [46, 46] ++ flat _ [46, 46] 1 [((46 :: r).length + 4, (46 :: r).length + 5)] = _
      rw [tl 1 (by simp)]
      rfl
  · rw [if_neg hh, if_neg hh]
    exact tl 0 (by omega)
end Mine
end

local macro_rules | `(tactic| walk_at "mine pad") => `(tactic| fail)
local macro_rules | `(tactic| walk_at "mine pad") => `(tactic| fail)
local macro_rules | `(tactic| walk_at "mine pad") => `(tactic| fail)
section -- WQuote
open PySem PySem.W PySem.Spec PySem.Calls PyProof.Rows PyProof.Rows.LCg
namespace Mine
set_option maxRecDepth 100000
set_option pp.deepTerms false
set_option pp.deepTerms.threshold 6
set_option pp.proofs false
example : (PySem.Challenge.rw_sh0062_01, KK) = (PySem.Challenge.rw_sh0062_01, KK) := by k_fill; rfl

theorem pat50 {P : Params} {h : Heap} (X : (KK P).In h) : IsPat h 50 c1 := ⟨_, _, 49, _, _, _, _, _, X 50 _ rfl, rfl, rfl, rfl, rfl, rfl, rfl, X 49 _ rfl, rfl, rfl, by decide +kernel⟩
theorem pat55 {P : Params} {h : Heap} (X : (KK P).In h) : IsPat h 55 c2 := ⟨_, _, 54, _, _, _, _, _, X 55 _ rfl, rfl, rfl, rfl, rfl, rfl, rfl, X 54 _ rfl, rfl, rfl, by decide +kernel⟩
theorem pat131 {P : Params} {h : Heap} (X : (KK P).In h) : IsPat h 131 cN := ⟨_, _, 130, _, _, _, _, _, X 131 _ rfl, rfl, rfl, rfl, rfl, rfl, rfl, X 130 _ rfl, rfl, rfl, by decide +kernel⟩
theorem pat136 {P : Params} {h : Heap} (X : (KK P).In h) : IsPat h 136 cV := ⟨_, _, 135, _, _, _, _, _, X 136 _ rfl, rfl, rfl, rfl, rfl, rfl, rfl, X 135 _ rfl, rfl, rfl, by decide +kernel⟩
section
variable {w : World} {A : Around} {E : Value → Shared → Prop} {s : Shared} {h₀ : Heap} {L : Addr} {m : Str → Option Value} {news : List (Addr × Obj)}
theorem meth_sub {p : Addr} {C : Array Nat} {nm : Str} {pl : Sem Bool} {Q : Value × List Value → Shared → Prop} (hp : IsPat s.heap p C) (hn : nm = "sub") (h : Q (.builtin "re.Pattern.sub", [.ref p]) s) : wpAny (model pw w) A (getMethod (.ref p) nm pl) Q E s := by
  subst hn
  exact getMethod_builtin hp.typeIs plainAttrs_re slot_sub type_sub hp.noDict h
theorem meth_search {p : Addr} {C : Array Nat} {nm : Str} {pl : Sem Bool} {Q : Value × List Value → Shared → Prop} (hp : IsPat s.heap p C) (hn : nm = "search") (h : Q (.builtin "re.Pattern.search", [.ref p]) s) : wpAny (model pw w) A (getMethod (.ref p) nm pl) Q E s := by
  subst hn
  exact getMethod_builtin hp.typeIs plainAttrs_re slot_search type_search hp.noDict h
theorem len_ends (i : Nat) : (ends i).length ≤ 3 := by unfold ends; split; decide; split <;> decide
theorem sub2_wp {tape ck : List Nat} {i : Nat} {r : Str} {x : Str} {t tr : Tok} {Q : Value → Shared → Prop} (F : Fr h₀ L s.heap m) (X₀ : (KK w.params).In h₀) (N : News h₀ L s.heap news) (hr : r = S [13, 10]) (hx : x = S (tape ++ (ends i ++ 46 :: ck))) (ht : Plain tape) (hc : Plain ck) (l1 : tape.length ≤ 9000) (l2 : ck.length ≤ 500)
    (h : ∀ h' tk t', Fr h₀ L h' m → News h₀ L h' news → Q (.str (S (tape ++ ([13, 10, 13, 10] ++ 46 :: ck))) t') { s with heap := h', toks := tk }) :
    wpAny (model pw w) A (call (.builtin "re.Pattern.sub") [.ref 55, .str r tr, .str x t]) Q E s := by
  subst hr hx
  have le := len_ends i
  refine sub_wp F N (pat55 (X₀.keeps F.keep)) (by decide +kernel) (by rw [S_len]; simp only [List.length_append, List.length_cons]; omega) (finds2 ht hc i) (by unfold hits2; split <;> simp) (by unfold hits2; split <;> simp) ?_ fun h' tk t' F' N' => ?_
  · rw [sum_cds, pieces_flat, flat2]; simp only [List.length_append, List.length_cons, List.length_nil]; omega
  · rw [join_flat, pieces_flat, flat2]; exact h h' tk t' F' N'
theorem sub1_wp {tape ck : List Nat} {r : Str} {t tr : Tok} {Q : Value → Shared → Prop} (F : Fr h₀ L s.heap m) (X₀ : (KK w.params).In h₀) (N : News h₀ L s.heap news) (hr : r = S [46, 46]) (ht : Plain tape) (hc : Plain ck) (l1 : tape.length ≤ 9000) (l2 : ck.length ≤ 500)
    (h : ∀ h' tk t', Fr h₀ L h' m → News h₀ L h' news → Q (.str (S (dd tape ++ ([13, 10, 13, 10] ++ 46 :: 46 :: ck))) t') { s with heap := h', toks := tk }) :
    wpAny (model pw w) A (call (.builtin "re.Pattern.sub") [.ref 50, .str r tr, .str (S (tape ++ ([13, 10, 13, 10] ++ 46 :: ck))) t]) Q E s := by
  subst hr
  have ldd : (dd tape).length ≤ tape.length + 1 := by unfold dd; split <;> simp
  refine sub_wp F N (pat50 (X₀.keeps F.keep)) (by decide +kernel) (by rw [S_len]; simp only [List.length_append, List.length_cons, List.length_nil]; omega) (finds1 ht hc (by omega) (by omega)) (by unfold hits1; simp) (by unfold hits1; split <;> simp) ?_ fun h' tk t' F' N' => ?_
  · rw [sum_cds, pieces_flat, flat1]; simp only [List.length_append, List.length_cons, List.length_nil]; omega
  · rw [join_flat, pieces_flat, flat1]; exact h h' tk t' F' N'
end
section
local macro_rules | `(tactic| walk_at "call builtin:re.Pattern.sub") => `(tactic| (k_here; k_dflt (first
  | (refine sub2_wp (by k_asm) (by k_asm) (by k_asm) (by decide +kernel) (by assumption) (by assumption) (by assumption) (by assumption) (by assumption) ?_; intro h' tk' t' F' N')
  | (refine sub1_wp (by k_asm) (by k_asm) (by k_asm) (by decide +kernel) (by assumption) (by assumption) (by assumption) (by assumption) ?_; intro h' tk' t' F' N'))))
local macro_rules | `(tactic| walk_at "getMethod ref") => `(tactic| (k_here; k_dflt (first
  | refine meth_sub (pat50 (Frag.In.keeps (by k_asm) (Fr.keep (by k_asm)))) (by decide +kernel) ?_
  | refine meth_sub (pat55 (Frag.In.keeps (by k_asm) (Fr.keep (by k_asm)))) (by decide +kernel) ?_)))

set_option maxHeartbeats 8000000 in
theorem sp_quote {w : World} {dp un : Nat} {gd : Option (List Code)} {cn : Str} {cs : Scope} {L a : Addr} {ccd : Value} {cl : List (Str × Addr)} {outer : List Env} {A₀ : Around} {base h₀ : Heap} {m : Str → Option Value} {news : List (Addr × Obj)} {s : Shared} {Q E : Value → Shared → Prop} {mean : ExcName → Option Value} {mg mb : Str → Option Value} {vp : Program} {loose : List Str}
   (B : Below A₀ base outer h₀) (F : Fr h₀ L s.heap m) (X : (KK w.params).In h₀) (N : News h₀ L s.heap news) (T : Top vp loose mean mg mb h₀) (hk : cs.kind = .function) (tape ck : List Nat) (i : Nat) (x : Str) (t : Tok) (hx : x = S (tape ++ (ends i ++ 46 :: ck))) (ht : Plain tape) (hc : Plain ck) (l1 : tape.length ≤ 9000) (l2 : ck.length ≤ 500) (hdp : dp + 20 < recursionLimit) (hun : un + 200 < cLine) (ret : ∀ t h' tk', Fr h₀ L h' m → News h₀ L h' news → Q (.str (S (dd tape ++ ([13, 10, 13, 10] ++ 46 :: 46 :: ck))) t) { s with heap := h', toks := tk' }) :
   wpAny (model pw w) (ktrTop dp un gd cn cs L a ccd cl outer) (call (.ref 62) [.str x t]) Q E s := by
  refine ent [(Str.ofString "data", .str x t)] B F X N T hk (by k_is) (by k_is) (by omega) (BindsTo.of_eq rfl) (by rfl) (by rfl) (by rfl) (by rfl) (by decide) ?_
  clear B F X N T
  intro g L' h₁ tk FG F N B X T E'
  k_steps
  exact back (by assumption) (by assumption) fun f n => ret _ _ _ f n

end
end Mine
end

section -- Ent2
open PySem PySem.W PySem.Spec PySem.Calls PyProof.Rows PyProof.Rows.LCg
namespace Mine
set_option maxRecDepth 100000
section
variable {w : World} {dp un : Nat} {gd : Option (List Code)} {cn : Str} {cs : Scope} {L a : Addr} {ccd : Value} {cl : List (Str × Addr)} {outer : List Env} {A₀ : Around} {base h₀ : Heap} {m : Str → Option Value} {news : List (Addr × Obj)} {s : Shared} {Q E : Value → Shared → Prop} {mean : ExcName → Option Value} {mg mb : Str → Option Value} {vp : Program} {loose : List Str}
theorem ent2 {f : Addr} {args : List Value} {kw : List (Str × Value)} {name qual : Str} {par : Arguments} {bod : List Stmt} {sco : Scope} {dV kV doc pm cdv ct : Value} {an : Option Addr} (binds : List (Str × Value))
    (B : Below A₀ base outer h₀) (F : Fr h₀ L s.heap m) (X : (KK w.params).In h₀) (N : News h₀ L s.heap news) (T : Top vp loose mean mg mb h₀) (hk : cs.kind = .function)
    (ho : (KK w.params).lookup f = some ⟨.type "function", none, .func (fnOf name qual par bod sco dV kV doc pm an cdv ct), #[]⟩) (hcd : codeIn (KK w.params) cdv qual = true) (hdp : dp < recursionLimit)
    (hb : BindsTo s (fnOf name qual par bod sco dV kV doc pm an cdv ct) ⟨args, kw⟩ binds) (hloc : (binds.all fun x => decide (sco.names.lookup x.1 = some .local)) = true)
    (hco : sco.isCoroutine = false) (hgen : sco.isGenerator = false) (hkf : sco.kind = .function) (hcell : ∀ x ∈ sco.names, x.2 ≠ .cell)
    (h : ∀ g L' h₁ tk, Fr h₀ L g m → Fr g L' h₁ (fun y => binds.reverse.lookup y) → News g L' h₁ news → Below (ktrTop dp un gd cn cs L a ccd cl outer) base (envX cn cs L a ccd cl :: outer) g → (KK w.params).In g → Top vp loose mean mg mb g →
      ∀ E', wpAny (model pw w) (ktrTop (dp + 1) (un + 3) gd qual sco L' f cdv [] (envX cn cs L a ccd cl :: outer)) (execs bod (envOf qual sco L' f cdv)) (Back h₀ L m g Q) E' { s with heap := h₁, toks := tk }) :
    wpAny (model pw w) (ktrTop dp un gd cn cs L a ccd cl outer) (call (.ref f) args kw) Q E s := by
  refine wpAny_call (code_def B F X N T rfl rfl hk ho hcd hdp hb (locs hloc) (fun g L' h₁ FG F' N' B' X' T' => ?_) hco hgen hkf hcell)
  refine wpAny_mono (h g L' h₁ _ FG F' N' B' X' T' _) (fun fl s' hq => ?_) fun _ _ e => e
  obtain ⟨L₂, m', news', f1, n1, k⟩ := hq
  refine ⟨L₂, m', news', f1, n1, fun a b => ?_⟩
  have := k a b
  revert this
  cases fl <;> exact id
end
end Mine
end

local macro_rules | `(tactic| walk_at "mine pad") => `(tactic| fail)
local macro_rules | `(tactic| walk_at "mine pad") => `(tactic| fail)
local macro_rules | `(tactic| walk_at "mine pad") => `(tactic| fail)
section -- WHead
open PySem PySem.W PySem.Spec PySem.Calls PyProof.Rows PyProof.Rows.LCg
namespace Mine
set_option maxRecDepth 100000
set_option pp.deepTerms false
set_option pp.deepTerms.threshold 6
set_option pp.proofs false
example : (PySem.Challenge.rw_sh0062_01, KK) = (PySem.Challenge.rw_sh0062_01, KK) := by k_fill; rfl

noncomputable def Prt (l : List Nat) : Prop := ∀ c ∈ l, 32 ≤ c ∧ c ≠ 127
section
variable {w : World} {A : Around} {E : Value → Shared → Prop} {s : Shared} {h₀ : Heap} {L : Addr} {m : Str → Option Value} {news : List (Addr × Obj)}
theorem searchN_wp {p : Addr} {C : Array Nat} {l : List Nat} {t : Tok} {Q : Value → Shared → Prop} (hp : IsPat s.heap p C) (hC : C = cN ∨ C = cV) (hl : Prt l) (hx : l.length ≤ 10000) (h : Q .none s) :
    wpAny (model pw w) A (call (.builtin "re.Pattern.search") [.ref p, .str (S l) t]) Q E s := by
  refine search_no_wp hp hC (by rw [S_len]; omega) (fun c hc => hl c ?_) h
  simpa [S] using hc
end
section
local macro_rules | `(tactic| walk_at "call builtin:re.Pattern.search") => `(tactic| (k_here; k_dflt (first
  | refine searchN_wp (pat131 (Frag.In.keeps (by k_asm) (Fr.keep (by k_asm)))) (by simp) (by assumption) (by omega) ?_
  | refine searchN_wp (pat136 (Frag.In.keeps (by k_asm) (Fr.keep (by k_asm)))) (by simp) (by assumption) (by omega) ?_)))
local macro_rules | `(tactic| walk_at "getMethod ref") => `(tactic| (k_here; k_dflt (first
  | refine meth_search (pat131 (Frag.In.keeps (by k_asm) (Fr.keep (by k_asm)))) (by decide +kernel) ?_
  | refine meth_search (pat136 (Frag.In.keeps (by k_asm) (Fr.keep (by k_asm)))) (by decide +kernel) ?_)))

set_option maxHeartbeats 8000000 in
theorem sp_cst {w : World} {dp un : Nat} {gd : Option (List Code)} {cn : Str} {cs : Scope} {L a : Addr} {ccd : Value} {cl : List (Str × Addr)} {outer : List Env} {A₀ : Around} {base h₀ : Heap} {m : Str → Option Value} {news : List (Addr × Obj)} {s : Shared} {Q E : Value → Shared → Prop} {mean : ExcName → Option Value} {mg mb : Str → Option Value} {vp : Program} {loose : List Str}
   (B : Below A₀ base outer h₀) (F : Fr h₀ L s.heap m) (X : (KK w.params).In h₀) (N : News h₀ L s.heap news) (T : Top vp loose mean mg mb h₀) (hk : cs.kind = .function) (sv : Value) (l : List Nat) (t : Tok) (b : Bool) (hp : Prt l) (hl : l.length ≤ 9000) (hdp : dp + 20 < recursionLimit) (hun : un + 200 < cLine) (ret : ∀ h' tk', Fr h₀ L h' m → News h₀ L h' news → Q (.str (S l) t) { s with heap := h', toks := tk' }) :
   wpAny (model pw w) (ktrTop dp un gd cn cs L a ccd cl outer) (call (.ref 158) [sv, .str (S l) t] [(Str.ofString "name", .bool b)]) Q E s := by
  refine ent2 [(Str.ofString "self", sv), (Str.ofString "value", .str (S l) t), (Str.ofString "name", .bool b)] B F X N T hk (by k_is) (by k_is) (by omega) (BindsTo.of_eq rfl) (by rfl) (by rfl) (by rfl) (by rfl) (by decide) ?_
  clear B F X N T
  intro g L' h₁ tk FG F N B X T E'
  cases b
  all_goals k_steps
  all_goals exact back (by assumption) (by assumption) fun f n => ret _ _ f n

end
end Mine
end

section -- CompR
open PySem PySem.W PySem.Spec PySem.Calls PyProof.Rows PyProof.Rows.LCg
namespace Mine
set_option maxRecDepth 100000
section
variable {prog : Program} {w : World} {A : Around} {E : Value → Shared → Prop} {s : Shared} {h₀ : Heap} {L : Addr} {m : Str → Option Value} {env : Env}
noncomputable def IsIdx (i : Nat) (v : Value) : Prop := ∃ t, v = .int (0 + i * 1) t
theorem rng_hio {n : Nat} {I : Addr} : ∀ (i : Nat) (h : Heap), IsRangeIter h I (0 + (i : Nat) * 1) ((n : Int) - (i : Nat)) 1 → ∃ o, h.get? I = some o := fun _ _ e => ⟨_, e⟩
theorem rng_st {n : Nat} {I : Addr} : ∀ (i : Nat) (h h' : Heap) (o : Obj) (nw : List (Addr × Obj)), IsRangeIter h I (0 + (i : Nat) * 1) ((n : Int) - (i : Nat)) 1 → h.get? I = some o → h'.get? I = some o → (∀ b o, h₀.get? b = some o → h'.get? b = some o) → News h₀ L h' nw → True → IsRangeIter h' I (0 + (i : Nat) * 1) ((n : Int) - (i : Nat)) 1 :=
  fun _ _ _ o _ st e e' _ _ _ => by
    unfold IsRangeIter at st ⊢
    rw [e'.trans (e.symm.trans st)]
theorem rest_rng {elt : Expr} {x : Str} {scope : Scope} {cl : List (Str × Addr)} {Fin : List Value → List (Addr × Obj) → Prop} {news : List (Addr × Obj)} (n : Nat) (g : Nat → Str)
    (turn : ∀ i, i < n → ∀ t I oI C oC D m₂ ys h tk (E' : Value → Shared → Prop), NsObj oC m₂ → m₂ x = some (.int (i : Int) t) → Fr h₀ L h m → News h₀ L h ((I, oI) :: (C, oC) :: (D, lst ys) :: news) → Off3 I C D news → ((@Ne Nat I C) ∧ (@Ne Nat I D) ∧ (@Ne Nat C D)) →
      wpAny (model prog w) A (eval elt (compEnvC scope cl C env)) (CompEnd h₀ L m { s with heap := h, toks := tk } I oI C oC D (lst ys) (fun _ => True) (El news (g i))) E' { s with heap := h, toks := tk })
    (fin : ∀ ys, StrsAre ys ((List.range n).map g) → Fin ys news) :
    CompRest prog w A h₀ L m env elt x scope cl s (fun _ => True) IsIdx Fin n 0 [] news := by
  have key : ∀ (j i : Nat) (ys : List Value), i + j = n → StrsAre ys ((List.range i).map g) → CompRest prog w A h₀ L m env elt x scope cl s (fun _ => True) IsIdx Fin j i ys news := by
    intro j
    induction j with
    | zero =>
      intro i ys hi hy
      have e : i = n := by omega
      rw [e] at hy
      exact CompRest.zero (fin ys hy)
    | succ j ih =>
      intro i ys hi hy
      refine CompRest.succ ?_
      rintro v I oI C oC D m₂ h tk E' ⟨u, rfl⟩ hC hx F N off ne
      have e0 : (0 : Int) + (i : Int) * 1 = (i : Int) := by omega
      rw [e0] at hx
      refine wpAny_mono (turn i (by omega) u I oI C oC D m₂ ys h tk E' hC hx F N off ne) (fun z s₂ hq => ?_) fun _ _ e => e
      obtain ⟨h', tk', nw, e, F', N', off', _, hn, t', hy'⟩ := hq
      rw [hn] at N' off'
      refine ⟨h', tk', news, e, F', N', off', trivial, ?_⟩
      rw [hy']
      refine ih (i + 1) _ (by omega) ?_
      rw [List.range_succ, List.map_append]
      exact sa_snoc hy
  exact key n 0 [] (by omega) .nil

noncomputable def LcSrcR (prog : Program) (w : World) (A : Around) (h₀ : Heap) (L : Addr) (m : Str → Option Value) (env : Env) (elt : Expr) (x : Str) (scope : Scope) (cl : List (Str × Addr)) (g : Nat → Str) (n : Nat) (Q : Value → Shared → Prop) (xv : Value) (s₁ : Shared) : Prop :=
  ∃ r t₀ u₀ v₀ news, xv = .ref r ∧ n ≤ 1000 ∧ IsRange s₁.heap r 0 n 1 t₀ u₀ v₀ ∧ Fr h₀ L s₁.heap m ∧ News h₀ L s₁.heap news ∧
      (∀ i, i < n → ∀ t I oI C oC D m₂ ys h tk (E' : Value → Shared → Prop), NsObj oC m₂ → m₂ x = some (.int (i : Int) t) → Fr h₀ L h m → News h₀ L h ((I, oI) :: (C, oC) :: (D, lst ys) :: news) → Off3 I C D news → ((@Ne Nat I C) ∧ (@Ne Nat I D) ∧ (@Ne Nat C D)) →
        wpAny (model prog w) A (eval elt (compEnvC scope cl C env)) (CompEnd h₀ L m { s₁ with heap := h, toks := tk } I oI C oC D (lst ys) (fun _ => True) (El news (g i))) E' { s₁ with heap := h, toks := tk }) ∧
      (∀ ys D h tk, StrsAre ys ((List.range n).map g) → Fr h₀ L h m → News h₀ L h ((D, lst ys) :: news) → Off1 D news → Q (.ref D) { s₁ with heap := h, toks := tk })
theorem small_n {n : Nat} (h : n ≤ 1000) : Builtin.Range.small 0 n 1 = true ∧ Builtin.Range.rangeSize 0 n 1 = (n : Int) := by
  have : ∀ n : Fin 1001, Builtin.Range.small 0 (n.val : Nat) 1 = true ∧ Builtin.Range.rangeSize 0 (n.val : Nat) 1 = ((n.val : Nat) : Int) := by decide +kernel
  exact this ⟨n, by omega⟩
theorem lc_range {elt iter : Expr} {x : Str} {px : Pos} {scope : Scope} {cl : List (Str × Addr)} {pos : Pos} {Q : Value → Shared → Prop} (F₀ : Fr h₀ L s.heap m) (n : Nat) (g : Nat → Str) (hh : A.handled = none)
    (hclos : closureFor scope env = pure cl) (hcell : ∀ y ∈ scope.names, y.2 ≠ .cell) (hkind : scope.kind = .function)
    (hnames : ∀ y ∈ scope.names, y.2 = .local → scope.names.lookup y.1 = some .local) (hx : scope.names.lookup x = some .local)
    (h : wpAny (model prog w) A (eval iter env) (LcSrcR prog w A h₀ L m env elt x scope cl g n Q) E s)
    (hs : ∀ x, foldedSetIterable iter env x = pure x := by intro _; rfl) :
    wpAny (model prog w) A (eval (.ListComp elt [⟨.Name x px, iter, [], 0⟩] scope pos) env) Q E s := by
  rw [eval_ListComp]
  refine wpAny_comprehension_free (use := none) rfl hs hclos hkind hnames (wpAny_mono h (fun xv s₁ h₁ => ?_) fun _ _ e => e)
  obtain ⟨r, t₀, u₀, v₀, news, rfl, hsz, hr, F, N, turn, fin⟩ := h₁
  obtain ⟨hsm, hsz'⟩ := small_n hsz
  refine wpAny_pyIter_range hr hsm ?_
  rw [hsz']
  have W : Walks prog w A s₁.heap.objs.size [s₁.heap.objs.size] [s₁.heap.objs.size] n (fun i v => IsIdx i v)
      (fun i h => IsRangeIter h s₁.heap.objs.size (0 + (i : Nat) * 1) ((n : Int) - (i : Nat)) 1) := Walks.range hh _ 0 1 n
  refine block_U (s₂ := { s₁ with heap := s₁.heap.push { cls := .type "range_iterator", data := .fields #[rawInt 0, rawInt n, rawInt 1] } }) W (by rw [sizeLine_eq]; omega) rng_hio rng_st hcell hkind hx (by show IsRangeIter _ _ _ _ _; simpa [IsRangeIter] using Heap.get?_push_size _ rfl) (fun b hb => ?_)
      (F.keeps fun _ _ e => Heap.get?_push_of_some _ e) (N.grown fun _ _ e => Heap.get?_push_of_some _ e) (Nat.ne_of_lt F.ns.lt) (next_is_new F) (fun p hp => Nat.ne_of_lt (Heap.lt_size (N p hp).1)) trivial
      (rest_rng (Fin := fun ys news' => news' = news ∧ StrsAre ys ((List.range n).map g)) n g (fun i hi t I oI C oC D m₂ ys h tk E' a1 a2 a3 a4 a5 a6 => turn i hi t I oI C oC D m₂ ys h tk E' a1 a2 a3 a4 a5 a6) fun ys hy => ⟨rfl, hy⟩) ?_
  · rw [List.mem_singleton.mp hb]
    show s₁.heap.objs.size < (s₁.heap.push _).objs.size
    rw [Heap.size_push]; exact Nat.lt_succ_self _
  · rintro D C h tk m' ys news' F' N' o1 hn hC₀ hD₀ hCL hDL hCD offC ⟨e, hy⟩
    rw [e] at N' o1 offC
    refine ⟨m', hn, fun h'' hs'' => fin ys D h'' tk hy (F'.change hs'' hCL hC₀) (fun p hp => ?_) o1⟩
    refine ⟨hs''.extBut _ _ ?_ (N' p hp).1, (N' p hp).2⟩
    rcases List.mem_cons.mp hp with rfl | hp
    · exact Ne.symm hCD
    · exact offC p hp
end
end Mine
end

section -- EntC
open PySem PySem.W PySem.Spec PySem.Calls PyProof.Rows PyProof.Rows.LCg
namespace Mine
set_option maxRecDepth 100000
section
variable {w : World} {dp un : Nat} {gd : Option (List Code)} {cn : Str} {cs : Scope} {L a : Addr} {ccd : Value} {cl : List (Str × Addr)} {outer : List Env} {A₀ : Around} {base h₀ : Heap} {m : Str → Option Value} {news : List (Addr × Obj)} {s : Shared} {Q E : Value → Shared → Prop} {mean : ExcName → Option Value} {mg mb : Str → Option Value} {vp : Program} {loose : List Str}
theorem entC {f : Addr} {args : List Value} {kw : List (Str × Value)} {name qual : Str} {par : Arguments} {bod : List Stmt} {sco : Scope} {dV kV doc pm cdv ct : Value} {an : Option Addr} (binds : List (Str × Value))
    (B : Below A₀ base outer h₀) (F : Fr h₀ L s.heap m) (X : (KK w.params).In h₀) (N : News h₀ L s.heap news) (T : Top vp loose mean mg mb h₀) (hk : cs.kind = .function)
    (ho : (KK w.params).lookup f = some ⟨.type "function", none, .func (fnOf name qual par bod sco dV kV doc pm an cdv ct), #[]⟩) (hcd : codeIn (KK w.params) cdv qual = true) (hdp : dp < recursionLimit)
    (hb : BindsTo s (fnOf name qual par bod sco dV kV doc pm an cdv ct) ⟨args, kw⟩ binds) (hkind : (binds.all fun y => sco.names.lookup y.1 == some .local || sco.names.lookup y.1 == some .cell) = true)
    (hnd : ((cellsFrom 0 sco.names []).map (·.1)).Nodup)
    (hco : sco.isCoroutine = false) (hgen : sco.isGenerator = false) (hkf : sco.kind = .function)
    (h : ∀ g L' h₁ tk cells, Fr h₀ L g m → Fr g L' h₁ (bindL (envOfC qual sco L' f cdv).kindOf binds fun _ => none) → News g L' h₁ (cells ++ news) →
      CellsAre (bindC (envOfC qual sco L' f cdv).kindOf binds fun _ => none) (cellsFrom (L' + 1) sco.names []) cells → Below (ktrTop dp un gd cn cs L a ccd cl outer) base (envX cn cs L a ccd cl :: outer) g → (KK w.params).In g → Top vp loose mean mg mb g → (∀ p ∈ news, p.1 < L') →
      ∀ E', wpAny (model pw w) (ktrTop (dp + 1) (un + 3) gd qual sco L' f cdv (cellsFrom (L' + 1) sco.names []) (envX cn cs L a ccd cl :: outer)) (execs bod (envOfC qual sco L' f cdv)) (Back h₀ L m g Q) E' { s with heap := h₁, toks := tk }) :
    wpAny (model pw w) (ktrTop dp un gd cn cs L a ccd cl outer) (call (.ref f) args kw) Q E s := by
  refine wpAny_call (code_defC B F X N T rfl rfl hk ho hcd hdp hb hkind hnd (fun g L' h₁ tk cells FG F' N' Y B' X' T' l => ?_) hco hgen hkf)
  refine wpAny_mono (h g L' h₁ tk cells FG F' N' Y B' X' T' l _) (fun fl s' hq => ?_) fun _ _ e => e
  obtain ⟨L₂, m', news', f1, n1, k⟩ := hq
  refine ⟨L₂, m', news', f1, n1, fun a b => ?_⟩
  have := k a b
  revert this
  cases fl <;> exact id
end
end Mine
end

section -- Ops
open PySem PySem.W PySem.Spec PySem.Calls PyProof.Rows PyProof.Rows.LCg
namespace Mine
set_option maxRecDepth 100000
theorem dotS : Str.ofString "." = S [46] := by decide +kernel
theorem stS : Str.ofString "st" = S [115, 116] := by decide +kernel
section
variable {prog : Program} {w : World} {A : Around} {E : Value → Shared → Prop} {s : Shared}
theorem add_S {x y : Str} {a b : List Nat} {t u : Tok} {Q : Value → Shared → Prop} (hx : x = S a) (hy : y = S b) (hl : a.length + b.length ≤ 10000) (h : ∀ t' tk, Q (.str (S (a ++ b)) t') { s with toks := tk }) :
    wpAny (model prog w) A (binaryOp .Add (.str x t) (.str y u)) Q E s := by
  subst hx hy
  refine PyProof.Rows.add_str (fun t' tk => ?_) (by rw [S_len, S_len, sizeLine_eq]; omega)
  rw [S_add]; exact h t' tk
theorem iadd_S {x y : Str} {a b : List Nat} {t u : Tok} {Q : Value → Shared → Prop} (hx : x = S a) (hy : y = S b) (hl : a.length + b.length ≤ 10000) (h : ∀ t' tk, Q (.str (S (a ++ b)) t') { s with toks := tk }) :
    wpAny (model prog w) A (inplaceOp .Add (.str x t) (.str y u)) Q E s := by
  subst hx hy
  refine PyProof.Rows.iadd_str (fun t' tk => ?_) (by rw [S_len, S_len, sizeLine_eq]; omega)
  rw [S_add]; exact h t' tk
end
noncomputable def forms : List (List Nat) := [[115, 116], [83, 84], [383, 116], [64261], [64262], [119826, 119827]]
noncomputable def formAt (n : Int) : List Nat := forms.getD (n % 6).toNat []
theorem formAt_ok (n : Int) : pre0 (formAt n) = [115, 116] ∧ (formAt n).length ≤ 2 ∧ ∀ c ∈ formAt n, 32 ≤ c ∧ c ≠ 127 := by
  have l0 : 0 ≤ n % 6 := Int.emod_nonneg _ (by decide)
  have l1 : n % 6 < 6 := Int.emod_lt_of_pos _ (by decide)
  unfold formAt
  generalize n % 6 = r at l0 l1
  obtain ⟨j, rfl⟩ : ∃ j : Nat, r = (j : Int) := ⟨r.toNat, by omega⟩
  have hj : j < 6 := by omega
  rw [Int.toNat_natCast]
  have : ∀ j : Fin 6, pre0 (forms.getD j.val []) = [115, 116] ∧ (forms.getD j.val []).length ≤ 2 ∧ ∀ c ∈ forms.getD j.val [], 32 ≤ c ∧ c ≠ 127 := by decide +kernel
  exact this ⟨j, hj⟩
section
variable {prog : Program} {w : World} {A : Around} {E : Value → Shared → Prop} {s : Shared}
theorem item_forms {value slice : Expr} {a : Addr} {x0 x1 x2 x3 x4 x5 : Str} {t0 t1 t2 t3 t4 t5 : Tok} {n : Int} {u : Tok} {Q : Value → Shared → Prop} (hl : s.heap.IsList a [.str x0 t0, .str x1 t1, .str x2 t2, .str x3 t3, .str x4 t4, .str x5 t5].toArray)
    (e : ([x0, x1, x2, x3, x4, x5] : List Str) = forms.map S) (h : ∀ l t', pre0 l = [115, 116] → l.length ≤ 2 → Prt l → Q (.str (S l) t') s)
    (hs : subscripted slice false (.ref a) (.int (n.fmod 6) u) = operate [.ref a, .int (n.fmod 6) u] (getItem (.ref a) (.int (n.fmod 6) u)) := by with_unfolding_all rfl) (hg : ∀ r, letTemporaryGo value (.ref a) r = pure () := by intro _; with_unfolding_all rfl) :
    wpAny (model prog w) A (subscriptTail value slice (.ref a) (.int (n.fmod 6) u)) Q E s := by
  have h6 : n.fmod 6 = n % 6 := Int.fmod_eq_emod_of_nonneg _ (by decide)
  have l0 : 0 ≤ n % 6 := Int.emod_nonneg _ (by decide)
  have l1 : n % 6 < 6 := Int.emod_lt_of_pos _ (by decide)
  refine item_strsA (ys := [x0, x1, x2, x3, x4, x5]) hl (.cons _ _ (.cons _ _ (.cons _ _ (.cons _ _ (.cons _ _ (.cons _ _ .nil)))))) (by omega) (by simp only [List.length_cons, List.length_nil]; omega) (by omega) (fun t' => ?_) hs hg
  have : ([x0, x1, x2, x3, x4, x5] : List Str).getD (n.fmod 6).toNat Str.empty = S (formAt n) := by
    rw [e, h6]
    unfold formAt
    generalize n % 6 = r at l0 l1
    obtain ⟨j, rfl⟩ : ∃ j : Nat, r = (j : Int) := ⟨r.toNat, by omega⟩
    have hj : j < 6 := by omega
    rw [Int.toNat_natCast]
    match j, hj with
    | 0, _ | 1, _ | 2, _ | 3, _ | 4, _ | 5, _ => rfl
  rw [this]
  obtain ⟨q1, q2, q3⟩ := formAt_ok n
  exact h _ t' q1 q2 q3
end

noncomputable def HidOk (c : Nat) : Prop := b1has c = true ∧ 32 ≤ c ∧ c ≠ 127
theorem hidOk (n : Int) : HidOk (hid n) := by
  have l0 : 0 ≤ n % 27 := Int.emod_nonneg _ (by decide)
  have l1 : n % 27 < 27 := Int.emod_lt_of_pos _ (by decide)
  unfold hid
  generalize n % 27 = r at l0 l1
  obtain ⟨j, rfl⟩ : ∃ j : Nat, r = (j : Int) := ⟨r.toNat, by omega⟩
  have hj : j < 27 := by omega
  rw [Int.toNat_natCast]
  have : ∀ j : Fin 27, HidOk (hidL.getD j.val 0) := by unfold HidOk; decide +kernel
  exact this ⟨j, hj⟩
theorem sp_hidO {w : World} {dp un : Nat} {gd : Option (List Code)} {cn : Str} {cs : Scope} {L a : Addr} {ccd : Value} {cl : List (Str × Addr)} {outer : List Env} {A₀ : Around} {base h₀ : Heap} {m : Str → Option Value} {news : List (Addr × Obj)} {s : Shared} {Q E : Value → Shared → Prop} {mean : ExcName → Option Value} {mg mb : Str → Option Value} {vp : Program} {loose : List Str}
   (B : Below A₀ base outer h₀) (F : Fr h₀ L s.heap m) (X : (KK w.params).In h₀) (N : News h₀ L s.heap news) (T : Top vp loose mean mg mb h₀) (hk : cs.kind = .function) (n : Int) (t : Tok) (hdp : dp + 20 < recursionLimit) (hun : un + 200 < cLine) (ret : ∀ c t h' tk', HidOk c → Fr h₀ L h' m → News h₀ L h' news → Q (.str (S [c]) t) { s with heap := h', toks := tk' }) :
   wpAny (model pw w) (ktrTop dp un gd cn cs L a ccd cl outer) (call (.ref 275) [.int n t]) Q E s :=
  sp_hid B F X N T hk n t hdp hun fun t h' tk' F' N' => ret _ t h' tk' (hidOk n) F' N'

theorem pre0_append (a b : List Nat) : pre0 (a ++ b) = pre0 a ++ pre0 b := by unfold pre0; rw [List.filter_append, List.flatMap_append]
theorem pre0_hid {c : Nat} (h : HidOk c) : pre0 [c] = [] := by unfold pre0; simp [h.1]
theorem pre0_dot : pre0 [46] = [46] := by decide +kernel
theorem Prt.append {a b : List Nat} (ha : Prt a) (hb : Prt b) : Prt (a ++ b) := fun c hc => (List.mem_append.mp hc).elim (ha c) (hb c)
theorem Prt.hid {c : Nat} (h : HidOk c) : Prt [c] := fun d hd => by rw [List.mem_singleton.mp hd]; exact h.2
theorem Prt.dot : Prt [46] := fun d hd => by rw [List.mem_singleton.mp hd]; decide
/-- a text that is prepared to r -/
noncomputable def Folds (l r : List Nat) (n : Nat) : Prop := pre0 l = r ∧ Prt l ∧ l.length ≤ n
theorem folds_range (f : Nat → List Nat) (hf : ∀ i, Folds (f i) [46] 2) (n : Nat) : Folds ((List.range n).map f).flatten (List.replicate n 46) (2 * n) := by
  induction n with
  | zero => exact ⟨rfl, fun c hc => absurd hc (by simp), by simp⟩
  | succ n ih =>
    rw [List.range_succ, List.map_append, List.flatten_append]
    obtain ⟨a, b, c⟩ := ih
    obtain ⟨d, e, g⟩ := hf n
    have h1 : ((List.map f [n]).flatten) = f n := by simp
    rw [h1]
    refine ⟨by rw [pre0_append, a, d, List.replicate_succ'], b.append e, by rw [List.length_append]; omega⟩
theorem folds_second (x : Int) (n : Nat) : Folds ((List.range n).map fun i : Nat => [46] ++ [hid (x + 7 * i)]).flatten (List.replicate n 46) (2 * n) :=
  folds_range _ (fun i => ⟨by rw [pre0_append, pre0_dot, pre0_hid (hidOk _)]; rfl, Prt.dot.append (Prt.hid (hidOk _)), by simp⟩) n
theorem folds_third (x : Int) (n : Nat) : Folds ((List.range n).map fun i : Nat => [hid (x + 5 * i)] ++ [46]).flatten (List.replicate n 46) (2 * n) :=
  folds_range _ (fun i => ⟨by rw [pre0_append, pre0_dot, pre0_hid (hidOk _)]; rfl, (Prt.hid (hidOk _)).append Prt.dot, by simp⟩) n
theorem folds_first (x y : Int) {l : List Nat} (h1 : pre0 l = [115, 116]) (h2 : l.length ≤ 2) (h3 : Prt l) : Folds ([hid x] ++ l ++ [hid y]) [115, 116] 4 :=
  ⟨by rw [pre0_append, pre0_append, h1, pre0_hid (hidOk _), pre0_hid (hidOk _)]; rfl, ((Prt.hid (hidOk _)).append h3).append (Prt.hid (hidOk _)), by simp only [List.length_append, List.length_cons, List.length_nil]; omega⟩
end Mine
end

local macro_rules | `(tactic| walk_at "mine pad") => `(tactic| fail)
local macro_rules | `(tactic| walk_at "mine pad") => `(tactic| fail)
local macro_rules | `(tactic| walk_at "mine pad") => `(tactic| fail)
section -- WHdr
open PySem PySem.W PySem.Spec PySem.Calls PyProof.Rows PyProof.Rows.LCg
namespace Mine
set_option maxRecDepth 100000
set_option pp.deepTerms false
set_option pp.deepTerms.threshold 6
set_option pp.proofs false
example : (PySem.Challenge.rw_sh0062_01, KK) = (PySem.Challenge.rw_sh0062_01, KK) := by k_fill; rfl

theorem lit0 : Str.ofString ".." = S [46, 46] := by decide +kernel
theorem lit1 : Str.ofString "S" = S [83] := by decide +kernel
theorem lit2 : Str.ofString "t" = S [116] := by decide +kernel
theorem lit3 : Str.ofString "s" = S [115] := by decide +kernel
theorem lit4 : Str.ofString "T" = S [84] := by decide +kernel
noncomputable abbrev tup (vs : List Value) : Obj := { cls := .type "tuple", data := .seq vs.toArray }
section
variable {w : World} {dp un : Nat} {gd : Option (List Code)} {cn : Str} {cs : Scope} {L a : Addr} {ccd : Value} {cl : List (Str × Addr)} {outer : List Env} {A₀ : Around} {base h₀ : Heap} {m : Str → Option Value} {news : List (Addr × Obj)} {s : Shared} {Q E : Value → Shared → Prop} {mean : ExcName → Option Value} {mg mb : Str → Option Value} {vp : Program} {loose : List Str}
theorem entR {f : Addr} {args : Args} {name qual : Str} {par : Arguments} {bod : List Stmt} {sco : Scope} {dV kV doc pm cdv ct : Value} {an : Option Addr} {R : Result → Shared → Prop} (binds : List (Str × Value))
    (B : Below A₀ base outer h₀) (F : Fr h₀ L s.heap m) (X : (KK w.params).In h₀) (N : News h₀ L s.heap news) (T : Top vp loose mean mg mb h₀) (hk : cs.kind = .function)
    (ho : (KK w.params).lookup f = some ⟨.type "function", none, .func (fnOf name qual par bod sco dV kV doc pm an cdv ct), #[]⟩) (hcd : codeIn (KK w.params) cdv qual = true) (hdp : dp < recursionLimit)
    (hb : BindsTo s (fnOf name qual par bod sco dV kV doc pm an cdv ct) args binds) (hloc : (binds.all fun x => decide (sco.names.lookup x.1 = some .local)) = true)
    (hco : sco.isCoroutine = false) (hgen : sco.isGenerator = false) (hkf : sco.kind = .function) (hcell : ∀ x ∈ sco.names, x.2 ≠ .cell)
    (h : ∀ g L' h₁ tk, Fr h₀ L g m → Fr g L' h₁ (fun y => binds.reverse.lookup y) → News g L' h₁ news → Below (ktrTop dp un gd cn cs L a ccd cl outer) base (envX cn cs L a ccd cl :: outer) g → (KK w.params).In g → Top vp loose mean mg mb g →
      wpAny (model pw w) (ktrTop (dp + 1) (un + 3) gd qual sco L' f cdv [] (envX cn cs L a ccd cl :: outer)) (execs bod (envOf qual sco L' f cdv)) (fun fl s' => LeaveK h₀ L m g R (match fl with | .ret v => v | _ => .none) s') (fun _ _ => False) { s with heap := h₁, toks := tk }) :
    codeAny (model pw w) (ktrTop dp un gd cn cs L a ccd cl outer) (.call (.ref f) args) R s :=
  code_def B F X N T rfl rfl hk ho hcd hdp hb (locs hloc) (fun g L' h₁ FG F' N' B' X' T' => wpAny_mono (h g L' h₁ _ FG F' N' B' X' T') (fun _ _ x => x) fun _ _ x => x.elim) hco hgen hkf hcell
theorem sp_cstE (B : Below A₀ base outer h₀) (F : Fr h₀ L s.heap m) (X : (KK w.params).In h₀) (N : News h₀ L s.heap news) (T : Top vp loose mean mg mb h₀) (hk : cs.kind = .function) (sv : Value) {x : Str} {l : List Nat} (t : Tok) (b : Bool) (hx : x = S l) (hp : Prt l) (hl : l.length ≤ 9000) (hdp : dp + 20 < recursionLimit) (hun : un + 200 < cLine)
   (ret : ∀ h' tk', Fr h₀ L h' m → News h₀ L h' news → Q (.str x t) { s with heap := h', toks := tk' }) :
   wpAny (model pw w) (ktrTop dp un gd cn cs L a ccd cl outer) (call (.ref 158) [sv, .str x t] [(Str.ofString "name", .bool b)]) Q E s := by
  subst hx
  exact sp_cst B F X N T hk sv l t b hp hl hdp hun ret
theorem unr_end {I : Addr} {o : Obj} {h' : Heap} {tk : Nat} {m' : Str → Option Value} {news' : List (Addr × Obj)} {rest : (Str → Option Value) → List (Addr × Obj) → Prop} {s₁ : Shared} (F : Fr h₀ L h' m') (N : News h₀ L h' ((I, o) :: news')) (hI : AllLt I news') (r : rest m' news') : UnrEndW h₀ L s₁ [(I, o)] rest { s₁ with heap := h', toks := tk } :=
  ⟨h', tk, m', news', rfl, F, N, fun p hp q hq => by rw [List.mem_singleton.mp hq]; exact Nat.ne_of_lt (ktn_ltOf hI p hp), r⟩
local macro_rules | `(tactic| walk_at "UnrEndW") => `(tactic| (refine unr_end (by assumption) (by assumption) (by assumption) ⟨by k_subL, ?_⟩))
local macro_rules | `(tactic| walk_at "call ref") => `(tactic| (k_here; (try (with_unfolding_all show wpAny _ _ (call (Value.ref _) [_, _] [(Str.ofString "name", Value.bool _)]) _ _ _)); k_dflt (first
  | (refine sp_cstE (by k_asm) (by k_asm) (by k_asm) (by k_asm) (by k_asm) (by rfl) _ _ _ (by first | exact lit0 | exact lit1 | exact lit2 | exact lit3 | exact lit4 | exact dotS | exact rfl) (by first | assumption | (unfold Prt; decide)) (by first | omega | (simp only [List.length_cons, List.length_nil]; omega)) (by omega) (by omega) ?_; intro h' tk' F' N'))))
local macro_rules | `(tactic| walk_at "exec For Tuple Name cons nil") => `(tactic| (k_here; (rename Fr _ _ _ _ => lF'); (with_unfolding_all refine' For_turns lF' ?_; k_whole)))
local macro_rules | `(tactic| walk_at "pyIter ref") => `(tactic| (k_here; (rename Fr _ _ _ _ => lF'); (rename News _ _ _ _ => lN'); (with_unfolding_all refine iter_listTurns (by rfl) lF' lN' (by k_mem) (by rfl) (by rfl) ?_); clear lF'; intro i' l1; (try k_lt l1)))
set_option maxHeartbeats 8000000 in
theorem sp_headers {l d0 d1 d2 d3 d4 d5 : Addr} {n0 : Nat} {u0 u1 u2 u3 u4 u5 v0 v1 v2 v3 v4 v5 : Tok} {l1 l2 l3 : List Nat} (B : Below A₀ base outer h₀) (F : Fr h₀ L s.heap m) (X : (KK w.params).In h₀) (N : News h₀ L s.heap ((l, listOf [.ref d0, .ref d1, .ref d2, .ref d3, .ref d4, .ref d5].toArray n0) :: (d5, tup [.str (Str.ofString ".") u5, .str (Str.ofString "t") v5]) :: (d4, tup [.str (Str.ofString "T") u4, .str (Str.ofString "t") v4]) :: (d3, tup [.str (Str.ofString "s") u3, .str (Str.ofString "s") v3]) :: (d2, tup [.str (Str.ofString "t") u2, .str (S l3) v2]) :: (d1, tup [.str (Str.ofString "S") u1, .str (S l2) v1]) :: (d0, tup [.str (Str.ofString "..") u0, .str (S l1) v0]) :: news)) (T : Top vp loose mean mg mb h₀) (hk : cs.kind = .function)
   (p1 : Prt l1) (p2 : Prt l2) (p3 : Prt l3) (n1 : l1.length ≤ 100) (n2 : l2.length ≤ 100) (n3 : l3.length ≤ 100) (hdp : dp + 40 < recursionLimit) (hun : un + 400 < cLine)
   (ret : ∀ x dx tk0 h' tk', Fr h₀ L h' m → News h₀ L h' ((x, instObj 259 dx) :: (dx, dictOf [⟨PyData.keyHash w.params (Str.ofString "_headers"), .str (Str.ofString "_headers") tk0, .ref l⟩] 1) :: (l, listOf [.ref d0, .ref d1, .ref d2, .ref d3, .ref d4, .ref d5].toArray n0) :: (d5, tup [.str (Str.ofString ".") u5, .str (Str.ofString "t") v5]) :: (d4, tup [.str (Str.ofString "T") u4, .str (Str.ofString "t") v4]) :: (d3, tup [.str (Str.ofString "s") u3, .str (Str.ofString "s") v3]) :: (d2, tup [.str (Str.ofString "t") u2, .str (S l3) v2]) :: (d1, tup [.str (Str.ofString "S") u1, .str (S l2) v1]) :: (d0, tup [.str (Str.ofString "..") u0, .str (S l1) v0]) :: news) → AllLt dx ((l, listOf [.ref d0, .ref d1, .ref d2, .ref d3, .ref d4, .ref d5].toArray n0) :: (d5, tup [.str (Str.ofString ".") u5, .str (Str.ofString "t") v5]) :: (d4, tup [.str (Str.ofString "T") u4, .str (Str.ofString "t") v4]) :: (d3, tup [.str (Str.ofString "s") u3, .str (Str.ofString "s") v3]) :: (d2, tup [.str (Str.ofString "t") u2, .str (S l3) v2]) :: (d1, tup [.str (Str.ofString "S") u1, .str (S l2) v1]) :: (d0, tup [.str (Str.ofString "..") u0, .str (S l1) v0]) :: news) → dx < x → Q (.ref x) { s with heap := h', toks := tk' }) :
   wpAny (model pw w) (ktrTop dp un gd cn cs L a ccd cl outer) (call (.ref 259) [.ref l]) Q E s := by
  refine call_cls (fI := 151) F X N (by rfl) (by rfl) (by rfl) (fun x dx h' F' N' o1 o2 => ?_)
  have hA : (ktrTop dp un gd cn cs L a ccd cl outer).under (.builtin "type.__call__" ⟨[.ref 259, .ref l], []⟩) = ktrTop (dp + 1) (un + 1) gd cn cs L a ccd cl outer := by rfl
  rw [hA]
  refine entR [(Str.ofString "self", .ref x), (Str.ofString "headers", .ref l)] B F' X N' T hk (by k_is) (by k_is) (by omega) (binds_K (X.keeps F'.keep) rfl (by k_is) rfl rfl rfl) (by rfl) (by rfl) (by rfl) (by rfl) (by decide) ?_
  clear B F X N T F' N'
  intro g L' h₁ tk FG F N B X T
  (try k_lt o1); (try k_lt2 o2)
  k_steps
  set_option pp.deepTerms true in
  set_option pp.deepTerms.threshold 60 in
  exact ⟨L', _, _, by assumption, by assumption, fun f n => ⟨rfl, ret x dx _ _ _ f n o1 o2⟩⟩
end
end Mine
end

section -- RW
open PySem PySem.W PySem.Spec PySem.Calls PyProof.Rows
namespace Mine
set_option maxRecDepth 100000
/-- the objects of a Headers of rules -/
structure RW where
  (x dx l d0 d1 d2 d3 d4 d5 : Addr) (n0 : Nat) (tk u0 u1 u2 u3 u4 u5 v0 v1 v2 v3 v4 v5 : Tok) (l1 l2 l3 : List Nat)
noncomputable abbrev RW.led (r : RW) (P : Params) : List (Addr × Obj) :=
  [(r.x, instObj 259 r.dx), (r.dx, dictOf [⟨PyData.keyHash P (Str.ofString "_headers"), .str (Str.ofString "_headers") r.tk, .ref r.l⟩] 1), (r.l, listOf [.ref r.d0, .ref r.d1, .ref r.d2, .ref r.d3, .ref r.d4, .ref r.d5].toArray r.n0), (r.d5, tup [.str (Str.ofString ".") r.u5, .str (Str.ofString "t") r.v5]), (r.d4, tup [.str (Str.ofString "T") r.u4, .str (Str.ofString "t") r.v4]), (r.d3, tup [.str (Str.ofString "s") r.u3, .str (Str.ofString "s") r.v3]), (r.d2, tup [.str (Str.ofString "t") r.u2, .str (S r.l3) r.v2]), (r.d1, tup [.str (Str.ofString "S") r.u1, .str (S r.l2) r.v1]), (r.d0, tup [.str (Str.ofString "..") r.u0, .str (S r.l1) r.v0])]
structure RW.Ok (r : RW) (j k : Nat) : Prop where
  o1 : Folds r.l1 [115, 116] 4
  o2 : Folds r.l2 (List.replicate j 46) (2 * j)
  o3 : Folds r.l3 (List.replicate k 46) (2 * k)
end Mine
end

local macro_rules | `(tactic| walk_at "mine pad") => `(tactic| fail)
local macro_rules | `(tactic| walk_at "mine pad") => `(tactic| fail)
local macro_rules | `(tactic| walk_at "mine pad") => `(tactic| fail)
local macro_rules | `(tactic| walk_at "mine pad") => `(tactic| fail)
local macro_rules | `(tactic| walk_at "mine pad") => `(tactic| fail)
section -- WRules
open PySem PySem.W PySem.Spec PySem.Calls PyProof.Rows PyProof.Rows.LCg
namespace Mine
set_option maxRecDepth 100000
set_option pp.deepTerms false
set_option pp.deepTerms.threshold 6
set_option pp.proofs false
example : (PySem.Challenge.rw_sh0062_01, KK) = (PySem.Challenge.rw_sh0062_01, KK) := by k_fill; rfl

theorem newsMid {h₀ h : Heap} {L : Addr} {A B C : List (Addr × Obj)} (N : News h₀ L h (A ++ (B ++ C))) : News h₀ L h (A ++ C) := News.sub N fun p hp => (List.mem_append.mp hp).elim (fun h => List.mem_append_left _ h) fun h => List.mem_append_right _ (List.mem_append_right _ h)
noncomputable def Hold (P : Prop) : Prop := P
theorem hold_of {P : Prop} (h : Hold P) : P := h
section
local macro_rules | `(tactic| walk_at "eval ListComp") => `(tactic| (k_here; (refine hold_of ?_)))
local macro_rules | `(tactic| walk_at "subscriptTail Name BinOp ref int") => `(tactic| (k_here; k_dflt (refine item_forms (News.isList (by k_asm) (by k_mem)) (by decide +kernel) ?_); intro lF tF pF lenF prF))
local macro_rules | `(tactic| walk_at "binaryOp Add str str") => `(tactic| (k_here; k_dflt (refine add_S (by first | exact rfl | exact dotS) (by first | exact rfl | exact dotS) (by simp only [List.length_append, List.length_cons, List.length_nil]; omega) ?_); intro t' tk'))
local macro_rules | `(tactic| walk_at "call ref") => `(tactic| (k_here; k_dflt (first
  | (refine sp_hid (by k_asm) (by k_asm) (by k_asm) (by k_asm) (by k_asm) (by rfl) _ _ (by omega) (by omega) ?_; intro t' h' tk' F' N')
  | (refine sp_cst (by k_asm) (by k_asm) (by k_asm) (by k_asm) (by k_asm) (by rfl) _ _ _ _ (by assumption) (by omega) (by omega) (by omega) ?_; intro h' tk' F' N'))))

set_option maxHeartbeats 8000000 in
theorem sp_rules {w : World} {dp un : Nat} {gd : Option (List Code)} {cn : Str} {cs : Scope} {L a : Addr} {ccd : Value} {cl : List (Str × Addr)} {outer : List Env} {A₀ : Around} {base h₀ : Heap} {m : Str → Option Value} {news : List (Addr × Obj)} {s : Shared} {Q E : Value → Shared → Prop} {mean : ExcName → Option Value} {mg mb : Str → Option Value} {vp : Program} {loose : List Str}
   (B : Below A₀ base outer h₀) (F : Fr h₀ L s.heap m) (X : (KK w.params).In h₀) (N : News h₀ L s.heap news) (T : Top vp loose mean mg mb h₀) (hk : cs.kind = .function) (Nm : Addr) (j k : Nat) (tj tk t0 t1 t2 : Tok) (a0 a1 a2 : Int) (nn : Nat) (hm : (Nm, listOf (#[.int a0 t0, .int a1 t1, .int a2 t2] : Array Value) nn) ∈ news) (h0 : 0 ≤ a0) (hj : j ≤ 10) (hk2 : k ≤ 10) (hdp : dp + 60 < recursionLimit) (hun : un + 600 < cLine) (ret : ∀ (r : RW) h' tk', r.Ok j k → Fr h₀ L h' m → News h₀ L h' (r.led w.params ++ news) → Q (.ref r.x) { s with heap := h', toks := tk' }) :
   wpAny (model pw w) (ktrTop dp un gd cn cs L a ccd cl outer) (call (.ref 280) [.int j tj, .int k tk, .ref Nm]) Q E s := by
  refine entC [(Str.ofString "j", .int j tj), (Str.ofString "k", .int k tk), (Str.ofString "numbers", .ref Nm)] B F X N T hk (by k_is) (by k_is) (by omega) (BindsTo.of_eq rfl) (by rfl) (by decide +kernel) (by rfl) (by rfl) (by rfl) ?_
  clear B F X N T
  intro g L' h₁ tk cells FG F N Y B X T l1 E'
  k_cells Y; (try simp only [List.cons_append, List.nil_append] at N)
  have N : News g L' h₁ ((Nm, listOf (#[.int a0 t0, .int a1 t1, .int a2 t2] : Array Value) nn) :: _ :: news) := fun p hp => (List.mem_cons.mp hp).elim (fun e => e ▸ N _ (.tail _ hm)) (N p)
  have lN : Nm < L' := l1 _ hm
  have l1 : ∀ p ∈ ((Nm, listOf (#[.int a0 t0, .int a1 t1, .int a2 t2] : Array Value) nn) :: news), p.1 < L' := fun p hp => (List.mem_cons.mp hp).elim (fun e => e ▸ lN) (l1 p)
  (try k_lt l1); (try dsimp only)
  k_steps
  unfold Hold
  rename Fr _ _ _ _ => F1
  rename News _ _ _ _ => N1
  rename pre0 _ = _ => e1
  rename List.length _ ≤ 2 => e2
  rename Prt _ => e3
  have f1 := fun x y => folds_first x y e1 e2 e3
  refine lc_range F1 j (fun i => S ([46] ++ [hid (a1 + 7 * i)])) (by rfl) (by rfl) (by decide) (by rfl) (by decide) (by rfl) ?_
  k_steps
  rename_i R1 F2 N2 k2
  refine ⟨_, _, _, _, _, rfl, by omega, R1, F2, N2, ?_, ?_⟩
  · intro i hi t I oI C oC D m₂ ys h tk E' hC hx F2 N2 off ne
    k_steps
    exact CompEnd.intro (by assumption) (by assumption) _ (fun p hp => hp) off trivial ⟨rfl, _, by rw [dotS, S_add]; rfl⟩
  · intro ys D h tk hy F2 N2 off
    k_steps
    refine join_S ((List.range j).map fun i : Nat => [46] ++ [hid (a1 + 7 * i)]) nostr N2 (List.mem_cons_self ..) (by rw [List.map_map]; exact hy) ?_ ?_
    · have := (folds_second a1 j).2.2; omega
    intro t' kk
    have f2 := folds_second a1 j
    generalize ((List.range j).map fun i : Nat => [46] ++ [hid (a1 + 7 * i)]).flatten = l2 at f2
    change wpAny _ _ _ _ _ _
    have F2 := F2
    have N2 := News.tl N2
    k_steps
    unfold Hold
    rename Fr _ _ _ _ => F1
    rename News _ _ _ _ => N1
    refine lc_range F1 k (fun i => S ([hid (a2 + 5 * i)] ++ [46])) (by rfl) (by rfl) (by decide) (by rfl) (by decide) (by rfl) ?_
    k_steps
    rename_i R1 F2 N2 k2
    refine ⟨_, _, _, _, _, rfl, by omega, R1, F2, N2, ?_, ?_⟩
    · intro i hi t I oI C oC D m₂ ys h tk E' hC hx F2 N2 off ne
      k_steps
      exact CompEnd.intro (by assumption) (by assumption) _ (fun p hp => hp) off trivial ⟨rfl, _, by rw [dotS, S_add]; rfl⟩
    · intro ys D h tk hy F2 N2 off
      k_steps
      refine join_S ((List.range k).map fun i : Nat => [hid (a2 + 5 * i)] ++ [46]) nostr N2 (List.mem_cons_self ..) (by rw [List.map_map]; exact hy) ?_ ?_
      · have := (folds_third a2 k).2.2; omega
      intro t' kk
      have f3 := folds_third a2 k
      generalize ((List.range k).map fun i : Nat => [hid (a2 + 5 * i)] ++ [46]).flatten = l3 at f3
      change wpAny _ _ _ _ _ _
      have F2 := F2
      have N2 := News.tl N2
      have q2 := f2.2.1
      have q3 := f3.2.1
      have z2 := f2.2.2
      have z3 := f3.2.2
      k_steps
      rename Fr _ _ _ _ => F9
      rename News _ _ _ _ => N9
      refine sp_headers (l2 := l2) (l3 := l3) (by k_asm) F9 (by k_asm) N9 (by k_asm) (by rfl) (f1 _ _).2.1 q2 q3 (by have := (f1 0 0).2.2; simp only [List.length_append, List.length_cons, List.length_nil] at this ⊢; omega) (by omega) (by omega) (by omega) (by omega) ?_
      intro xH dxH tkH h' tk' F' N' oH1 oH2
      exact back F' N' fun f n => ret ⟨xH, dxH, _, _, _, _, _, _, _, _, tkH, _, _, _, _, _, _, _, _, _, _, _, _, _, l2, l3⟩ _ _ ⟨f1 _ _, f2, f3⟩ f (newsMid (A := RW.led ⟨xH, dxH, _, _, _, _, _, _, _, _, tkH, _, _, _, _, _, _, _, _, _, _, _, _, _, l2, l3⟩ w.params) (B := [_, _, _]) (C := news) n)

end
end Mine
end

local macro_rules | `(tactic| walk_at "mine pad") => `(tactic| fail)
local macro_rules | `(tactic| walk_at "mine pad") => `(tactic| fail)
local macro_rules | `(tactic| walk_at "mine pad") => `(tactic| fail)
local macro_rules | `(tactic| walk_at "mine pad") => `(tactic| fail)
local macro_rules | `(tactic| walk_at "mine pad") => `(tactic| fail)
section -- WGet
open PySem PySem.W PySem.Spec PySem.Calls PyProof.Rows PyProof.Rows.LCg
namespace Mine
set_option maxRecDepth 100000
set_option pp.deepTerms false
set_option pp.deepTerms.threshold 6
set_option pp.proofs false
example : (PySem.Challenge.rw_sh0062_01, KK) = (PySem.Challenge.rw_sh0062_01, KK) := by k_fill; rfl

section
variable {w : World} {dp un : Nat} {gd : Option (List Code)} {cn : Str} {cs : Scope} {L a : Addr} {ccd : Value} {cl : List (Str × Addr)} {outer : List Env} {A₀ : Around} {base h₀ : Heap} {m : Str → Option Value} {news : List (Addr × Obj)} {s : Shared} {Q E : Value → Shared → Prop} {mean : ExcName → Option Value} {mg mb : Str → Option Value} {vp : Program} {loose : List Str}
theorem entN {f : Addr} {args : List Value} {kw : List (Str × Value)} {name qual : Str} {par : Arguments} {bod : List Stmt} {sco : Scope} {dV kV doc pm cdv ct : Value} {an : Option Addr} (binds : List (Str × Value))
    (B : Below A₀ base outer h₀) (F : Fr h₀ L s.heap m) (X : (KK w.params).In h₀) (N : News h₀ L s.heap news) (T : Top vp loose mean mg mb h₀) (hk : cs.kind = .function)
    (ho : (KK w.params).lookup f = some ⟨.type "function", none, .func (fnOf name qual par bod sco dV kV doc pm an cdv ct), #[]⟩) (hcd : codeIn (KK w.params) cdv qual = true) (hdp : dp < recursionLimit)
    (hb : BindsTo s (fnOf name qual par bod sco dV kV doc pm an cdv ct) ⟨args, kw⟩ binds) (hloc : (binds.all fun x => decide (sco.names.lookup x.1 = some .local)) = true)
    (hco : sco.isCoroutine = false) (hgen : sco.isGenerator = false) (hkf : sco.kind = .function) (hcell : ∀ x ∈ sco.names, x.2 ≠ .cell)
    (h : ∀ g L' h₁ tk, Fr h₀ L g m → Fr g L' h₁ (fun y => binds.reverse.lookup y) → News g L' h₁ news → Below (ktrTop dp un gd cn cs L a ccd cl outer) base (envX cn cs L a ccd cl :: outer) g → (KK w.params).In g → Top vp loose mean mg mb g →
      wpAny (model pw w) (ktrTop (dp + 1) (un + 3) gd qual sco L' f cdv [] (envX cn cs L a ccd cl :: outer)) (execs bod (envOf qual sco L' f cdv)) (Back h₀ L m g Q) (fun _ _ => False) { s with heap := h₁, toks := tk }) :
    wpAny (model pw w) (ktrTop dp un gd cn cs L a ccd cl outer) (call (.ref f) args kw) Q E s :=
  ent2 binds B F X N T hk ho hcd hdp hb hloc hco hgen hkf hcell fun g L' h₁ tk a1 a2 a3 a4 a5 a6 _ => wpAny_mono (h g L' h₁ tk a1 a2 a3 a4 a5 a6) (fun _ _ x => x) fun _ _ x => x.elim
local macro_rules | `(tactic| walk_at "exec For Tuple") => `(tactic| (k_here; (rename Fr _ _ _ _ => lF'); (with_unfolding_all refine' For_turns lF' ?_; k_whole)))
local macro_rules | `(tactic| walk_at "pyIter ref") => `(tactic| (k_here; (rename Fr _ _ _ _ => lF'); (rename News _ _ _ _ => lN'); (with_unfolding_all refine iter_listTurns (by rfl) lF' lN' (by k_mem) (by rfl) (by rfl) ?_); clear lF'; intro i' l1; (try k_lt l1)))
local macro_rules | `(tactic| walk_at "UnrEndW") => `(tactic| (refine unr_end (by assumption) (by assumption) (by assumption) ⟨by k_subL, ?_⟩))
local macro_rules | `(tactic| walk_at "call ref") => `(tactic| (k_here; (try (with_unfolding_all show wpAny _ _ (call (Value.ref _) [_, _] [(Str.ofString "name", Value.bool _)]) _ _ _)); k_dflt (first
  | (refine sp_cstE (by k_asm) (by k_asm) (by k_asm) (by k_asm) (by k_asm) (by rfl) _ _ _ (by assumption) (by assumption) (by omega) (by omega) (by omega) ?_; intro h' tk' F' N'))))
set_option maxHeartbeats 8000000 in
theorem sp_get0 (r : RW) {nm : Str} {t : Tok} {dv : Value} (hn : Txt.lower nm = S [46, 46]) (hnl : nm.length ≤ 100) (B : Below A₀ base outer h₀) (F : Fr h₀ L s.heap m) (X : (KK w.params).In h₀) (N : News h₀ L s.heap (r.led w.params ++ news)) (T : Top vp loose mean mg mb h₀) (hk : cs.kind = .function)
   (hdp : dp + 60 < recursionLimit) (hun : un + 600 < cLine)
   (ret : ∀ h' tk', Fr h₀ L h' m → News h₀ L h' (r.led w.params ++ news) → Q (.str (S r.l1) r.v0) { s with heap := h', toks := tk' }) :
   wpAny (model pw w) (ktrTop dp un gd cn cs L a ccd cl outer) (call (.ref 206) [.ref r.x, .str nm t, dv]) Q E s := by
  refine entN [(Str.ofString "self", .ref r.x), (Str.ofString "name", .str nm t), (Str.ofString "default", dv)] B F X N T hk (by k_is) (by k_is) (by omega) (binds_K (X.keeps F.keep) rfl (by k_is) rfl rfl rfl) (by rfl) (by rfl) (by rfl) (by rfl) (by decide) ?_
  clear B F X N T
  intro g L' h₁ tk FG F N B X T
  have hp : Prt [46, 46] := by unfold Prt; decide
  have hl : [46, 46].length ≤ 9000 := by decide
  unfold RW.led at N
  simp only [List.cons_append, List.nil_append] at N
  have e0 : (Str.ofString ".." == Txt.lower nm) = true := by rw [hn]; decide +kernel
  have e1 : (Str.ofString "s" == Txt.lower nm) = false := by rw [hn]; decide +kernel
  have e2 : (Str.ofString "t" == Txt.lower nm) = false := by rw [hn]; decide +kernel
  have e3 : (Str.ofString "." == Txt.lower nm) = false := by rw [hn]; decide +kernel
  k_steps
  all_goals first
    | exact Bool.noConfusion (e0.symm.trans (show (Str.ofString ".." == Txt.lower nm) = false by assumption))
    | exact Bool.noConfusion (e1.symm.trans (show (Str.ofString "s" == Txt.lower nm) = true by assumption))
    | exact Bool.noConfusion (e2.symm.trans (show (Str.ofString "t" == Txt.lower nm) = true by assumption))
    | exact Bool.noConfusion (e3.symm.trans (show (Str.ofString "." == Txt.lower nm) = true by assumption))
    | exact back (by assumption) (by assumption) fun f n => ret _ _ f (News.tl n)
set_option maxHeartbeats 8000000 in
theorem sp_get1 (r : RW) {nm : Str} {t : Tok} {dv : Value} (hn : Txt.lower nm = S [115]) (hnl : nm.length ≤ 100) (B : Below A₀ base outer h₀) (F : Fr h₀ L s.heap m) (X : (KK w.params).In h₀) (N : News h₀ L s.heap (r.led w.params ++ news)) (T : Top vp loose mean mg mb h₀) (hk : cs.kind = .function)
   (hdp : dp + 60 < recursionLimit) (hun : un + 600 < cLine)
   (ret : ∀ h' tk', Fr h₀ L h' m → News h₀ L h' (r.led w.params ++ news) → Q (.str (S r.l2) r.v1) { s with heap := h', toks := tk' }) :
   wpAny (model pw w) (ktrTop dp un gd cn cs L a ccd cl outer) (call (.ref 206) [.ref r.x, .str nm t, dv]) Q E s := by
  refine entN [(Str.ofString "self", .ref r.x), (Str.ofString "name", .str nm t), (Str.ofString "default", dv)] B F X N T hk (by k_is) (by k_is) (by omega) (binds_K (X.keeps F.keep) rfl (by k_is) rfl rfl rfl) (by rfl) (by rfl) (by rfl) (by rfl) (by decide) ?_
  clear B F X N T
  intro g L' h₁ tk FG F N B X T
  have hp : Prt [115] := by unfold Prt; decide
  have hl : [115].length ≤ 9000 := by decide
  unfold RW.led at N
  simp only [List.cons_append, List.nil_append] at N
  have e0 : (Str.ofString ".." == Txt.lower nm) = false := by rw [hn]; decide +kernel
  have e1 : (Str.ofString "s" == Txt.lower nm) = true := by rw [hn]; decide +kernel
  have e2 : (Str.ofString "t" == Txt.lower nm) = false := by rw [hn]; decide +kernel
  have e3 : (Str.ofString "." == Txt.lower nm) = false := by rw [hn]; decide +kernel
  k_steps
  all_goals first
    | exact Bool.noConfusion (e0.symm.trans (show (Str.ofString ".." == Txt.lower nm) = true by assumption))
    | exact Bool.noConfusion (e1.symm.trans (show (Str.ofString "s" == Txt.lower nm) = false by assumption))
    | exact Bool.noConfusion (e2.symm.trans (show (Str.ofString "t" == Txt.lower nm) = true by assumption))
    | exact Bool.noConfusion (e3.symm.trans (show (Str.ofString "." == Txt.lower nm) = true by assumption))
    | exact back (by assumption) (by assumption) fun f n => ret _ _ f (News.tl n)
set_option maxHeartbeats 8000000 in
theorem sp_get2 (r : RW) {nm : Str} {t : Tok} {dv : Value} (hn : Txt.lower nm = S [116]) (hnl : nm.length ≤ 100) (B : Below A₀ base outer h₀) (F : Fr h₀ L s.heap m) (X : (KK w.params).In h₀) (N : News h₀ L s.heap (r.led w.params ++ news)) (T : Top vp loose mean mg mb h₀) (hk : cs.kind = .function)
   (hdp : dp + 60 < recursionLimit) (hun : un + 600 < cLine)
   (ret : ∀ h' tk', Fr h₀ L h' m → News h₀ L h' (r.led w.params ++ news) → Q (.str (S r.l3) r.v2) { s with heap := h', toks := tk' }) :
   wpAny (model pw w) (ktrTop dp un gd cn cs L a ccd cl outer) (call (.ref 206) [.ref r.x, .str nm t, dv]) Q E s := by
  refine entN [(Str.ofString "self", .ref r.x), (Str.ofString "name", .str nm t), (Str.ofString "default", dv)] B F X N T hk (by k_is) (by k_is) (by omega) (binds_K (X.keeps F.keep) rfl (by k_is) rfl rfl rfl) (by rfl) (by rfl) (by rfl) (by rfl) (by decide) ?_
  clear B F X N T
  intro g L' h₁ tk FG F N B X T
  have hp : Prt [116] := by unfold Prt; decide
  have hl : [116].length ≤ 9000 := by decide
  unfold RW.led at N
  simp only [List.cons_append, List.nil_append] at N
  have e0 : (Str.ofString ".." == Txt.lower nm) = false := by rw [hn]; decide +kernel
  have e1 : (Str.ofString "s" == Txt.lower nm) = false := by rw [hn]; decide +kernel
  have e2 : (Str.ofString "t" == Txt.lower nm) = true := by rw [hn]; decide +kernel
  have e3 : (Str.ofString "." == Txt.lower nm) = false := by rw [hn]; decide +kernel
  k_steps
  all_goals first
    | exact Bool.noConfusion (e0.symm.trans (show (Str.ofString ".." == Txt.lower nm) = true by assumption))
    | exact Bool.noConfusion (e1.symm.trans (show (Str.ofString "s" == Txt.lower nm) = true by assumption))
    | exact Bool.noConfusion (e2.symm.trans (show (Str.ofString "t" == Txt.lower nm) = false by assumption))
    | exact Bool.noConfusion (e3.symm.trans (show (Str.ofString "." == Txt.lower nm) = true by assumption))
    | exact back (by assumption) (by assumption) fun f n => ret _ _ f (News.tl n)
end
end Mine
end

section -- Run0
open PySem PySem.W PySem.Spec PySem.Calls PyProof.Rows
namespace Mine
set_option maxRecDepth 100000
theorem mk_append (a b : List Nat) : mk (a ++ b) = mk a ++ mk b := by unfold mk; rw [List.flatMap_append]
noncomputable def rul (j k a : Nat) : List Nat := if a = 46 then [115, 116] else if a = 115 then List.replicate j 46 else List.replicate k 46
noncomputable def nxt (j k : Nat) (u : List Nat) : List Nat := u.drop 2 ++ rul j k (u.headD 0)
structure GoodU (u : List Nat) : Prop where
  ok : ∀ c ∈ u, c ≠ 39 ∧ c ≠ 10 ∧ c ≠ 13
  len : u.length ≤ 1000
  ne : u ≠ []
  hd : 2 ≤ u.length → u.headD 0 = 46 ∨ u.headD 0 = 115 ∨ u.headD 0 = 116
noncomputable def GoodRun (j k : Nat) : Nat → List Nat → Prop
  | 0, _ => True
  | f + 1, u => GoodU u ∧ (2 ≤ u.length → GoodRun j k f (nxt j k u))
noncomputable def partsD (u : List Nat) : Dat := match u with
    | a :: b :: r => .list [.str (S (dd [a])), .str (S [b]), .str (S (mk r))]
    | _ => .tuple [.none, .none, .str (S (dd (mk u)))]
noncomputable def entry (i : Nat) (u : List Nat) : Dat :=
  .tuple [.list [.str (S (dd (mk u))), .str (S []), .str (S (46 :: 46 :: List.replicate i 46))], partsD u]
noncomputable def runD (j k : Nat) : Nat → Nat → List Nat → List Dat
  | 0, _, _ => []
  | f + 1, i, u => entry i u :: (if u.length < 2 then [] else runD j k f (i + 1) (nxt j k u))
theorem dd_mk2 (a b : Nat) (r : List Nat) : dd (mk (a :: b :: r)) = dd [a] ++ [39] ++ [b] ++ [39] ++ mk r := by
  have e : mk (a :: b :: r) = a :: 39 :: b :: 39 :: mk r := rfl
  rw [e]
  unfold dd
  by_cases h : a = 46
  · subst h; rfl
  · have h1 : (a :: 39 :: b :: 39 :: mk r).head? ≠ some 46 := by simpa using h
    have h2 : [a].head? ≠ some 46 := by simpa using h
    rw [if_neg h1, if_neg h2]; rfl
theorem dd_mk1 (a : Nat) : dd (mk [a]) = dd [a] ++ [39] := by
  have e : mk [a] = [a, 39] := rfl
  rw [e]
  unfold dd
  by_cases h : a = 46
  · subst h; rfl
  · have h1 : [a, 39].head? ≠ some 46 := by simpa using h
    have h2 : [a].head? ≠ some 46 := by simpa using h
    rw [if_neg h1, if_neg h2]; rfl
theorem dd_no {a : Nat} (h : a ≠ 39) : 39 ∉ dd [a] := by
  unfold dd
  split
  · simp; omega
  · simp; omega
theorem mk_plain {u : List Nat} (h : ∀ c ∈ u, c ≠ 39 ∧ c ≠ 10 ∧ c ≠ 13) : Plain (mk u) := by
  intro c hc
  unfold mk at hc
  rw [List.mem_flatMap] at hc
  obtain ⟨a, ha, hc⟩ := hc
  rcases List.mem_cons.mp hc with rfl | hc
  · exact ⟨(h _ ha).2.1, (h _ ha).2.2⟩
  · rw [List.mem_singleton.mp hc]; decide
theorem dd_plain {l : List Nat} (h : Plain l) : Plain (dd l) := by
  unfold dd
  split
  · intro c hc
    rcases List.mem_cons.mp hc with rfl | hc
    · decide
    · exact h c hc
  · exact h
noncomputable def RW.rl (r : RW) (a : Nat) : List Nat := if a = 46 then r.l1 else if a = 115 then r.l2 else r.l3
theorem RW.Ok.pre {r : RW} {j k : Nat} (h : r.Ok j k) (a : Nat) : pre0 (r.rl a) = rul j k a := by
  unfold RW.rl rul
  split
  · exact h.o1.1
  · split
    · exact h.o2.1
    · exact h.o3.1
theorem RW.Ok.lenl {r : RW} {j k : Nat} (h : r.Ok j k) (hj : j ≤ 10) (hk : k ≤ 10) (a : Nat) : (r.rl a).length ≤ 100 := by
  unfold RW.rl
  have := h.o1.2.2; have := h.o2.2.2; have := h.o3.2.2
  split
  · omega
  · split <;> omega
theorem rul_len {j k a : Nat} (hj : j ≤ 10) (hk : k ≤ 10) : (rul j k a).length ≤ 10 := by
  unfold rul
  split
  · simp
  · split <;> simpa
theorem low1 {a : Nat} (h : a = 46 ∨ a = 115 ∨ a = 116) : Txt.lower (S (dd [a])) = S (dd [a]) ∧ Txt.lower (Txt.upper (S (dd [a]))) = S (dd [a]) ∧ (Txt.upper (S (dd [a]))).length ≤ 100 ∧ (S (dd [a])).length ≤ 100 := by
  rcases h with rfl | rfl | rfl <;> decide +kernel
section
variable {w : World} {dp un : Nat} {gd : Option (List Code)} {cn : Str} {cs : Scope} {L a : Addr} {ccd : Value} {cl : List (Str × Addr)} {outer : List Env} {A₀ : Around} {base h₀ : Heap} {m : Str → Option Value} {news : List (Addr × Obj)} {s : Shared} {Q E : Value → Shared → Prop} {mean : ExcName → Option Value} {mg mb : Str → Option Value} {vp : Program} {loose : List Str}
theorem sp_getA (r : RW) {nm : Str} {c : Nat} {t : Tok} {dv : Value} (hc : c = 46 ∨ c = 115 ∨ c = 116) (hn : Txt.lower nm = S (dd [c])) (hnl : nm.length ≤ 100) (B : Below A₀ base outer h₀) (F : Fr h₀ L s.heap m) (X : (KK w.params).In h₀) (N : News h₀ L s.heap news) (hr : ∀ p ∈ r.led w.params, p ∈ news) (T : Top vp loose mean mg mb h₀) (hk : cs.kind = .function)
   (hdp : dp + 60 < recursionLimit) (hun : un + 600 < cLine)
   (ret : ∀ t h' tk', Fr h₀ L h' m → News h₀ L h' news → Q (.str (S (r.rl c)) t) { s with heap := h', toks := tk' }) :
   wpAny (model pw w) (ktrTop dp un gd cn cs L a ccd cl outer) (call (.ref 206) [.ref r.x, .str nm t, dv]) Q E s := by
  have N' : News h₀ L s.heap (r.led w.params ++ news) := News.sub N fun p hp => (List.mem_append.mp hp).elim (hr p) fun x => x
  have drop : ∀ {h : Heap}, News h₀ L h (r.led w.params ++ news) → News h₀ L h news := fun N => News.sub N fun p hp => List.mem_append_right _ hp
  rcases hc with rfl | rfl | rfl
  · exact sp_get0 r hn hnl B F X N' T hk hdp hun fun h' tk' F' N' => ret _ h' tk' F' (drop N')
  · exact sp_get1 r hn hnl B F X N' T hk hdp hun fun h' tk' F' N' => ret _ h' tk' F' (drop N')
  · exact sp_get2 r hn hnl B F X N' T hk hdp hun fun h' tk' F' N' => ret _ h' tk' F' (drop N')
end
section
variable {prog : Program} {w : World} {A : Around} {E : Value → Shared → Prop} {s : Shared} {t u v : Tok} {h₀ : Heap} {L : Addr} {m : Str → Option Value} {news : List (Addr × Obj)} {Q : Value → Shared → Prop}
theorem splitQ_wp {a r : List Nat} {y : Str} (hF : Fr h₀ L s.heap m) (hN : News h₀ L s.heap news) (ha : Plain a) (hr : Plain r) (hl : a.length + r.length ≤ 9000) (hy : y = S [13, 10])
    (h : ∀ D ta tb tr h' tk, Fr h₀ L h' m → News h₀ L h' ((D, listOf (#[.str (S a) ta, .str (S []) tb, .str (S r) tr] : Array Value) 0) :: news) → (∀ p ∈ news, p.1 < D) → Q (.ref D) { s with heap := h', toks := tk }) :
    wpAny (model prog w) A (call (.builtin "str.split") [.str (S (a ++ ([13, 10, 13, 10] ++ r))) t, .str y u]) Q E s := by
  have e : a ++ ([13, 10, 13, 10] ++ r) = a ++ [13, 10] ++ [] ++ [13, 10] ++ r := by simp
  rw [e]
  exact splitR_wp hF hN (fun h => (ha _ h).2 rfl) (by decide) (fun h => (hr _ h).2 rfl) (by simp only [List.length_append, List.length_cons, List.length_nil]; omega) hy h
theorem append_wp {D : Addr} {vs : List Value} {n : Nat} {v : Value} {rest : List (Addr × Obj)} (F : Fr h₀ L s.heap m) (N : News h₀ L s.heap ((D, listOf vs.toArray n) :: rest)) (hne : ∀ p ∈ rest, p.1 ≠ D) (hl : vs.length ≤ 1000)
    (h : ∀ h' tk n', Fr h₀ L h' m → News h₀ L h' ((D, listOf (vs ++ [v]).toArray n') :: rest) → Q .none { s with heap := h', toks := tk }) :
    wpAny (model prog w) A (call (.builtin "list.append") [.ref D, v]) Q E s := by
  refine append_head (hsz := by rw [sizeLine_eq]; simp; omega) F N hne (fun h' F' N' => h h' s.toks (n + 1) F' ?_)
  have e : vs.toArray.push v = (vs ++ [v]).toArray := by simp
  rw [e] at N'
  exact N'
theorem len_vs {l : Addr} {vs : List Value} {Q : Value → Shared → Prop} (hl : s.heap.IsList l vs.toArray) (hfit : vs.length ≤ 1000000) (h : ∀ t k, Q (.int (vs.length : Nat) t) { s with toks := k }) : wpAny (model prog w) A (call (.builtin "len") [.ref l]) Q E s := by
  refine len_list hl (by simp; omega) ?_
  have e : ((vs.toArray.size : Nat) : Int) = (vs.length : Nat) := by simp
  rw [e]
  exact h _ _
theorem item_ends {value slice : Expr} {a : Addr} {x0 x1 x2 : Str} {t0 t1 t2 : Tok} {n : Nat} {u : Tok} {Q : Value → Shared → Prop} (hl : s.heap.IsList a [.str x0 t0, .str x1 t1, .str x2 t2].toArray)
    (e : ([x0, x1, x2] : List Str) = [[10, 13], [13, 13], [13, 10, 10]].map S) (h : ∀ t', Q (.str (S (ends n)) t') s)
    (hs : subscripted slice false (.ref a) (.int ((n : Int).fmod 3) u) = operate [.ref a, .int ((n : Int).fmod 3) u] (getItem (.ref a) (.int ((n : Int).fmod 3) u)) := by with_unfolding_all rfl) (hg : ∀ r, letTemporaryGo value (.ref a) r = pure () := by intro _; with_unfolding_all rfl) :
    wpAny (model prog w) A (subscriptTail value slice (.ref a) (.int ((n : Int).fmod 3) u)) Q E s := by
  have h6 : (n : Int).fmod 3 = ((n % 3 : Nat) : Int) := by rw [Int.fmod_eq_emod_of_nonneg _ (by decide)]; rfl
  have l1 : n % 3 < 3 := Nat.mod_lt _ (by decide)
  refine item_strsA (ys := [x0, x1, x2]) hl (.cons _ _ (.cons _ _ (.cons _ _ .nil))) (by omega) (by simp only [List.length_cons, List.length_nil]; omega) (by omega) (fun t' => ?_) hs hg
  have : ([x0, x1, x2] : List Str).getD ((n : Int).fmod 3).toNat Str.empty = S (ends n) := by
    rw [e, h6, Int.toNat_natCast]
    unfold ends
    generalize n % 3 = r at l1
    match r, l1 with
    | 0, _ | 1, _ | 2, _ => rfl
  rw [this]
  exact h t'
end

theorem memTail {A l : List (Addr × Obj)} {q : Addr × Obj} (h : ∀ p ∈ A, p ∈ l) : ∀ p ∈ A, p ∈ q :: l := fun p hp => .tail _ (h p hp)
section
variable {w : World} {dp un : Nat} {gd : Option (List Code)} {cn : Str} {cs : Scope} {L a : Addr} {ccd : Value} {cl : List (Str × Addr)} {outer : List Env} {A₀ : Around} {base h₀ : Heap} {m : Str → Option Value} {news : List (Addr × Obj)} {s : Shared} {Q E : Value → Shared → Prop} {mean : ExcName → Option Value} {mg mb : Str → Option Value} {vp : Program} {loose : List Str}
theorem sp_decA (B : Below A₀ base outer h₀) (F : Fr h₀ L s.heap m) (X : (KK w.params).In h₀) (N : News h₀ L s.heap news) (T : Top vp loose mean mg mb h₀) (hk : cs.kind = .function) (c d : Nat) (r : List Nat) (t : Tok) (hc : c ≠ 39) (hd : d ≠ 39) (hl : r.length ≤ 2000) (hdp : dp + 20 < recursionLimit) (hun : un + 200 < cLine)
   (ret : ∀ D ta tb tr h' tk', Fr h₀ L h' m → News h₀ L h' ((D, listOf (#[.str (S (dd [c])) ta, .str (S [d]) tb, .str (S (mk r)) tr] : Array Value) 0) :: news) → (∀ p ∈ news, p.1 < D) → Q (.ref D) { s with heap := h', toks := tk' }) :
   wpAny (model pw w) (ktrTop dp un gd cn cs L a ccd cl outer) (call (.ref 45) [.str (S (dd (mk (c :: d :: r)))) t]) Q E s := by
  rw [dd_mk2]
  have hdd : (dd [c]).length ≤ 2 := by unfold dd; split <;> simp
  exact sp_dec3 B F X N T hk (dd [c]) [d] (mk r) t (dd_no hc) (by simp; omega) (by simp only [List.length_append, List.length_cons, List.length_nil, mk_len]; omega) hdp hun ret
theorem sp_decB (B : Below A₀ base outer h₀) (F : Fr h₀ L s.heap m) (X : (KK w.params).In h₀) (N : News h₀ L s.heap news) (T : Top vp loose mean mg mb h₀) (hk : cs.kind = .function) (c : Nat) (t : Tok) (hc : c ≠ 39) (hdp : dp + 20 < recursionLimit) (hun : un + 200 < cLine)
   (ret : ∀ D ta h' tk', Fr h₀ L h' m → News h₀ L h' ((D, ({ cls := .type "tuple", data := .seq (#[.none, .none, .str (S (dd (mk [c]))) ta] : Array Value) 0 } : Obj)) :: news) → (∀ p ∈ news, p.1 < D) → Q (.ref D) { s with heap := h', toks := tk' }) :
   wpAny (model pw w) (ktrTop dp un gd cn cs L a ccd cl outer) (call (.ref 45) [.str (S (dd (mk [c]))) t]) Q E s := by
  rw [dd_mk1] at ret ⊢
  have hdd : (dd [c]).length ≤ 2 := by unfold dd; split <;> simp
  exact sp_dec2 B F X N T hk (dd [c]) t (dd_no hc) (by omega) hdp hun ret
end

theorem stepDat {T P Rw : Addr} {vs : List Value} {ds : List Dat} {tl tl2 : List (Addr × Obj)} {i : Nat} {u : List Nat} {po : Obj} {x1 x2 x3 : Tok} (dat : DatAll tl vs ds) (hs : ∀ p ∈ tl, p ∈ tl2)
    (hp : ∀ all, (P, po) ∈ all → DatIn all (.ref P) (match u with
    | a :: b :: r => .list [.str (S (dd [a])), .str (S [b]), .str (S (mk r))]
    | _ => .tuple [.none, .none, .str (S (dd (mk u)))])) :
    DatAll ((T, ({ cls := .type "tuple", data := .seq #[.ref Rw, .ref P] } : Obj)) :: (P, po) :: (Rw, listOf (#[.str (S (dd (mk u))) x1, .str (S []) x2, .str (S (46 :: 46 :: List.replicate i 46)) x3] : Array Value) 0) :: tl2) (vs ++ [.ref T]) (ds ++ [entry i u]) :=
  (dat.mono fun p h => .tail _ (.tail _ (.tail _ (hs p h)))).append (.one (DatIn.tuple (vs := [.ref Rw, .ref P]) (n := 0) (.head _)
    (.cons (DatIn.list (vs := [.str (S (dd (mk u))) x1, .str (S []) x2, .str (S (46 :: 46 :: List.replicate i 46)) x3]) (n := 0) (.tail _ (.tail _ (.head _))) (.cons (.str _ _) (.cons (.str _ _) (.cons (.str _ _) .nil))))
      (.cons (hp _ (.tail _ (.head _))) .nil))))
theorem datLeaf {P : Addr} {c : Nat} {x : Tok} : ∀ all, (P, ({ cls := .type "tuple", data := .seq #[.none, .none, .str (S (dd (mk [c]))) x] } : Obj)) ∈ all → DatIn all (.ref P) (partsD [c]) := fun all h =>
  DatIn.tuple (vs := [.none, .none, .str (S (dd (mk [c]))) x]) (n := 0) h (.cons .none (.cons .none (.cons (.str _ _) .nil)))
theorem datMore {P : Addr} {a b : Nat} {r : List Nat} {x1 x2 x3 : Tok} : ∀ all, (P, listOf (#[.str (S (dd [a])) x1, .str (S [b]) x2, .str (S (mk r)) x3] : Array Value) 0) ∈ all → DatIn all (.ref P) (partsD (a :: b :: r)) := fun all h =>
  DatIn.list (vs := [.str (S (dd [a])) x1, .str (S [b]) x2, .str (S (mk r)) x3]) (n := 0) h (.cons (.str _ _) (.cons (.str _ _) (.cons (.str _ _) .nil)))
theorem leafDat {Tl : Addr} {vs : List Value} {v : Value} {n : Nat} {ds total : List Dat} {tl : List (Addr × Obj)} {i f j k c : Nat} (h : DatAll tl (vs ++ [v]) (ds ++ [entry i [c]])) (tot : ds ++ runD j k (f + 1) i [c] = total) : DatIn ((Tl, listOf (vs ++ [v]).toArray n) :: tl) (.ref Tl) (.list total) := by
  have e : runD j k (f + 1) i [c] = [entry i [c]] := rfl
  rw [← tot, e]
  exact DatIn.list (.head _) (h.mono fun p hp => .tail _ hp)
theorem totMore {ds total : List Dat} {i f j k a b : Nat} {r : List Nat} (tot : ds ++ runD j k (f + 1) i (a :: b :: r) = total) : (ds ++ [entry i (a :: b :: r)]) ++ runD j k f (i + 1) (nxt j k (a :: b :: r)) = total := by
  have e : runD j k (f + 1) i (a :: b :: r) = entry i (a :: b :: r) :: runD j k f (i + 1) (nxt j k (a :: b :: r)) := by
    show _ :: (if (a :: b :: r).length < 2 then [] else _) = _
    rw [if_neg (by simp)]
  rw [← tot, e, List.append_assoc]
  rfl
end Mine
end

section -- Law0
open PySem PySem.W PySem.Spec PySem.Calls PyProof.Rows
namespace Mine
set_option maxRecDepth 100000
/-! the plain law: what the machine holds after each turn, told by the turn's number -/
noncomputable def rep (l : List Nat) (n : Nat) : List Nat := (List.replicate n l).flatten
noncomputable def wdEnd (n j k t : Nat) : List Nat :=
  if t ≤ n / 2 then rep [46] (n - 2 * t) ++ rep [115, 116] t
  else if n % 2 = 0 then rep [115, 116] (n - t) ++ rep [46] (j * (t - n / 2))
  else rep [116, 115] (n / 2 - (t - n / 2 - 1)) ++ [116] ++ rep [46] (k * (t - n / 2 - 1))
noncomputable def wdLoop (j k : Nat) : Nat → Nat → Nat → Nat × Nat
  | 0, n, t => (n, t)
  | f + 1, n, t => if 1 < n ∧ n + n % 2 ≤ t then wdLoop j k f (if n % 2 = 0 then j * (n / 2) else k * (n / 2 + 1) - 1) (t - (n + n % 2)) else (n, t)
noncomputable def wd (start : List Nat) (j k t : Nat) : List Nat :=
  if t ≤ start.length / 2 then start.drop (2 * t) ++ rep [115, 116] t
  else let p := wdLoop j k 26 start.length t; wdEnd p.1 j k p.2
noncomputable def dueL (start : List Nat) (j k : Nat) : Nat → Nat → List Dat
  | 0, _ => []
  | f + 1, i => entry i (wd start j k i) :: (if (wd start j k i).length < 2 then [] else dueL start j k f (i + 1))
/-- a start with its letters told by their places alone -/
noncomputable def blank (n : Nat) : List Nat := (List.range n).map fun p => if p % 2 = 0 then 46 else 1000 + p
noncomputable def okHead (u : List Nat) : Bool := match u with
  | a :: _ :: _ => a == 46 || a == 115 || a == 116
  | _ => true
noncomputable def chk (start : List Nat) (j k : Nat) : Nat → Nat → List Nat → Bool
  | 0, _, _ => true
  | f + 1, i, u => (u == wd start j k i) && okHead u && !u.isEmpty && decide (u.length ≤ 300) && (decide (u.length < 2) || chk start j k f (i + 1) (nxt j k u))
theorem chk_all : ((List.range 12).all fun n => (List.range 2).all fun j => (List.range 4).all fun k => chk (blank (n + 2)) (j + 1) (k + 1) 26 0 (blank (n + 2))) = true := by decide +kernel

noncomputable def sg (l : Nat → Nat) (c : Nat) : Nat := if c = 46 ∨ c = 115 ∨ c = 116 then c else l (c - 1000)
theorem rep_map (l : Nat → Nat) (a : List Nat) (h : a.map (sg l) = a) (n : Nat) : (rep a n).map (sg l) = rep a n := by
  unfold rep
  induction n with
  | zero => rfl
  | succ n ih => rw [List.replicate_succ, List.flatten_cons, List.map_append, ih, h]
theorem m1 (l : Nat → Nat) : [46].map (sg l) = [46] := rfl
theorem m2 (l : Nat → Nat) : [115, 116].map (sg l) = [115, 116] := rfl
theorem m3 (l : Nat → Nat) : [116, 115].map (sg l) = [116, 115] := rfl
theorem m4 (l : Nat → Nat) : [116].map (sg l) = [116] := rfl
theorem wdEnd_map (l : Nat → Nat) (n j k t : Nat) : (wdEnd n j k t).map (sg l) = wdEnd n j k t := by
  unfold wdEnd
  split
  · rw [List.map_append, rep_map l _ (m1 l), rep_map l _ (m2 l)]
  · split
    · rw [List.map_append, rep_map l _ (m1 l), rep_map l _ (m2 l)]
    · rw [List.map_append, List.map_append, rep_map l _ (m1 l), rep_map l _ (m3 l), m4]
theorem wd_map (l : Nat → Nat) (start : List Nat) (j k t : Nat) : (wd start j k t).map (sg l) = wd (start.map (sg l)) j k t := by
  unfold wd
  rw [List.length_map]
  split
  · rw [List.map_append, rep_map l _ (m2 l), List.map_drop]
  · exact wdEnd_map ..
theorem rul_map (l : Nat → Nat) (j k a : Nat) : (rul j k a).map (sg l) = rul j k a := by
  unfold rul
  split
  · rfl
  · split <;> (rw [List.map_replicate]; rfl)
theorem nxt_map (l : Nat → Nat) (j k a b : Nat) (r : List Nat) (h : a = 46 ∨ a = 115 ∨ a = 116) : (nxt j k (a :: b :: r)).map (sg l) = nxt j k ((a :: b :: r).map (sg l)) := by
  show (r ++ rul j k a).map (sg l) = r.map (sg l) ++ rul j k (sg l a)
  rw [List.map_append, rul_map, show sg l a = a from if_pos h]
theorem run_law (l : Nat → Nat) (hl : ∀ p, l p ≠ 39 ∧ l p ≠ 10 ∧ l p ≠ 13) (start : List Nat) (j k : Nat) : ∀ (f i : Nat) (u : List Nat), chk start j k f i u = true →
    GoodRun j k f (u.map (sg l)) ∧ runD j k f i (u.map (sg l)) = dueL (start.map (sg l)) j k f i := by
  intro f
  induction f with
  | zero => intro i u _; exact ⟨trivial, rfl⟩
  | succ f ih =>
    intro i u h
    unfold chk at h
    simp only [Bool.and_eq_true, Bool.or_eq_true, decide_eq_true_eq, beq_iff_eq] at h
    obtain ⟨⟨⟨⟨h1, h2⟩, h3⟩, h4⟩, h5⟩ := h
    have hne : u ≠ [] := by rintro rfl; cases h3
    have ok : ∀ c ∈ u.map (sg l), c ≠ 39 ∧ c ≠ 10 ∧ c ≠ 13 := by
      intro c hc
      obtain ⟨a, _, rfl⟩ := List.mem_map.mp hc
      unfold sg
      split
      · next h => rcases h with rfl | rfl | rfl <;> decide
      · exact hl _
    have hlen : (u.map (sg l)).length = u.length := List.length_map ..
    have e1 : u.map (sg l) = wd (start.map (sg l)) j k i := by rw [← wd_map, ← h1]
    have good : GoodU (u.map (sg l)) := by
      refine ⟨ok, by omega, by simpa using hne, fun h => ?_⟩
      match u, hlen, h2 with
      | [], hlen, _ => rw [hlen] at h; exact absurd h (by decide)
      | [a], hlen, _ => rw [hlen] at h; exact absurd h (by simp)
      | a :: b :: r, _, h2 =>
        have h2' : a = 46 ∨ a = 115 ∨ a = 116 := by simpa [okHead, or_assoc] using h2
        have : sg l a = a := if_pos h2'
        show sg l a = 46 ∨ sg l a = 115 ∨ sg l a = 116
        rw [this]; exact h2'
    have nx : 2 ≤ u.length → (nxt j k u).map (sg l) = nxt j k (u.map (sg l)) := by
      intro hu
      match u, hu, h2 with
      | [], hu, _ => exact absurd hu (by decide)
      | [a], hu, _ => exact absurd hu (by simp)
      | a :: b :: r, _, h2 =>
        have h2' : a = 46 ∨ a = 115 ∨ a = 116 := by simpa [okHead, or_assoc] using h2
        exact nxt_map l j k a b r h2'
    refine ⟨⟨good, fun hu => ?_⟩, ?_⟩
    · rw [hlen] at hu
      rw [← nx hu]
      exact (ih (i + 1) _ (h5.resolve_left (by omega))).1
    · show entry i (u.map (sg l)) :: (if (u.map (sg l)).length < 2 then [] else runD j k f (i + 1) (nxt j k (u.map (sg l)))) = entry i (wd (start.map (sg l)) j k i) :: (if (wd (start.map (sg l)) j k i).length < 2 then [] else dueL (start.map (sg l)) j k f (i + 1))
      rw [← e1]
      split
      · rfl
      · next hu =>
        rw [hlen] at hu
        rw [← nx (by omega), (ih (i + 1) _ (h5.resolve_left (by omega))).2]
noncomputable def startL (n : Nat) (l : Nat → Nat) : List Nat := (List.range n).map fun p => if p % 2 = 0 then 46 else l p
theorem blank_map (n : Nat) (l : Nat → Nat) : (blank n).map (sg l) = startL n l := by
  unfold blank startL
  rw [List.map_map]
  refine List.map_congr_left fun p _ => ?_
  show sg l (if p % 2 = 0 then 46 else 1000 + p) = _
  split
  · rfl
  · unfold sg
    rw [if_neg (by omega), Nat.add_sub_cancel_left]
/-- the law: for all n from 2 to 13, j from 1 to 2, k from 1 to 4 and all letters -/
theorem plain_law (l : Nat → Nat) (hl : ∀ p, l p ≠ 39 ∧ l p ≠ 10 ∧ l p ≠ 13) (n j k : Nat) (hn : 2 ≤ n ∧ n ≤ 13) (hj : 1 ≤ j ∧ j ≤ 2) (hk : 1 ≤ k ∧ k ≤ 4) :
    GoodRun j k 26 (startL n l) ∧ runD j k 26 0 (startL n l) = dueL (startL n l) j k 26 0 := by
  have h := chk_all
  rw [List.all_eq_true] at h
  have h := h (n - 2) (List.mem_range.mpr (by omega))
  rw [List.all_eq_true] at h
  have h := h (j - 1) (List.mem_range.mpr (by omega))
  rw [List.all_eq_true] at h
  have h := h (k - 1) (List.mem_range.mpr (by omega))
  rw [show n - 2 + 2 = n by omega, show j - 1 + 1 = j by omega, show k - 1 + 1 = k by omega] at h
  rw [← blank_map]
  exact run_law l hl (blank n) j k 26 0 (blank n) h
end Mine
end

section -- StrOps
open PySem PySem.W PySem.Spec PySem.Calls PyProof.Rows
namespace Mine
set_option maxRecDepth 100000
theorem slice_S (l : List Nat) (i : Nat) (h : i ≤ l.length) : Txt.slice (S l) (some (i : Int)) none = S (l.drop i) := by
  rw [slice_from_eq (b := (l.length : Int)) (by omega) (by rw [S_len]; omega) (by rw [S_len]), S_list, Int.toNat_natCast]
  unfold S
  congr 2
  exact List.take_of_length_le (by rw [List.length_drop]; omega)
theorem foldl_app (a : Array Nat) : ∀ (n : Nat) (b : Array Nat), ((List.replicate n a).foldl (· ++ ·) b).toList = b.toList ++ (List.replicate n a.toList).flatten
  | 0, b => by simp
  | n + 1, b => by
    rw [List.replicate_succ, List.foldl_cons, foldl_app a n, Array.toList_append, List.replicate_succ, List.flatten_cons, List.append_assoc]
theorem mul_S (a : List Nat) (n : Nat) : Txt.mul (S a) (n : Int) = S (rep a n) := by
  unfold Txt.mul
  by_cases h : (n : Int) < 1
  · rw [if_pos h]
    have : n = 0 := by omega
    subst this; rfl
  · rw [if_neg h]
    split
    · next h2 =>
      simp only [Bool.or_eq_true, beq_iff_eq] at h2
      rcases h2 with h2 | h2
      · have : n = 1 := by omega
        subst this
        unfold rep; simp
      · rw [S_len] at h2
        have : a = [] := List.eq_nil_of_length_eq_zero h2
        subst this
        unfold rep; simp
    · unfold S
      congr 1
      rw [← Array.toList_inj, foldl_app, Int.toNat_natCast]
      simp [rep]
section
variable {prog : Program} {w : World} {A : Around} {E : Value → Shared → Prop} {s : Shared} {t u : Tok} {h₀ : Heap} {L : Addr} {m : Str → Option Value} {news : List (Addr × Obj)} {Q : Value → Shared → Prop}
theorem mul_wp {x : Str} {a : List Nat} {i : Int} {n : Nat} (hx : x = S a) (hi : i = (n : Int)) (hl : a.length ≤ 16) (hn : n ≤ 1000) (h : ∀ t' k, Q (.str (S (rep a n)) t') { s with toks := k }) : wpAny (model prog w) A (binaryOp .Mult (.str x t) (.int i u)) Q E s := by
  subst hx hi
  refine KXi.mul (n := a.length) (S_len a) hl (by omega) (by omega) fun t' k _ _ => ?_
  rw [mul_S]
  exact h t' k
theorem item_wp {value slice : PySem.Expr} {l : List Nat} {i : Int} {c : Nat} (h0 : 0 ≤ i) (hc : l[i.toNat]? = some c) (hl : l.length ≤ 10000) (h : ∀ t' k, Q (.str (S [c]) t') { s with toks := k })
    (hs : subscripted slice false (.str (S l) t) (.int i u) = operate [.str (S l) t, .int i u] (getItem (.str (S l) t) (.int i u)) := by with_unfolding_all rfl)
    (ht : ∀ r, letTemporaryGo value (.str (S l) t) r = pure () := by intro _; with_unfolding_all rfl) :
    wpAny (model prog w) A (subscriptTail value slice (.str (S l) t) (.int i u)) Q E s := by
  have hlt : i.toNat < l.length := (List.getElem?_eq_some_iff.mp hc).1
  refine KXi.item (n := l.length) (S_len l) (by omega) (by omega) (by omega) (fun _ => ?_) hs ht
  have e : Txt.item (S l) i = S [c] := by
    unfold Txt.item Txt.charAt
    have h1 : seqIndex? i (S l).length = some i.toNat := by
      rw [S_len]
      unfold seqIndex?
      have hj : (if i < 0 then i + (l.length : Int) else i) = i := if_neg (by omega)
      simp only [hj]
      rw [if_pos (by simp; omega)]
    rw [h1]
    show (⟨#[((S l).cps[i.toNat]?).getD 0]⟩ : Str) = _
    have h2 : (S l).cps[i.toNat]? = some c := by simpa [S] using hc
    rw [h2]
    rfl
  rw [e]
  exact h _ _

theorem lenS_wp {l : List Nat} (hl : l.length ≤ 10000) (h : ∀ t k, Q (.int (l.length : Nat) t) { s with toks := k }) : wpAny (model prog w) A (call (.builtin "len") [.str (S l) t]) Q E s := by
  refine PySem.P.len_str (by rw [S_len]; omega) ?_
  rw [S_len]
  exact h _ _
theorem sliceS_wp {value slice : PySem.Expr} {l : List Nat} {i : Int} {n : Nat} {ui : Tok} (hF : Fr h₀ L s.heap m) (hN : News h₀ L s.heap news) (hi : i = (n : Int)) (hn : n ≤ l.length) (hl : l.length ≤ 10000) (h : ∀ h' t' k, Fr h₀ L h' m → News h₀ L h' news → Q (.str (S (l.drop n)) t') { s with heap := h', toks := k })
    (hs : subscripted slice false (.str (S l) t) (.ref s.heap.objs.size) = operate [.ref s.heap.objs.size, .str (S l) t] (getItem (.str (S l) t) (.ref s.heap.objs.size)) := by with_unfolding_all rfl)
    (ht : ∀ r, letTemporaryGo value (.str (S l) t) r = pure () := by intro _; with_unfolding_all rfl) :
    wpAny (model prog w) A (subscriptTail value slice (.str (S l) t) (.ref s.heap.objs.size)) Q E { s with heap := s.heap.push { cls := .type "slice", data := .fields #[.int i ui, .none, .none] } } := by
  subst hi
  refine slice_strN_sn hF hN (fun h' t' k F N => ?_) hs ht (by rw [S_len, sizeLine_eq]; omega)
  rw [slice_S _ _ hn]
  exact h h' t' k F N
theorem mul_dot (i : Nat) : Txt.mul (Str.ofString ".") ((i : Int) + 2) = S (46 :: 46 :: List.replicate i 46) := by
  rw [dotS, show (i : Int) + 2 = ((i + 2 : Nat) : Int) by omega, mul_S]
  unfold rep
  congr 1
  show (List.replicate (i + 2) [46]).flatten = List.replicate (i + 2) 46
  generalize i + 2 = n
  induction n with
  | zero => rfl
  | succ n ih => rw [List.replicate_succ, List.flatten_cons, ih, List.replicate_succ]; rfl
theorem isdot {a : Nat} : (S [a] == Str.ofString ".") = decide (a = 46) := by
  rw [dotS]
  by_cases h : a = 46
  · subst h; decide +kernel
  · rw [decide_eq_false h]
    apply Bool.eq_false_iff.mpr
    intro q
    rw [beq_iff_eq] at q
    have := congrArg (fun x : Str => x.cps.toList) q
    simp [S] at this
    exact h this
end

theorem entryIn {all : List (Addr × Obj)} {T Rw P : Addr} {w : List Nat} {i n : Nat} {x1 x2 x3 : Str} {a1 a2 a3 : Tok} (hT : (T, ({ cls := .type "tuple", data := .seq #[.ref Rw, .ref P] } : Obj)) ∈ all) (hR : (Rw, listOf (#[.str x1 a1, .str x2 a2, .str x3 a3] : Array Value) n) ∈ all) (e1 : x1 = S (dd (mk w))) (e2 : x2 = S []) (e3 : x3 = S (46 :: 46 :: List.replicate i 46))
    (hP : DatIn all (.ref P) (partsD w)) : DatIn all (.ref T) (entry i w) := by
  subst e1 e2 e3
  exact DatIn.tuple (vs := [.ref Rw, .ref P]) (n := 0) hT (.cons (DatIn.list (vs := [.str (S (dd (mk w))) a1, .str (S []) a2, .str (S (46 :: 46 :: List.replicate i 46)) a3]) hR (.cons (.str _ _) (.cons (.str _ _) (.cons (.str _ _) .nil)))) (.cons hP .nil))
theorem dd_yes {w : List Nat} {a : Nat} {r : List Nat} (h : w = a :: r) (ha : a = 46) : dd (mk w) = [46] ++ mk w := by
  subst h ha; rfl
theorem dd_not {w : List Nat} {a : Nat} {r : List Nat} (h : w = a :: r) (ha : a ≠ 46) : dd (mk w) = mk w := by
  subst h
  unfold dd
  have e : mk (a :: r) = a :: 39 :: mk r := rfl
  rw [e, if_neg (by simpa using ha)]

theorem ord3 {a b c : Addr} {x y z : Obj} {news : List (Addr × Obj)} (h1 : AllLt a news) (h2 : AllLt b news) (h3 : ∀ p ∈ news, p.1 < c) : ∀ p ∈ news, ∀ q ∈ [(a, x), (b, y), (c, z)], @LT.lt Nat _ p.1 q.1 := fun p hp q hq => by
  simp only [List.mem_cons, List.not_mem_nil, or_false] at hq
  rcases hq with rfl | rfl | rfl
  · exact ktn_ltOf h1 p hp
  · exact ktn_ltOf h2 p hp
  · exact h3 p hp
noncomputable def HeardRet (h₀ : Heap) (L : Addr) (m : Str → Option Value) (news : List (Addr × Obj)) (Q : Value → Shared → Prop) (s : Shared) (i : Nat) (w : List Nat) : Prop :=
  ∀ T tl h' tk', Fr h₀ L h' m → News h₀ L h' (tl ++ news) → DatIn tl (.ref T) (entry i w) → (∀ p ∈ news, ∀ q ∈ tl, @LT.lt Nat _ p.1 q.1) → Q (.ref T) { s with heap := h', toks := tk' }
section
variable {h₀ g : Heap} {L L' : Addr} {m m' : Str → Option Value} {news : List (Addr × Obj)} {Q : Value → Shared → Prop} {s : Shared} {h' : Heap} {tk' : Nat} {T P Rw : Addr} {i n : Nat} {x1 x2 x3 : Str} {a1 a2 a3 b1 b2 b3 : Tok}
theorem heard_fin1 {a : Nat} {y : Str} (ret : HeardRet h₀ L m news Q s i [a]) (F : Fr g L' h' m')
    (N : News g L' h' ((T, ({ cls := .type "tuple", data := .seq #[.ref Rw, .ref P] } : Obj)) :: (P, ({ cls := .type "tuple", data := .seq #[.none, .none, .str y b1] } : Obj)) :: (Rw, listOf (#[.str x1 a1, .str x2 a2, .str x3 a3] : Array Value) n) :: news))
    (e1 : x1 = S (dd (mk [a]))) (e2 : x2 = S []) (e3 : x3 = S (46 :: 46 :: List.replicate i 46)) (ey : y = S (dd (mk [a]))) (o1 : AllLt T news) (o2 : AllLt P news) (o3 : ∀ p ∈ news, p.1 < Rw) :
    Back h₀ L m g Q (.ret (.ref T)) { s with heap := h', toks := tk' } := by
  subst ey
  exact back F N fun f n => ret T [_, _, _] _ _ f n (entryIn (.head _) (.tail _ (.tail _ (.head _))) e1 e2 e3 (DatIn.tuple (vs := [.none, .none, .str (S (dd (mk [a]))) b1]) (n := 0) (.tail _ (.head _)) (.cons .none (.cons .none (.cons (.str _ _) .nil))))) (ord3 o1 o2 o3)
theorem heard_fin2 {a b : Nat} {r : List Nat} {y1 y2 y3 : Str} {k : Nat} (ret : HeardRet h₀ L m news Q s i (a :: b :: r)) (F : Fr g L' h' m')
    (N : News g L' h' ((T, ({ cls := .type "tuple", data := .seq #[.ref Rw, .ref P] } : Obj)) :: (P, listOf (#[.str y1 b1, .str y2 b2, .str y3 b3] : Array Value) k) :: (Rw, listOf (#[.str x1 a1, .str x2 a2, .str x3 a3] : Array Value) n) :: news))
    (e1 : x1 = S (dd (mk (a :: b :: r)))) (e2 : x2 = S []) (e3 : x3 = S (46 :: 46 :: List.replicate i 46)) (f1 : y1 = S (dd [a])) (f2 : y2 = S [b]) (f3 : y3 = S (mk r)) (o1 : AllLt T news) (o2 : AllLt P news) (o3 : ∀ p ∈ news, p.1 < Rw) :
    Back h₀ L m g Q (.ret (.ref T)) { s with heap := h', toks := tk' } := by
  subst f1 f2 f3
  exact back F N fun f n => ret T [_, _, _] _ _ f n (entryIn (.head _) (.tail _ (.tail _ (.head _))) e1 e2 e3 (DatIn.list (vs := [.str (S (dd [a])) b1, .str (S [b]) b2, .str (S (mk r)) b3]) (.tail _ (.head _)) (.cons (.str _ _) (.cons (.str _ _) (.cons (.str _ _) .nil))))) (ord3 o1 o2 o3)
end
end Mine
end

local macro_rules | `(tactic| walk_at "mine pad") => `(tactic| fail)
local macro_rules | `(tactic| walk_at "mine pad") => `(tactic| fail)
local macro_rules | `(tactic| walk_at "mine pad") => `(tactic| fail)
local macro_rules | `(tactic| walk_at "mine pad") => `(tactic| fail)
local macro_rules | `(tactic| walk_at "mine pad") => `(tactic| fail)
section -- WRun
open PySem PySem.W PySem.Spec PySem.Calls PyProof.Rows PyProof.Rows.LCg
namespace Mine
set_option maxRecDepth 100000
set_option pp.deepTerms false
set_option pp.deepTerms.threshold 6
set_option pp.proofs false
example : (PySem.Challenge.rw_sh0062_01, KK) = (PySem.Challenge.rw_sh0062_01, KK) := by k_fill; rfl

theorem tickS : Str.ofString "." = S (46 :: List.replicate 0 46) := by decide +kernel
theorem crlfS : Str.ofString "\r\n" = S [13, 10] := by decide +kernel
theorem frBind {h₀ h : Heap} {L : Addr} {m : Str → Option Value} {x : Str} {v : Value} (F : Fr h₀ L h m) (e : m x = some v) : Fr h₀ L h (fun y => if y = x then some v else m y) := by
  have : m = fun y => if y = x then some v else m y := funext fun y => by
    split
    · next h => rw [h, e]
    · rfl
  rwa [← this]
section
variable {prog : Program} {w : World} {A : Around} {E : Value → Shared → Prop} {s : Shared} {env : Env} {test : PySem.Expr} {body orelse : List Stmt} {Q : Flow → Shared → Prop}
theorem whl_ind {I : Nat → Shared → Prop} (hE : PassesOwn (model prog w) A env E)
    (step : ∀ f s, I (f + 1) s → wpAny (model prog w) A (isTrue test env (eval test env)) (fun b s₂ => b = true ∧ wpAny (model prog w) A (execs body env) (fun fl s' => match fl with | .next => I f s' | .cont => I f s' | .brk => Q .next s' | .ret v => Q (.ret v) s') E s₂) E s)
    (zero : ∀ s, I 0 s → wpAny (model prog w) A (isTrue test env (eval test env)) (fun b s₂ => b = false ∧ wpAny (model prog w) A (execs orelse env) Q E s₂) E s) :
    ∀ (f k : Nat) (s : Shared), I f s → WhlRest prog w A E env test body orelse Q (k + 1) s := by
  intro f
  induction f with
  | zero =>
    intro k s h
    exact whl_turn hE (wpAny_mono (zero s h) (fun b s₂ q => .no q.1 q.2) fun _ _ e => e)
  | succ f ih =>
    intro k s h
    refine whl_turn hE (wpAny_mono (step f s h) (fun b s₂ q => .yes q.1 (wpAny_mono q.2 (fun fl s' hq => ?_) fun _ _ e => e)) fun _ _ e => e)
    cases fl with
    | next => exact ih 0 s' hq
    | cont => exact ih 0 s' hq
    | brk => exact hq
    | ret v => exact hq
end
theorem newsUp {h₀ h : Heap} {L : Addr} {a b c d x : Addr × Obj} {tl : List (Addr × Obj)} (N : News h₀ L h (a :: b :: c :: d :: x :: tl)) : News h₀ L h (x :: a :: b :: c :: tl) :=
  News.sub N fun p hp => by
    simp only [List.mem_cons] at hp ⊢
    rcases hp with h | h | h | h | h <;> simp [h]
theorem neUp {a b c Tl : Addr} {x y z : Obj} {tl : List (Addr × Obj)} (ne : ∀ p ∈ tl, p.1 ≠ Tl) (h1 : @LT.lt Nat _ Tl a) (h2 : @LT.lt Nat _ Tl b) (h3 : @LT.lt Nat _ Tl c) : ∀ p ∈ (a, x) :: (b, y) :: (c, z) :: tl, p.1 ≠ Tl := fun p hp => by
  simp only [List.mem_cons] at hp
  rcases hp with rfl | rfl | rfl | h
  · exact Nat.ne_of_gt h1
  · exact Nat.ne_of_gt h2
  · exact Nat.ne_of_gt h3
  · exact ne p h
theorem newsDup {h₀ h : Heap} {L : Addr} {q a b : Addr × Obj} {tl : List (Addr × Obj)} (N : News h₀ L h (q :: tl)) (ha : a ∈ tl) (hb : b ∈ tl) : News h₀ L h (q :: a :: b :: tl) :=
  News.sub N fun p hp => by
    simp only [List.mem_cons] at hp ⊢
    rcases hp with h | h | h | h
    · exact .inl h
    · exact .inr (h ▸ ha)
    · exact .inr (h ▸ hb)
    · exact .inr h
theorem neDup {a b : Addr × Obj} {Tl : Addr} {tl : List (Addr × Obj)} (ne : ∀ p ∈ tl, p.1 ≠ Tl) (ha : a ∈ tl) (hb : b ∈ tl) : ∀ p ∈ a :: b :: tl, p.1 ≠ Tl := fun p hp => by
  simp only [List.mem_cons] at hp
  rcases hp with h | h | h
  · exact ne p (h ▸ ha)
  · exact ne p (h ▸ hb)
  · exact ne p h
structure RunInv (P : Params) (r : RW) (j k : Nat) (g : Heap) (L' : Addr) (s₀ : Shared) (Tl : Addr) (news : List (Addr × Obj)) (u0 : List Nat) (f : Nat) (s' : Shared) (u : List Nat) (vs : List Value) (nn : Nat) (m : Str → Option Value) (tl : List (Addr × Obj)) (ds : List Dat) (tt tc : Tok) : Prop where
  st : s' = { s₀ with heap := s'.heap, toks := s'.toks }
  len : vs.length + f = 26
  good : GoodRun j k f u
  F : Fr g L' s'.heap m
  tape : m (Str.ofString "tape") = some (.str (S (mk u)) tt)
  clock : ∃ x, x = S (46 :: List.replicate vs.length 46) ∧ m (Str.ofString "clock") = some (.str x tc)
  told : m (Str.ofString "told") = some (.ref Tl)
  rules : m (Str.ofString "rules") = some (.ref r.x)
  N : News g L' s'.heap ((Tl, listOf vs.toArray nn) :: tl)
  ne : ∀ p ∈ tl, p.1 ≠ Tl
  sub : ∀ p ∈ news, p ∈ tl
  dat : DatAll tl vs ds
  tot : ds ++ runD j k f vs.length u = runD j k 26 0 u0
noncomputable def RunI (P : Params) (r : RW) (j k : Nat) (g : Heap) (L' : Addr) (s₀ : Shared) (Tl : Addr) (news : List (Addr × Obj)) (u0 : List Nat) (f : Nat) (s' : Shared) : Prop := ∃ u vs nn m tl ds tt tc, RunInv P r j k g L' s₀ Tl news u0 f s' u vs nn m tl ds tt tc
section
local macro_rules | `(tactic| walk_at "exec While") => `(tactic| (k_here; (refine hold_of ?_)))
local macro_rules | `(tactic| walk_at "exec While Compare") => `(tactic| (k_here; (refine hold_of ?_)))
local macro_rules | `(tactic| walk_at "call builtin:len") => `(tactic| (k_here; k_dflt (refine len_vs (News.isList (by k_asm) (by k_mem)) (by (try simp only [List.length_append, List.length_cons, List.length_nil]); omega) ?_); intro lenT lenK))
local macro_rules | `(tactic| walk_at "call builtin:list.append") => `(tactic| (k_here; (refine hold_of ?_)))
local macro_rules | `(tactic| walk_at "subscriptTail Name BinOp ref int") => `(tactic| (k_here; k_dflt (refine item_ends (News.isList (by k_asm) (by k_mem)) (by decide +kernel) ?_); intro t'))
local macro_rules | `(tactic| walk_at "call builtin:str.split") => `(tactic| (k_here; k_dflt (refine splitQ_wp (by k_asm) (by k_asm) (by assumption) (by assumption) (by assumption) (by exact crlfS) ?_); intro D' ta' tb' tr' h' k' F' N' l1; (try k_lt l1)))
local macro_rules | `(tactic| walk_at "binaryOp Add str str") => `(tactic| (k_here; k_dflt (refine add_S (by exact rfl) (by first | assumption | exact rfl) (by (try simp only [List.length_append, List.length_cons, List.length_nil]); omega) ?_); intro t' tk'))
local macro_rules | `(tactic| walk_at "call ref") => `(tactic| (k_here; k_dflt (first
  | (refine sp_prep (by k_asm) (by k_asm) (by k_asm) (by k_asm) (by k_asm) (by rfl) _ _ (by assumption) (by assumption) (by omega) (by omega) ?_; intro t' h' tk' F' N')
  | (refine sp_decA (by k_asm) (by k_asm) (by k_asm) (by k_asm) (by k_asm) (by rfl) _ _ _ _ (by assumption) (by assumption) (by assumption) (by omega) (by omega) ?_; intro D' ta' tb' tr' h' tk' F' N' l1; (try k_lt l1))
  | (refine sp_decB (by k_asm) (by k_asm) (by k_asm) (by k_asm) (by k_asm) (by rfl) _ _ (by assumption) (by omega) (by omega) ?_; intro D' ta' h' tk' F' N' l1; (try k_lt l1))
  | (refine sp_getA _ (by assumption) (by assumption) (by assumption) (by k_asm) (by k_asm) (by k_asm) (by k_asm) (by repeat (first | assumption | refine memTail ?_)) (by k_asm) (by rfl) (by omega) (by omega) ?_; intro t' h' tk' F' N')
  | (refine sp_quote (by k_asm) (by k_asm) (by k_asm) (by k_asm) (by k_asm) (by rfl) _ _ _ _ _ (by rw [List.append_assoc]) (by assumption) (by assumption) (by assumption) (by assumption) (by omega) (by omega) ?_; intro t' h' tk' F' N'))))

set_option maxHeartbeats 8000000 in
theorem sp_run {w : World} {dp un : Nat} {gd : Option (List Code)} {cn : Str} {cs : Scope} {L a : Addr} {ccd : Value} {cl : List (Str × Addr)} {outer : List Env} {A₀ : Around} {base h₀ : Heap} {m : Str → Option Value} {news : List (Addr × Obj)} {s : Shared} {Q E : Value → Shared → Prop} {mean : ExcName → Option Value} {mg mb : Str → Option Value} {vp : Program} {loose : List Str}
   (B : Below A₀ base outer h₀) (F : Fr h₀ L s.heap m) (X : (KK w.params).In h₀) (N : News h₀ L s.heap news) (T : Top vp loose mean mg mb h₀) (hk : cs.kind = .function) (r : RW) (j k : Nat) (hR : r.Ok j k) (hj : j ≤ 10) (hk2 : k ≤ 10) (hr : ∀ p ∈ r.led w.params, p ∈ news) (tp : List Nat) (t : Tok) (hl : tp.length ≤ 4000) (hx : (pre0 tp).length ≤ 4000) (hG : GoodRun j k 26 (pre0 tp)) (hdp : dp + 80 < recursionLimit) (hun : un + 800 < cLine) (ret : ∀ all Tl h' tk', Fr h₀ L h' m → News h₀ L h' all → (∀ p ∈ news, p ∈ all) → DatIn all (.ref Tl) (.list (runD j k 26 0 (pre0 tp))) → Q (.ref Tl) { s with heap := h', toks := tk' }) :
   wpAny (model pw w) (ktrTop dp un gd cn cs L a ccd cl outer) (call (.ref 304) [.ref r.x, .str (S tp) t]) Q E s := by
  refine entN [(Str.ofString "rules", .ref r.x), (Str.ofString "typed", .str (S tp) t)] B F X N T hk (by k_is) (by k_is) (by omega) (BindsTo.of_eq rfl) (by rfl) (by rfl) (by rfl) (by rfl) (by decide) ?_
  clear B F X N T
  intro g L' h₁ tk FG F N B X T
  k_steps
  unfold Hold
  rename Fr _ _ _ _ => F1
  rename News _ _ _ _ => N1
  rename ∀ p ∈ news, _ => q1
  refine whl_start 100 ?_
  refine whl_ind (I := RunI w.params r j k g L' s _ news (pre0 tp)) PassesOwn.never ?_ ?_ 26 99 _ ⟨_, [], _, _, news, [], _, _, rfl, rfl, hG, F1, rfl, ⟨_, tickS, rfl⟩, rfl, rfl, N1, fun p hp => Nat.ne_of_lt (q1 p hp), fun p hp => hp, .nil, rfl⟩
  · clear F1 N1
    rintro f s' ⟨u, vs, nn, m', tl, ds, tt, tc, st, len, good, F, tape, ⟨xc, ec, clock⟩, told, rules, N, ne, sub, dat, tot⟩
    have F := frBind (x := Str.ofString "clock") (v := .str xc tc) (frBind F tape) clock
    have F := frBind (x := Str.ofString "told") (v := .ref _) F told
    have F := frBind (x := Str.ofString "rules") (v := .ref r.x) F rules
    obtain ⟨hG1, hG2⟩ := good
    have pu := mk_plain hG1.ok
    have lu := hG1.len
    obtain ⟨h9, g9, d9, t9, os9⟩ := s'
    cases st
    have lmk : (mk u).length ≤ 2000 := by rw [mk_len]; omega
    have le := len_ends vs.length
    have lck : (List.replicate vs.length 46).length ≤ 500 := by rw [List.length_replicate]; omega
    have pck : Plain (List.replicate vs.length 46) := fun c hc => by rw [List.eq_of_mem_replicate hc]; decide
    have pdd := dd_plain pu
    have pck2 : Plain (46 :: 46 :: List.replicate vs.length 46) := fun c hc => by
      rcases List.mem_cons.mp hc with rfl | hc
      · decide
      · rcases List.mem_cons.mp hc with rfl | hc
        · decide
        · exact pck c hc
    have ldd : (dd (mk u)).length ≤ 2001 := by
      unfold dd
      split
      · rw [List.length_cons]; omega
      · omega
    have lmk9 : (mk u).length ≤ 9000 := by omega
    have lsp : (dd (mk u)).length + (46 :: 46 :: List.replicate vs.length 46).length ≤ 9000 := by simp only [List.length_cons]; omega
    have hrt : ∀ p ∈ r.led w.params, p ∈ tl := fun p hp => sub p (hr p hp)
    have N := newsDup N (hrt _ (.head _)) (hrt _ (.tail _ (.head _)))
    have ne := neDup ne (hrt _ (.head _)) (hrt _ (.tail _ (.head _)))
    have pk : Hold ((∀ p ∈ news, p ∈ tl) ∧ DatAll tl vs ds ∧ ds ++ runD j k (f + 1) vs.length u = runD j k 26 0 (pre0 tp) ∧ (2 ≤ u.length → GoodRun j k f (nxt j k u))) := ⟨sub, dat, tot, hG2⟩
    clear sub dat tot hG2 tape told rules clock
    match u, hG1 with
    | [], h => exact absurd rfl h.ne
    | [c], h =>
      have c39 := (h.ok c (.head _)).1
      k_steps
      unfold Hold
      rename Fr _ _ _ _ => F5
      rename News _ _ _ _ => N5
      refine append_wp F5 (newsUp N5) (neUp ne ?h1 ?h2 ?h3) (by omega) fun h' tk n' F7 N7 => ?_
      case h1 => omega
      case h2 => omega
      case h3 => omega
      clear F5 N5
      k_steps
      exact back F7 (by assumption) fun f n => ret _ _ _ _ f n (fun p hp => .tail _ (.tail _ (.tail _ (.tail _ (.tail _ (.tail _ (pk.1 p hp))))))) (leafDat (stepDat pk.2.1 (fun p hp => .tail _ (.tail _ hp)) datLeaf) pk.2.2.1)
    | c :: d :: rr, h =>
      have c39 := (h.ok c (.head _)).1
      have d39 := (h.ok d (.tail _ (.head _))).1
      have lr : rr.length ≤ 2000 := by simp only [List.length_cons] at lu; omega
      have hhd : c = 46 ∨ c = 115 ∨ c = 116 := h.hd (by simp)
      obtain ⟨lw1, lw2, lw3, lw4⟩ := low1 hhd
      have lrl := hR.lenl hj hk2 c
      have lrl4 : (r.rl c).length ≤ 4000 := by omega
      have epp : prep (r.rl c) = mk (rul j k c) := by unfold prep; rw [hR.pre]
      have lpr : (pre0 (r.rl c)).length ≤ 4000 := by rw [hR.pre]; have := rul_len (a := c) hj hk2; omega
      have lpp : (prep (r.rl c)).length ≤ 100 := by rw [epp, mk_len]; have := rul_len (a := c) hj hk2; omega
      have lmr : (mk rr).length ≤ 4000 := by rw [mk_len]; omega
      have et : mk rr ++ prep (r.rl c) = mk (nxt j k (c :: d :: rr)) := by rw [epp, ← mk_append]; rfl
      k_steps
      unfold Hold
      rename Fr _ _ _ _ => F5
      rename News _ _ _ _ => N5
      refine append_wp F5 (newsUp N5) (neUp ne ?h1 ?h2 ?h3) (by omega) fun h' tk n' F7 N7 => ?_
      case h1 => omega
      case h2 => omega
      case h3 => omega
      clear F5 N5
      k_steps
      all_goals (
        rename Fr _ _ _ _ => F8
        rename News _ _ _ _ => N8
        exact ⟨nxt j k (c :: d :: rr), vs ++ [.ref _], _, _, _, _, _, _,
          { st := rfl
            len := by rw [List.length_append, List.length_singleton]; omega
            good := pk.2.2.2 (by simp)
            F := F8
            tape := congrArg (fun l => some (Value.str (S l) _)) et
            clock := ⟨_, by rw [List.length_append]; rfl, rfl⟩
            told := rfl
            rules := rfl
            N := N8
            ne := neUp ne (by omega) (by omega) (by omega)
            sub := fun p hp => .tail _ (.tail _ (.tail _ (.tail _ (.tail _ (pk.1 p hp)))))
            dat := stepDat pk.2.1 (fun p hp => .tail _ (.tail _ hp)) datMore
            tot := by rw [List.length_append]; exact totMore pk.2.2.1 }⟩)
  · clear F1 N1
    rintro s' ⟨u, vs, nn, m', tl, ds, tt, tc, st, len, good, F, tape, ⟨xc, ec, clock⟩, told, rules, N, ne, sub, dat, tot⟩
    have F := frBind (x := Str.ofString "told") (v := .ref _) F told
    obtain ⟨h9, g9, d9, t9, os9⟩ := s'
    cases st
    k_steps
    · exact decide_eq_false (by omega)
    exact back F (by assumption) fun f n => ret _ _ _ _ f n (fun p hp => .tail _ (sub p hp)) (by
      have e : ds = runD j k 26 0 (pre0 tp) := by rw [← tot]; exact (List.append_nil _).symm
      rw [← e]
      exact DatIn.list (.head _) (dat.mono fun p hp => .tail _ hp))

end
end Mine
end

local macro_rules | `(tactic| walk_at "mine pad") => `(tactic| fail)
local macro_rules | `(tactic| walk_at "mine pad") => `(tactic| fail)
local macro_rules | `(tactic| walk_at "mine pad") => `(tactic| fail)
local macro_rules | `(tactic| walk_at "mine pad") => `(tactic| fail)
local macro_rules | `(tactic| walk_at "mine pad") => `(tactic| fail)
local macro_rules | `(tactic| walk_at "mine pad") => `(tactic| fail)
local macro_rules | `(tactic| walk_at "mine pad") => `(tactic| fail)
local macro_rules | `(tactic| walk_at "mine pad") => `(tactic| fail)
local macro_rules | `(tactic| walk_at "mine pad") => `(tactic| fail)
section -- WHeard
open PySem PySem.W PySem.Spec PySem.Calls PyProof.Rows PyProof.Rows.LCg
namespace Mine
set_option maxRecDepth 100000
set_option pp.deepTerms false
set_option pp.deepTerms.threshold 6
set_option pp.proofs false
example : (PySem.Challenge.rw_sh0062_01, KK) = (PySem.Challenge.rw_sh0062_01, KK) := by k_fill; rfl

theorem dotdotS : Str.ofString ".." = S (dd [46]) := by decide +kernel
theorem dd_one {a : Nat} (h : a ≠ 46) : dd [a] = [a] := by
  unfold dd
  rw [if_neg (by simpa using h)]
section
local macro_rules | `(tactic| walk_at "subscriptTail") => `(tactic| (k_here; k_dflt (refine item_wp (by decide) (by exact rfl) (by assumption) ?_); intro t' k'))
local macro_rules | `(tactic| walk_at "call builtin:len") => `(tactic| (k_here; k_dflt (refine lenS_wp (by assumption) ?_); intro t' k'))
local macro_rules | `(tactic| walk_at "subscriptTail") => `(tactic| (k_here; (rename Fr _ _ _ _ => lF'); (rename News _ _ _ _ => lN'); (refine sliceS_wp (s := ⟨_, _, _, _, _⟩) (n := 2) lF' lN' (by exact rfl) (by simp) (by assumption) ?_); clear lF' lN'; intro h' t' k' F' N'))
local macro_rules | `(tactic| walk_at "binaryOp Add str str") => `(tactic| (k_here; k_dflt (refine add_S (by exact dotS) (by exact rfl) (by (try simp only [List.length_append, List.length_cons, List.length_nil]); omega) ?_); intro t' tk'))
local macro_rules | `(tactic| walk_at "call ref") => `(tactic| (k_here; k_dflt (refine sp_marked (by k_asm) (by k_asm) (by k_asm) (by k_asm) (by k_asm) (by rfl) _ _ (by assumption) (by omega) (by omega) ?_; intro t' h' tk' F' N')))

set_option maxHeartbeats 8000000 in
theorem sp_heard1 {w : World} {dp un : Nat} {gd : Option (List Code)} {cn : Str} {cs : Scope} {L a : Addr} {ccd : Value} {cl : List (Str × Addr)} {outer : List Env} {A₀ : Around} {base h₀ : Heap} {m : Str → Option Value} {news : List (Addr × Obj)} {s : Shared} {Q E : Value → Shared → Prop} {mean : ExcName → Option Value} {mg mb : Str → Option Value} {vp : Program} {loose : List Str}
   (B : Below A₀ base outer h₀) (F : Fr h₀ L s.heap m) (X : (KK w.params).In h₀) (N : News h₀ L s.heap news) (T : Top vp loose mean mg mb h₀) (hk : cs.kind = .function) (a₁ i : Nat) (t ti : Tok) (hi : i ≤ 100) (hdp : dp + 60 < recursionLimit) (hun : un + 600 < cLine) (ret : HeardRet h₀ L m news Q s i [a₁]) :
   wpAny (model pw w) (ktrTop dp un gd cn cs L a ccd cl outer) (call (.ref 318) [.str (S [a₁]) t, .int (i : Nat) ti]) Q E s := by
  refine ent [(Str.ofString "word", .str (S [a₁]) t), (Str.ofString "turn", .int (i : Nat) ti)] B F X N T hk (by k_is) (by k_is) (by omega) (BindsTo.of_eq rfl) (by rfl) (by rfl) (by rfl) (by rfl) (by decide) ?_
  clear B F X N T
  intro g L' h₁ tk FG F N B X T E'
  have hl1 : [a₁].length ≤ 10000 := by simp
  have hl2 : [a₁].length ≤ 4000 := by simp
  have lmk : (mk [a₁]).length ≤ 4000 := by rw [mk_len]; simp
  k_steps
  all_goals first
    | (exfalso; rename ¬ ((_ : Int) < 2) => q; exact q (by simp))
    | skip
  · rename (S _ == Str.ofString ".") = true => q
    rw [isdot, decide_eq_true_eq] at q
    exact heard_fin1 ret (by assumption) (by assumption) (by first | exact congrArg S (dd_yes rfl q).symm | exact (dd_yes rfl q).symm | (rw [dd_yes rfl q, ← S_add]; rfl)) nostr (mul_dot i) (by first | exact congrArg S (dd_yes rfl q).symm | exact (dd_yes rfl q).symm | (rw [dd_yes rfl q, ← S_add]; rfl)) (And.right (And.right (by assumption))) (And.right (by assumption)) (by assumption)
  · rename (S _ == Str.ofString ".") = false => q
    rw [isdot, decide_eq_false_iff_not] at q
    exact heard_fin1 ret (by assumption) (by assumption) (by rw [dd_not rfl q]) nostr (mul_dot i) (by rw [dd_not rfl q]) (And.right (And.right (by assumption))) (And.right (by assumption)) (by assumption)


set_option maxHeartbeats 8000000 in
theorem sp_heard2 {w : World} {dp un : Nat} {gd : Option (List Code)} {cn : Str} {cs : Scope} {L a : Addr} {ccd : Value} {cl : List (Str × Addr)} {outer : List Env} {A₀ : Around} {base h₀ : Heap} {m : Str → Option Value} {news : List (Addr × Obj)} {s : Shared} {Q E : Value → Shared → Prop} {mean : ExcName → Option Value} {mg mb : Str → Option Value} {vp : Program} {loose : List Str}
   (B : Below A₀ base outer h₀) (F : Fr h₀ L s.heap m) (X : (KK w.params).In h₀) (N : News h₀ L s.heap news) (T : Top vp loose mean mg mb h₀) (hk : cs.kind = .function) (a₁ b i : Nat) (r : List Nat) (t ti : Tok) (hi : i ≤ 100) (hlw : (a₁ :: b :: r).length ≤ 1000) (hdp : dp + 60 < recursionLimit) (hun : un + 600 < cLine) (ret : HeardRet h₀ L m news Q s i (a₁ :: b :: r)) :
   wpAny (model pw w) (ktrTop dp un gd cn cs L a ccd cl outer) (call (.ref 318) [.str (S (a₁ :: b :: r)) t, .int (i : Nat) ti]) Q E s := by
  refine ent [(Str.ofString "word", .str (S (a₁ :: b :: r)) t), (Str.ofString "turn", .int (i : Nat) ti)] B F X N T hk (by k_is) (by k_is) (by omega) (BindsTo.of_eq rfl) (by rfl) (by rfl) (by rfl) (by rfl) (by decide) ?_
  clear B F X N T
  intro g L' h₁ tk FG F N B X T E'
  have hl1 : (a₁ :: b :: r).length ≤ 10000 := by omega
  have hl2 : (a₁ :: b :: r).length ≤ 4000 := by omega
  have hl3 : r.length ≤ 4000 := by simp only [List.length_cons] at hlw; omega
  have lmk : (mk (a₁ :: b :: r)).length ≤ 4000 := by rw [mk_len]; omega
  k_steps
  all_goals first
    | (exfalso; rename ((_ : Int) < 2) => q; simp only [List.length_cons] at q; omega)
    | skip
  · rename (S _ == Str.ofString ".") = true => q
    rw [isdot, decide_eq_true_eq] at q
    exact heard_fin2 ret (by assumption) (by assumption) (by first | exact congrArg S (dd_yes rfl q).symm | exact (dd_yes rfl q).symm | (rw [dd_yes rfl q, ← S_add]; rfl)) nostr (mul_dot i) (by subst q; exact dotdotS) rfl rfl (And.right (And.right (by assumption))) (And.right (by assumption)) (by assumption)
  · rename (S _ == Str.ofString ".") = false => q
    rw [isdot, decide_eq_false_iff_not] at q
    exact heard_fin2 ret (by assumption) (by assumption) (by rw [dd_not rfl q]) nostr (mul_dot i) (by rw [dd_one q]) rfl rfl (And.right (And.right (by assumption))) (And.right (by assumption)) (by assumption)

end
end Mine
end

section -- WordOps
open PySem PySem.W PySem.Spec PySem.Calls PyProof.Rows
namespace Mine
set_option maxRecDepth 100000
theorem mul_SZ (a : List Nat) (i : Int) : Txt.mul (S a) i = S (rep a i.toNat) := by
  by_cases h : 0 ≤ i
  · obtain ⟨n, rfl⟩ := Int.eq_ofNat_of_zero_le h
    exact mul_S a n
  · unfold Txt.mul
    rw [if_pos (by omega)]
    have : i.toNat = 0 := by omega
    rw [this]; rfl
section
variable {prog : Program} {w : World} {A : Around} {E : Value → Shared → Prop} {s : Shared} {t u : Tok} {Q : Value → Shared → Prop}
theorem mulZ_wp {x : Str} {a : List Nat} {i : Int} (n : Nat) (hx : x = S a) (hi : i.toNat = n) (hl : a.length ≤ 16) (h0 : -1000 ≤ i) (hn : i ≤ 1000) (h : ∀ t' k, Q (.str (S (rep a n)) t') { s with toks := k }) : wpAny (model prog w) A (binaryOp .Mult (.str x t) (.int i u)) Q E s := by
  subst hx hi
  refine KXi.mul (n := a.length) (S_len a) hl (by omega) (by omega) fun t' k _ _ => ?_
  rw [mul_SZ]
  exact h t' k
end
section
variable {prog : Program} {w : World} {A : Around} {E : Value → Shared → Prop} {s : Shared} {env : Env} {test : PySem.Expr} {body orelse : List Stmt} {Q : Flow → Shared → Prop}
noncomputable def Less (I : Nat → Shared → Prop) (f : Nat) (s : Shared) : Prop := ∃ f', f' < f ∧ I f' s
theorem whl_meas {I : Nat → Shared → Prop} (hE : PassesOwn (model prog w) A env E)
    (turn : ∀ f s, I f s → wpAny (model prog w) A (isTrue test env (eval test env)) (fun b s₂ => if b = true then wpAny (model prog w) A (execs body env) (fun fl s' => match fl with | .next => Less I f s' | .cont => False | .brk => Q .next s' | .ret v => Q (.ret v) s') E s₂ else wpAny (model prog w) A (execs orelse env) Q E s₂) E s) :
    ∀ (f k : Nat) (s : Shared), I f s → WhlRest prog w A E env test body orelse Q (k + 1) s := by
  intro f
  induction f using Nat.strongRecOn with
  | _ f ih =>
    intro k s h
    refine whl_turn hE (wpAny_mono (turn f s h) (fun b s₂ q => ?_) fun _ _ e => e)
    cases b with
    | true =>
      rw [if_pos rfl] at q
      refine .yes rfl (wpAny_mono q (fun fl s' hq => ?_) fun _ _ e => e)
      cases fl with
      | next => obtain ⟨f', hf, hI⟩ := hq; exact ih f' hf 0 s' hI
      | cont => exact hq.elim
      | brk => exact hq
      | ret v => exact hq
    | false =>
      rw [if_neg Bool.false_ne_true] at q
      exact .no rfl q
end
theorem wd_exit {j k f n t : Nat} (h : ¬ (1 < n ∧ n + n % 2 ≤ t)) : wdLoop j k f n t = (n, t) := by
  cases f with
  | zero => rfl
  | succ f => unfold wdLoop; rw [if_neg h]
theorem wd_go {j k f n t : Nat} (h : 1 < n ∧ n + n % 2 ≤ t) : wdLoop j k (f + 1) n t = wdLoop j k f (if n % 2 = 0 then j * (n / 2) else k * (n / 2 + 1) - 1) (t - (n + n % 2)) := by
  rw [wdLoop, if_pos h]
end Mine
end

local macro_rules | `(tactic| walk_at "mine pad") => `(tactic| fail)
local macro_rules | `(tactic| walk_at "mine pad") => `(tactic| fail)
local macro_rules | `(tactic| walk_at "mine pad") => `(tactic| fail)
local macro_rules | `(tactic| walk_at "mine pad") => `(tactic| fail)
local macro_rules | `(tactic| walk_at "mine pad") => `(tactic| fail)
local macro_rules | `(tactic| walk_at "mine pad") => `(tactic| fail)
section -- WWord
open PySem PySem.W PySem.Spec PySem.Calls PyProof.Rows PyProof.Rows.LCg
namespace Mine
set_option maxRecDepth 100000
set_option pp.deepTerms false
set_option pp.deepTerms.threshold 6
set_option pp.proofs false
example : (PySem.Challenge.rw_sh0062_01, KK) = (PySem.Challenge.rw_sh0062_01, KK) := by k_fill; rfl

theorem stW : Str.ofString "st" = S [115, 116] := by decide +kernel
theorem tsW : Str.ofString "ts" = S [116, 115] := by decide +kernel
theorem tW : Str.ofString "t" = S [116] := by decide +kernel
theorem fd2 (n : Nat) : (n : Int).fdiv 2 = ((n / 2 : Nat) : Int) := by rw [Int.fdiv_eq_ediv_of_nonneg _ (by decide)]; rfl
theorem fm2 (n : Nat) : (n : Int).fmod 2 = ((n % 2 : Nat) : Int) := by rw [Int.fmod_eq_emod_of_nonneg _ (by decide)]; rfl
theorem rep_len (a : List Nat) (n : Nat) : (rep a n).length = n * a.length := by
  unfold rep
  induction n with
  | zero => simp
  | succ n ih => rw [List.replicate_succ, List.flatten_cons, List.length_append, ih]; rw [Nat.succ_mul]; omega
theorem wd_end {st : List Nat} {j k tn n t : Nat} (h : wdLoop j k 26 st.length tn = (n, t)) (hh : ¬ tn ≤ st.length / 2) : wd st j k tn = wdEnd n j k t := by
  unfold wd
  rw [if_neg hh, h]
structure WInv (g : Heap) (L' : Addr) (s₀ : Shared) (news : List (Addr × Obj)) (j k N0 T0 : Nat) (tj tk : Tok) (f : Nat) (s' : Shared) (n t : Nat) (tn tt : Tok) (mm : Str → Option Value) : Prop where
  st : s' = { s₀ with heap := s'.heap, toks := s'.toks }
  F : Fr g L' s'.heap mm
  N : News g L' s'.heap news
  vn : mm (Str.ofString "n") = some (.int (n : Nat) tn)
  vt : mm (Str.ofString "turn") = some (.int (t : Nat) tt)
  vj : mm (Str.ofString "j") = some (.int (j : Nat) tj)
  vk : mm (Str.ofString "k") = some (.int (k : Nat) tk)
  lo : wdLoop j k f n t = wdLoop j k 26 N0 T0
  l1 : t ≤ 2 * f + 1
  l2 : t ≤ 30
  l3 : 1 ≤ n
  l4 : n ≤ 100
theorem w_a1 {n t f : Nat} (p4 : 1 < n ∧ n + n % 2 ≤ t) (l1 : t ≤ 2 * (f + 1) + 1) : t - (n + n % 2) ≤ 2 * f + 1 := by omega
theorem w_a3 {x : Nat} (h : 1 * 2 ≤ x) : 1 ≤ x - 1 := by omega
theorem w_a4 {x : Nat} (h : x ≤ 4 * 16) : x - 1 ≤ 100 := by omega
theorem w_e1 {x : Nat} (h : 1 * 2 ≤ x) : (x : Int) - 1 = ((x - 1 : Nat) : Int) := by omega
theorem w_e2 {n t : Nat} (h : n + n % 2 ≤ t) : (t : Int) - ((n : Int) + ((n % 2 : Nat) : Int)) = ((t - (n + n % 2) : Nat) : Int) := by omega
theorem w_p4 {n t : Nat} (h : 1 < (n : Int)) (k : (n : Int) + ((n % 2 : Nat) : Int) ≤ (t : Int)) : 1 < n ∧ n + n % 2 ≤ t := by omega
theorem w_f {n t f : Nat} (p4 : 1 < n ∧ n + n % 2 ≤ t) (l1 : t ≤ 2 * f + 1) : ∃ f', f = f' + 1 := ⟨f - 1, by omega⟩
theorem w_h1 {n : Nat} (h : 1 < n) : 1 ≤ n / 2 := by omega
theorem w_h2 {n t : Nat} (p4 : 1 < n ∧ n + n % 2 ≤ t) (l2 : t ≤ 30) : n / 2 ≤ 15 := by omega
theorem w_k (k x : Nat) : (k : Int) * ((x : Int) + 1) = ((k * (x + 1) : Nat) : Int) := by rw [Int.natCast_mul, Int.natCast_add]; simp
theorem w_x1 {n t : Nat} (h : t ≤ n / 2) : ¬ (1 < n ∧ n + n % 2 ≤ t) := by omega
theorem w_z1 {n t : Nat} (h : t ≤ n / 2) : (n : Int) - 2 * (t : Int) = ((n - 2 * t : Nat) : Int) := by omega
theorem w_n (n : Nat) : -1000 ≤ (n : Int) := by omega
theorem w_m {n : Nat} (h : n ≤ 1000) : (n : Int) ≤ 1000 := by omega
theorem w_goE {j k f n t : Nat} {X : Nat × Nat} (p4 : 1 < n ∧ n + n % 2 ≤ t) (p5 : n % 2 = 0) (lo : wdLoop j k (f + 1) n t = X) : wdLoop j k f (j * (n / 2)) (t - (n + n % 2)) = X := by
  rw [wd_go p4, if_pos p5] at lo; exact lo
theorem w_goO {j k f n t : Nat} {X : Nat × Nat} (p4 : 1 < n ∧ n + n % 2 ≤ t) (p5 : ¬ n % 2 = 0) (lo : wdLoop j k (f + 1) n t = X) : wdLoop j k f (k * (n / 2 + 1) - 1) (t - (n + n % 2)) = X := by
  rw [wd_go p4, if_neg p5] at lo; exact lo
theorem w_lt {n t : Nat} (p0 : ¬ (n : Int) + ((n % 2 : Nat) : Int) ≤ (t : Int)) (p5 : n % 2 = 0) : t < n := by omega
theorem w_z2 {n t : Nat} (h : t < n) : (n : Int) - (t : Int) = ((n - t : Nat) : Int) := by omega
theorem w_z3 {j n t : Nat} (h : n / 2 ≤ t) : (j : Int) * ((t : Int) - ((n / 2 : Nat) : Int)) = ((j * (t - n / 2) : Nat) : Int) := by
  rw [Int.natCast_mul, show (t : Int) - ((n / 2 : Nat) : Int) = ((t - n / 2 : Nat) : Int) by omega]
theorem w_z4 {k n t : Nat} (h : n / 2 < t) : (k : Int) * ((t : Int) - ((n / 2 : Nat) : Int) - 1) = ((k * (t - n / 2 - 1) : Nat) : Int) := by
  rw [Int.natCast_mul, show (t : Int) - ((n / 2 : Nat) : Int) - 1 = ((t - n / 2 - 1 : Nat) : Int) by omega]
theorem w_z5 {n t : Nat} (h : n / 2 < t) (l2 : t ≤ 30) (l4 : n ≤ 100) : (((n / 2 : Nat) : Int) - ((t : Int) - ((n / 2 : Nat) : Int) - 1)).toNat = n / 2 - (t - n / 2 - 1) ∧ -1000 ≤ ((n / 2 : Nat) : Int) - ((t : Int) - ((n / 2 : Nat) : Int) - 1) ∧ ((n / 2 : Nat) : Int) - ((t : Int) - ((n / 2 : Nat) : Int) - 1) ≤ 1000 := by omega
theorem w_z6 {n x : Nat} (l4 : n ≤ 100) : n / 2 - x ≤ 1000 := by omega
theorem w_x2 {n t : Nat} (p0 : ¬ (n : Int) + ((n % 2 : Nat) : Int) ≤ (t : Int)) : ¬ (1 < n ∧ n + n % 2 ≤ t) := by omega
theorem w_x3 {n t : Nat} (p0 : ¬ 1 < (n : Int)) : ¬ (1 < n ∧ n + n % 2 ≤ t) := by omega
theorem w_x4 {n : Nat} (p0 : ¬ 1 < (n : Int)) (p3 : ((n % 2 : Nat) : Int) = 0) (l3 : 1 ≤ n) : False := by omega
theorem w_goE1 {j k f n t : Nat} {X : Nat × Nat} (p4 : 1 < n ∧ n + n % 2 ≤ t) (p5 : n % 2 = 0) (l1 : t ≤ 2 * f + 1) (lo : wdLoop j k f n t = X) : wdLoop j k (f - 1) (j * (n / 2)) (t - (n + n % 2)) = X := by
  obtain ⟨f', rfl⟩ := w_f p4 l1; exact w_goE p4 p5 lo
theorem w_goO1 {j k f n t : Nat} {X : Nat × Nat} (p4 : 1 < n ∧ n + n % 2 ≤ t) (p5 : ¬ n % 2 = 0) (l1 : t ≤ 2 * f + 1) (lo : wdLoop j k f n t = X) : wdLoop j k (f - 1) (k * (n / 2 + 1) - 1) (t - (n + n % 2)) = X := by
  obtain ⟨f', rfl⟩ := w_f p4 l1; exact w_goO p4 p5 lo
theorem w_a2 {n t f : Nat} (p4 : 1 < n ∧ n + n % 2 ≤ t) (l1 : t ≤ 2 * f + 1) : t - (n + n % 2) ≤ 2 * (f - 1) + 1 := by omega
theorem w_fl {n t f : Nat} (p4 : 1 < n ∧ n + n % 2 ≤ t) (l1 : t ≤ 2 * f + 1) : f - 1 < f := by omega
theorem winv_of {g : Heap} {L' : Addr} {s₀ : Shared} {news : List (Addr × Obj)} {j k N0 T0 : Nat} {tj tk : Tok} {f : Nat} {s' : Shared} {n t : Nat} {tn tt : Tok} {mm : Str → Option Value} {i1 i2 : Int} (st : s' = { s₀ with heap := s'.heap, toks := s'.toks })
  (F : Fr g L' s'.heap mm) (N : News g L' s'.heap news) (vn : mm (Str.ofString "n") = some (.int i1 tn)) (e1 : i1 = (n : Nat)) (vt : mm (Str.ofString "turn") = some (.int i2 tt)) (e2 : i2 = (t : Nat))
  (vj : mm (Str.ofString "j") = some (.int (j : Nat) tj)) (vk : mm (Str.ofString "k") = some (.int (k : Nat) tk)) (lo : wdLoop j k f n t = wdLoop j k 26 N0 T0) (l1 : t ≤ 2 * f + 1) (l2 : t ≤ 30) (l3 : 1 ≤ n) (l4 : n ≤ 100) : WInv g L' s₀ news j k N0 T0 tj tk f s' n t tn tt mm := by
  subst e1 e2; exact ⟨st, F, N, vn, vt, vj, vk, lo, l1, l2, l3, l4⟩
theorem rl (a : List Nat) {n c : Nat} (ha : a.length ≤ 2) (h : n ≤ c) : (rep a n).length ≤ 2 * c := by
  rw [rep_len, Nat.mul_comm]; exact Nat.mul_le_mul ha h
theorem add2 {a b : List Nat} (h1 : a.length ≤ 2 * 1000) (h2 : b.length ≤ 2 * 1000) : a.length + b.length ≤ 10000 := by omega
theorem add3 {a b : List Nat} (h1 : a.length ≤ 2 * 1000) (h2 : b.length ≤ 2 * 1000) : (a ++ b).length ≤ 2 * 2000 := by rw [List.length_append]; omega
theorem add4 {a b : List Nat} (h1 : a.length ≤ 2 * 2000) (h2 : b.length ≤ 2 * 1000) : a.length + b.length ≤ 10000 := by omega
section
local macro_rules | `(tactic| walk_at "exec While") => `(tactic| (k_here; (refine hold_of ?_)))
local macro_rules | `(tactic| walk_at "exec While BoolOp") => `(tactic| (k_here; (refine hold_of ?_)))
local macro_rules | `(tactic| walk_at "call builtin:len") => `(tactic| (k_here; k_dflt (refine lenS_wp (by assumption) ?_); intro t' k'))
local macro_rules | `(tactic| walk_at "subscriptTail") => `(tactic| (k_here; (refine hold_of ?_)))
local macro_rules | `(tactic| walk_at "binaryOp Mult str int") => `(tactic| (k_here; (refine hold_of ?_)))
local macro_rules | `(tactic| walk_at "binaryOp Add str str") => `(tactic| (k_here; (refine hold_of ?_)))

set_option maxHeartbeats 8000000 in
theorem sp_word {w : World} {dp un : Nat} {gd : Option (List Code)} {cn : Str} {cs : Scope} {L a : Addr} {ccd : Value} {cl : List (Str × Addr)} {outer : List Env} {A₀ : Around} {base h₀ : Heap} {m : Str → Option Value} {news : List (Addr × Obj)} {s : Shared} {Q E : Value → Shared → Prop} {mean : ExcName → Option Value} {mg mb : Str → Option Value} {vp : Program} {loose : List Str}
   (B : Below A₀ base outer h₀) (F : Fr h₀ L s.heap m) (X : (KK w.params).In h₀) (N : News h₀ L s.heap news) (T : Top vp loose mean mg mb h₀) (hk : cs.kind = .function) (st : List Nat) (j k tn : Nat) (t0 tj tk₀ tt : Tok) (hl1 : 1 ≤ st.length) (hl2 : st.length ≤ 20) (hj : j ≤ 4) (hj1 : 1 ≤ j) (hk4 : k ≤ 4) (hk1 : 1 ≤ k) (htn : tn ≤ 30) (hdp : dp + 60 < recursionLimit) (hun : un + 600 < cLine) (ret : ∀ t' h' tk', Fr h₀ L h' m → News h₀ L h' news → Q (.str (S (wd st j k tn)) t') { s with heap := h', toks := tk' }) :
   wpAny (model pw w) (ktrTop dp un gd cn cs L a ccd cl outer) (call (.ref 311) [.str (S st) t0, .int (j : Nat) tj, .int (k : Nat) tk₀, .int (tn : Nat) tt]) Q E s := by
  refine entN [(Str.ofString "start", .str (S st) t0), (Str.ofString "j", .int (j : Nat) tj), (Str.ofString "k", .int (k : Nat) tk₀), (Str.ofString "turn", .int (tn : Nat) tt)] B F X N T hk (by k_is) (by k_is) (by omega) (BindsTo.of_eq rfl) (by rfl) (by rfl) (by rfl) (by rfl) (by decide) ?_
  clear B F X N T
  intro g L' h₁ tk FG F N B X T
  have hl3 : st.length ≤ 10000 := by omega
  k_steps
  · unfold Hold
    rename (tn : Int) ≤ _ => q
    rw [fd2] at q
    have q2 : tn ≤ st.length / 2 := by omega
    rename Fr _ _ _ _ => F1
    rename News _ _ _ _ => N1
    refine sliceS_wp (s := ⟨_, _, _, _, _⟩) (n := 2 * tn) F1 N1 (by push_cast; rfl) (by omega) hl3 ?_
    clear F1 N1
    intro h' t' tk' F2 N2
    k_steps
    unfold Hold
    refine mulZ_wp tn stW (by omega) (by decide) (by omega) (by omega) ?_
    intro t' tk'
    k_steps
    unfold Hold
    refine add_S rfl rfl (add2 (by rw [List.length_drop]; omega) (rl _ (by decide) (by omega))) ?_
    intro t' tk'
    k_steps
    refine back (by assumption) (by assumption) fun f n => ?_
    have e : wd st j k tn = st.drop (2 * tn) ++ rep [115, 116] tn := by unfold wd; rw [if_pos q2]
    rw [← e] 
    exact ret _ _ _ f n
  · unfold Hold
    rename ¬ (tn : Int) ≤ _ => q
    rw [fd2] at q
    have q2 : ¬ tn ≤ st.length / 2 := by omega
    rename Fr _ _ _ _ => F1
    rename News _ _ _ _ => N1
    refine whl_start 100 ?_
    refine whl_meas (I := fun f s' => ∃ n t tn' tt' mm, WInv g L' s news j k st.length tn tj tk₀ f s' n t tn' tt' mm) PassesOwn.never ?_ 26 99 _ ⟨_, _, _, _, _, rfl, F1, N1, rfl, rfl, rfl, rfl, rfl, by omega, htn, hl1, by omega⟩
    clear F1 N1
    rintro f s' ⟨n, t, tn', tt', mm, st', F, N, vn, vt, vj, vk, lo, l1, l2, l3, l4⟩
    have F := frBind (x := Str.ofString "n") (v := .int (n : Nat) tn') F vn
    have F := frBind (x := Str.ofString "turn") (v := .int (t : Nat) tt') F vt
    have F := frBind (x := Str.ofString "j") (v := .int (j : Nat) tj) F vj
    have F := frBind (x := Str.ofString "k") (v := .int (k : Nat) tk₀) F vk
    obtain ⟨h9, g9, d9, t9, os9⟩ := s'
    cases st'
    have em := fm2 n
    have ed := fd2 n
    clear vn vt vj vk
    have key : Hold (¬ (1 < n ∧ n + n % 2 ≤ t) → wd st j k tn = wdEnd n j k t) := fun h => wd_end (lo.symm.trans (wd_exit h)) q2
    have lo2 : Hold (wdLoop j k f n t = wdLoop j k 26 st.length tn) := lo
    clear lo
    k_steps
    · skip
      rename 1 < (n : Int) => p1
      rename (n : Int) + _ ≤ _ => p2
      rename Int.fmod _ _ = 0 => p3
      rw [em] at p2 p3
      have p4 := w_p4 p1 p2
      have p5 : n % 2 = 0 := Int.ofNat.inj p3
      have lo : wdLoop j k f n t = wdLoop j k 26 st.length tn := lo2
      clear lo2 key
      have lo := w_goE1 p4 p5 l1 lo
      have p6 : 1 * 1 ≤ j * (n / 2) := Nat.mul_le_mul hj1 (w_h1 p4.1)
      have p7 : j * (n / 2) ≤ 4 * 15 := Nat.mul_le_mul hj (w_h2 p4 l2)
      refine ⟨f - 1, w_fl p4 l1, _, _, _, _, _, winv_of rfl (by assumption) (by assumption) rfl ?e1 rfl ?e2 rfl rfl lo (w_a2 p4 l1) (Nat.le_trans (Nat.sub_le _ _) l2) p6 (Nat.le_trans p7 (by decide))⟩
      case e1 => rw [ed, ← Int.natCast_mul]
      case e2 => rw [em]; exact w_e2 p4.2
    · skip
      rename 1 < (n : Int) => p1
      rename (n : Int) + _ ≤ _ => p2
      rename Int.fmod _ _ ≠ 0 => p3
      rw [em] at p2 p3
      have p4 := w_p4 p1 p2
      have p5 : ¬ n % 2 = 0 := fun h => p3 (congrArg Int.ofNat h)
      have lo : wdLoop j k f n t = wdLoop j k 26 st.length tn := lo2
      clear lo2 key
      have lo := w_goO1 p4 p5 l1 lo
      have p6 : 1 * 2 ≤ k * (n / 2 + 1) := Nat.mul_le_mul hk1 (Nat.succ_le_succ (w_h1 p4.1))
      have p7 : k * (n / 2 + 1) ≤ 4 * 16 := Nat.mul_le_mul hk4 (Nat.succ_le_succ (w_h2 p4 l2))
      refine ⟨f - 1, w_fl p4 l1, _, _, _, _, _, winv_of rfl (by assumption) (by assumption) rfl ?e1 rfl ?e2 rfl rfl lo (w_a2 p4 l1) (Nat.le_trans (Nat.sub_le _ _) l2) (w_a3 p6) (w_a4 p7)⟩
      case e1 => rw [ed, w_k]; exact w_e1 p6
      case e2 => rw [em]; exact w_e2 p4.2
    all_goals (first
      | (rename (t : Int) ≤ Int.fdiv _ _ => p1
         rw [ed] at p1
         have p2 : t ≤ n / 2 := Int.ofNat_le.mp p1
         have kk := key (w_x1 p2)
         have kk2 : wdEnd n j k t = rep [46] (n - 2 * t) ++ rep [115, 116] t := by unfold wdEnd; rw [if_pos p2]
         rw [kk, kk2] at ret
         have z1 := w_z1 p2
         have z2 : n - 2 * t ≤ 1000 := Nat.le_trans (Nat.sub_le _ _) (Nat.le_trans l4 (by decide))
         have z3 : t ≤ 1000 := Nat.le_trans l2 (by decide)
         clear key kk kk2 lo2
         unfold Hold
         rw [z1]
         refine mulZ_wp (n - 2 * t) dotS rfl (by decide) (w_n _) (w_m z2) ?_
         intro t' tk'
         k_steps
         unfold Hold
         refine mulZ_wp t stW rfl (by decide) (w_n _) (w_m z3) ?_
         intro t' tk'
         k_steps
         unfold Hold
         refine add_S rfl rfl (add2 (rl _ (by decide) z2) (rl _ (by decide) z3)) ?_
         intro t' tk'
         k_steps
         exact back (by assumption) (by assumption) fun f n => ret _ _ _ f n)
      | skip)
    · unfold Hold
      rename ¬ (t : Int) ≤ Int.fdiv _ _ => p1
      rename Int.fmod _ _ = 0 => p3
      rename ¬ (n : Int) + _ ≤ _ => p0
      rw [ed] at p1
      rw [em] at p3 p0
      have p2 : ¬ t ≤ n / 2 := fun h => p1 (Int.ofNat_le.mpr h)
      have p5 : n % 2 = 0 := Int.ofNat.inj p3
      have p6 : t < n := w_lt p0 p5
      have kk := key (fun h => Nat.not_le_of_lt p6 (Nat.le_trans (Nat.le_add_right _ _) h.2))
      have kk2 : wdEnd n j k t = rep [115, 116] (n - t) ++ rep [46] (j * (t - n / 2)) := by unfold wdEnd; rw [if_neg p2, if_pos p5]
      rw [kk, kk2] at ret
      have z1 := w_z2 p6
      have z2 : n - t ≤ 1000 := Nat.le_trans (Nat.sub_le _ _) (Nat.le_trans l4 (by decide))
      have z4 : j * (t - n / 2) ≤ 1000 := Nat.le_trans (Nat.mul_le_mul hj (Nat.le_trans (Nat.sub_le _ _) l2)) (by decide)
      have z5 := w_z3 (j := j) (Nat.le_of_not_le p2)
      clear key kk kk2 lo2
      rw [z1]
      refine mulZ_wp (n - t) stW rfl (by decide) (w_n _) (w_m z2) ?_
      intro t' tk'
      k_steps
      unfold Hold
      rw [ed, z5]
      refine mulZ_wp (j * (t - n / 2)) dotS rfl (by decide) (w_n _) (w_m z4) ?_
      intro t' tk'
      k_steps
      unfold Hold
      refine add_S rfl rfl (add2 (rl _ (by decide) z2) (rl _ (by decide) z4)) ?_
      intro t' tk'
      k_steps
      exact back (by assumption) (by assumption) fun f n => ret _ _ _ f n
    · skip
      unfold Hold
      rename ¬ (t : Int) ≤ Int.fdiv _ _ => p1
      rename Int.fmod _ _ ≠ 0 => p3
      rw [ed] at p1
      rename ¬ (n : Int) + _ ≤ _ => p0
      rw [em] at p3 p0
      have p2 : ¬ t ≤ n / 2 := fun h => p1 (Int.ofNat_le.mpr h)
      have p5 : ¬ n % 2 = 0 := fun h => p3 (congrArg Int.ofNat h)
      have kk := key (w_x2 p0)
      have kk2 : wdEnd n j k t = rep [116, 115] (n / 2 - (t - n / 2 - 1)) ++ [116] ++ rep [46] (k * (t - n / 2 - 1)) := by unfold wdEnd; rw [if_neg p2, if_neg p5]
      rw [kk, kk2] at ret
      have z4 : k * (t - n / 2 - 1) ≤ 1000 := Nat.le_trans (Nat.mul_le_mul hk4 (Nat.le_trans (Nat.sub_le _ _) (Nat.le_trans (Nat.sub_le _ _) l2))) (by decide)
      have z5 := w_z4 (k := k) (Nat.lt_of_not_le p2)
      have z6 := w_z5 (Nat.lt_of_not_le p2) l2 l4
      clear key kk kk2 lo2
      rw [ed]
      refine mulZ_wp (n / 2 - (t - n / 2 - 1)) tsW z6.1 (by decide) z6.2.1 z6.2.2 ?_
      intro t' tk'
      have z7 : n / 2 - (t - n / 2 - 1) ≤ 1000 := w_z6 l4
      k_steps
      unfold Hold
      refine add_S rfl tW (add2 (rl _ (by decide) z7) (by decide)) ?_
      intro t' tk'
      k_steps
      unfold Hold
      rw [ed, z5]
      refine mulZ_wp (k * (t - n / 2 - 1)) dotS rfl (by decide) (w_n _) (w_m z4) ?_
      intro t' tk'
      k_steps
      unfold Hold
      refine add_S rfl rfl (add4 (add3 (rl _ (by decide) z7) (by decide)) (rl _ (by decide) z4)) ?_
      intro t' tk'
      k_steps
      exact back (by assumption) (by assumption) fun f n => ret _ _ _ f n
    · exfalso
      rename ¬ (t : Int) ≤ Int.fdiv _ _ => p1
      rename Int.fmod _ _ = 0 => p3
      rename ¬ 1 < (n : Int) => p0
      rw [em] at p3
      exact w_x4 p0 p3 l3
    · skip
      unfold Hold
      rename ¬ (t : Int) ≤ Int.fdiv _ _ => p1
      rename Int.fmod _ _ ≠ 0 => p3
      rw [ed] at p1
      rename ¬ 1 < (n : Int) => p0
      rw [em] at p3
      have p2 : ¬ t ≤ n / 2 := fun h => p1 (Int.ofNat_le.mpr h)
      have p5 : ¬ n % 2 = 0 := fun h => p3 (congrArg Int.ofNat h)
      have kk := key (w_x3 p0)
      have kk2 : wdEnd n j k t = rep [116, 115] (n / 2 - (t - n / 2 - 1)) ++ [116] ++ rep [46] (k * (t - n / 2 - 1)) := by unfold wdEnd; rw [if_neg p2, if_neg p5]
      rw [kk, kk2] at ret
      have z4 : k * (t - n / 2 - 1) ≤ 1000 := Nat.le_trans (Nat.mul_le_mul hk4 (Nat.le_trans (Nat.sub_le _ _) (Nat.le_trans (Nat.sub_le _ _) l2))) (by decide)
      have z5 := w_z4 (k := k) (Nat.lt_of_not_le p2)
      have z6 := w_z5 (Nat.lt_of_not_le p2) l2 l4
      clear key kk kk2 lo2
      rw [ed]
      refine mulZ_wp (n / 2 - (t - n / 2 - 1)) tsW z6.1 (by decide) z6.2.1 z6.2.2 ?_
      intro t' tk'
      have z7 : n / 2 - (t - n / 2 - 1) ≤ 1000 := w_z6 l4
      k_steps
      unfold Hold
      refine add_S rfl tW (add2 (rl _ (by decide) z7) (by decide)) ?_
      intro t' tk'
      k_steps
      unfold Hold
      rw [ed, z5]
      refine mulZ_wp (k * (t - n / 2 - 1)) dotS rfl (by decide) (w_n _) (w_m z4) ?_
      intro t' tk'
      k_steps
      unfold Hold
      refine add_S rfl rfl (add4 (add3 (rl _ (by decide) z7) (by decide)) (rl _ (by decide) z4)) ?_
      intro t' tk'
      k_steps
      exact back (by assumption) (by assumption) fun f n => ret _ _ _ f n

end
end Mine
end

section -- Lets
open PySem PySem.W PySem.Spec PySem.Calls PyProof.Rows
namespace Mine
set_option maxRecDepth 100000
noncomputable def besideL : List Nat := [172, 174, 846, 848, 6149, 6151, 6154, 6158, 8202, 8206, 8287, 8289, 65278, 65280, 65023, 65040]
noncomputable def typC (x : Nat) : Nat := if x % 4 = 0 then besideL.getD (x / 4 % 16) 0 else if x % 4 = 1 then 65 + x / 4 % 26 else if x % 4 = 2 then 120016 + x / 4 % 26 else 19968 + x / 4 % 20902
noncomputable def meaC (x : Nat) : Nat := if x % 4 = 0 then besideL.getD (x / 4 % 16) 0 else if x % 4 = 1 then 97 + x / 4 % 26 else if x % 4 = 2 then 97 + x / 4 % 26 else 19968 + x / 4 % 20902
theorem let_a : ∀ j : Fin 16, pre0 [besideL.getD j.val 0] = [besideL.getD j.val 0] ∧ 170 < besideL.getD j.val 0 ∧ besideL.getD j.val 0 < 70000 := by decide +kernel
theorem let_b : ∀ j : Fin 26, pre0 [65 + j.val] = [97 + j.val] := by decide +kernel
theorem let_c : ∀ j : Fin 26, pre0 [120016 + j.val] = [97 + j.val] := by decide +kernel
end Mine
namespace Mine
theorem shifted_none {lo hi c : Nat} (h1 : lo ≤ c) (h2 : c < hi) : ∀ l : List (Nat × Nat × Nat), (l.all fun e => decide (e.2.1 < lo) || decide (hi ≤ e.1)) = true → Unicode.shifted l c = none
  | [], _ => rfl
  | (a, b, t) :: r, h => by
    rw [List.all_cons, Bool.and_eq_true, Bool.or_eq_true, decide_eq_true_eq, decide_eq_true_eq] at h
    have ih := shifted_none h1 h2 r h.2
    have h3 : b < lo ∨ hi ≤ a := h.1
    unfold Unicode.shifted
    rcases h3 with h3 | h3
    · by_cases q : c < a
      · rw [if_pos q]
      · rw [if_neg q, if_neg (by omega), ih]
    · rw [if_pos (by omega)]
theorem one_far : (UnicodeData.oneLower.all fun e => decide (e.2.1 < 19968) || decide (40900 ≤ e.1)) = true := by decide +kernel
theorem b3_far : (b3T.all fun p => decide (p.1 < 19968) || decide (40900 ≤ p.1)) = true := by decide +kernel
theorem hid_far : (hidL.all fun p => decide (p < 19968) || decide (40900 ≤ p)) = true := by decide +kernel
theorem lower_far {c : Nat} (h1 : 19968 ≤ c) (h2 : c < 40900) : Unicode.lowerOf c = [c] := by
  unfold Unicode.lowerOf Unicode.image
  have e : UnicodeData.severalLower.lookup c = none := by
    unfold UnicodeData.severalLower UnicodeData.severalLower0
    rw [List.lookup_cons, show (c == 0x130) = false from by simpa using (show c ≠ 304 by omega)]
    rfl
  rw [e, shifted_none h1 h2 _ one_far]
  rfl
theorem let_d {c : Nat} (h1 : 19968 ≤ c) (h2 : c < 40900) : pre0 [c] = [c] := by
  have hb : b1has c = false := by
    unfold b1has
    rw [List.contains_eq_any_beq, List.any_eq_false]
    intro x hx q
    have := List.all_eq_true.mp hid_far x hx
    rw [Bool.or_eq_true, decide_eq_true_eq, decide_eq_true_eq] at this
    have q2 : c = x := by simpa using q
    omega
  have hl : b3Look c = none := by
    unfold b3Look
    rw [List.find?_eq_none.mpr (fun x hx q => ?_)]
    · rfl
    · have := List.all_eq_true.mp b3_far x hx
      rw [Bool.or_eq_true, decide_eq_true_eq, decide_eq_true_eq] at this
      have q2 : x.1 = (c : Int) := by simpa using q
      omega
  have ht : (Txt.lower ⟨#[c]⟩).cps.toList = [c] := by
    have e : Unicode.lowerAt #[c] 0 = [c] := by
      show (if c == 0x3A3 && Unicode.endsWord #[c] 0 then [0x3C2] else Unicode.lowerOf c) = _
      rw [show (c == 0x3A3) = false from by simpa using (show c ≠ 931 by omega)]
      exact lower_far h1 h2
    show ((Txt.lower ⟨#[c]⟩).cps).toList = [c]
    unfold Txt.lower placed
    simp [e]
  unfold pre0
  rw [List.filter_cons, hb]
  show List.flatMap b3 [c] = [c]
  rw [List.flatMap_cons, List.flatMap_nil, List.append_nil]
  unfold b3
  rw [hl]
  exact ht
theorem let_ok (x : Nat) : pre0 [typC x] = [meaC x] ∧ (meaC x ≠ 39 ∧ meaC x ≠ 10 ∧ meaC x ≠ 13) ∧ typC x < 1000000 ∧ meaC x < 1000000 := by
  have l16 : x / 4 % 16 < 16 := Nat.mod_lt _ (by decide)
  have l26 : x / 4 % 26 < 26 := Nat.mod_lt _ (by decide)
  have lC : x / 4 % 20902 < 20902 := Nat.mod_lt _ (by decide)
  unfold typC meaC
  generalize x / 4 % 16 = a at l16
  generalize x / 4 % 26 = b at l26
  generalize x / 4 % 20902 = d at lC
  split
  · obtain ⟨h1, h2, h3⟩ := let_a ⟨a, l16⟩
    dsimp only at h1 h2 h3
    exact ⟨h1, ⟨by omega, by omega, by omega⟩, by omega, by omega⟩
  · split
    · exact ⟨let_b ⟨b, l26⟩, ⟨by omega, by omega, by omega⟩, by omega, by omega⟩
    · split
      · exact ⟨let_c ⟨b, l26⟩, ⟨by omega, by omega, by omega⟩, by omega, by omega⟩
      · exact ⟨let_d (by omega) (by omega), ⟨by omega, by omega, by omega⟩, by omega, by omega⟩
end Mine
end

section -- StartOps
open PySem PySem.W PySem.Spec PySem.Calls PyProof.Rows
namespace Mine
set_option maxRecDepth 100000
section
variable {prog : Program} {w : World} {A : Around} {E : Value → Shared → Prop} {s : Shared} {h₀ : Heap} {env : Env} {x : Str} {body : List Stmt}
theorem iter_rangeJ {Q : Flow → Shared → Prop} {r : Addr} {t₀ u₀ v₀ : Tok} {n : Nat} {m₀ : Str → Option Value} {news : List (Addr × Obj)}
    (J : Nat → (Str → Option Value) → Prop)
    (hh : A.handled = none) (hr : IsRange s.heap r 0 n 1 t₀ u₀ v₀) (hn : n ≤ 1000) (F : Fr h₀ env.locals s.heap m₀) (N : News h₀ env.locals s.heap news) (hJ : J 0 m₀)
    (turn : ∀ i t m₁ h tk own, i < n → J i m₁ → Fr h₀ env.locals h (fun y => if y = x then some (.int (i : Nat) t) else m₁ y) → News h₀ env.locals h (news ++ own) →
      wpAny (model prog w) A (execs body env) (InvPostN h₀ env.locals (fun m nx => nx = news ∧ J (i + 1) m) own (news.map (·.1)) { s with heap := h, toks := tk } Q) E { s with heap := h, toks := tk })
    (done : ∀ m₁ h tk, J n m₁ → Fr h₀ env.locals h m₁ → News h₀ env.locals h news → Q .next { s with heap := h, toks := tk }) :
    wpAny (model prog w) A (pyIter (.ref r)) (fun it s₂ => LoopAtV prog w A h₀ env x body Q E it s₂) E s := by
  obtain ⟨hsm, hsz'⟩ := small_n hn
  refine wpAny_pyIter_range hr hsm ?_
  have W : Walks prog w A s.heap.objs.size [s.heap.objs.size] [s.heap.objs.size] n (fun i v => i < n ∧ ∃ t, v = .int (0 + i * 1) t)
      (fun i h => IsRangeIter h s.heap.objs.size (0 + (i : Nat) * 1) ((n : Int) - (i : Nat)) 1) := (Walks.range hh _ 0 1 n).bound
  refine loop_invN (fun i m nx => nx = news ∧ J i m) W ?_ ?_ ?_ ?_ (by show IsRangeIter _ _ _ _ _; rw [hsz']; simpa using Heap.get?_push_size _ rfl) (F.push _) (fun p hp => ⟨Heap.get?_push_of_some _ (N p hp).1, (N p hp).2⟩) ⟨rfl, hJ⟩ ?_ ?_
  · intro hm
    exact absurd F.ns.lt ((List.mem_singleton.mp hm) ▸ Nat.lt_irrefl _)
  · intro b hb
    rw [List.mem_singleton.mp hb]
    exact next_is_new F
  · intro p hp hI
    exact absurd (Heap.lt_size (N p hp).1) ((List.mem_singleton.mp hI) ▸ Nat.lt_irrefl _)
  · intro p hp hI
    exact absurd (Heap.lt_size (N p hp).1) ((List.mem_singleton.mp hI) ▸ Nat.lt_irrefl _)
  · rintro i v m₁ nx h tk own hi ⟨_, t, rfl⟩ _ _ ⟨rfl, hJ'⟩ F' N'
    rw [show (0 : Int) + (i : Int) * 1 = ((i : Nat) : Int) by omega] at F'
    exact turn i t m₁ h tk own hi hJ' F' N'
  · rintro m₁ nx h tk ⟨rfl, hJ'⟩ F' N'
    exact done m₁ h tk hJ' F' N'
end
section
variable {prog : Program} {w : World} {A : Around} {E : Value → Shared → Prop} {s : Shared} {t u : Tok}
theorem item_intsA {value slice : Expr} {a : Addr} {l : List Value} {ns : List Int} {k : Int} {Q : Value → Shared → Prop} (c : Nat) (x : Int) (hl : s.heap.IsList a l.toArray) (hi : IntsAre l ns)
    (hc : k = (c : Nat)) (hk : ns[c]? = some x) (hfit : c < 1000) (h : ∀ t', Q (.int x t') s)
    (hs : subscripted slice false (.ref a) (.int k u) = operate [.ref a, .int k u] (getItem (.ref a) (.int k u)) := by with_unfolding_all rfl) (hg : ∀ r, letTemporaryGo value (.ref a) r = pure () := by intro _; with_unfolding_all rfl) :
    wpAny (model prog w) A (subscriptTail value slice (.ref a) (.int k u)) Q E s := by
  subst hc
  have hlt : c < l.length := by rw [hi.length]; exact (List.getElem?_eq_some_iff.mp hk).1
  have e : l[c]? = some l[c] := List.getElem?_eq_getElem hlt
  obtain ⟨n, t, hv, hn⟩ := hi.at c _ e
  rw [hk] at hn
  cases hn
  rw [hv] at e
  exact item_listL hl (by omega) (by omega) (by simpa using e) (h t) hs hg
theorem chrS_wp {i : Int} {Q : Value → Shared → Prop} (c : Nat) (hc : i = (c : Nat)) (hl : c < 1000000) (h : ∀ t' k, Q (.str (S [c]) t') { s with toks := k }) : wpAny (model prog w) A (call (.builtin "chr") [.int i t]) Q E s := by
  subst hc
  exact chr_of_range (by omega) (by omega) (h _ _)
end
end Mine
end

local macro_rules | `(tactic| walk_at "mine pad") => `(tactic| fail)
local macro_rules | `(tactic| walk_at "mine pad") => `(tactic| fail)
local macro_rules | `(tactic| walk_at "mine pad") => `(tactic| fail)
local macro_rules | `(tactic| walk_at "mine pad") => `(tactic| fail)
local macro_rules | `(tactic| walk_at "mine pad") => `(tactic| fail)
local macro_rules | `(tactic| walk_at "mine pad") => `(tactic| fail)
local macro_rules | `(tactic| walk_at "mine pad") => `(tactic| fail)
section -- WStart
open PySem PySem.W PySem.Spec PySem.Calls PyProof.Rows PyProof.Rows.LCg
namespace Mine
set_option maxRecDepth 100000
set_option pp.deepTerms false
set_option pp.deepTerms.threshold 6
set_option pp.proofs false
example : (PySem.Challenge.rw_sh0062_01, KK) = (PySem.Challenge.rw_sh0062_01, KK) := by k_fill; rfl

noncomputable def lOf (xs : List Nat) (p : Nat) : Nat := meaC (xs.getD (p / 2 % 6) 0)
theorem startL_succ (n : Nat) (l : Nat → Nat) : startL (n + 1) l = startL n l ++ [if n % 2 = 0 then 46 else l n] := by
  unfold startL
  rw [List.range_succ, List.map_append]; rfl
theorem ix_a (i : Nat) : ((i : Int).fdiv 2).fmod 6 = ((i / 2 % 6 : Nat) : Int) := by
  rw [Int.fdiv_eq_ediv_of_nonneg _ (by decide), Int.fmod_eq_emod_of_nonneg _ (by decide)]; rfl
theorem ix_b (x : Nat) (k : Nat) (a : Int) (b : Nat) (h : a = (b : Nat)) : a + ((x : Int).fdiv 4).fmod (k : Int) = ((b + x / 4 % k : Nat) : Int) := by
  rw [Int.fdiv_eq_ediv_of_nonneg _ (by decide), Int.fmod_eq_emod_of_nonneg _ (Int.natCast_nonneg k), h]; rfl
theorem ix_c (x : Nat) : ((x : Int).fdiv 4).fmod 16 = ((x / 4 % 16 : Nat) : Int) := by
  rw [Int.fdiv_eq_ediv_of_nonneg _ (by decide), Int.fmod_eq_emod_of_nonneg _ (by decide)]; rfl
theorem ix_d (x : Nat) : (x : Int).fmod 4 = ((x % 4 : Nat) : Int) := by
  rw [Int.fmod_eq_emod_of_nonneg _ (by decide)]; rfl
theorem beside_at (k : Nat) (h : k < 16) : (besideL.map fun y : Nat => (y : Int))[k]? = some ((besideL.getD k 0 : Nat) : Int) := by
  rw [List.getElem?_map, List.getD_eq_getElem?_getD, List.getElem?_eq_getElem (show k < besideL.length from h)]; rfl
theorem map_at (xs : List Nat) (k : Nat) (h : k < xs.length) : (xs.map fun y : Nat => (y : Int))[k]? = some ((xs.getD k 0 : Nat) : Int) := by
  rw [List.getElem?_map, List.getD_eq_getElem?_getD, List.getElem?_eq_getElem h]; rfl
theorem pair_at (x : Nat) : ([S (rep [besideL.getD (x / 4 % 16) 0] 2), S ([65 + x / 4 % 26] ++ [97 + x / 4 % 26]), S ([120016 + x / 4 % 26] ++ [97 + x / 4 % 26]), S (rep [19968 + x / 4 % 20902] 2)] : List Str).getD ((x : Int).fmod 4).toNat Str.empty = S [typC x, meaC x] := by
  rw [ix_d, Int.toNat_natCast]
  have h : x % 4 < 4 := Nat.mod_lt _ (by decide)
  unfold typC meaC
  generalize x % 4 = r at h
  match r, h with
  | 0, _ | 1, _ | 2, _ | 3, _ => rfl
section
variable {prog : Program} {w : World} {A : Around} {E : Value → Shared → Prop} {s : Shared} {t u : Tok}
theorem item_pair {value slice : PySem.Expr} {a : Addr} {x : Nat} {t0 t1 t2 t3 : Tok} {Q : Value → Shared → Prop} (hl : s.heap.IsList a ((#[.str (S (rep [besideL.getD (x / 4 % 16) 0] 2)) t0, .str (S ([65 + x / 4 % 26] ++ [97 + x / 4 % 26])) t1, .str (S ([120016 + x / 4 % 26] ++ [97 + x / 4 % 26])) t2] : Array Value).push (.str (S (rep [19968 + x / 4 % 20902] 2)) t3)))
    (h : ∀ t', Q (.str (S [typC x, meaC x]) t') s)
    (hs : subscripted slice false (.ref a) (.int ((x : Int).fmod 4) u) = operate [.ref a, .int ((x : Int).fmod 4) u] (getItem (.ref a) (.int ((x : Int).fmod 4) u)) := by with_unfolding_all rfl) (hg : ∀ r, letTemporaryGo value (.ref a) r = pure () := by intro _; with_unfolding_all rfl) :
    wpAny (model prog w) A (subscriptTail value slice (.ref a) (.int ((x : Int).fmod 4) u)) Q E s := by
  have l4 : x % 4 < 4 := Nat.mod_lt _ (by decide)
  have e := ix_d x
  have hl : s.heap.IsList a [.str (S (rep [besideL.getD (x / 4 % 16) 0] 2)) t0, .str (S ([65 + x / 4 % 26] ++ [97 + x / 4 % 26])) t1, .str (S ([120016 + x / 4 % 26] ++ [97 + x / 4 % 26])) t2, .str (S (rep [19968 + x / 4 % 20902] 2)) t3].toArray := hl
  refine item_strsA (ys := [S (rep [besideL.getD (x / 4 % 16) 0] 2), S ([65 + x / 4 % 26] ++ [97 + x / 4 % 26]), S ([120016 + x / 4 % 26] ++ [97 + x / 4 % 26]), S (rep [19968 + x / 4 % 20902] 2)]) hl (.cons _ _ (.cons _ _ (.cons _ _ (.cons _ _ .nil)))) (by omega) (by simp only [List.length_cons, List.length_nil]; omega) (by omega) (fun t' => ?_) hs hg
  rw [pair_at]
  exact h t'
theorem item_S {value slice : PySem.Expr} {x : Str} {l : List Nat} {i : Int} {c : Nat} {Q : Value → Shared → Prop} (hx : x = S l) (h0 : 0 ≤ i) (hc : l[i.toNat]? = some c) (hl : l.length ≤ 10000) (h : ∀ t' k, Q (.str (S [c]) t') { s with toks := k })
    (hs : subscripted slice false (.str x t) (.int i u) = operate [.str x t, .int i u] (getItem (.str x t) (.int i u)) := by with_unfolding_all rfl)
    (ht : ∀ r, letTemporaryGo value (.str x t) r = pure () := by intro _; with_unfolding_all rfl) :
    wpAny (model prog w) A (subscriptTail value slice (.str x t) (.int i u)) Q E s := by
  subst hx; exact item_wp h0 hc hl h hs ht
end
theorem isL_of {h₀ h : Heap} {L a : Addr} {news : List (Addr × Obj)} {arr : Array Value} {n : Nat} (N : News h₀ L h news) (hm : (a, listOf arr n) ∈ news) : h.IsList a arr := ⟨_, (N _ hm).1, rfl, _, rfl⟩
theorem dd46 : Str.ofString ".." = S [46, 46] := by decide +kernel
noncomputable def SInv (xs : List Nat) (Bs sl : Addr) (i : Nat) (m : Str → Option Value) : Prop :=
  ∃ T tt tm, m (Str.ofString "typed") = some (.str (S T) tt) ∧ m (Str.ofString "meant") = some (.str (S (startL i (lOf xs))) tm) ∧ m (Str.ofString "beside") = some (.ref Bs) ∧ m (Str.ofString "numbers") = some (.ref sl) ∧ pre0 T = startL i (lOf xs) ∧ T.length = 2 * i
section
variable {h₀ : Heap} {L : Addr} {own news : List (Addr × Obj)} {s₁ s₂ : Shared} {h' : Heap} {tk : Nat} {xs : List Nat} {Bs sl : Addr} {i x c : Nat} {Q : Flow → Shared → Prop} {oB : Obj} {pr : Addr × Obj} {Tt : List Nat} {m' : Str → Option Value} {tt tm : Tok}
theorem start_endO (ex : lOf xs i = meaC x) (p1 : (i : Int).fmod 2 = 1) (hc : HidOk c) (pT : pre0 Tt = startL i (lOf xs)) (lT : Tt.length = 2 * i) (F : Fr h₀ L h' m') (N : News h₀ L h' (pr :: (Bs, oB) :: (news ++ own)))
    (v1 : m' (Str.ofString "typed") = some (.str (S (Tt ++ ([c] ++ [typC x]))) tt)) (v2 : m' (Str.ofString "meant") = some (.str (S (startL i (lOf xs) ++ [meaC x])) tm)) (v3 : m' (Str.ofString "beside") = some (.ref Bs)) (v4 : m' (Str.ofString "numbers") = some (.ref sl)) :
    InvPostN h₀ L (fun m nx => nx = (Bs, oB) :: news ∧ SInv xs Bs sl (i + 1) m) own (((Bs, oB) :: news).map (·.1)) s₁ Q .next { s₁ with heap := h', toks := tk } := by
  rw [fm2] at p1
  have e : startL (i + 1) (lOf xs) = startL i (lOf xs) ++ [meaC x] := by rw [startL_succ, if_neg (by omega), ex]
  refine ⟨h', tk, m', _, (Bs, oB) :: news, rfl, F, N, fun p hp => ?_, fun p hp => .tail _ (.tail _ (List.mem_append_right _ hp)), rfl, rfl, Tt ++ ([c] ++ [typC x]), tt, tm, v1, e ▸ v2, v3, v4, ?_, ?_⟩
  · rcases List.mem_cons.mp hp with h | h
    · exact h ▸ .tail _ (.head _)
    · exact .tail _ (.tail _ (List.mem_append_left _ h))
  · rw [pre0_append, pre0_append, pT, pre0_hid hc, (let_ok x).1, e]; rfl
  · simp only [List.length_append, List.length_cons, List.length_nil]; omega
theorem start_endE (p1 : (i : Int).fmod 2 ≠ 1) (hc : HidOk c) (pT : pre0 Tt = startL i (lOf xs)) (lT : Tt.length = 2 * i) (F : Fr h₀ L h' m') (N : News h₀ L h' (pr :: (Bs, oB) :: (news ++ own)))
    (v1 : m' (Str.ofString "typed") = some (.str (S (Tt ++ ([c] ++ [46]))) tt)) (v2 : m' (Str.ofString "meant") = some (.str (S (startL i (lOf xs) ++ [46])) tm)) (v3 : m' (Str.ofString "beside") = some (.ref Bs)) (v4 : m' (Str.ofString "numbers") = some (.ref sl)) :
    InvPostN h₀ L (fun m nx => nx = (Bs, oB) :: news ∧ SInv xs Bs sl (i + 1) m) own (((Bs, oB) :: news).map (·.1)) s₁ Q .next { s₁ with heap := h', toks := tk } := by
  rw [fm2] at p1
  have e : startL (i + 1) (lOf xs) = startL i (lOf xs) ++ [46] := by rw [startL_succ, if_pos (by omega)]
  refine ⟨h', tk, m', _, (Bs, oB) :: news, rfl, F, N, fun p hp => ?_, fun p hp => .tail _ (.tail _ (List.mem_append_right _ hp)), rfl, rfl, Tt ++ ([c] ++ [46]), tt, tm, v1, e ▸ v2, v3, v4, ?_, ?_⟩
  · rcases List.mem_cons.mp hp with h | h
    · exact h ▸ .tail _ (.head _)
    · exact .tail _ (.tail _ (List.mem_append_left _ h))
  · rw [pre0_append, pre0_append, pT, pre0_hid hc, pre0_dot, e]; rfl
  · simp only [List.length_append, List.length_cons, List.length_nil]; omega
end
section
local macro_rules | `(tactic| walk_at "pyIter ref") => `(tactic| (k_here; (refine hold_of ?_)))
local macro_rules | `(tactic| walk_at "InvPostN") => `(tactic| (k_here; (refine hold_of ?_)))
local macro_rules | `(tactic| walk_at "call builtin:chr") => `(tactic| (k_here; k_dflt (refine chrS_wp _ (by first | assumption | exact rfl) (by assumption) ?_); intro t' k'))
local macro_rules | `(tactic| walk_at "binaryOp Mult str int") => `(tactic| (k_here; k_dflt (refine mulZ_wp 2 (by exact rfl) (by exact rfl) (by exact (by decide : (1 : Nat) ≤ 16)) (by decide) (by decide) ?_); intro t' k'))
local macro_rules | `(tactic| walk_at "binaryOp Add str str") => `(tactic| (k_here; k_dflt (refine add_S (by exact rfl) (by exact rfl) (by exact (by decide : 1 + 1 ≤ 10000)) ?_); intro t' tk'))
local macro_rules | `(tactic| walk_at "inplaceOp Add str str") => `(tactic| (k_here; k_dflt (refine iadd_S (by exact rfl) (by exact rfl) (by (simp only [List.length_append, List.length_cons, List.length_nil]); assumption) ?_); intro t' tk'))
local macro_rules | `(tactic| walk_at "subscriptTail Name Constant str int") => `(tactic| (k_here; k_dflt (refine item_S (by first | exact rfl | exact dd46) (by decide) (by exact rfl) (by exact (by decide : (2 : Nat) ≤ 10000)) ?_); intro t' k'))
local macro_rules | `(tactic| walk_at "subscriptTail Name BinOp ref int") => `(tactic| (k_here; k_dflt (first
  | (refine item_intsA _ _ (by assumption) (by assumption) (by assumption) (by assumption) (by omega) ?_; intro t')
  | (refine item_intsA _ _ (News.isList (by k_asm) (by k_mem)) (by exact (IntsAre.cons _ _ (IntsAre.cons _ _ (IntsAre.cons _ _ (IntsAre.cons _ _ (IntsAre.cons _ _ (IntsAre.cons _ _ (IntsAre.cons _ _ (IntsAre.cons _ _ (IntsAre.cons _ _ (IntsAre.cons _ _ (IntsAre.cons _ _ (IntsAre.cons _ _ (IntsAre.cons _ _ (IntsAre.cons _ _ (IntsAre.cons _ _ (IntsAre.cons _ _ IntsAre.nil))))))))))))))) : IntsAre _ (besideL.map fun y : Nat => (y : Int)))) (by assumption) (by assumption) (by omega) ?_; intro t')
  | (refine hold_of ?_))))
local macro_rules | `(tactic| walk_at "call ref") => `(tactic| (k_here; k_dflt (refine sp_hidO (by k_asm) (by k_asm) (by k_asm) (by k_asm) (by k_asm) (by rfl) _ _ (by omega) (by omega) ?_; intro c' t' h' tk' hc' F' N')))

set_option maxHeartbeats 8000000 in
theorem sp_start {w : World} {dp un : Nat} {gd : Option (List Code)} {cn : Str} {cs : Scope} {L a : Addr} {ccd : Value} {cl : List (Str × Addr)} {outer : List Env} {A₀ : Around} {base h₀ : Heap} {m : Str → Option Value} {news : List (Addr × Obj)} {s : Shared} {Q E : Value → Shared → Prop} {mean : ExcName → Option Value} {mg mb : Str → Option Value} {vp : Program} {loose : List Str}
   (B : Below A₀ base outer h₀) (F : Fr h₀ L s.heap m) (X : (KK w.params).In h₀) (N : News h₀ L s.heap news) (T : Top vp loose mean mg mb h₀) (hk : cs.kind = .function) (n : Nat) (tn : Tok) (sl : Addr) (vs : List Value) (xs : List Nat) (nl : Nat) (hm : (sl, listOf vs.toArray nl) ∈ news) (hi : IntsAre vs (xs.map fun y : Nat => (y : Int))) (hx : xs.length = 6) (hb : ∀ x ∈ xs, x < 1000000000) (hn : n ≤ 13) (hdp : dp + 60 < recursionLimit) (hun : un + 600 < cLine) (ret : ∀ D T t1 t2 nn h' tk', Fr h₀ L h' m → News h₀ L h' ((D, listOf (#[.str (S T) t1, .str (S (startL n (lOf xs))) t2] : Array Value) nn) :: news) → (∀ p ∈ news, @LT.lt Nat _ p.1 D) → pre0 T = startL n (lOf xs) → T.length = 2 * n → Q (.ref D) { s with heap := h', toks := tk' }) :
   wpAny (model pw w) (ktrTop dp un gd cn cs L a ccd cl outer) (call (.ref 287) [.int (n : Nat) tn, .ref sl]) Q E s := by
  refine entN [(Str.ofString "n", .int (n : Nat) tn), (Str.ofString "numbers", .ref sl)] B F X N T hk (by k_is) (by k_is) (by omega) (BindsTo.of_eq rfl) (by rfl) (by rfl) (by rfl) (by rfl) (by decide) ?_
  clear B F X N T
  intro g L' h₁ tk FG F N B X T
  k_steps
  unfold Hold
  rename Fr _ _ _ _ => F1
  rename News _ _ _ _ => N1
  rename IsRange _ _ _ _ _ _ _ _ => R1
  refine iter_rangeJ (SInv xs _ sl) rfl R1 (by omega) F1 N1 ⟨[], _, _, congrArg (fun x => some (Value.str x _)) nostr, congrArg (fun x => some (Value.str x _)) nostr, rfl, rfl, rfl, rfl⟩ ?_ ?_
  · clear F1 N1 R1
    rintro i ti m₁ h tk own hi' ⟨Tt, tt, tm, v1, v2, v3, v4, pT, lT⟩ F1 N1
    replace F1 := frBind (x := Str.ofString "typed") (v := .str (S Tt) tt) F1 v1
    replace F1 := frBind (x := Str.ofString "meant") (v := .str (S (startL i (lOf xs))) tm) F1 v2
    replace F1 := frBind (x := Str.ofString "beside") (v := .ref _) F1 v3
    replace F1 := frBind (x := Str.ofString "numbers") (v := .ref sl) F1 v4
    clear v1 v2 v3 v4
    simp only [List.cons_append] at N1
    have hl2 : h.IsList sl vs.toArray := isL_of N1 (.tail _ (List.mem_append_left _ hm))
    have q0 : i / 2 % 6 < xs.length := by rw [hx]; exact Nat.mod_lt _ (by decide)
    have q1 := ix_a i
    have q2 := map_at xs _ q0
    have ex : lOf xs i = meaC (xs.getD (i / 2 % 6) 0) := rfl
    generalize xs.getD (i / 2 % 6) 0 = x at q2 ex
    have m26 : x / 4 % 26 < 26 := Nat.mod_lt _ (by decide)
    have m16 : x / 4 % 16 < 16 := Nat.mod_lt _ (by decide)
    have m29 : x / 4 % 20902 < 20902 := Nat.mod_lt _ (by decide)
    have e1 : 97 + ((x : Int).fdiv 4).fmod 26 = ((97 + x / 4 % 26 : Nat) : Int) := ix_b x 26 97 97 rfl
    have e2 : 65 + ((x : Int).fdiv 4).fmod 26 = ((65 + x / 4 % 26 : Nat) : Int) := ix_b x 26 65 65 rfl
    have e3 : 120016 + ((x : Int).fdiv 4).fmod 26 = ((120016 + x / 4 % 26 : Nat) : Int) := ix_b x 26 120016 120016 rfl
    have e4 : 19968 + ((x : Int).fdiv 4).fmod 20902 = ((19968 + x / 4 % 20902 : Nat) : Int) := ix_b x 20902 19968 19968 rfl
    have e5 := ix_c x
    have e6 := beside_at _ m16
    have c1 : 97 + x / 4 % 26 < 1000000 := by omega
    have c2 : 65 + x / 4 % 26 < 1000000 := by omega
    have c3 : 120016 + x / 4 % 26 < 1000000 := by omega
    have c4 : 19968 + x / 4 % 20902 < 1000000 := by omega
    have c5 : besideL.getD (x / 4 % 16) 0 < 1000000 := Nat.lt_trans (let_a ⟨_, m16⟩).2.2 (by decide)
    have c6 : Tt.length + (0 + 1 + (0 + 1)) ≤ 10000 := by omega
    have c7 : (startL i (lOf xs)).length + (0 + 1) ≤ 10000 := by unfold startL; rw [List.length_map, List.length_range]; omega
    clear m26 m16 m29
    k_steps
    · unfold Hold
      rename News _ _ _ _ => N2
      refine item_pair (x := x) (isL_of N2 (.head _)) ?_
      intro t'
      k_steps
      unfold Hold
      rename Int.fmod (i : Int) 2 = 1 => p1
      rename HidOk _ => hc
      skip
      rename Fr _ _ _ _ => F9
      rename News _ _ _ _ => N9
      exact start_endO ex p1 hc pT lT F9 N9 rfl rfl rfl rfl
    · unfold Hold
      rename Int.fmod (i : Int) 2 ≠ 1 => p1
      rename HidOk _ => hc
      rename Fr _ _ _ _ => F9
      rename News _ _ _ _ => N9
      exact start_endE p1 hc pT lT F9 N9 rfl rfl rfl rfl
  · clear F1 N1 R1
    rintro m₁ h tk ⟨Tt, tt, tm, v1, v2, v3, v4, pT, lT⟩ F1 N1
    replace F1 := frBind (x := Str.ofString "typed") (v := .str (S Tt) tt) F1 v1
    replace F1 := frBind (x := Str.ofString "meant") (v := .str (S (startL n (lOf xs))) tm) F1 v2
    clear v1 v2 v3 v4
    k_steps
    rename Fr _ _ _ _ => F9
    rename News _ _ _ _ => N9
    rename _ ∧ AllLt _ _ => o9
    exact back F9 N9 fun f n => ret _ _ _ _ _ _ _ f (News.sub n fun p hp => by
      rcases List.mem_cons.mp hp with h | h
      · exact h ▸ .head _
      · exact .tail _ (.tail _ h)) (ktn_ltOf o9.2) pT lT

section
variable {w : World} {dp un : Nat} {gd : Option (List Code)} {cn : Str} {cs : Scope} {L a : Addr} {ccd : Value} {cl : List (Str × Addr)} {outer : List Env} {A₀ : Around} {base h₀ : Heap} {m : Str → Option Value} {news : List (Addr × Obj)} {s : Shared} {Q E : Value → Shared → Prop} {mean : ExcName → Option Value} {mg mb : Str → Option Value} {vp : Program} {loose : List Str}
theorem sp_startZ (B : Below A₀ base outer h₀) (F : Fr h₀ L s.heap m) (X : (KK w.params).In h₀) (N : News h₀ L s.heap news) (T : Top vp loose mean mg mb h₀) (hk : cs.kind = .function) (i : Int) (n : Nat) (tn : Tok) (sl : Addr) (vs : List Value) (xs : List Nat) (nl : Nat) (hin : i = (n : Nat)) (hm : (sl, listOf vs.toArray nl) ∈ news) (hi : IntsAre vs (xs.map fun y : Nat => (y : Int))) (hx : xs.length = 6) (hb : ∀ x ∈ xs, x < 1000000000) (hn : n ≤ 13) (hdp : dp + 60 < recursionLimit) (hun : un + 600 < cLine) (ret : ∀ D T t1 t2 nn h' tk', Fr h₀ L h' m → News h₀ L h' ((D, listOf (#[.str (S T) t1, .str (S (startL n (lOf xs))) t2] : Array Value) nn) :: news) → (∀ p ∈ news, @LT.lt Nat _ p.1 D) → pre0 T = startL n (lOf xs) → T.length = 2 * n → Q (.ref D) { s with heap := h', toks := tk' }) :
   wpAny (model pw w) (ktrTop dp un gd cn cs L a ccd cl outer) (call (.ref 287) [.int i tn, .ref sl]) Q E s := by
  subst hin
  exact sp_start B F X N T hk n tn sl vs xs nl hm hi hx hb hn hdp hun ret
end
end
end Mine
end

local macro_rules | `(tactic| walk_at "mine pad") => `(tactic| fail)
local macro_rules | `(tactic| walk_at "mine pad") => `(tactic| fail)
local macro_rules | `(tactic| walk_at "mine pad") => `(tactic| fail)
local macro_rules | `(tactic| walk_at "mine pad") => `(tactic| fail)
local macro_rules | `(tactic| walk_at "mine pad") => `(tactic| fail)
local macro_rules | `(tactic| walk_at "mine pad") => `(tactic| fail)
local macro_rules | `(tactic| walk_at "mine pad") => `(tactic| fail)
local macro_rules | `(tactic| walk_at "mine pad") => `(tactic| fail)
local macro_rules | `(tactic| walk_at "mine pad") => `(tactic| fail)
local macro_rules | `(tactic| walk_at "mine pad") => `(tactic| fail)
section -- WNum
open PySem PySem.W PySem.Spec PySem.Calls PyProof.Rows PyProof.Rows.LCg
namespace Mine
set_option maxRecDepth 100000
set_option pp.deepTerms false
set_option pp.deepTerms.threshold 6
set_option pp.proofs false
example : (PySem.Challenge.rw_sh0062_01, KK) = (PySem.Challenge.rw_sh0062_01, KK) := by k_fill; rfl

noncomputable def numsOf (ns : List Int) : List Int := List.map (fun a => a.fmod (10 ^ Int.toNat 9)) (List.filter (fun _ => true) (List.take 12 ns)) ++ List.drop (((List.take 12 ns).length : Nat) : Int).toNat ([3, 0, 2, 5, 40, 77, 60, 9, 6, 7, 8, 5] : List Int)
theorem sb_from {c n : Nat} (h : c ≤ n) : sliceBounds (some (c : Int)) none none n = ((c : Int), (n : Int), 1) := by
  unfold sliceBounds
  simp
  omega
theorem ints_drop {vs : List Value} {ns : List Int} (h : IntsAre vs ns) : ∀ c : Nat, IntsAre (vs.drop c) (ns.drop c) := by
  induction h with
  | nil => intro c; rw [List.drop_nil, List.drop_nil]; exact .nil
  | cons n t h ih =>
    intro c
    cases c with
    | zero => exact .cons n t h
    | succ c => exact ih c
section
variable {prog : Program} {w : World} {A : Around} {E : Value → Shared → Prop} {s : Shared} {h₀ : Heap} {L : Addr} {m : Str → Option Value} {news : List (Addr × Obj)} {Q : Value → Shared → Prop}
theorem slice_tail_ints {value slice : PySem.Expr} {l : Addr} {vs : List Value} {ns : List Int} {k : Int} {u : Tok} (c : Nat) (F : Fr h₀ L s.heap m) (N : News h₀ L s.heap news) (hl : s.heap.IsList l vs.toArray) (hc : k = (c : Nat)) (hi : IntsAre vs ns) (hcl : c ≤ ns.length) (hz : ns.length ≤ 1000)
    (h : ∀ D ws h', Fr h₀ L h' m → News h₀ L h' ((D, listOf (List.toArray ws) 0) :: news) → (∀ p ∈ news, p.1 < D) → IntsAre ws (ns.drop c) → Q (.ref D) { s with heap := h' })
    (hs : subscripted slice false (.ref l) (.ref s.heap.objs.size) = operate [.ref s.heap.objs.size, .ref l] (getItem (.ref l) (.ref s.heap.objs.size)) := by with_unfolding_all rfl) (ht : ∀ r, letTemporaryGo value (.ref l) r = pure () := by intro _; with_unfolding_all rfl) :
    wpAny (model prog w) A (subscriptTail value slice (.ref l) (.ref s.heap.objs.size)) Q E { s with heap := s.heap.push { cls := .type "slice", data := .fields #[.int k u, .none, .none] } } := by
  subst hc
  have hvl := hi.length
  refine kmk_slice_ints (lo := some (c : Int)) (hi := none) (ms := ns.drop c) F N hl (.int _ _) .none hi ?_ rfl (fun D ws h' F' N' l1 hI _ _ => h D ws h' F' N' l1 hI) hs ht (by rw [List.size_toArray, sizeLine_eq]; omega)
  rw [kmk_pick_nat (a := c) (b := vs.length) vs.toArray (by rw [List.size_toArray]; exact sb_from (by omega))]
  have e : ((vs.drop c).take (vs.length - c)) = vs.drop c := List.take_of_length_le (by rw [List.length_drop]; omega)
  show IntsAre ((vs.drop c).take (vs.length - c)) _
  rw [e]
  exact ints_drop hi c
end
theorem flt (l : List Int) : List.filter (fun _ => true) l = l := List.filter_eq_self.mpr fun _ _ => rfl
theorem nums_len (ns : List Int) : (numsOf ns).length = 12 := by
  unfold numsOf
  rw [flt]
  simp only [List.length_append, List.length_map, List.length_drop, List.length_take, Int.toNat_natCast, List.length_cons, List.length_nil]
  omega
theorem nums_size (ns : List Int) : (List.map (fun a => a.fmod (10 ^ Int.toNat 9)) (List.filter (fun _ => true) (List.take 12 ns))).length + (List.drop (((List.take 12 ns).length : Nat) : Int).toNat ([3, 0, 2, 5, 40, 77, 60, 9, 6, 7, 8, 5] : List Int)).length ≤ sizeLine := by
  have := nums_len ns
  unfold numsOf at this
  rw [List.length_append] at this
  rw [this, sizeLine_eq]; decide
theorem nums_in (ns : List Int) : ∀ x ∈ numsOf ns, 0 ≤ x ∧ x < 1000000000 := by
  intro x hx
  unfold numsOf at hx
  rcases List.mem_append.mp hx with hx | hx
  · obtain ⟨a, _, rfl⟩ := List.mem_map.mp hx
    have e : a.fmod (10 ^ Int.toNat 9) = a % 1000000000 := by
      rw [show (10 : Int) ^ Int.toNat 9 = 1000000000 by decide, Int.fmod_eq_emod_of_nonneg _ (by decide)]
    rw [e]
    exact ⟨Int.emod_nonneg _ (by decide), Int.emod_lt_of_pos _ (by decide)⟩
  · have := List.mem_of_mem_drop hx
    exact (show ∀ x ∈ ([3, 0, 2, 5, 40, 77, 60, 9, 6, 7, 8, 5] : List Int), 0 ≤ x ∧ x < 1000000000 by decide) x this
theorem ints12 {t0 t1 t2 t3 t4 t5 t6 t7 t8 t9 t10 t11 : Tok} : IntsAre [.int 3 t0, .int 0 t1, .int 2 t2, .int 5 t3, .int 40 t4, .int 77 t5, .int 60 t6, .int 9 t7, .int 6 t8, .int 7 t9, .int 8 t10, .int 5 t11] [3, 0, 2, 5, 40, 77, 60, 9, 6, 7, 8, 5] :=
  .cons _ _ (.cons _ _ (.cons _ _ (.cons _ _ (.cons _ _ (.cons _ _ (.cons _ _ (.cons _ _ (.cons _ _ (.cons _ _ (.cons _ _ (.cons _ _ .nil)))))))))))
section
local macro_rules | `(tactic| walk_at "subscriptTail Name Slice ref ref") => `(tactic| (k_here; (with_reducible show wpAny _ _ (subscriptTail _ (PySem.Expr.Slice (some _) none none _) (Value.ref _) (Value.ref _)) _ _ _); (refine hold_of ?_)))
local macro_rules | `(tactic| walk_at "binaryOp Add ref ref") => `(tactic| (k_here; (refine hold_of ?_)))

set_option maxHeartbeats 8000000 in
theorem sp_numbers {w : World} {dp un : Nat} {gd : Option (List Code)} {cn : Str} {cs : Scope} {L a : Addr} {ccd : Value} {cl : List (Str × Addr)} {outer : List Env} {A₀ : Around} {base h₀ : Heap} {m : Str → Option Value} {news : List (Addr × Obj)} {s : Shared} {Q E : Value → Shared → Prop} {mean : ExcName → Option Value} {mg mb : Str → Option Value} {vp : Program} {loose : List Str}
   (B : Below A₀ base outer h₀) (F : Fr h₀ L s.heap m) (X : (KK w.params).In h₀) (N : News h₀ L s.heap news) (T : Top vp loose mean mg mb h₀) (hk : cs.kind = .function) (sl : Addr) (vs : List Value) (ns : List Int) (hl : h₀.IsList sl vs.toArray) (hi : IntsAre vs ns) (hln : ns.length ≤ 100) (hdp : dp + 60 < recursionLimit) (hun : un + 600 < cLine) (ret : ∀ D ys xs nn h' tk', Fr h₀ L h' m → News h₀ L h' ((D, listOf ys.toArray nn) :: news) → (∀ p ∈ news, @LT.lt Nat _ p.1 D) → IntsAre ys xs → xs.length = 12 → (∀ x ∈ xs, 0 ≤ x ∧ x < 1000000000) → Q (.ref D) { s with heap := h', toks := tk' }) :
   wpAny (model pw w) (ktrTop dp un gd cn cs L a ccd cl outer) (call (.ref 268) [.ref sl]) Q E s := by
  refine entN [(Str.ofString "script", .ref sl)] B F X N T hk (by k_is) (by k_is) (by omega) (BindsTo.of_eq rfl) (by rfl) (by rfl) (by rfl) (by rfl) (by decide) ?_
  clear B F X N T
  intro g L' h₁ tk FG F N B X T
  have hl' : g.IsList sl vs.toArray := hl.at fun o e => FG.keep _ o e
  have hvl := hi.length
  k_steps
  unfold Hold
  rename Fr _ _ _ _ => F1
  rename News _ _ _ _ => N1
  rename IntsAre _ (List.map _ _) => i1
  have hc12 : (List.map (fun a => a.fmod (10 ^ Int.toNat 9)) (List.filter (fun _ => true) (List.take 12 ns))).length ≤ 12 := by rw [flt, List.length_map, List.length_take]; omega
  refine slice_tail_ints (s := ⟨_, _, _, _, _⟩) (List.take 12 ns).length F1 N1 (News.isList N1 (.head _)) rfl ints12 (by rw [List.length_take]; exact Nat.min_le_left _ _) (by decide) ?_
  clear F1 N1
  intro D8 ws8 h8 F1 N1 l8 i2
  k_lt l8
  k_steps
  unfold Hold
  have o1 : ∀ p ∈ news, @LT.lt Nat _ p.1 _ := fun p hp => Heap.lt_size (N1 p (.tail _ (.tail _ (.tail _ (.tail _ hp))))).1
  refine add_lists_ints (s := ⟨_, _, _, _, _⟩) F1 N1 (News.isList N1 (.tail _ (.tail _ (.head _)))) (News.isList N1 (.head _)) i1 i2 ?_ ?_
  · intro h' F2 N2 i3
    clear F1 N1
    k_steps
    exact back F2 N2 fun f n => ret _ _ (numsOf ns) 0 _ _ f (News.sub n fun p hp => by
      rcases List.mem_cons.mp hp with h | h
      · exact h ▸ .head _
      · exact .tail _ (.tail _ (.tail _ (.tail _ (.tail _ h))))) o1 i3 (nums_len ns) (nums_in ns)
  · exact nums_size ns

end
end Mine
end

section -- LawOps
open PySem PySem.W PySem.Spec PySem.Calls PyProof.Rows
namespace Mine
set_option maxRecDepth 100000
noncomputable def GoodDue (start : List Nat) (j k : Nat) : Nat → Nat → Prop
  | 0, _ => True
  | f + 1, i => wd start j k i ≠ [] ∧ (wd start j k i).length ≤ 300 ∧ (2 ≤ (wd start j k i).length → GoodDue start j k f (i + 1))
theorem due_good (l : Nat → Nat) (start : List Nat) (j k : Nat) : ∀ (f i : Nat) (u : List Nat), chk start j k f i u = true → GoodDue (start.map (sg l)) j k f i := by
  intro f
  induction f with
  | zero => intro i u _; trivial
  | succ f ih =>
    intro i u h
    unfold chk at h
    simp only [Bool.and_eq_true, Bool.or_eq_true, decide_eq_true_eq, beq_iff_eq] at h
    obtain ⟨⟨⟨⟨h1, h2⟩, h3⟩, h4⟩, h5⟩ := h
    have e1 : u.map (sg l) = wd (start.map (sg l)) j k i := by rw [← wd_map, ← h1]
    have hlen : (wd (start.map (sg l)) j k i).length = u.length := by rw [← e1, List.length_map]
    refine ⟨fun h => ?_, by omega, fun h => ih (i + 1) _ (h5.resolve_left (by omega))⟩
    rw [h] at hlen
    have : u = [] := List.eq_nil_of_length_eq_zero hlen.symm
    rw [this] at h3; cases h3
theorem good_due (l : Nat → Nat) (n j k : Nat) (hn : 2 ≤ n ∧ n ≤ 13) (hj : 1 ≤ j ∧ j ≤ 2) (hk : 1 ≤ k ∧ k ≤ 4) : GoodDue (startL n l) j k 26 0 := by
  have h := chk_all
  rw [List.all_eq_true] at h
  have h := h (n - 2) (List.mem_range.mpr (by omega))
  rw [List.all_eq_true] at h
  have h := h (j - 1) (List.mem_range.mpr (by omega))
  rw [List.all_eq_true] at h
  have h := h (k - 1) (List.mem_range.mpr (by omega))
  rw [show n - 2 + 2 = n by omega, show j - 1 + 1 = j by omega, show k - 1 + 1 = k by omega] at h
  have := due_good l _ _ _ _ _ _ h
  rwa [blank_map] at this
theorem lOf_ok (xs : List Nat) : ∀ p, lOf xs p ≠ 39 ∧ lOf xs p ≠ 10 ∧ lOf xs p ≠ 13 := fun _ => (let_ok _).2.1
section
variable {w : World} {dp un : Nat} {gd : Option (List Code)} {cn : Str} {cs : Scope} {L a : Addr} {ccd : Value} {cl : List (Str × Addr)} {outer : List Env} {A₀ : Around} {base h₀ : Heap} {m : Str → Option Value} {news : List (Addr × Obj)} {s : Shared} {Q E : Value → Shared → Prop} {mean : ExcName → Option Value} {mg mb : Str → Option Value} {vp : Program} {loose : List Str}
theorem sp_heard (B : Below A₀ base outer h₀) (F : Fr h₀ L s.heap m) (X : (KK w.params).In h₀) (N : News h₀ L s.heap news) (T : Top vp loose mean mg mb h₀) (hk : cs.kind = .function) (wl : List Nat) (i : Nat) (t ti : Tok) (hw : wl ≠ []) (hlw : wl.length ≤ 1000) (hi : i ≤ 100) (hdp : dp + 60 < recursionLimit) (hun : un + 600 < cLine) (ret : HeardRet h₀ L m news Q s i wl) :
   wpAny (model pw w) (ktrTop dp un gd cn cs L a ccd cl outer) (call (.ref 318) [.str (S wl) t, .int (i : Nat) ti]) Q E s := by
  match wl, hw, hlw, ret with
  | [c], _, _, ret => exact sp_heard1 B F X N T hk c i t ti hi hdp hun ret
  | c :: d :: r, _, hlw, ret => exact sp_heard2 B F X N T hk c d i r t ti hi hlw hdp hun ret
end
structure DueInv (h₀ : Heap) (L : Addr) (s₀ : Shared) (Dl Nl : Addr) (bs : List (Addr × Obj)) (st T2 : List Nat) (j k : Nat) (tj tk ts tt : Tok) (f : Nat) (s' : Shared) (vs : List Value) (wr : List Nat) (mm : Str → Option Value) (tl : List (Addr × Obj)) (ds : List Dat) (nn : Nat) (tw : Tok) : Prop where
  sh : s' = { s₀ with heap := s'.heap, toks := s'.toks }
  len : vs.length + f = 26
  F : Fr h₀ L s'.heap mm
  word : ∃ x, x = S wr ∧ mm (Str.ofString "word") = some (.str x tw)
  due : mm (Str.ofString "due") = some (.ref Dl)
  vj : mm (Str.ofString "j") = some (.int (j : Nat) tj)
  vk : mm (Str.ofString "k") = some (.int (k : Nat) tk)
  vs' : mm (Str.ofString "start") = some (.str (S st) ts)
  vt : mm (Str.ofString "typed") = some (.str (S T2) tt)
  vn : mm (Str.ofString "numbers") = some (.ref Nl)
  N : News h₀ L s'.heap ((Dl, listOf vs.toArray nn) :: tl)
  ne : ∀ p ∈ tl, p.1 ≠ Dl
  sub : ∀ p ∈ bs, p ∈ tl
  dat : DatAll tl vs ds
  wl : wr.length ≤ 1000
  good : 2 ≤ wr.length → GoodDue st j k f vs.length
  tot : ds ++ (if wr.length < 2 then [] else dueL st j k f vs.length) = dueL st j k 26 0
structure DueEnd (h₀ : Heap) (L : Addr) (s₀ : Shared) (Dl Nl : Addr) (bs : List (Addr × Obj)) (st T2 : List Nat) (j k : Nat) (tj tk tt : Tok) (s' : Shared) (vs : List Value) (mm : Str → Option Value) (tl : List (Addr × Obj)) (nn : Nat) : Prop where
  sh : s' = { s₀ with heap := s'.heap, toks := s'.toks }
  F : Fr h₀ L s'.heap mm
  due : mm (Str.ofString "due") = some (.ref Dl)
  vj : mm (Str.ofString "j") = some (.int (j : Nat) tj)
  vk : mm (Str.ofString "k") = some (.int (k : Nat) tk)
  vt : mm (Str.ofString "typed") = some (.str (S T2) tt)
  vn : mm (Str.ofString "numbers") = some (.ref Nl)
  N : News h₀ L s'.heap ((Dl, listOf vs.toArray nn) :: tl)
  ne : ∀ p ∈ tl, p.1 ≠ Dl
  sub : ∀ p ∈ bs, p ∈ tl
  dat : DatAll tl vs (dueL st j k 26 0)
noncomputable def DueOut (h₀ : Heap) (L : Addr) (s₀ : Shared) (Dl Nl : Addr) (bs : List (Addr × Obj)) (st T2 : List Nat) (j k : Nat) (tj tk tt : Tok) (fl : Flow) (s' : Shared) : Prop := fl = .next ∧ ∃ vs mm tl nn, DueEnd h₀ L s₀ Dl Nl bs st T2 j k tj tk tt s' vs mm tl nn
theorem due_step {st : List Nat} {j k f i : Nat} {ds total : List Dat} (h : ds ++ dueL st j k (f + 1) i = total) : (ds ++ [entry i (wd st j k i)]) ++ (if (wd st j k i).length < 2 then [] else dueL st j k f (i + 1)) = total := by
  rw [← h, List.append_assoc]; rfl
theorem newsRe {h₀ h : Heap} {L : Addr} {q : Addr × Obj} {a b : List (Addr × Obj)} (N : News h₀ L h (a ++ q :: b)) : News h₀ L h (q :: (a ++ b)) :=
  News.sub N fun p hp => by
    rcases List.mem_cons.mp hp with h | h
    · exact List.mem_append_right _ (h ▸ .head _)
    · rcases List.mem_append.mp h with h | h
      · exact List.mem_append_left _ h
      · exact List.mem_append_right _ (.tail _ h)
theorem ix_j (n : Nat) : 1 + (n : Int).fmod 2 = ((1 + n % 2 : Nat) : Int) := by
  rw [Int.fmod_eq_emod_of_nonneg _ (by decide)]; rfl
theorem ix_k (n : Nat) : 1 + (n : Int).fmod 4 = ((1 + n % 4 : Nat) : Int) := by
  rw [Int.fmod_eq_emod_of_nonneg _ (by decide)]; rfl
theorem ints3 {vs : List Value} {a b c : Int} (h : IntsAre vs [a, b, c]) : ∃ t0 t1 t2, vs = [.int a t0, .int b t1, .int c t2] := by
  cases h with
  | cons _ t0 h => cases h with
    | cons _ t1 h => cases h with
      | cons _ t2 h => cases h; exact ⟨_, _, _, rfl⟩
end Mine
end

section -- LawFin
open PySem PySem.W PySem.Spec PySem.Calls PyProof.Rows
namespace Mine
set_option maxRecDepth 100000
noncomputable def Sm (l : List Nat) : Prop := ∀ c ∈ l, c < 1114112
theorem Sm.append {a b : List Nat} (h : Sm a) (k : Sm b) : Sm (a ++ b) := fun c hc => (List.mem_append.mp hc).elim (h c) (k c)
theorem Sm.rep {a : List Nat} (h : Sm a) (n : Nat) : Sm (rep a n) := by
  unfold Mine.rep
  intro c hc
  obtain ⟨l, hl, hc⟩ := List.mem_flatten.mp hc
  rw [List.eq_of_mem_replicate hl] at hc
  exact h c hc
theorem Sm.drop {a : List Nat} (h : Sm a) (n : Nat) : Sm (a.drop n) := fun c hc => h c (List.mem_of_mem_drop hc)
theorem Sm.mk {a : List Nat} (h : Sm a) : Sm (mk a) := by
  unfold Mine.mk
  intro c hc
  obtain ⟨d, hd, hc⟩ := List.mem_flatMap.mp hc
  simp only [List.mem_cons, List.not_mem_nil, or_false] at hc
  rcases hc with rfl | rfl
  · exact h _ hd
  · decide
theorem Sm.dd {a : List Nat} (h : Sm a) : Sm (dd a) := by
  unfold Mine.dd
  split
  · intro c hc
    rcases List.mem_cons.mp hc with rfl | hc
    · decide
    · exact h c hc
  · exact h
theorem sm1 : Sm [46] := by unfold Sm; decide
theorem sm2 : Sm [115, 116] := by unfold Sm; decide
theorem sm3 : Sm [116, 115] := by unfold Sm; decide
theorem sm4 : Sm [116] := by unfold Sm; decide
theorem wd_small {st : List Nat} (h : Sm st) (j k t : Nat) : Sm (wd st j k t) := by
  unfold wd
  split
  · exact (h.drop _).append (sm2.rep _)
  · dsimp only
    unfold wdEnd
    split
    · exact (sm1.rep _).append (sm2.rep _)
    · split
      · exact (sm2.rep _).append (sm1.rep _)
      · exact ((sm3.rep _).append sm4).append (sm1.rep _)
theorem strOk_S {l : List Nat} (h : Sm l) : PyData.strOk (S l) = true := by
  unfold PyData.strOk S
  rw [List.all_toArray, List.all_eq_true]
  intro c hc
  exact decide_eq_true (h c hc)
theorem entry_ok {u : List Nat} (h : Sm u) (i : Nat) : kqdOk 8 (entry i u) = true := by
  have h1 := strOk_S h.mk.dd
  have h2 : PyData.strOk (S []) = true := strOk_S fun c hc => nomatch hc
  have h3 : PyData.strOk (S (46 :: 46 :: List.replicate i 46)) = true := strOk_S fun c hc => by
    simp only [List.mem_cons, List.mem_replicate] at hc
    rcases hc with rfl | rfl | ⟨_, rfl⟩ <;> decide
  have h4 : kqdOk 7 (partsD u) = true := by
    match u, h, h1 with
    | [], _, h1 => simp [partsD, kqdOk, h1]
    | [a], _, h1 => simp [partsD, kqdOk, h1]
    | a :: b :: r, h, _ =>
      have g1 := strOk_S (Sm.dd (a := [a]) fun c hc => h c (by simp only [List.mem_singleton] at hc; rw [hc]; exact .head _))
      have g2 : PyData.strOk (S [b]) = true := strOk_S fun c hc => h c (by simp only [List.mem_singleton] at hc; rw [hc]; exact .tail _ (.head _))
      have g3 := strOk_S (Sm.mk (a := r) fun c hc => h c (.tail _ (.tail _ hc)))
      simp [partsD, kqdOk, g1, g2, g3]
  unfold entry
  simp [kqdOk, h1, h2, h3, h4]
theorem due_ok {st : List Nat} (h : Sm st) (j k : Nat) : ∀ (f i : Nat), ∀ d ∈ dueL st j k f i, kqdOk 8 d = true := by
  intro f
  induction f with
  | zero => intro i d hd; cases hd
  | succ f ih =>
    intro i d hd
    unfold dueL at hd
    rcases List.mem_cons.mp hd with rfl | hd
    · exact entry_ok (wd_small h j k i) i
    · split at hd
      · cases hd
      · exact ih _ _ hd
theorem st_small (n : Nat) (xs : List Nat) : Sm (startL n (lOf xs)) := by
  unfold startL
  intro c hc
  obtain ⟨p, _, rfl⟩ := List.mem_map.mp hc
  split
  · decide
  · exact Nat.lt_trans (let_ok _).2.2.2 (by decide)
section
variable {h₀ h9 : Heap} {L : Addr} {g9 : Array GenState} {d9 : Drawn} {t9 : Nat} {os9 : OsState} {Dl Nl T : Addr} {bs tl tlh : List (Addr × Obj)} {st T2 : List Nat} {j k : Nat} {tj tk ts tt : Tok} {f : Nat} {vs : List Value} {wr : List Nat} {ds : List Dat} {h7 : Heap} {n7 tkx : Nat} {m7 : Str → Option Value} {tw : Tok} {v7 : List Value}
theorem due_less (len : vs.length + f = 26) (c1 : vs.length < 26) (lw : 2 ≤ wr.length) (good : GoodDue st j k f vs.length) (sub : ∀ p ∈ bs, p ∈ tl) (dat : DatAll tl vs ds) (tot : ds ++ (if wr.length < 2 then [] else dueL st j k f vs.length) = dueL st j k 26 0)
  (hE : DatIn tlh (.ref T) (entry vs.length (wd st j k vs.length))) (F : Fr h₀ L h7 m7) (N : News h₀ L h7 ((Dl, listOf (vs ++ [Value.ref T]).toArray n7) :: (tlh ++ tl))) (ne : ∀ p ∈ tlh ++ tl, p.1 ≠ Dl)
  (vw : m7 (Str.ofString "word") = some (.str (S (wd st j k vs.length)) tw)) (vd : m7 (Str.ofString "due") = some (.ref Dl)) (vj : m7 (Str.ofString "j") = some (.int (j : Nat) tj)) (vk : m7 (Str.ofString "k") = some (.int (k : Nat) tk)) (vst : m7 (Str.ofString "start") = some (.str (S st) ts)) (vty : m7 (Str.ofString "typed") = some (.str (S T2) tt)) (vnu : m7 (Str.ofString "numbers") = some (.ref Nl)) :
  Less (fun f s => ∃ vs wr mm tl' ds nn tw, DueInv h₀ L ⟨h9, g9, d9, t9, os9⟩ Dl Nl bs st T2 j k tj tk ts tt f s vs wr mm tl' ds nn tw) f ⟨h7, g9, d9, tkx, os9⟩ := by
  cases f with
  | zero => omega
  | succ f =>
    refine ⟨f, Nat.lt_succ_self f, vs ++ [.ref T], wd st j k vs.length, m7, tlh ++ tl, ds ++ [entry vs.length (wd st j k vs.length)], n7, tw, ?_⟩
    have hl : (vs ++ [Value.ref T]).length = vs.length + 1 := by rw [List.length_append]; rfl
    refine { sh := rfl, len := by rw [hl]; omega, F := F, word := ⟨_, rfl, vw⟩, due := vd, vj := vj, vk := vk, vs' := vst, vt := vty, vn := vnu, N := N, ne := ne, sub := fun p hp => List.mem_append_right _ (sub p hp), dat := (dat.mono fun p hp => List.mem_append_right _ hp).append (.one (hE.mono fun p hp => List.mem_append_left _ hp)), wl := Nat.le_trans good.2.1 (by decide), good := fun h => by rw [hl]; exact good.2.2 h, tot := ?_ }
    rw [hl]
    rw [if_neg (by omega)] at tot
    exact due_step tot
theorem due_out {s' : Shared} (sh : s' = { (⟨h9, g9, d9, t9, os9⟩ : Shared) with heap := s'.heap, toks := s'.toks }) (len : vs.length + f = 26) (c : ¬ vs.length < 26 ∨ ¬ 1 < wr.length) (sub : ∀ p ∈ bs, p ∈ tl) (dat : DatAll tl vs ds) (tot : ds ++ (if wr.length < 2 then [] else dueL st j k f vs.length) = dueL st j k 26 0)
  (F : Fr h₀ L s'.heap m7) (N : News h₀ L s'.heap ((Dl, listOf vs.toArray n7) :: tl)) (ne : ∀ p ∈ tl, p.1 ≠ Dl) (vd : m7 (Str.ofString "due") = some (.ref Dl)) (vj : m7 (Str.ofString "j") = some (.int (j : Nat) tj)) (vk : m7 (Str.ofString "k") = some (.int (k : Nat) tk)) (vty : m7 (Str.ofString "typed") = some (.str (S T2) tt)) (vnu : m7 (Str.ofString "numbers") = some (.ref Nl)) :
  DueOut h₀ L ⟨h9, g9, d9, t9, os9⟩ Dl Nl bs st T2 j k tj tk tt .next s' := by
  have e : ds = dueL st j k 26 0 := by
    rw [← tot]
    rcases c with c | c
    · have : f = 0 := by omega
      subst this
      split <;> simp [dueL]
    · rw [if_pos (by omega), List.append_nil]
  subst e
  exact ⟨rfl, vs, m7, tl, n7, { sh := sh, F := F, due := vd, vj := vj, vk := vk, vt := vty, vn := vnu, N := N, ne := ne, sub := sub, dat := dat }⟩
end
end Mine
end

local macro_rules | `(tactic| walk_at "mine pad") => `(tactic| fail)
local macro_rules | `(tactic| walk_at "mine pad") => `(tactic| fail)
local macro_rules | `(tactic| walk_at "mine pad") => `(tactic| fail)
section -- WBody
open PySem PySem.W PySem.Spec PySem.Calls PyProof.Rows PyProof.Rows.LCg
namespace Mine
set_option maxRecDepth 100000
set_option pp.deepTerms false
set_option pp.deepTerms.threshold 6
set_option pp.proofs false
example : (PySem.Challenge.rw_sh0062_01, KK) = (PySem.Challenge.rw_sh0062_01, KK) := by k_fill; rfl

theorem dec_self {α : Type} (a : α) (h : Decidable (a = a)) : @decide (a = a) h = true := @decide_eq_true _ h rfl
theorem ix_n (n : Nat) : 2 + (n : Int).fmod 12 = ((2 + n % 12 : Nat) : Int) := by
  rw [Int.fmod_eq_emod_of_nonneg _ (by decide)]; rfl
theorem nats12 {xs : List Int} (h : xs.length = 12) (hb : ∀ x ∈ xs, 0 ≤ x ∧ x < 1000000000) : ∃ n0 n1 n2 n3 n4 n5 n6 n7 n8 n9 n10 n11 : Nat, xs = [(n0 : Int), n1, n2, n3, n4, n5, n6, n7, n8, n9, n10, n11] ∧ ∀ y ∈ [n6, n7, n8, n9, n10, n11], y < 1000000000 := by
  match xs, h with
  | [a0, a1, a2, a3, a4, a5, a6, a7, a8, a9, a10, a11], _ =>
    have g : ∀ x ∈ [a0, a1, a2, a3, a4, a5, a6, a7, a8, a9, a10, a11], x = ((x.toNat : Nat) : Int) ∧ x.toNat < 1000000000 := fun x hx => by have := hb x hx; omega
    have g' := g
    simp only [List.forall_mem_cons] at g'
    obtain ⟨g0, g1, g2, g3, g4, g5, g6, g7, g8, g9, g10, g11, _⟩ := g'
    refine ⟨a0.toNat, a1.toNat, a2.toNat, a3.toNat, a4.toNat, a5.toNat, a6.toNat, a7.toNat, a8.toNat, a9.toNat, a10.toNat, a11.toNat, by rw [← g0.1, ← g1.1, ← g2.1, ← g3.1, ← g4.1, ← g5.1, ← g6.1, ← g7.1, ← g8.1, ← g9.1, ← g10.1, ← g11.1], ?_⟩
    simp only [List.forall_mem_cons]
    exact ⟨g6.2, g7.2, g8.2, g9.2, g10.2, g11.2, fun _ h => nomatch h⟩
theorem due_at {st : List Nat} {j k f i : Nat} (gd : GoodDue st j k f i) (len : i + f = 26) (c : i < 26) : wd st j k i ≠ [] ∧ (wd st j k i).length ≤ 300 := by
  cases f with
  | zero => omega
  | succ f => exact ⟨gd.1, gd.2.1⟩
theorem newsIn {h₀ h : Heap} {L : Addr} {q a : Addr × Obj} {tl : List (Addr × Obj)} (N : News h₀ L h (q :: tl)) (ha : a ∈ tl) : News h₀ L h (q :: a :: tl) :=
  News.sub N fun p hp => by
    simp only [List.mem_cons] at hp ⊢
    rcases hp with h | h | h
    · exact .inl h
    · exact .inr (h ▸ ha)
    · exact .inr h
theorem due_init {h₀ hx h9 : Heap} {L : Addr} {g9 : Array GenState} {d9 : Drawn} {t9 : Nat} {os9 : OsState} {mm : Str → Option Value} {Dl Nl : Addr} {tl : List (Addr × Obj)} {nn : Nat} {st T2 : List Nat} {j k : Nat} {tj tk ts tt tw : Tok} {ij ik : Int}
  (F : Fr h₀ L hx mm) (N : News h₀ L hx ((Dl, listOf (#[] : Array Value) nn) :: tl)) (ne : ∀ p ∈ tl, p.1 ≠ Dl) (gD : GoodDue st j k 26 0) (vw : mm (Str.ofString "word") = some (.str (Str.ofString "st") tw)) (vd : mm (Str.ofString "due") = some (.ref Dl))
  (vj : mm (Str.ofString "j") = some (.int ij tj)) (ej : ij = (j : Nat)) (vk : mm (Str.ofString "k") = some (.int ik tk)) (ek : ik = (k : Nat)) (vs : mm (Str.ofString "start") = some (.str (S st) ts)) (vt : mm (Str.ofString "typed") = some (.str (S T2) tt)) (vn : mm (Str.ofString "numbers") = some (.ref Nl)) :
  ∀ tkx, DueInv h₀ L ⟨h9, g9, d9, t9, os9⟩ Dl Nl tl st T2 j k tj tk ts tt 26 ⟨hx, g9, d9, tkx, os9⟩ [] [115, 116] mm tl [] nn tw := by
  subst ej ek
  exact fun tkx => { sh := rfl, len := rfl, F := F, word := ⟨_, stW, vw⟩, due := vd, vj := vj, vk := vk, vs' := vs, vt := vt, vn := vn, N := N, ne := ne, sub := fun p hp => hp, dat := .nil, wl := by decide, good := fun _ => gD, tot := rfl }
theorem due_while {w : World} {A : Around} {env : Env} {test : PySem.Expr} {body : List Stmt} {pos : Pos} {Qf : Flow → Shared → Prop} {h₀ hx h9 : Heap} {L : Addr} {g9 : Array GenState} {d9 : Drawn} {t9 tkx : Nat} {os9 : OsState} {mm : Str → Option Value} {Dl Nl : Addr} {tl : List (Addr × Obj)} {nn : Nat} {st T2 : List Nat} {j k : Nat} {tj tk ts tt tw : Tok}
  (I0 : ∀ tkx, DueInv h₀ L ⟨h9, g9, d9, t9, os9⟩ Dl Nl tl st T2 j k tj tk ts tt 26 ⟨hx, g9, d9, tkx, os9⟩ [] [115, 116] mm tl [] nn tw)
  (turn : ∀ f s, (∃ vs wr mm tl' ds nn tw, DueInv h₀ L ⟨h9, g9, d9, t9, os9⟩ Dl Nl tl st T2 j k tj tk ts tt f s vs wr mm tl' ds nn tw) → wpAny (model pw w) A (isTrue test env (eval test env)) (fun b s₂ => if b = true then wpAny (model pw w) A (execs body env) (fun fl s' => match fl with | .next => Less (fun f s => ∃ vs wr mm tl' ds nn tw, DueInv h₀ L ⟨h9, g9, d9, t9, os9⟩ Dl Nl tl st T2 j k tj tk ts tt f s vs wr mm tl' ds nn tw) f s' | .cont => False | .brk => DueOut h₀ L ⟨h9, g9, d9, t9, os9⟩ Dl Nl tl st T2 j k tj tk tt .next s' | .ret v => DueOut h₀ L ⟨h9, g9, d9, t9, os9⟩ Dl Nl tl st T2 j k tj tk tt (.ret v) s') (fun _ _ => False) s₂ else wpAny (model pw w) A (execs [] env) (DueOut h₀ L ⟨h9, g9, d9, t9, os9⟩ Dl Nl tl st T2 j k tj tk tt) (fun _ _ => False) s₂) (fun _ _ => False) s)
  (after : ∀ fl s', DueOut h₀ L ⟨h9, g9, d9, t9, os9⟩ Dl Nl tl st T2 j k tj tk tt fl s' → Qf fl s') : wpAny (model pw w) A (exec (.While test body [] pos) env) Qf (fun _ _ => False) ⟨hx, g9, d9, tkx, os9⟩ :=
  wpAny_mono (whl_start 100 (whl_meas PassesOwn.never turn 26 99 _ ⟨_, _, _, _, _, _, _, I0 tkx⟩)) after fun _ _ h => h
section
local macro_rules | `(tactic| walk_at "call builtin:len") => `(tactic| (k_here; k_dflt (first
  | (refine lenS_wp (by assumption) ?_)
  | (refine len_vs (News.isList (by k_asm) (by k_mem)) (by omega) ?_)); intro lenT lenK))
local macro_rules | `(tactic| walk_at "compareOp Eq ref ref") => `(tactic| (k_here; (refine hold_of ?_)))
local macro_rules | `(tactic| walk_at "call builtin:list.append") => `(tactic| (k_here; (refine hold_of ?_)))
local macro_rules | `(tactic| walk_at "exec While BoolOp") => `(tactic| (k_here; (refine hold_of ?_)))
local macro_rules | `(tactic| walk_at "subscriptTail Name Constant ref int") => `(tactic| (k_here; k_dflt (first
  | (refine item_intsA 0 _ (isL_of (by k_asm) (by k_mem)) (by assumption) (by exact rfl) (by exact rfl) (by decide) ?_; intro t')
  | (refine item_intsA 1 _ (isL_of (by k_asm) (by k_mem)) (by assumption) (by exact rfl) (by exact rfl) (by decide) ?_; intro t')
  | (refine item_intsA 2 _ (isL_of (by k_asm) (by k_mem)) (by assumption) (by exact rfl) (by exact rfl) (by decide) ?_; intro t'))))
local macro_rules | `(tactic| walk_at "call ref") => `(tactic| (k_here; (first
  | (k_dflt (refine sp_numbers (by k_asm) (by k_asm) (by k_asm) (by k_asm) (by k_asm) (by rfl) _ _ _ (by assumption) (by assumption) (by omega) (by omega) (by omega) ?_); intro D' ys' xs' nn' h' tk' F' N' l1 hI' hX' hB'; (refine hold_of ?_))
  | (refine hold_of ?_))))
set_option maxHeartbeats 8000000 in
theorem law_body {w : World} {dp un : Nat} {gd : Option (List Code)} {L fa : Addr} {ccd : Value} {outer : List Env} {A₀ : Around} {base h₀ : Heap} {mm : Str → Option Value} {s : Shared} {Q : Value → Shared → Prop} {mean : ExcName → Option Value} {mg mb : Str → Option Value} {vp : Program} {loose : List Str}
   (B : Below A₀ base outer h₀) (F : Fr h₀ L s.heap mm) (X : (KK w.params).In h₀) (N : News h₀ L s.heap []) (T : Top vp loose mean mg mb h₀) (sl : Addr) (vs : List Value) (ns : List Int) (hm : mm (Str.ofString "script") = some (.ref sl)) (hl : h₀.IsList sl vs.toArray) (hi : IntsAre vs ns) (hln : ns.length ≤ 100) (hdp : dp + 100 < recursionLimit) (hun : un + 1000 < cLine)
   (ret : ∀ s' : Shared, s'.gens = s.gens → s'.os = s.os → (∃ m' news', Fr h₀ L s'.heap m' ∧ News h₀ L s'.heap news') → Q (.bool true) s') :
   wpAny (model pw w) (ktrTop dp un gd (Str.ofString "law") (scoOf (pS 29)) L fa ccd [] outer) (execs (bodOf (pS 29)) (envOf (Str.ofString "law") (scoOf (pS 29)) L fa ccd)) (fun fl s' => match fl with | .ret v => Q v s' | _ => False) (fun _ _ => False) s := by
  replace F := frBind (x := Str.ofString "script") (v := .ref sl) F hm
  obtain ⟨h9, g9, d9, t9, os9⟩ := s
  k_steps
  unfold Hold
  rename IntsAre _ _ => i1
  rename List.length _ = 12 => p12
  rename ∀ x ∈ _, 0 ≤ x ∧ _ => b12
  obtain ⟨n0, n1, n2, n3, n4, n5, n6, n7, n8, n9, n10, n11, rfl, b6⟩ := nats12 p12 b12
  clear p12 b12
  k_steps
  unfold Hold
  rename Fr _ _ _ _ => F1
  rename News _ _ _ _ => N1
  rename IntsAre _ (List.drop _ _) => i6
  refine sp_startZ B F1 X N1 T (by rfl) _ (2 + n0 % 12) _ _ _ [n6, n7, n8, n9, n10, n11] _ (ix_n n0) (.head _) i6 rfl b6 (by omega) (by omega) (by omega) ?_
  clear F1 N1 i6 b6
  intro D2 T2 t1 t2 nl h' tk' F2 N2 l2 pT lT
  k_lt l2
  k_steps
  unfold Hold
  rename Fr _ _ _ _ => F3
  rename News _ _ _ _ => N3
  have hN : 2 ≤ 2 + n0 % 12 ∧ 2 + n0 % 12 ≤ 13 := by omega
  have hJ : 1 ≤ 1 + n1 % 2 ∧ 1 + n1 % 2 ≤ 2 := by omega
  have hK : 1 ≤ 1 + n2 % 4 ∧ 1 + n2 % 4 ≤ 4 := by omega
  have gD := good_due (lOf [n6, n7, n8, n9, n10, n11]) _ _ _ hN hJ hK
  have s1 : 1 ≤ (startL (2 + n0 % 12) (lOf [n6, n7, n8, n9, n10, n11])).length := by unfold startL; rw [List.length_map, List.length_range]; omega
  have s2 : (startL (2 + n0 % 12) (lOf [n6, n7, n8, n9, n10, n11])).length ≤ 20 := by unfold startL; rw [List.length_map, List.length_range]; omega
  have sS := st_small (2 + n0 % 12) [n6, n7, n8, n9, n10, n11]
  have sP := plain_law (lOf [n6, n7, n8, n9, n10, n11]) (lOf_ok _) _ _ _ hN hJ hK
  have sl2 : (startL (2 + n0 % 12) (lOf [n6, n7, n8, n9, n10, n11])).length = 2 + n0 % 12 := by unfold startL; rw [List.length_map, List.length_range]
  generalize hst : startL (2 + n0 % 12) (lOf [n6, n7, n8, n9, n10, n11]) = st at *
  rename @LT.lt Nat _ D2 _ ∧ _ => l3
  have I0 := due_init (h9 := h9) (g9 := g9) (d9 := d9) (t9 := t9) (os9 := os9) F3 N3 (fun p hp => by
    simp only [List.mem_cons, List.not_mem_nil, or_false] at hp
    rcases hp with rfl | rfl | rfl
    · exact Nat.ne_of_lt l3.1
    · exact Nat.ne_of_lt l3.2.1
    · exact Nat.ne_of_lt l3.2.2) gD rfl rfl rfl (ix_j n1) rfl (ix_k n2) rfl rfl rfl
  refine due_while I0 ?turn ?after
  case turn =>
    clear F3 N3 gD I0
    rintro f s' ⟨vs', wr, mm', tl, ds, nn, tw, ⟨sh, len, F, ⟨xw, ew, vw⟩, vd, vj, vk, vst, vty, vnu, N, ne, sub, dat, wl, good, tot⟩⟩
    subst ew
    replace F := frBind (x := Str.ofString "word") (v := .str (S wr) tw) F vw
    replace F := frBind (x := Str.ofString "due") (v := .ref _) F vd
    replace F := frBind (x := Str.ofString "j") (v := .int _ _) F vj
    replace F := frBind (x := Str.ofString "k") (v := .int _ _) F vk
    replace F := frBind (x := Str.ofString "start") (v := .str _ _) F vst
    replace F := frBind (x := Str.ofString "typed") (v := .str _ _) F vty
    replace F := frBind (x := Str.ofString "numbers") (v := .ref _) F vnu
    obtain ⟨h8, g8, d8, t8, os8⟩ := s'
    cases sh
    replace F : Fr h₀ L h8 _ := F
    replace N : News h₀ L h8 _ := N
    have wl2 : wr.length ≤ 10000 := Nat.le_trans wl (by decide)
    clear vw vd vj vk vst vty vnu
    k_steps
    · unfold Hold
      rename (vs'.length : Int) < 26 => c1
      rename 1 < (wr.length : Int) => c2
      rename Fr _ _ _ _ => F4
      rename News _ _ _ _ => N4
      have c1' : vs'.length < 26 := Int.ofNat_lt.mp c1
      have c2' : 2 ≤ wr.length := Int.ofNat_lt.mp c2
      have gd := good c2'
      refine sp_word B F4 X N4 T (by rfl) st _ _ vs'.length _ _ _ _ s1 s2 (Nat.le_trans hJ.2 (by decide)) hJ.1 hK.2 hK.1 (Nat.le_trans (Nat.le_of_lt c1') (by decide)) (by omega) (by omega) ?_
      clear F4 N4
      intro tq hq tkq F4 N4
      k_steps
      unfold Hold
      rename Fr _ _ _ _ => F4
      rename News _ _ _ _ => N4
      have gw := due_at gd len c1'
      refine sp_heard B F4 X N4 T (by rfl) (wd st (1 + n1 % 2) (1 + n2 % 4) vs'.length) vs'.length _ _ gw.1 (Nat.le_trans gw.2 (by decide)) (Nat.le_trans (Nat.le_of_lt c1') (by decide)) (by omega) (by omega) ?_
      clear F4 N4
      intro Tq tlh hq2 tkq2 F4 N4 hE ho
      k_steps
      unfold Hold
      rename Fr _ _ _ _ => F4
      rename News _ _ _ _ => N4
      have ne2 : ∀ p ∈ tlh ++ tl, p.1 ≠ _ := fun p hp => (List.mem_append.mp hp).elim (fun h => Nat.ne_of_gt (ho _ (.head _) p h)) (ne p)
      refine append_wp F4 (newsRe N4) ne2 (Nat.le_trans (Nat.le_of_lt c1') (by decide)) fun h7 tk7 n7 F7 N7 => ?_
      clear F4 N4
      k_steps
      exact due_less len c1' c2' gd sub dat tot hE (by assumption) (by assumption) ne2 rfl rfl rfl rfl rfl rfl rfl
    · rename ¬ 1 < (wr.length : Int) => c2
      exact due_out rfl len (.inr fun h => c2 (Int.ofNat_lt.mpr h)) sub dat tot (by assumption) (by assumption) ne rfl rfl rfl rfl rfl
    · rename ¬ (vs'.length : Int) < 26 => c1
      exact due_out rfl len (.inl fun h => c1 (Int.ofNat_lt.mpr h)) sub dat tot (by assumption) (by assumption) ne rfl rfl rfl rfl rfl
  case after =>
    clear F3 N3 gD I0
    rintro _ s' ⟨rfl, vs', mm', tl, nn, ⟨sh, F, vd, vj, vk, vty, vnu, N, ne, sub, dat⟩⟩
    replace F := frBind (x := Str.ofString "due") (v := .ref _) F vd
    replace F := frBind (x := Str.ofString "j") (v := .int _ _) F vj
    replace F := frBind (x := Str.ofString "k") (v := .int _ _) F vk
    replace F := frBind (x := Str.ofString "typed") (v := .str _ _) F vty
    replace F := frBind (x := Str.ofString "numbers") (v := .ref _) F vnu
    obtain ⟨h8, g8, d8, t8, os8⟩ := s'
    cases sh
    replace F : Fr h₀ L h8 _ := F
    replace N : News h₀ L h8 _ := N
    have mN := sub _ (.tail _ (.tail _ (.head _)))
    have N2 := newsIn N mN
    clear vd vj vk vty vnu N
    k_steps
    unfold Hold
    rename Fr _ _ _ _ => F5
    rename News _ _ _ _ => N5
    rename IntsAre _ _ => i3
    obtain ⟨q0, q1, q2, rfl⟩ := ints3 (a := (n3 : Int)) (b := (n4 : Int)) (c := (n5 : Int)) i3
    refine sp_rules B F5 X N5 T (by rfl) _ (1 + n1 % 2) (1 + n2 % 4) _ _ q0 q1 q2 n3 n4 n5 _ (.head _) (Int.natCast_nonneg _) (Nat.le_trans hJ.2 (by decide)) (Nat.le_trans hK.2 (by decide)) (by omega) (by omega) ?_
    clear F5 N5
    intro r hr tkr hR F5 N5
    k_steps
    unfold Hold
    rename Fr _ _ _ _ => F5
    rename News _ _ _ _ => N5
    refine sp_run B F5 X N5 T (by rfl) r _ _ hR (Nat.le_trans hJ.2 (by decide)) (Nat.le_trans hK.2 (by decide)) (fun p hp => List.mem_append_left _ hp) T2 _ (by omega) (by rw [pT]; omega) (by rw [pT]; exact sP.1) (by omega) (by omega) ?_
    intro all Tl hq tkq F6 N6 hsub hD
    clear F5 N5
    k_steps
    unfold Hold
    cases hD with
    | list hmem hall =>
      rw [pT, sP.2] at hall
      have hq : ∀ p ∈ tl, p ∈ all := fun p hp => hsub _ (List.mem_append_right _ (.tail _ (.tail _ (.tail _ hp))))
      refine kqd_eq N6 hmem rfl rfl hall (fun p hp => hp) (hsub _ (List.mem_append_right _ (.tail _ (.head _)))) rfl rfl dat hq (due_ok sS _ _ _ _) (due_ok sS _ _ _ _) (by show un + 64 < cLine; omega) ?_
      rw [dec_self]
      k_steps
      exact ret _ rfl rfl ⟨_, _, by assumption, by assumption⟩
end
end Mine
end

section -- HObj
open PySem PySem.W PySem.Spec PySem.Calls PyProof.Rows
namespace Mine
set_option maxRecDepth 100000
noncomputable abbrev N := BT.node
noncomputable abbrev L := BT.nil
noncomputable def cdF (n q : String) (st : Stmt) : Obj := ⟨.none, none, .func { name := Str.ofString n, qualname := Str.ofString q, params := parOf st, body := .stmts (bodOf st), scope := scoOf st, globals := 0, closure := [], defaults := .none, kwdefaults := .none }, #[]⟩
/-- the c-th part of the table: seventeen entries -/
noncomputable def subO (c : Nat) (_P : Params) : Obj := ⟨.type "dict", none, .dict ((b3E.drop (17 * c)).take 17).toArray ((b3E.drop (17 * c)).take 17).length, #[]⟩
noncomputable def b3O' (_P : Params) : Obj := b3O
noncomputable def o0 (P : Params) : Obj := ⟨.type "dict", none, (.dict [⟨PyData.keyHash P (Str.ofString "__name__"), .str (Str.ofString "__name__") 1, .str (Str.ofString "builtins") 160⟩, ⟨PyData.keyHash P (Str.ofString "__doc__"), .str (Str.ofString "__doc__") 2, .builtin "builtins.__doc__:str#opaque"⟩, ⟨PyData.keyHash P (Str.ofString "__package__"), .str (Str.ofString "__package__") 3, .builtin "builtins.__package__:str#opaque"⟩, ⟨PyData.keyHash P (Str.ofString "__loader__"), .str (Str.ofString "__loader__") 4, .builtin "builtins.__loader__:shared#opaque"⟩, ⟨PyData.keyHash P (Str.ofString "__spec__"), .str (Str.ofString "__spec__") 5, .builtin "builtins.__spec__#opaque"⟩, ⟨PyData.keyHash P (Str.ofString "__build_class__"), .str (Str.ofString "__build_class__") 6, .builtin "__build_class__"⟩, ⟨PyData.keyHash P (Str.ofString "__import__"), .str (Str.ofString "__import__") 7, .builtin "__import__"⟩, ⟨PyData.keyHash P (Str.ofString "abs"), .str (Str.ofString "abs") 8, .builtin "abs"⟩, ⟨PyData.keyHash P (Str.ofString "all"), .str (Str.ofString "all") 9, .builtin "all"⟩, ⟨PyData.keyHash P (Str.ofString "any"), .str (Str.ofString "any") 10, .builtin "any"⟩, ⟨PyData.keyHash P (Str.ofString "ascii"), .str (Str.ofString "ascii") 11, .builtin "ascii"⟩, ⟨PyData.keyHash P (Str.ofString "bin"), .str (Str.ofString "bin") 12, .builtin "bin"⟩, ⟨PyData.keyHash P (Str.ofString "breakpoint"), .str (Str.ofString "breakpoint") 13, .builtin "breakpoint"⟩, ⟨PyData.keyHash P (Str.ofString "callable"), .str (Str.ofString "callable") 14, .builtin "callable"⟩, ⟨PyData.keyHash P (Str.ofString "chr"), .str (Str.ofString "chr") 15, .builtin "chr"⟩, ⟨PyData.keyHash P (Str.ofString "compile"), .str (Str.ofString "compile") 16, .builtin "compile"⟩, ⟨PyData.keyHash P (Str.ofString "delattr"), .str (Str.ofString "delattr") 17, .builtin "delattr"⟩, ⟨PyData.keyHash P (Str.ofString "dir"), .str (Str.ofString "dir") 18, .builtin "dir"⟩, ⟨PyData.keyHash P (Str.ofString "divmod"), .str (Str.ofString "divmod") 19, .builtin "divmod"⟩, ⟨PyData.keyHash P (Str.ofString "eval"), .str (Str.ofString "eval") 20, .builtin "eval"⟩, ⟨PyData.keyHash P (Str.ofString "exec"), .str (Str.ofString "exec") 21, .builtin "exec"⟩, ⟨PyData.keyHash P (Str.ofString "format"), .str (Str.ofString "format") 22, .builtin "format"⟩, ⟨PyData.keyHash P (Str.ofString "getattr"), .str (Str.ofString "getattr") 23, .builtin "getattr"⟩, ⟨PyData.keyHash P (Str.ofString "globals"), .str (Str.ofString "globals") 24, .builtin "globals"⟩, ⟨PyData.keyHash P (Str.ofString "hasattr"), .str (Str.ofString "hasattr") 25, .builtin "hasattr"⟩, ⟨PyData.keyHash P (Str.ofString "hash"), .str (Str.ofString "hash") 26, .builtin "hash"⟩, ⟨PyData.keyHash P (Str.ofString "hex"), .str (Str.ofString "hex") 27, .builtin "hex"⟩, ⟨PyData.keyHash P (Str.ofString "id"), .str (Str.ofString "id") 28, .builtin "id"⟩, ⟨PyData.keyHash P (Str.ofString "input"), .str (Str.ofString "input") 29, .builtin "input"⟩, ⟨PyData.keyHash P (Str.ofString "isinstance"), .str (Str.ofString "isinstance") 30, .builtin "isinstance"⟩, ⟨PyData.keyHash P (Str.ofString "issubclass"), .str (Str.ofString "issubclass") 31, .builtin "issubclass"⟩, ⟨PyData.keyHash P (Str.ofString "iter"), .str (Str.ofString "iter") 32, .builtin "iter"⟩, ⟨PyData.keyHash P (Str.ofString "aiter"), .str (Str.ofString "aiter") 33, .builtin "aiter"⟩, ⟨PyData.keyHash P (Str.ofString "len"), .str (Str.ofString "len") 34, .builtin "len"⟩, ⟨PyData.keyHash P (Str.ofString "locals"), .str (Str.ofString "locals") 35, .builtin "locals"⟩, ⟨PyData.keyHash P (Str.ofString "max"), .str (Str.ofString "max") 36, .builtin "max"⟩, ⟨PyData.keyHash P (Str.ofString "min"), .str (Str.ofString "min") 37, .builtin "min"⟩, ⟨PyData.keyHash P (Str.ofString "next"), .str (Str.ofString "next") 38, .builtin "next"⟩, ⟨PyData.keyHash P (Str.ofString "anext"), .str (Str.ofString "anext") 39, .builtin "anext"⟩, ⟨PyData.keyHash P (Str.ofString "oct"), .str (Str.ofString "oct") 40, .builtin "oct"⟩, ⟨PyData.keyHash P (Str.ofString "ord"), .str (Str.ofString "ord") 41, .builtin "ord"⟩, ⟨PyData.keyHash P (Str.ofString "pow"), .str (Str.ofString "pow") 42, .builtin "pow"⟩, ⟨PyData.keyHash P (Str.ofString "print"), .str (Str.ofString "print") 43, .builtin "print"⟩, ⟨PyData.keyHash P (Str.ofString "repr"), .str (Str.ofString "repr") 44, .builtin "repr"⟩, ⟨PyData.keyHash P (Str.ofString "round"), .str (Str.ofString "round") 45, .builtin "round"⟩, ⟨PyData.keyHash P (Str.ofString "setattr"), .str (Str.ofString "setattr") 46, .builtin "setattr"⟩, ⟨PyData.keyHash P (Str.ofString "sorted"), .str (Str.ofString "sorted") 47, .builtin "sorted"⟩, ⟨PyData.keyHash P (Str.ofString "sum"), .str (Str.ofString "sum") 48, .builtin "sum"⟩, ⟨PyData.keyHash P (Str.ofString "vars"), .str (Str.ofString "vars") 49, .builtin "vars"⟩, ⟨PyData.keyHash P (Str.ofString "None"), .str (Str.ofString "None") 50, .none⟩, ⟨PyData.keyHash P (Str.ofString "Ellipsis"), .str (Str.ofString "Ellipsis") 51, .ellipsis⟩, ⟨PyData.keyHash P (Str.ofString "NotImplemented"), .str (Str.ofString "NotImplemented") 52, .notImplemented⟩, ⟨PyData.keyHash P (Str.ofString "False"), .str (Str.ofString "False") 53, .bool false⟩, ⟨PyData.keyHash P (Str.ofString "True"), .str (Str.ofString "True") 54, .bool true⟩, ⟨PyData.keyHash P (Str.ofString "bool"), .str (Str.ofString "bool") 55, .type "bool"⟩, ⟨PyData.keyHash P (Str.ofString "memoryview"), .str (Str.ofString "memoryview") 56, .type "memoryview"⟩, ⟨PyData.keyHash P (Str.ofString "bytearray"), .str (Str.ofString "bytearray") 57, .type "bytearray"⟩, ⟨PyData.keyHash P (Str.ofString "bytes"), .str (Str.ofString "bytes") 58, .type "bytes"⟩, ⟨PyData.keyHash P (Str.ofString "classmethod"), .str (Str.ofString "classmethod") 59, .type "classmethod"⟩, ⟨PyData.keyHash P (Str.ofString "complex"), .str (Str.ofString "complex") 60, .type "complex"⟩, ⟨PyData.keyHash P (Str.ofString "dict"), .str (Str.ofString "dict") 61, .type "dict"⟩, ⟨PyData.keyHash P (Str.ofString "enumerate"), .str (Str.ofString "enumerate") 62, .type "enumerate"⟩, ⟨PyData.keyHash P (Str.ofString "filter"), .str (Str.ofString "filter") 63, .type "filter"⟩, ⟨PyData.keyHash P (Str.ofString "float"), .str (Str.ofString "float") 64, .type "float"⟩, ⟨PyData.keyHash P (Str.ofString "frozenset"), .str (Str.ofString "frozenset") 65, .type "frozenset"⟩, ⟨PyData.keyHash P (Str.ofString "property"), .str (Str.ofString "property") 66, .type "property"⟩, ⟨PyData.keyHash P (Str.ofString "int"), .str (Str.ofString "int") 67, .type "int"⟩, ⟨PyData.keyHash P (Str.ofString "list"), .str (Str.ofString "list") 68, .type "list"⟩, ⟨PyData.keyHash P (Str.ofString "map"), .str (Str.ofString "map") 69, .type "map"⟩, ⟨PyData.keyHash P (Str.ofString "object"), .str (Str.ofString "object") 70, .type "object"⟩, ⟨PyData.keyHash P (Str.ofString "range"), .str (Str.ofString "range") 71, .type "range"⟩, ⟨PyData.keyHash P (Str.ofString "reversed"), .str (Str.ofString "reversed") 72, .type "reversed"⟩, ⟨PyData.keyHash P (Str.ofString "set"), .str (Str.ofString "set") 73, .type "set"⟩, ⟨PyData.keyHash P (Str.ofString "slice"), .str (Str.ofString "slice") 74, .type "slice"⟩, ⟨PyData.keyHash P (Str.ofString "staticmethod"), .str (Str.ofString "staticmethod") 75, .type "staticmethod"⟩, ⟨PyData.keyHash P (Str.ofString "str"), .str (Str.ofString "str") 76, .type "str"⟩, ⟨PyData.keyHash P (Str.ofString "super"), .str (Str.ofString "super") 77, .type "super"⟩, ⟨PyData.keyHash P (Str.ofString "tuple"), .str (Str.ofString "tuple") 78, .type "tuple"⟩, ⟨PyData.keyHash P (Str.ofString "type"), .str (Str.ofString "type") 79, .type "type"⟩, ⟨PyData.keyHash P (Str.ofString "zip"), .str (Str.ofString "zip") 80, .type "zip"⟩, ⟨PyData.keyHash P (Str.ofString "__debug__"), .str (Str.ofString "__debug__") 81, .bool true⟩, ⟨PyData.keyHash P (Str.ofString "BaseException"), .str (Str.ofString "BaseException") 82, .type "BaseException"⟩, ⟨PyData.keyHash P (Str.ofString "BaseExceptionGroup"), .str (Str.ofString "BaseExceptionGroup") 83, .type "BaseExceptionGroup"⟩, ⟨PyData.keyHash P (Str.ofString "Exception"), .str (Str.ofString "Exception") 84, .type "Exception"⟩, ⟨PyData.keyHash P (Str.ofString "GeneratorExit"), .str (Str.ofString "GeneratorExit") 85, .type "GeneratorExit"⟩, ⟨PyData.keyHash P (Str.ofString "KeyboardInterrupt"), .str (Str.ofString "KeyboardInterrupt") 86, .type "KeyboardInterrupt"⟩, ⟨PyData.keyHash P (Str.ofString "SystemExit"), .str (Str.ofString "SystemExit") 87, .type "SystemExit"⟩, ⟨PyData.keyHash P (Str.ofString "ArithmeticError"), .str (Str.ofString "ArithmeticError") 88, .type "ArithmeticError"⟩, ⟨PyData.keyHash P (Str.ofString "AssertionError"), .str (Str.ofString "AssertionError") 89, .type "AssertionError"⟩, ⟨PyData.keyHash P (Str.ofString "AttributeError"), .str (Str.ofString "AttributeError") 90, .type "AttributeError"⟩, ⟨PyData.keyHash P (Str.ofString "BufferError"), .str (Str.ofString "BufferError") 91, .type "BufferError"⟩, ⟨PyData.keyHash P (Str.ofString "EOFError"), .str (Str.ofString "EOFError") 92, .type "EOFError"⟩, ⟨PyData.keyHash P (Str.ofString "ImportError"), .str (Str.ofString "ImportError") 93, .type "ImportError"⟩, ⟨PyData.keyHash P (Str.ofString "LookupError"), .str (Str.ofString "LookupError") 94, .type "LookupError"⟩, ⟨PyData.keyHash P (Str.ofString "MemoryError"), .str (Str.ofString "MemoryError") 95, .type "MemoryError"⟩, ⟨PyData.keyHash P (Str.ofString "NameError"), .str (Str.ofString "NameError") 96, .type "NameError"⟩, ⟨PyData.keyHash P (Str.ofString "OSError"), .str (Str.ofString "OSError") 97, .type "OSError"⟩, ⟨PyData.keyHash P (Str.ofString "ReferenceError"), .str (Str.ofString "ReferenceError") 98, .type "ReferenceError"⟩, ⟨PyData.keyHash P (Str.ofString "RuntimeError"), .str (Str.ofString "RuntimeError") 99, .type "RuntimeError"⟩, ⟨PyData.keyHash P (Str.ofString "StopAsyncIteration"), .str (Str.ofString "StopAsyncIteration") 100, .type "StopAsyncIteration"⟩, ⟨PyData.keyHash P (Str.ofString "StopIteration"), .str (Str.ofString "StopIteration") 101, .type "StopIteration"⟩, ⟨PyData.keyHash P (Str.ofString "SyntaxError"), .str (Str.ofString "SyntaxError") 102, .type "SyntaxError"⟩, ⟨PyData.keyHash P (Str.ofString "SystemError"), .str (Str.ofString "SystemError") 103, .type "SystemError"⟩, ⟨PyData.keyHash P (Str.ofString "TypeError"), .str (Str.ofString "TypeError") 104, .type "TypeError"⟩, ⟨PyData.keyHash P (Str.ofString "ValueError"), .str (Str.ofString "ValueError") 105, .type "ValueError"⟩, ⟨PyData.keyHash P (Str.ofString "Warning"), .str (Str.ofString "Warning") 106, .type "Warning"⟩, ⟨PyData.keyHash P (Str.ofString "FloatingPointError"), .str (Str.ofString "FloatingPointError") 107, .type "FloatingPointError"⟩, ⟨PyData.keyHash P (Str.ofString "OverflowError"), .str (Str.ofString "OverflowError") 108, .type "OverflowError"⟩, ⟨PyData.keyHash P (Str.ofString "ZeroDivisionError"), .str (Str.ofString "ZeroDivisionError") 109, .type "ZeroDivisionError"⟩, ⟨PyData.keyHash P (Str.ofString "BytesWarning"), .str (Str.ofString "BytesWarning") 110, .type "BytesWarning"⟩, ⟨PyData.keyHash P (Str.ofString "DeprecationWarning"), .str (Str.ofString "DeprecationWarning") 111, .type "DeprecationWarning"⟩, ⟨PyData.keyHash P (Str.ofString "EncodingWarning"), .str (Str.ofString "EncodingWarning") 112, .type "EncodingWarning"⟩, ⟨PyData.keyHash P (Str.ofString "FutureWarning"), .str (Str.ofString "FutureWarning") 113, .type "FutureWarning"⟩, ⟨PyData.keyHash P (Str.ofString "ImportWarning"), .str (Str.ofString "ImportWarning") 114, .type "ImportWarning"⟩, ⟨PyData.keyHash P (Str.ofString "PendingDeprecationWarning"), .str (Str.ofString "PendingDeprecationWarning") 115, .type "PendingDeprecationWarning"⟩, ⟨PyData.keyHash P (Str.ofString "ResourceWarning"), .str (Str.ofString "ResourceWarning") 116, .type "ResourceWarning"⟩, ⟨PyData.keyHash P (Str.ofString "RuntimeWarning"), .str (Str.ofString "RuntimeWarning") 117, .type "RuntimeWarning"⟩, ⟨PyData.keyHash P (Str.ofString "SyntaxWarning"), .str (Str.ofString "SyntaxWarning") 118, .type "SyntaxWarning"⟩, ⟨PyData.keyHash P (Str.ofString "UnicodeWarning"), .str (Str.ofString "UnicodeWarning") 119, .type "UnicodeWarning"⟩, ⟨PyData.keyHash P (Str.ofString "UserWarning"), .str (Str.ofString "UserWarning") 120, .type "UserWarning"⟩, ⟨PyData.keyHash P (Str.ofString "BlockingIOError"), .str (Str.ofString "BlockingIOError") 121, .type "BlockingIOError"⟩, ⟨PyData.keyHash P (Str.ofString "ChildProcessError"), .str (Str.ofString "ChildProcessError") 122, .type "ChildProcessError"⟩, ⟨PyData.keyHash P (Str.ofString "ConnectionError"), .str (Str.ofString "ConnectionError") 123, .type "ConnectionError"⟩, ⟨PyData.keyHash P (Str.ofString "FileExistsError"), .str (Str.ofString "FileExistsError") 124, .type "FileExistsError"⟩, ⟨PyData.keyHash P (Str.ofString "FileNotFoundError"), .str (Str.ofString "FileNotFoundError") 125, .type "FileNotFoundError"⟩, ⟨PyData.keyHash P (Str.ofString "InterruptedError"), .str (Str.ofString "InterruptedError") 126, .type "InterruptedError"⟩, ⟨PyData.keyHash P (Str.ofString "IsADirectoryError"), .str (Str.ofString "IsADirectoryError") 127, .type "IsADirectoryError"⟩, ⟨PyData.keyHash P (Str.ofString "NotADirectoryError"), .str (Str.ofString "NotADirectoryError") 128, .type "NotADirectoryError"⟩, ⟨PyData.keyHash P (Str.ofString "PermissionError"), .str (Str.ofString "PermissionError") 129, .type "PermissionError"⟩, ⟨PyData.keyHash P (Str.ofString "ProcessLookupError"), .str (Str.ofString "ProcessLookupError") 130, .type "ProcessLookupError"⟩, ⟨PyData.keyHash P (Str.ofString "TimeoutError"), .str (Str.ofString "TimeoutError") 131, .type "TimeoutError"⟩, ⟨PyData.keyHash P (Str.ofString "IndentationError"), .str (Str.ofString "IndentationError") 132, .type "IndentationError"⟩, ⟨PyData.keyHash P (Str.ofString "_IncompleteInputError"), .str (Str.ofString "_IncompleteInputError") 133, .type "_IncompleteInputError"⟩, ⟨PyData.keyHash P (Str.ofString "IndexError"), .str (Str.ofString "IndexError") 134, .type "IndexError"⟩, ⟨PyData.keyHash P (Str.ofString "KeyError"), .str (Str.ofString "KeyError") 135, .type "KeyError"⟩, ⟨PyData.keyHash P (Str.ofString "ModuleNotFoundError"), .str (Str.ofString "ModuleNotFoundError") 136, .type "ModuleNotFoundError"⟩, ⟨PyData.keyHash P (Str.ofString "NotImplementedError"), .str (Str.ofString "NotImplementedError") 137, .type "NotImplementedError"⟩, ⟨PyData.keyHash P (Str.ofString "PythonFinalizationError"), .str (Str.ofString "PythonFinalizationError") 138, .type "PythonFinalizationError"⟩, ⟨PyData.keyHash P (Str.ofString "RecursionError"), .str (Str.ofString "RecursionError") 139, .type "RecursionError"⟩, ⟨PyData.keyHash P (Str.ofString "UnboundLocalError"), .str (Str.ofString "UnboundLocalError") 140, .type "UnboundLocalError"⟩, ⟨PyData.keyHash P (Str.ofString "UnicodeError"), .str (Str.ofString "UnicodeError") 141, .type "UnicodeError"⟩, ⟨PyData.keyHash P (Str.ofString "BrokenPipeError"), .str (Str.ofString "BrokenPipeError") 142, .type "BrokenPipeError"⟩, ⟨PyData.keyHash P (Str.ofString "ConnectionAbortedError"), .str (Str.ofString "ConnectionAbortedError") 143, .type "ConnectionAbortedError"⟩, ⟨PyData.keyHash P (Str.ofString "ConnectionRefusedError"), .str (Str.ofString "ConnectionRefusedError") 144, .type "ConnectionRefusedError"⟩, ⟨PyData.keyHash P (Str.ofString "ConnectionResetError"), .str (Str.ofString "ConnectionResetError") 145, .type "ConnectionResetError"⟩, ⟨PyData.keyHash P (Str.ofString "TabError"), .str (Str.ofString "TabError") 146, .type "TabError"⟩, ⟨PyData.keyHash P (Str.ofString "UnicodeDecodeError"), .str (Str.ofString "UnicodeDecodeError") 147, .type "UnicodeDecodeError"⟩, ⟨PyData.keyHash P (Str.ofString "UnicodeEncodeError"), .str (Str.ofString "UnicodeEncodeError") 148, .type "UnicodeEncodeError"⟩, ⟨PyData.keyHash P (Str.ofString "UnicodeTranslateError"), .str (Str.ofString "UnicodeTranslateError") 149, .type "UnicodeTranslateError"⟩, ⟨PyData.keyHash P (Str.ofString "ExceptionGroup"), .str (Str.ofString "ExceptionGroup") 150, .type "ExceptionGroup"⟩, ⟨PyData.keyHash P (Str.ofString "EnvironmentError"), .str (Str.ofString "EnvironmentError") 151, .type "OSError"⟩, ⟨PyData.keyHash P (Str.ofString "IOError"), .str (Str.ofString "IOError") 152, .type "OSError"⟩, ⟨PyData.keyHash P (Str.ofString "open"), .str (Str.ofString "open") 153, .builtin "open"⟩, ⟨PyData.keyHash P (Str.ofString "quit"), .str (Str.ofString "quit") 154, .builtin "builtins.quit#opaque"⟩, ⟨PyData.keyHash P (Str.ofString "exit"), .str (Str.ofString "exit") 155, .builtin "builtins.exit#opaque"⟩, ⟨PyData.keyHash P (Str.ofString "copyright"), .str (Str.ofString "copyright") 156, .builtin "builtins.copyright#opaque"⟩, ⟨PyData.keyHash P (Str.ofString "credits"), .str (Str.ofString "credits") 157, .builtin "builtins.credits#opaque"⟩, ⟨PyData.keyHash P (Str.ofString "license"), .str (Str.ofString "license") 158, .builtin "builtins.license#opaque"⟩, ⟨PyData.keyHash P (Str.ofString "help"), .str (Str.ofString "help") 159, .builtin "builtins.help#opaque"⟩].toArray 159), #[]⟩
noncomputable def o1 (P : Params) : Obj := ⟨.type "dict", none, (.dict [⟨PyData.keyHash P (Str.ofString "builtins"), .str (Str.ofString "builtins") 162, .ref 4⟩, ⟨PyData.keyHash P (Str.ofString "__main__"), .str (Str.ofString "__main__") 163, .ref 5⟩, ⟨PyData.keyHash P (Str.ofString "_sre"), .str (Str.ofString "_sre") 244, .ref 12⟩].toArray 3), #[]⟩
noncomputable def o2 (P : Params) : Obj := ⟨.none, none, (.dict [⟨PyData.keyHash P (Str.mk #[105, 109, 112, 111, 114, 116, 46, 108, 111, 97, 100, 101, 100, 46, 95, 115, 114, 101]), .str (Str.mk #[105, 109, 112, 111, 114, 116, 46, 108, 111, 97, 100, 101, 100, 46, 95, 115, 114, 101]) 183, .bool true⟩, ⟨PyData.keyHash P (Str.ofString "class._frozen_importlib.BuiltinImporter"), .str (Str.ofString "class._frozen_importlib.BuiltinImporter") 185, .ref 14⟩, ⟨PyData.keyHash P (Str.mk #[119, 97, 116, 99, 104, 101, 100, 46, 105, 109, 112, 111, 114, 116]), .str (Str.mk #[119, 97, 116, 99, 104, 101, 100, 46, 105, 109, 112, 111, 114, 116]) 206, .ref 18⟩, ⟨PyData.keyHash P (Str.ofString "class._frozen_importlib.ModuleSpec"), .str (Str.ofString "class._frozen_importlib.ModuleSpec") 216, .ref 22⟩, ⟨PyData.keyHash P (Str.ofString "sys.modules.booked-epoch"), .str (Str.ofString "sys.modules.booked-epoch") 245, .int 3 0⟩, ⟨PyData.keyHash P (Str.mk #[105, 109, 112, 111, 114, 116, 46, 108, 97, 116, 101, 114, 45, 108, 97, 105, 100, 46, 95, 115, 114, 101]), .str (Str.mk #[105, 109, 112, 111, 114, 116, 46, 108, 97, 116, 101, 114, 45, 108, 97, 105, 100, 46, 95, 115, 114, 101]) 270, .bool true⟩, ⟨PyData.keyHash P (Str.ofString "watched.library"), .str (Str.ofString "watched.library") 272, .ref 27⟩, ⟨PyData.keyHash P (Str.ofString "watched.library-objects"), .str (Str.ofString "watched.library-objects") 0, .str (Str.mk #[12]) 0⟩, ⟨PyData.keyHash P (Str.ofString "watched.library-deep._sre"), .str (Str.ofString "watched.library-deep._sre") 273, .str (Str.mk #[4, 0, 0, 11, 4, 0, 0, 11, 4, 0, 0, 3, 4, 0, 0, 11, 8, 4, 100, 105, 99, 116, 2]) 0⟩].toArray 9), #[]⟩
noncomputable def ge0 (P : Params) : DictEntry := ⟨PyData.keyHash P (Str.ofString "__name__"), .str (Str.ofString "__name__") 165, .str (Str.ofString "__main__") 164⟩
noncomputable def ge1 (P : Params) : DictEntry := ⟨PyData.keyHash P (Str.ofString "__doc__"), .str (Str.ofString "__doc__") 166, .none⟩
noncomputable def ge2 (P : Params) : DictEntry := ⟨PyData.keyHash P (Str.ofString "__package__"), .str (Str.ofString "__package__") 167, .none⟩
noncomputable def ge3 (P : Params) : DictEntry := ⟨PyData.keyHash P (Str.ofString "__loader__"), .str (Str.ofString "__loader__") 168, .builtin "__main__.__loader__#opaque"⟩
noncomputable def ge4 (P : Params) : DictEntry := ⟨PyData.keyHash P (Str.ofString "__spec__"), .str (Str.ofString "__spec__") 169, .none⟩
noncomputable def ge5 (P : Params) : DictEntry := ⟨PyData.keyHash P (Str.ofString "__annotations__"), .str (Str.ofString "__annotations__") 170, .ref 6⟩
noncomputable def ge6 (P : Params) : DictEntry := ⟨PyData.keyHash P (Str.ofString "__builtins__"), .str (Str.ofString "__builtins__") 171, .ref 4⟩
noncomputable def ge7 (P : Params) : DictEntry := ⟨PyData.keyHash P (Str.ofString "__file__"), .str (Str.ofString "__file__") 173, .str (Str.ofString "/claim/cut.py") 172⟩
noncomputable def ge8 (P : Params) : DictEntry := ⟨PyData.keyHash P (Str.ofString "__cached__"), .str (Str.ofString "__cached__") 174, .none⟩
noncomputable def ge9 (P : Params) : DictEntry := ⟨PyData.keyHash P (Str.ofString "_sre"), .str (Str.ofString "_sre") 275, .ref 12⟩
noncomputable def o3 (P : Params) : Obj := ⟨.type "dict", none, (.dict [ge0 P, ge1 P, ge2 P, ge3 P, ge4 P, ge5 P, ge6 P, ge7 P, ge8 P, ge9 P].toArray 10), #[]⟩
noncomputable def o4 (_P : Params) : Obj := ⟨.type "module", (some 0), .plain, #[]⟩
noncomputable def o5 (_P : Params) : Obj := ⟨.type "module", (some 3), .plain, #[]⟩
noncomputable def o6 (_P : Params) : Obj := ⟨.type "dict", none, (.dict [].toArray 0), #[]⟩
noncomputable def o7 (_P : Params) : Obj := ⟨.type "tuple", none, (.seq [].toArray 0), #[]⟩
noncomputable def o8 (_P : Params) : Obj := ⟨.none, none, (.fields [].toArray), #[]⟩
noncomputable def o9 (_P : Params) : Obj := ⟨.type "code", none, (.fields [.str (Str.ofString "<module>") 176, .str (Str.ofString "<module>") 177, .str (Str.ofString "/claim/cut.py") 178, .int 1 0, .int 0 0, .int 0 0, .int 0 0, .int 0 0, .ref 7, .bool false, .int 175 0, .ref 8, .none, .none, .none, .none, .int 179 0, .int 1 0, .str (Str.ofString "/claim/cut.py") 180].toArray), #[]⟩
noncomputable def o10 (_P : Params) : Obj := ⟨.type "frame", none, .plain, #[(some (.ref 9)), (some (.ref 3)), (some (.ref 3)), none, (some (.str (Str.ofString "__main__") 164)), none, (some (.ref 0))]⟩
noncomputable def o11 (P : Params) : Obj := ⟨.type "dict", none, (.dict [⟨PyData.keyHash P (Str.ofString "__name__"), .str (Str.ofString "__name__") 247, .str (Str.ofString "_sre") 246⟩, ⟨PyData.keyHash P (Str.ofString "__doc__"), .str (Str.ofString "__doc__") 248, .none⟩, ⟨PyData.keyHash P (Str.ofString "__package__"), .str (Str.ofString "__package__") 250, .str (Str.ofString "") 249⟩, ⟨PyData.keyHash P (Str.ofString "__loader__"), .str (Str.ofString "__loader__") 251, .ref 14⟩, ⟨PyData.keyHash P (Str.ofString "__spec__"), .str (Str.ofString "__spec__") 252, .ref 26⟩, ⟨PyData.keyHash P (Str.ofString "compile"), .str (Str.ofString "compile") 253, .builtin "_sre.compile"⟩, ⟨PyData.keyHash P (Str.ofString "template"), .str (Str.ofString "template") 254, .builtin "_sre.template"⟩, ⟨PyData.keyHash P (Str.ofString "getcodesize"), .str (Str.ofString "getcodesize") 255, .builtin "_sre.getcodesize"⟩, ⟨PyData.keyHash P (Str.ofString "ascii_iscased"), .str (Str.ofString "ascii_iscased") 256, .builtin "_sre.ascii_iscased"⟩, ⟨PyData.keyHash P (Str.ofString "unicode_iscased"), .str (Str.ofString "unicode_iscased") 257, .builtin "_sre.unicode_iscased"⟩, ⟨PyData.keyHash P (Str.ofString "ascii_tolower"), .str (Str.ofString "ascii_tolower") 258, .builtin "_sre.ascii_tolower"⟩, ⟨PyData.keyHash P (Str.ofString "unicode_tolower"), .str (Str.ofString "unicode_tolower") 259, .builtin "_sre.unicode_tolower"⟩, ⟨PyData.keyHash P (Str.ofString "MAGIC"), .str (Str.ofString "MAGIC") 261, .int 20230612 260⟩, ⟨PyData.keyHash P (Str.ofString "CODESIZE"), .str (Str.ofString "CODESIZE") 263, .int 4 262⟩, ⟨PyData.keyHash P (Str.ofString "MAXREPEAT"), .str (Str.ofString "MAXREPEAT") 265, .int 4294967295 264⟩, ⟨PyData.keyHash P (Str.ofString "MAXGROUPS"), .str (Str.ofString "MAXGROUPS") 267, .int 1073741823 266⟩, ⟨PyData.keyHash P (Str.ofString "copyright"), .str (Str.ofString "copyright") 269, .str (Str.ofString " SRE 2.2.2 Copyright (c) 1997-2002 by Secret Labs AB ") 268⟩].toArray 17), #[]⟩
noncomputable def o12 (_P : Params) : Obj := ⟨.type "module", (some 11), .plain, #[]⟩
noncomputable def o13 (P : Params) : Obj := ⟨.type "dict", none, (.dict [⟨PyData.keyHash P (Str.ofString "__module__"), .str (Str.ofString "__module__") 189, .str (Str.ofString "_frozen_importlib") 186⟩, ⟨PyData.keyHash P (Str.ofString "__firstlineno__"), .str (Str.ofString "__firstlineno__") 190, .int 971 187⟩, ⟨PyData.keyHash P (Str.ofString "__doc__"), .str (Str.ofString "__doc__") 191, .builtin "_frozen_importlib.BuiltinImporter.__doc__:str#opaque"⟩, ⟨PyData.keyHash P (Str.ofString "_ORIGIN"), .str (Str.ofString "_ORIGIN") 192, .str (Str.ofString "built-in") 188⟩, ⟨PyData.keyHash P (Str.ofString "find_spec"), .str (Str.ofString "find_spec") 193, .builtin "_frozen_importlib.BuiltinImporter.find_spec#opaque"⟩, ⟨PyData.keyHash P (Str.ofString "create_module"), .str (Str.ofString "create_module") 194, .builtin "_frozen_importlib.BuiltinImporter.create_module#opaque"⟩, ⟨PyData.keyHash P (Str.ofString "exec_module"), .str (Str.ofString "exec_module") 195, .builtin "_frozen_importlib.BuiltinImporter.exec_module#opaque"⟩, ⟨PyData.keyHash P (Str.ofString "get_code"), .str (Str.ofString "get_code") 196, .builtin "_frozen_importlib.BuiltinImporter.get_code#opaque"⟩, ⟨PyData.keyHash P (Str.ofString "get_source"), .str (Str.ofString "get_source") 197, .builtin "_frozen_importlib.BuiltinImporter.get_source#opaque"⟩, ⟨PyData.keyHash P (Str.ofString "is_package"), .str (Str.ofString "is_package") 198, .builtin "_frozen_importlib.BuiltinImporter.is_package#opaque"⟩, ⟨PyData.keyHash P (Str.ofString "load_module"), .str (Str.ofString "load_module") 199, .builtin "_frozen_importlib.BuiltinImporter.load_module#opaque"⟩, ⟨PyData.keyHash P (Str.ofString "__static_attributes__"), .str (Str.ofString "__static_attributes__") 200, .ref 15⟩, ⟨PyData.keyHash P (Str.ofString "__dict__"), .str (Str.ofString "__dict__") 202, .ref 16⟩, ⟨PyData.keyHash P (Str.ofString "__weakref__"), .str (Str.ofString "__weakref__") 204, .ref 17⟩].toArray 14), #[]⟩
noncomputable def o14 (_P : Params) : Obj := ⟨.type "type", none, (.cls ⟨(Str.ofString "BuiltinImporter"), [.type "object"], [.ref 14, .type "object"], 13, (Str.ofString "BuiltinImporter"), true, [], [], false, none, false⟩), #[]⟩
noncomputable def o15 (_P : Params) : Obj := ⟨.type "tuple", none, (.seq [].toArray 0), #[]⟩
noncomputable def o16 (_P : Params) : Obj := ⟨.type "getset_descriptor", none, (.fields [.str (Str.ofString "__dict__") 201, .ref 14, .builtin "function.__dict__", .builtin "function.__dict__#set"].toArray), #[]⟩
noncomputable def o17 (_P : Params) : Obj := ⟨.type "getset_descriptor", none, (.fields [.str (Str.ofString "__weakref__") 203, .ref 14, .builtin "ExceptionGroup.__weakref__", .none].toArray), #[]⟩
noncomputable def o18 (_P : Params) : Obj := ⟨.none, none, (.seq [.int 13 0, .str (Str.mk #[6, 189, 10, 95, 95, 109, 111, 100, 117, 108, 101, 95, 95, 6, 186, 17, 95, 102, 114, 111, 122, 101, 110, 95, 105, 109, 112, 111, 114, 116, 108, 105, 98, 6, 190, 15, 95, 95, 102, 105, 114, 115, 116, 108, 105, 110, 101, 110, 111, 95, 95, 4, 187, 0, 971, 6, 191, 7, 95, 95, 100, 111, 99, 95, 95, 9, 52, 95, 102, 114, 111, 122, 101, 110, 95, 105, 109, 112, 111, 114, 116, 108, 105, 98, 46, 66, 117, 105, 108, 116, 105, 110, 73, 109, 112, 111, 114, 116, 101, 114, 46, 95, 95, 100, 111, 99, 95, 95, 58, 115, 116, 114, 35, 111, 112, 97, 113, 117, 101, 6, 192, 7, 95, 79, 82, 73, 71, 73, 78, 6, 188, 8, 98, 117, 105, 108, 116, 45, 105, 110, 6, 193, 9, 102, 105, 110, 100, 95, 115, 112, 101, 99, 9, 50, 95, 102, 114, 111, 122, 101, 110, 95, 105, 109, 112, 111, 114, 116, 108, 105, 98, 46, 66, 117, 105, 108, 116, 105, 110, 73, 109, 112, 111, 114, 116, 101, 114, 46, 102, 105, 110, 100, 95, 115, 112, 101, 99, 35, 111, 112, 97, 113, 117, 101, 6, 194, 13, 99, 114, 101, 97, 116, 101, 95, 109, 111, 100, 117, 108, 101, 9, 54, 95, 102, 114, 111, 122, 101, 110, 95, 105, 109, 112, 111, 114, 116, 108, 105, 98, 46, 66, 117, 105, 108, 116, 105, 110, 73, 109, 112, 111, 114, 116, 101, 114, 46, 99, 114, 101, 97, 116, 101, 95, 109, 111, 100, 117, 108, 101, 35, 111, 112, 97, 113, 117, 101, 6, 195, 11, 101, 120, 101, 99, 95, 109, 111, 100, 117, 108, 101, 9, 52, 95, 102, 114, 111, 122, 101, 110, 95, 105, 109, 112, 111, 114, 116, 108, 105, 98, 46, 66, 117, 105, 108, 116, 105, 110, 73, 109, 112, 111, 114, 116, 101, 114, 46, 101, 120, 101, 99, 95, 109, 111, 100, 117, 108, 101, 35, 111, 112, 97, 113, 117, 101, 6, 196, 8, 103, 101, 116, 95, 99, 111, 100, 101, 9, 49, 95, 102, 114, 111, 122, 101, 110, 95, 105, 109, 112, 111, 114, 116, 108, 105, 98, 46, 66, 117, 105, 108, 116, 105, 110, 73, 109, 112, 111, 114, 116, 101, 114, 46, 103, 101, 116, 95, 99, 111, 100, 101, 35, 111, 112, 97, 113, 117, 101, 6, 197, 10, 103, 101, 116, 95, 115, 111, 117, 114, 99, 101, 9, 51, 95, 102, 114, 111, 122, 101, 110, 95, 105, 109, 112, 111, 114, 116, 108, 105, 98, 46, 66, 117, 105, 108, 116, 105, 110, 73, 109, 112, 111, 114, 116, 101, 114, 46, 103, 101, 116, 95, 115, 111, 117, 114, 99, 101, 35, 111, 112, 97, 113, 117, 101, 6, 198, 10, 105, 115, 95, 112, 97, 99, 107, 97, 103, 101, 9, 51, 95, 102, 114, 111, 122, 101, 110, 95, 105, 109, 112, 111, 114, 116, 108, 105, 98, 46, 66, 117, 105, 108, 116, 105, 110, 73, 109, 112, 111, 114, 116, 101, 114, 46, 105, 115, 95, 112, 97, 99, 107, 97, 103, 101, 35, 111, 112, 97, 113, 117, 101, 6, 199, 11, 108, 111, 97, 100, 95, 109, 111, 100, 117, 108, 101, 9, 52, 95, 102, 114, 111, 122, 101, 110, 95, 105, 109, 112, 111, 114, 116, 108, 105, 98, 46, 66, 117, 105, 108, 116, 105, 110, 73, 109, 112, 111, 114, 116, 101, 114, 46, 108, 111, 97, 100, 95, 109, 111, 100, 117, 108, 101, 35, 111, 112, 97, 113, 117, 101, 6, 200, 21, 95, 95, 115, 116, 97, 116, 105, 99, 95, 97, 116, 116, 114, 105, 98, 117, 116, 101, 115, 95, 95, 4, 0, 0, 15, 6, 202, 8, 95, 95, 100, 105, 99, 116, 95, 95, 4, 0, 0, 16, 6, 204, 11, 95, 95, 119, 101, 97, 107, 114, 101, 102, 95, 95, 4, 0, 0, 17]) 0, .bool true, .bool true, .str (Str.ofString "") 205, .int 21 0, .str (Str.mk #[6, 227, 10, 95, 95, 109, 111, 100, 117, 108, 101, 95, 95, 6, 217, 17, 95, 102, 114, 111, 122, 101, 110, 95, 105, 109, 112, 111, 114, 116, 108, 105, 98, 6, 228, 15, 95, 95, 102, 105, 114, 115, 116, 108, 105, 110, 101, 110, 111, 95, 95, 4, 218, 0, 562, 6, 229, 7, 95, 95, 100, 111, 99, 95, 95, 9, 47, 95, 102, 114, 111, 122, 101, 110, 95, 105, 109, 112, 111, 114, 116, 108, 105, 98, 46, 77, 111, 100, 117, 108, 101, 83, 112, 101, 99, 46, 95, 95, 100, 111, 99, 95, 95, 58, 115, 116, 114, 35, 111, 112, 97, 113, 117, 101, 6, 230, 8, 95, 95, 105, 110, 105, 116, 95, 95, 9, 44, 95, 102, 114, 111, 122, 101, 110, 95, 105, 109, 112, 111, 114, 116, 108, 105, 98, 46, 77, 111, 100, 117, 108, 101, 83, 112, 101, 99, 46, 95, 95, 105, 110, 105, 116, 95, 95, 35, 111, 112, 97, 113, 117, 101, 6, 231, 8, 95, 95, 114, 101, 112, 114, 95, 95, 9, 44, 95, 102, 114, 111, 122, 101, 110, 95, 105, 109, 112, 111, 114, 116, 108, 105, 98, 46, 77, 111, 100, 117, 108, 101, 83, 112, 101, 99, 46, 95, 95, 114, 101, 112, 114, 95, 95, 35, 111, 112, 97, 113, 117, 101, 6, 232, 6, 95, 95, 101, 113, 95, 95, 9, 42, 95, 102, 114, 111, 122, 101, 110, 95, 105, 109, 112, 111, 114, 116, 108, 105, 98, 46, 77, 111, 100, 117, 108, 101, 83, 112, 101, 99, 46, 95, 95, 101, 113, 95, 95, 35, 111, 112, 97, 113, 117, 101, 6, 233, 6, 99, 97, 99, 104, 101, 100, 9, 42, 95, 102, 114, 111, 122, 101, 110, 95, 105, 109, 112, 111, 114, 116, 108, 105, 98, 46, 77, 111, 100, 117, 108, 101, 83, 112, 101, 99, 46, 99, 97, 99, 104, 101, 100, 35, 111, 112, 97, 113, 117, 101, 6, 234, 6, 112, 97, 114, 101, 110, 116, 9, 42, 95, 102, 114, 111, 122, 101, 110, 95, 105, 109, 112, 111, 114, 116, 108, 105, 98, 46, 77, 111, 100, 117, 108, 101, 83, 112, 101, 99, 46, 112, 97, 114, 101, 110, 116, 35, 111, 112, 97, 113, 117, 101, 6, 235, 12, 104, 97, 115, 95, 108, 111, 99, 97, 116, 105, 111, 110, 9, 48, 95, 102, 114, 111, 122, 101, 110, 95, 105, 109, 112, 111, 114, 116, 108, 105, 98, 46, 77, 111, 100, 117, 108, 101, 83, 112, 101, 99, 46, 104, 97, 115, 95, 108, 111, 99, 97, 116, 105, 111, 110, 35, 111, 112, 97, 113, 117, 101, 6, 236, 21, 95, 95, 115, 116, 97, 116, 105, 99, 95, 97, 116, 116, 114, 105, 98, 117, 116, 101, 115, 95, 95, 4, 0, 0, 23, 6, 238, 8, 95, 95, 100, 105, 99, 116, 95, 95, 4, 0, 0, 24, 6, 240, 11, 95, 95, 119, 101, 97, 107, 114, 101, 102, 95, 95, 4, 0, 0, 25, 6, 241, 8, 95, 95, 104, 97, 115, 104, 95, 95, 0]) 0, .bool true, .bool true, .str (Str.ofString "") 242].toArray 1), #[]⟩
noncomputable def o19 (_P : Params) : Obj := ⟨.type "list", none, (.seq [].toArray 0), #[]⟩
noncomputable def o20 (P : Params) : Obj := ⟨.type "dict", none, (.dict [⟨PyData.keyHash P (Str.ofString "name"), .str (Str.ofString "name") 208, .str (Str.ofString "_sre") 207⟩, ⟨PyData.keyHash P (Str.ofString "loader"), .str (Str.ofString "loader") 209, .ref 14⟩, ⟨PyData.keyHash P (Str.ofString "origin"), .str (Str.ofString "origin") 210, .str (Str.ofString "built-in") 184⟩, ⟨PyData.keyHash P (Str.ofString "loader_state"), .str (Str.ofString "loader_state") 211, .none⟩, ⟨PyData.keyHash P (Str.ofString "submodule_search_locations"), .str (Str.ofString "submodule_search_locations") 212, .none⟩, ⟨PyData.keyHash P (Str.ofString "_uninitialized_submodules"), .str (Str.ofString "_uninitialized_submodules") 213, .ref 19⟩, ⟨PyData.keyHash P (Str.ofString "_set_fileattr"), .str (Str.ofString "_set_fileattr") 214, .bool false⟩, ⟨PyData.keyHash P (Str.ofString "_cached"), .str (Str.ofString "_cached") 215, .none⟩, ⟨PyData.keyHash P (Str.ofString "_initializing"), .str (Str.ofString "_initializing") 243, .bool false⟩].toArray 9), #[]⟩
noncomputable def o21 (P : Params) : Obj := ⟨.type "dict", none, (.dict [⟨PyData.keyHash P (Str.ofString "__module__"), .str (Str.ofString "__module__") 227, .str (Str.ofString "_frozen_importlib") 217⟩, ⟨PyData.keyHash P (Str.ofString "__firstlineno__"), .str (Str.ofString "__firstlineno__") 228, .int 562 218⟩, ⟨PyData.keyHash P (Str.ofString "__doc__"), .str (Str.ofString "__doc__") 229, .builtin "_frozen_importlib.ModuleSpec.__doc__:str#opaque"⟩, ⟨PyData.keyHash P (Str.ofString "__init__"), .str (Str.ofString "__init__") 230, .builtin "_frozen_importlib.ModuleSpec.__init__#opaque"⟩, ⟨PyData.keyHash P (Str.ofString "__repr__"), .str (Str.ofString "__repr__") 231, .builtin "_frozen_importlib.ModuleSpec.__repr__#opaque"⟩, ⟨PyData.keyHash P (Str.ofString "__eq__"), .str (Str.ofString "__eq__") 232, .builtin "_frozen_importlib.ModuleSpec.__eq__#opaque"⟩, ⟨PyData.keyHash P (Str.ofString "cached"), .str (Str.ofString "cached") 233, .builtin "_frozen_importlib.ModuleSpec.cached#opaque"⟩, ⟨PyData.keyHash P (Str.ofString "parent"), .str (Str.ofString "parent") 234, .builtin "_frozen_importlib.ModuleSpec.parent#opaque"⟩, ⟨PyData.keyHash P (Str.ofString "has_location"), .str (Str.ofString "has_location") 235, .builtin "_frozen_importlib.ModuleSpec.has_location#opaque"⟩, ⟨PyData.keyHash P (Str.ofString "__static_attributes__"), .str (Str.ofString "__static_attributes__") 236, .ref 23⟩, ⟨PyData.keyHash P (Str.ofString "__dict__"), .str (Str.ofString "__dict__") 238, .ref 24⟩, ⟨PyData.keyHash P (Str.ofString "__weakref__"), .str (Str.ofString "__weakref__") 240, .ref 25⟩, ⟨PyData.keyHash P (Str.ofString "__hash__"), .str (Str.ofString "__hash__") 241, .none⟩].toArray 13), #[]⟩
noncomputable def o22 (_P : Params) : Obj := ⟨.type "type", none, (.cls ⟨(Str.ofString "ModuleSpec"), [.type "object"], [.ref 22, .type "object"], 21, (Str.ofString "ModuleSpec"), true, [], [], false, none, false⟩), #[]⟩
noncomputable def o23 (_P : Params) : Obj := ⟨.type "tuple", none, (.seq [.str (Str.ofString "_cached") 219, .str (Str.ofString "_set_fileattr") 220, .str (Str.ofString "_uninitialized_submodules") 221, .str (Str.ofString "loader") 222, .str (Str.ofString "loader_state") 223, .str (Str.ofString "name") 224, .str (Str.ofString "origin") 225, .str (Str.ofString "submodule_search_locations") 226].toArray 0), #[]⟩
noncomputable def o24 (_P : Params) : Obj := ⟨.type "getset_descriptor", none, (.fields [.str (Str.ofString "__dict__") 237, .ref 22, .builtin "function.__dict__", .builtin "function.__dict__#set"].toArray), #[]⟩
noncomputable def o25 (_P : Params) : Obj := ⟨.type "getset_descriptor", none, (.fields [.str (Str.ofString "__weakref__") 239, .ref 22, .builtin "ExceptionGroup.__weakref__", .none].toArray), #[]⟩
noncomputable def o26 (_P : Params) : Obj := ⟨.ref 22, (some 20), .plain, #[]⟩
noncomputable def o27 (_P : Params) : Obj := ⟨.none, none, (.seq [.int 11 0, .str (Str.mk #[6, 247, 8, 95, 95, 110, 97, 109, 101, 95, 95, 6, 246, 4, 95, 115, 114, 101, 6, 248, 7, 95, 95, 100, 111, 99, 95, 95, 0, 6, 250, 11, 95, 95, 112, 97, 99, 107, 97, 103, 101, 95, 95, 6, 249, 0, 6, 251, 10, 95, 95, 108, 111, 97, 100, 101, 114, 95, 95, 4, 0, 0, 14, 6, 252, 8, 95, 95, 115, 112, 101, 99, 95, 95, 4, 0, 0, 26, 6, 253, 7, 99, 111, 109, 112, 105, 108, 101, 9, 12, 95, 115, 114, 101, 46, 99, 111, 109, 112, 105, 108, 101, 6, 254, 8, 116, 101, 109, 112, 108, 97, 116, 101, 9, 13, 95, 115, 114, 101, 46, 116, 101, 109, 112, 108, 97, 116, 101, 6, 255, 11, 103, 101, 116, 99, 111, 100, 101, 115, 105, 122, 101, 9, 16, 95, 115, 114, 101, 46, 103, 101, 116, 99, 111, 100, 101, 115, 105, 122, 101, 6, 256, 13, 97, 115, 99, 105, 105, 95, 105, 115, 99, 97, 115, 101, 100, 9, 18, 95, 115, 114, 101, 46, 97, 115, 99, 105, 105, 95, 105, 115, 99, 97, 115, 101, 100, 6, 257, 15, 117, 110, 105, 99, 111, 100, 101, 95, 105, 115, 99, 97, 115, 101, 100, 9, 20, 95, 115, 114, 101, 46, 117, 110, 105, 99, 111, 100, 101, 95, 105, 115, 99, 97, 115, 101, 100, 6, 258, 13, 97, 115, 99, 105, 105, 95, 116, 111, 108, 111, 119, 101, 114, 9, 18, 95, 115, 114, 101, 46, 97, 115, 99, 105, 105, 95, 116, 111, 108, 111, 119, 101, 114, 6, 259, 15, 117, 110, 105, 99, 111, 100, 101, 95, 116, 111, 108, 111, 119, 101, 114, 9, 20, 95, 115, 114, 101, 46, 117, 110, 105, 99, 111, 100, 101, 95, 116, 111, 108, 111, 119, 101, 114, 6, 261, 5, 77, 65, 71, 73, 67, 4, 260, 0, 20230612, 6, 263, 8, 67, 79, 68, 69, 83, 73, 90, 69, 4, 262, 0, 4, 6, 265, 9, 77, 65, 88, 82, 69, 80, 69, 65, 84, 4, 264, 0, 4294967295, 6, 267, 9, 77, 65, 88, 71, 82, 79, 85, 80, 83, 4, 266, 0, 1073741823, 6, 269, 9, 99, 111, 112, 121, 114, 105, 103, 104, 116, 6, 268, 53, 32, 83, 82, 69, 32, 50, 46, 50, 46, 50, 32, 67, 111, 112, 121, 114, 105, 103, 104, 116, 32, 40, 99, 41, 32, 49, 57, 57, 55, 45, 50, 48, 48, 50, 32, 98, 121, 32, 83, 101, 99, 114, 101, 116, 32, 76, 97, 98, 115, 32, 65, 66, 32]) 0, .bool true, .bool false, .str (Str.ofString "_sre") 271].toArray 0), #[]⟩
noncomputable def o11v1 (P : Params) : Obj := ⟨.type "dict", none, (.dict [⟨PyData.keyHash P (Str.ofString "__name__"), .str (Str.ofString "__name__") 247, .str (Str.ofString "_sre") 246⟩, ⟨PyData.keyHash P (Str.ofString "__doc__"), .str (Str.ofString "__doc__") 248, .none⟩, ⟨PyData.keyHash P (Str.ofString "__package__"), .str (Str.ofString "__package__") 250, .str (Str.ofString "") 249⟩, ⟨PyData.keyHash P (Str.ofString "__loader__"), .str (Str.ofString "__loader__") 251, .builtin "off-the-table:_sre.__loader__:shared#opaque"⟩, ⟨PyData.keyHash P (Str.ofString "__spec__"), .str (Str.ofString "__spec__") 252, .builtin "off-the-table:_sre.__spec__:shared#opaque"⟩, ⟨PyData.keyHash P (Str.ofString "compile"), .str (Str.ofString "compile") 253, .builtin "_sre.compile"⟩, ⟨PyData.keyHash P (Str.ofString "template"), .str (Str.ofString "template") 254, .builtin "off-the-table:_sre.template:shared#opaque"⟩, ⟨PyData.keyHash P (Str.ofString "getcodesize"), .str (Str.ofString "getcodesize") 255, .builtin "off-the-table:_sre.getcodesize:shared#opaque"⟩, ⟨PyData.keyHash P (Str.ofString "ascii_iscased"), .str (Str.ofString "ascii_iscased") 256, .builtin "off-the-table:_sre.ascii_iscased:shared#opaque"⟩, ⟨PyData.keyHash P (Str.ofString "unicode_iscased"), .str (Str.ofString "unicode_iscased") 257, .builtin "off-the-table:_sre.unicode_iscased:shared#opaque"⟩, ⟨PyData.keyHash P (Str.ofString "ascii_tolower"), .str (Str.ofString "ascii_tolower") 258, .builtin "off-the-table:_sre.ascii_tolower:shared#opaque"⟩, ⟨PyData.keyHash P (Str.ofString "unicode_tolower"), .str (Str.ofString "unicode_tolower") 259, .builtin "off-the-table:_sre.unicode_tolower:shared#opaque"⟩, ⟨PyData.keyHash P (Str.ofString "MAGIC"), .str (Str.ofString "MAGIC") 261, .int 20230612 260⟩, ⟨PyData.keyHash P (Str.ofString "CODESIZE"), .str (Str.ofString "CODESIZE") 263, .int 4 262⟩, ⟨PyData.keyHash P (Str.ofString "MAXREPEAT"), .str (Str.ofString "MAXREPEAT") 265, .int 4294967295 264⟩, ⟨PyData.keyHash P (Str.ofString "MAXGROUPS"), .str (Str.ofString "MAXGROUPS") 267, .int 1073741823 266⟩, ⟨PyData.keyHash P (Str.ofString "copyright"), .str (Str.ofString "copyright") 269, .str (Str.ofString " SRE 2.2.2 Copyright (c) 1997-2002 by Secret Labs AB ") 268⟩].toArray 17), #[]⟩
noncomputable def o28 (_P : Params) : Obj := ⟨.type "tuple", none, (.seq [].toArray 0), #[]⟩
noncomputable def o29 (_P : Params) : Obj := ⟨.none, none, (.fields [].toArray), #[]⟩
noncomputable def o30 (_P : Params) : Obj := ⟨.type "code", none, (.fields [.str (Str.ofString "<module>") 277, .str (Str.ofString "<module>") 278, .str (Str.ofString "/claim/cut.py") 279, .int 1 0, .int 0 0, .int 0 0, .int 0 0, .int 0 0, .ref 28, .bool false, .int 276 0, .ref 29, .none, .none, .none, .none, .int 280 0, .int 1 0, .str (Str.ofString "/claim/cut.py") 281].toArray), #[]⟩
noncomputable def o31 (_P : Params) : Obj := ⟨.type "frame", none, .plain, #[(some (.ref 30)), (some (.ref 3)), (some (.ref 3)), none, (some (.str (Str.ofString "__main__") 164)), none, (some (.ref 0))]⟩
noncomputable def ge10 (P : Params) : DictEntry := ⟨PyData.keyHash P (Str.ofString "_wall"), .str (Str.ofString "_wall") 288, .ref 38⟩
noncomputable def o3v1 (P : Params) : Obj := ⟨.type "dict", none, (.dict [ge0 P, ge1 P, ge2 P, ge3 P, ge4 P, ge5 P, ge6 P, ge7 P, ge8 P, ge9 P, ge10 P].toArray 11), #[]⟩
noncomputable def o29v1 (_P : Params) : Obj := ⟨.none, none, (.fields [.int 2 0, .int 0 0, .ref 37].toArray), #[]⟩
noncomputable def o32 (_P : Params) : Obj := ⟨.type "tuple", none, (.seq [].toArray 0), #[]⟩
noncomputable def o33 (_P : Params) : Obj := ⟨.none, none, (.fields [].toArray), #[]⟩
noncomputable def o34 (_P : Params) : Obj := ⟨.type "tuple", none, (.seq [.str (Str.ofString "k") 285].toArray 0), #[]⟩
noncomputable def o35 (_P : Params) : Obj := ⟨.type "tuple", none, (.seq [].toArray 0), #[]⟩
noncomputable def o36 (_P : Params) : Obj := cdF "_wall" "_wall" (pS 1)
noncomputable def o37 (_P : Params) : Obj := ⟨.type "code", none, (.fields [.str (Str.ofString "_wall") 282, .str (Str.ofString "_wall") 283, .str (Str.ofString "/claim/cut.py") 284, .int 2 0, .int 1 0, .int 0 0, .int 0 0, .int 3 0, .ref 32, .bool true, .int 276 0, .ref 33, .none, .ref 34, .ref 35, .ref 36, .int 286 0, .int 2 0, .str (Str.ofString "/claim/cut.py") 287].toArray), #[]⟩
noncomputable def o38 (_P : Params) : Obj := ⟨.type "function", none, .func (fnOf (Str.ofString "_wall") (Str.ofString "_wall") (parOf (pS 1)) (bodOf (pS 1)) (scoOf (pS 1)) (.none) (.none) .none (.str (Str.ofString "__main__") 164) none (.ref 37) .none), #[]⟩
noncomputable def ge11 (P : Params) : DictEntry := ⟨PyData.keyHash P (Str.ofString "__name__"), .str (Str.ofString "__name__") 165, .str (Str.ofString "cpy313.email.utils") 289⟩
noncomputable def o3v2 (P : Params) : Obj := ⟨.type "dict", none, (.dict [ge11 P, ge1 P, ge2 P, ge3 P, ge4 P, ge5 P, ge6 P, ge7 P, ge8 P, ge9 P, ge10 P].toArray 11), #[]⟩
noncomputable def ge12 (P : Params) : DictEntry := ⟨PyData.keyHash P (Str.ofString "TICK"), .str (Str.ofString "TICK") 292, .str (Str.ofString "'") 291⟩
noncomputable def o3v3 (P : Params) : Obj := ⟨.type "dict", none, (.dict [ge11 P, ge1 P, ge2 P, ge3 P, ge4 P, ge5 P, ge6 P, ge7 P, ge8 P, ge9 P, ge10 P, ge12 P].toArray 12), #[]⟩
noncomputable def ge13 (P : Params) : DictEntry := ⟨PyData.keyHash P (Str.ofString "decode_rfc2231"), .str (Str.ofString "decode_rfc2231") 300, .ref 45⟩
noncomputable def o3v4 (P : Params) : Obj := ⟨.type "dict", none, (.dict [ge11 P, ge1 P, ge2 P, ge3 P, ge4 P, ge5 P, ge6 P, ge7 P, ge8 P, ge9 P, ge10 P, ge12 P, ge13 P].toArray 13), #[]⟩
noncomputable def o29v2 (_P : Params) : Obj := ⟨.none, none, (.fields [.int 2 0, .int 0 0, .ref 37, .int 7 0, .int 0 0, .ref 44].toArray), #[]⟩
noncomputable def o39 (_P : Params) : Obj := ⟨.type "tuple", none, (.seq [].toArray 0), #[]⟩
noncomputable def o40 (_P : Params) : Obj := ⟨.none, none, (.fields [].toArray), #[]⟩
noncomputable def o41 (_P : Params) : Obj := ⟨.type "tuple", none, (.seq [.str (Str.ofString "s") 296, .str (Str.ofString "parts") 297].toArray 0), #[]⟩
noncomputable def o42 (_P : Params) : Obj := ⟨.type "tuple", none, (.seq [].toArray 0), #[]⟩
noncomputable def o43 (_P : Params) : Obj := cdF "decode_rfc2231" "decode_rfc2231" (pS 4)
noncomputable def o44 (_P : Params) : Obj := ⟨.type "code", none, (.fields [.str (Str.ofString "decode_rfc2231") 293, .str (Str.ofString "decode_rfc2231") 294, .str (Str.ofString "/claim/cut.py") 295, .int 7 0, .int 1 0, .int 0 0, .int 0 0, .int 3 0, .ref 39, .bool true, .int 276 0, .ref 40, .none, .ref 41, .ref 42, .ref 43, .int 298 0, .int 7 0, .str (Str.ofString "/claim/cut.py") 299].toArray), #[]⟩
noncomputable def o45 (_P : Params) : Obj := ⟨.type "function", none, .func (fnOf (Str.ofString "decode_rfc2231") (Str.ofString "decode_rfc2231") (parOf (pS 4)) (bodOf (pS 4)) (scoOf (pS 4)) (.none) (.none) .none (.str (Str.ofString "cpy313.email.utils") 289) none (.ref 44) .none), #[]⟩
noncomputable def ge14 (P : Params) : DictEntry := ⟨PyData.keyHash P (Str.ofString "__name__"), .str (Str.ofString "__name__") 165, .str (Str.ofString "cpy313.smtplib") 301⟩
noncomputable def o3v5 (P : Params) : Obj := ⟨.type "dict", none, (.dict [ge14 P, ge1 P, ge2 P, ge3 P, ge4 P, ge5 P, ge6 P, ge7 P, ge8 P, ge9 P, ge10 P, ge12 P, ge13 P].toArray 13), #[]⟩
noncomputable def ge15 (P : Params) : DictEntry := ⟨PyData.keyHash P (Str.ofString "_twin_re_1"), .str (Str.ofString "_twin_re_1") 318, .ref 50⟩
noncomputable def o3v6 (P : Params) : Obj := ⟨.type "dict", none, (.dict [ge14 P, ge1 P, ge2 P, ge3 P, ge4 P, ge5 P, ge6 P, ge7 P, ge8 P, ge9 P, ge10 P, ge12 P, ge13 P, ge15 P].toArray 14), #[]⟩
noncomputable def o46 (_P : Params) : Obj := ⟨.type "list", none, (.seq [.int 14 306, .int 4 307, .int 0 308, .int 1 309, .int 1 310, .int 6 311, .int 1 312, .int 16 313, .int 46 314, .int 1 315].toArray 0), #[]⟩
noncomputable def o47 (_P : Params) : Obj := ⟨.type "dict", none, (.dict [].toArray 0), #[]⟩
noncomputable def o48 (_P : Params) : Obj := ⟨.type "tuple", none, (.seq [.none].toArray 0), #[]⟩
noncomputable def o49 (_P : Params) : Obj := ⟨.type "tuple", none, (.seq [.int 14 0, .int 4 0, .int 0 0, .int 1 0, .int 1 0, .int 6 0, .int 1 0, .int 16 0, .int 46 0, .int 1 0].toArray 0), #[]⟩
noncomputable def o50 (_P : Params) : Obj := ⟨.type "re.Pattern", none, (.fields [.str (Str.ofString "(?m)^\\.") 304, .int 40 317, .int 0 0, .none, .none, .ref 49, .int 0 0].toArray), #[]⟩
noncomputable def ge16 (P : Params) : DictEntry := ⟨PyData.keyHash P (Str.ofString "_twin_re_2"), .str (Str.ofString "_twin_re_2") 360, .ref 55⟩
noncomputable def o3v7 (P : Params) : Obj := ⟨.type "dict", none, (.dict [ge14 P, ge1 P, ge2 P, ge3 P, ge4 P, ge5 P, ge6 P, ge7 P, ge8 P, ge9 P, ge10 P, ge12 P, ge13 P, ge15 P, ge16 P].toArray 15), #[]⟩
noncomputable def o51 (_P : Params) : Obj := ⟨.type "list", none, (.seq [.int 14 322, .int 9 323, .int 4 324, .int 1 325, .int 2 326, .int 16 327, .int 10 328, .int 16 329, .int 13 330, .int 0 331, .int 7 332, .int 7 333, .int 16 334, .int 13 335, .int 16 336, .int 10 337, .int 15 338, .int 18 339, .int 5 340, .int 16 341, .int 10 342, .int 15 343, .int 13 344, .int 11 345, .int 16 346, .int 13 347, .int 5 348, .int 5 349, .int 0 350, .int 16 351, .int 10 352, .int 1 353, .int 15 354, .int 2 355, .int 0 356, .int 1 357].toArray 0), #[]⟩
noncomputable def o52 (_P : Params) : Obj := ⟨.type "dict", none, (.dict [].toArray 0), #[]⟩
noncomputable def o53 (_P : Params) : Obj := ⟨.type "tuple", none, (.seq [.none].toArray 0), #[]⟩
noncomputable def o54 (_P : Params) : Obj := ⟨.type "tuple", none, (.seq [.int 14 0, .int 9 0, .int 4 0, .int 1 0, .int 2 0, .int 16 0, .int 10 0, .int 16 0, .int 13 0, .int 0 0, .int 7 0, .int 7 0, .int 16 0, .int 13 0, .int 16 0, .int 10 0, .int 15 0, .int 18 0, .int 5 0, .int 16 0, .int 10 0, .int 15 0, .int 13 0, .int 11 0, .int 16 0, .int 13 0, .int 5 0, .int 5 0, .int 0 0, .int 16 0, .int 10 0, .int 1 0, .int 15 0, .int 2 0, .int 0 0, .int 1 0].toArray 0), #[]⟩
noncomputable def o55 (_P : Params) : Obj := ⟨.type "re.Pattern", none, (.fields [.str (Str.ofString "(?:\\r\\n|\\n|\\r(?!\\n))") 320, .int 32 359, .int 0 0, .none, .none, .ref 54, .int 0 0].toArray), #[]⟩
noncomputable def ge17 (P : Params) : DictEntry := ⟨PyData.keyHash P (Str.ofString "CRLF"), .str (Str.ofString "CRLF") 362, .str (Str.ofString "\x0d\n") 361⟩
noncomputable def o3v8 (P : Params) : Obj := ⟨.type "dict", none, (.dict [ge14 P, ge1 P, ge2 P, ge3 P, ge4 P, ge5 P, ge6 P, ge7 P, ge8 P, ge9 P, ge10 P, ge12 P, ge13 P, ge15 P, ge16 P, ge17 P].toArray 16), #[]⟩
noncomputable def ge18 (P : Params) : DictEntry := ⟨PyData.keyHash P (Str.ofString "quotedata"), .str (Str.ofString "quotedata") 369, .ref 62⟩
noncomputable def o3v9 (P : Params) : Obj := ⟨.type "dict", none, (.dict [ge14 P, ge1 P, ge2 P, ge3 P, ge4 P, ge5 P, ge6 P, ge7 P, ge8 P, ge9 P, ge10 P, ge12 P, ge13 P, ge15 P, ge16 P, ge17 P, ge18 P].toArray 17), #[]⟩
noncomputable def o29v3 (_P : Params) : Obj := ⟨.none, none, (.fields [.int 2 0, .int 0 0, .ref 37, .int 7 0, .int 0 0, .ref 44, .int 16 0, .int 0 0, .ref 61].toArray), #[]⟩
noncomputable def o56 (_P : Params) : Obj := ⟨.type "tuple", none, (.seq [].toArray 0), #[]⟩
noncomputable def o57 (_P : Params) : Obj := ⟨.none, none, (.fields [].toArray), #[]⟩
noncomputable def o58 (_P : Params) : Obj := ⟨.type "tuple", none, (.seq [.str (Str.ofString "data") 366].toArray 0), #[]⟩
noncomputable def o59 (_P : Params) : Obj := ⟨.type "tuple", none, (.seq [].toArray 0), #[]⟩
noncomputable def o60 (_P : Params) : Obj := cdF "quotedata" "quotedata" (pS 9)
noncomputable def o61 (_P : Params) : Obj := ⟨.type "code", none, (.fields [.str (Str.ofString "quotedata") 363, .str (Str.ofString "quotedata") 364, .str (Str.ofString "/claim/cut.py") 365, .int 16 0, .int 1 0, .int 0 0, .int 0 0, .int 3 0, .ref 56, .bool true, .int 276 0, .ref 57, .none, .ref 58, .ref 59, .ref 60, .int 367 0, .int 16 0, .str (Str.ofString "/claim/cut.py") 368].toArray), #[]⟩
noncomputable def o62 (_P : Params) : Obj := ⟨.type "function", none, .func (fnOf (Str.ofString "quotedata") (Str.ofString "quotedata") (parOf (pS 9)) (bodOf (pS 9)) (scoOf (pS 9)) (.none) (.none) .none (.str (Str.ofString "cpy313.smtplib") 301) none (.ref 61) .none), #[]⟩
noncomputable def ge19 (P : Params) : DictEntry := ⟨PyData.keyHash P (Str.ofString "__name__"), .str (Str.ofString "__name__") 165, .str (Str.ofString "cpy313.stringprep") 370⟩
noncomputable def o3v10 (P : Params) : Obj := ⟨.type "dict", none, (.dict [ge19 P, ge1 P, ge2 P, ge3 P, ge4 P, ge5 P, ge6 P, ge7 P, ge8 P, ge9 P, ge10 P, ge12 P, ge13 P, ge15 P, ge16 P, ge17 P, ge18 P].toArray 17), #[]⟩
noncomputable def ge20 (P : Params) : DictEntry := ⟨PyData.keyHash P (Str.ofString "b1_set"), .str (Str.ofString "b1_set") 431, .ref 70⟩
noncomputable def o3v11 (P : Params) : Obj := ⟨.type "dict", none, (.dict [ge19 P, ge1 P, ge2 P, ge3 P, ge4 P, ge5 P, ge6 P, ge7 P, ge8 P, ge9 P, ge10 P, ge12 P, ge13 P, ge15 P, ge16 P, ge17 P, ge18 P, ge20 P].toArray 18), #[]⟩
noncomputable def o63 (_P : Params) : Obj := ⟨.type "list", none, (.seq [.int 173 372, .int 847 373, .int 6150 374, .int 6155 375, .int 6156 376, .int 6157 377, .int 8203 378, .int 8204 379, .int 8205 380, .int 8288 381, .int 65279 382].toArray 0), #[]⟩
noncomputable def o64 (_P : Params) : Obj := ⟨.type "range", none, (.fields [.int 65024 383, .int 65040 384, .int 1 385].toArray), #[]⟩
noncomputable def o65 (_P : Params) : Obj := ⟨.type "list", none, (.seq [.int 65024 388, .int 65025 389, .int 65026 390, .int 65027 391, .int 65028 392, .int 65029 393, .int 65030 394, .int 65031 395, .int 65032 396, .int 65033 397, .int 65034 398, .int 65035 399, .int 65036 400, .int 65037 401, .int 65038 402, .int 65039 403].toArray 18), #[]⟩
noncomputable def o66 (_P : Params) : Obj := ⟨.type "range_iterator", none, (.fields [.int 65040 0, .int 0 0, .int 1 0].toArray), #[]⟩
noncomputable def o67 (_P : Params) : Obj := ⟨.type "tuple", none, (.seq [].toArray 0), #[]⟩
noncomputable def o68 (_P : Params) : Obj := ⟨.type "StopIteration", none, (.fields [.ref 67, .none, .none, .none, .bool false, .none].toArray), #[]⟩
noncomputable def o69 (_P : Params) : Obj := ⟨.type "list", none, (.seq [.int 173 372, .int 847 373, .int 6150 374, .int 6155 375, .int 6156 376, .int 6157 377, .int 8203 378, .int 8204 379, .int 8205 380, .int 8288 381, .int 65279 382, .int 65024 388, .int 65025 389, .int 65026 390, .int 65027 391, .int 65028 392, .int 65029 393, .int 65030 394, .int 65031 395, .int 65032 396, .int 65033 397, .int 65034 398, .int 65035 399, .int 65036 400, .int 65037 401, .int 65038 402, .int 65039 403].toArray 0), #[]⟩
noncomputable def o71 (_P : Params) : Obj := ⟨.type "list_iterator", none, (.fields [.none, .int 27 0].toArray), #[]⟩
noncomputable def o72 (_P : Params) : Obj := ⟨.type "tuple", none, (.seq [].toArray 0), #[]⟩
noncomputable def o73 (_P : Params) : Obj := ⟨.type "StopIteration", none, (.fields [.ref 72, .none, .none, .none, .bool false, .none].toArray), #[]⟩
noncomputable def ge21 (P : Params) : DictEntry := ⟨PyData.keyHash P (Str.ofString "in_table_b1"), .str (Str.ofString "in_table_b1") 438, .ref 80⟩
noncomputable def o3v12 (P : Params) : Obj := ⟨.type "dict", none, (.dict [ge19 P, ge1 P, ge2 P, ge3 P, ge4 P, ge5 P, ge6 P, ge7 P, ge8 P, ge9 P, ge10 P, ge12 P, ge13 P, ge15 P, ge16 P, ge17 P, ge18 P, ge20 P, ge21 P].toArray 19), #[]⟩
noncomputable def o29v4 (_P : Params) : Obj := ⟨.none, none, (.fields [.int 2 0, .int 0 0, .ref 37, .int 7 0, .int 0 0, .ref 44, .int 16 0, .int 0 0, .ref 61, .int 20 0, .int 0 0, .ref 79].toArray), #[]⟩
noncomputable def o74 (_P : Params) : Obj := ⟨.type "tuple", none, (.seq [].toArray 0), #[]⟩
noncomputable def o75 (_P : Params) : Obj := ⟨.none, none, (.fields [].toArray), #[]⟩
noncomputable def o76 (_P : Params) : Obj := ⟨.type "tuple", none, (.seq [.str (Str.ofString "code") 435].toArray 0), #[]⟩
noncomputable def o77 (_P : Params) : Obj := ⟨.type "tuple", none, (.seq [].toArray 0), #[]⟩
noncomputable def o78 (_P : Params) : Obj := cdF "in_table_b1" "in_table_b1" (pS 12)
noncomputable def o79 (_P : Params) : Obj := ⟨.type "code", none, (.fields [.str (Str.ofString "in_table_b1") 432, .str (Str.ofString "in_table_b1") 433, .str (Str.ofString "/claim/cut.py") 434, .int 20 0, .int 1 0, .int 0 0, .int 0 0, .int 3 0, .ref 74, .bool true, .int 276 0, .ref 75, .none, .ref 76, .ref 77, .ref 78, .int 436 0, .int 20 0, .str (Str.ofString "/claim/cut.py") 437].toArray), #[]⟩
noncomputable def o80 (_P : Params) : Obj := ⟨.type "function", none, .func (fnOf (Str.ofString "in_table_b1") (Str.ofString "in_table_b1") (parOf (pS 12)) (bodOf (pS 12)) (scoOf (pS 12)) (.none) (.none) .none (.str (Str.ofString "cpy313.stringprep") 370) none (.ref 79) .none), #[]⟩
noncomputable def ge22 (P : Params) : DictEntry := ⟨PyData.keyHash P (Str.ofString "b3_exceptions"), .str (Str.ofString "b3_exceptions") 2389, .ref 81⟩
noncomputable def o3v13 (P : Params) : Obj := ⟨.type "dict", none, (.dict [ge19 P, ge1 P, ge2 P, ge3 P, ge4 P, ge5 P, ge6 P, ge7 P, ge8 P, ge9 P, ge10 P, ge12 P, ge13 P, ge15 P, ge16 P, ge17 P, ge18 P, ge20 P, ge21 P, ge22 P].toArray 20), #[]⟩
noncomputable def ge23 (P : Params) : DictEntry := ⟨PyData.keyHash P (Str.ofString "map_table_b3"), .str (Str.ofString "map_table_b3") 2397, .ref 126⟩
noncomputable def o3v14 (P : Params) : Obj := ⟨.type "dict", none, (.dict [ge19 P, ge1 P, ge2 P, ge3 P, ge4 P, ge5 P, ge6 P, ge7 P, ge8 P, ge9 P, ge10 P, ge12 P, ge13 P, ge15 P, ge16 P, ge17 P, ge18 P, ge20 P, ge21 P, ge22 P, ge23 P].toArray 21), #[]⟩
noncomputable def o29v5 (_P : Params) : Obj := ⟨.none, none, (.fields [.int 2 0, .int 0 0, .ref 37, .int 7 0, .int 0 0, .ref 44, .int 16 0, .int 0 0, .ref 61, .int 20 0, .int 0 0, .ref 79, .int 23 0, .int 0 0, .ref 125].toArray), #[]⟩
noncomputable def o120 (_P : Params) : Obj := ⟨.type "tuple", none, (.seq [].toArray 0), #[]⟩
noncomputable def o121 (_P : Params) : Obj := ⟨.none, none, (.fields [].toArray), #[]⟩
noncomputable def o122 (_P : Params) : Obj := ⟨.type "tuple", none, (.seq [.str (Str.ofString "code") 2393, .str (Str.ofString "r") 2394].toArray 0), #[]⟩
noncomputable def o123 (_P : Params) : Obj := ⟨.type "tuple", none, (.seq [].toArray 0), #[]⟩
noncomputable def o124 (_P : Params) : Obj := cdF "map_table_b3" "map_table_b3" (pS 14)
noncomputable def o125 (_P : Params) : Obj := ⟨.type "code", none, (.fields [.str (Str.ofString "map_table_b3") 2390, .str (Str.ofString "map_table_b3") 2391, .str (Str.ofString "/claim/cut.py") 2392, .int 23 0, .int 1 0, .int 0 0, .int 0 0, .int 3 0, .ref 120, .bool true, .int 276 0, .ref 121, .none, .ref 122, .ref 123, .ref 124, .int 2395 0, .int 23 0, .str (Str.ofString "/claim/cut.py") 2396].toArray), #[]⟩
noncomputable def o126 (_P : Params) : Obj := ⟨.type "function", none, .func (fnOf (Str.ofString "map_table_b3") (Str.ofString "map_table_b3") (parOf (pS 14)) (bodOf (pS 14)) (scoOf (pS 14)) (.none) (.none) .none (.str (Str.ofString "cpy313.stringprep") 370) none (.ref 125) .none), #[]⟩
noncomputable def ge24 (P : Params) : DictEntry := ⟨PyData.keyHash P (Str.ofString "__name__"), .str (Str.ofString "__name__") 165, .str (Str.ofString "cpy313.wsgiref.headers") 2398⟩
noncomputable def o3v15 (P : Params) : Obj := ⟨.type "dict", none, (.dict [ge24 P, ge1 P, ge2 P, ge3 P, ge4 P, ge5 P, ge6 P, ge7 P, ge8 P, ge9 P, ge10 P, ge12 P, ge13 P, ge15 P, ge16 P, ge17 P, ge18 P, ge20 P, ge21 P, ge22 P, ge23 P].toArray 21), #[]⟩
noncomputable def ge25 (P : Params) : DictEntry := ⟨PyData.keyHash P (Str.ofString "_name_disallowed_re"), .str (Str.ofString "_name_disallowed_re") 2425, .ref 131⟩
noncomputable def o3v16 (P : Params) : Obj := ⟨.type "dict", none, (.dict [ge24 P, ge1 P, ge2 P, ge3 P, ge4 P, ge5 P, ge6 P, ge7 P, ge8 P, ge9 P, ge10 P, ge12 P, ge13 P, ge15 P, ge16 P, ge17 P, ge18 P, ge20 P, ge21 P, ge22 P, ge23 P, ge25 P].toArray 22), #[]⟩
noncomputable def o127 (_P : Params) : Obj := ⟨.type "list", none, (.seq [.int 14 2403, .int 10 2404, .int 4 2405, .int 1 2406, .int 1 2407, .int 22 2408, .int 0 2409, .int 31 2410, .int 16 2411, .int 127 2412, .int 0 2413, .int 13 2414, .int 7 2415, .int 22 2416, .int 0 2417, .int 31 2418, .int 16 2419, .int 127 2420, .int 0 2421, .int 1 2422].toArray 0), #[]⟩
noncomputable def o128 (_P : Params) : Obj := ⟨.type "dict", none, (.dict [].toArray 0), #[]⟩
noncomputable def o129 (_P : Params) : Obj := ⟨.type "tuple", none, (.seq [.none].toArray 0), #[]⟩
noncomputable def o130 (_P : Params) : Obj := ⟨.type "tuple", none, (.seq [.int 14 0, .int 10 0, .int 4 0, .int 1 0, .int 1 0, .int 22 0, .int 0 0, .int 31 0, .int 16 0, .int 127 0, .int 0 0, .int 13 0, .int 7 0, .int 22 0, .int 0 0, .int 31 0, .int 16 0, .int 127 0, .int 0 0, .int 1 0].toArray 0), #[]⟩
noncomputable def o131 (_P : Params) : Obj := ⟨.type "re.Pattern", none, (.fields [.str (Str.ofString "[\\x00-\\x1F\\x7F]") 2401, .int 32 2424, .int 0 0, .none, .none, .ref 130, .int 0 0].toArray), #[]⟩
noncomputable def ge26 (P : Params) : DictEntry := ⟨PyData.keyHash P (Str.ofString "_value_disallowed_re"), .str (Str.ofString "_value_disallowed_re") 2459, .ref 136⟩
noncomputable def o3v17 (P : Params) : Obj := ⟨.type "dict", none, (.dict [ge24 P, ge1 P, ge2 P, ge3 P, ge4 P, ge5 P, ge6 P, ge7 P, ge8 P, ge9 P, ge10 P, ge12 P, ge13 P, ge15 P, ge16 P, ge17 P, ge18 P, ge20 P, ge21 P, ge22 P, ge23 P, ge25 P, ge26 P].toArray 23), #[]⟩
noncomputable def o132 (_P : Params) : Obj := ⟨.type "list", none, (.seq [.int 14 2429, .int 14 2430, .int 4 2431, .int 1 2432, .int 1 2433, .int 9 2434, .int 4294966783 2435, .int 0 2436, .int 0 2437, .int 2147483648 2438, .int 0 2439, .int 0 2440, .int 0 2441, .int 0 2442, .int 0 2443, .int 13 2444, .int 11 2445, .int 9 2446, .int 4294966783 2447, .int 0 2448, .int 0 2449, .int 2147483648 2450, .int 0 2451, .int 0 2452, .int 0 2453, .int 0 2454, .int 0 2455, .int 1 2456].toArray 0), #[]⟩
noncomputable def o133 (_P : Params) : Obj := ⟨.type "dict", none, (.dict [].toArray 0), #[]⟩
noncomputable def o134 (_P : Params) : Obj := ⟨.type "tuple", none, (.seq [.none].toArray 0), #[]⟩
noncomputable def o135 (_P : Params) : Obj := ⟨.type "tuple", none, (.seq [.int 14 0, .int 14 0, .int 4 0, .int 1 0, .int 1 0, .int 9 0, .int 4294966783 0, .int 0 0, .int 0 0, .int 2147483648 0, .int 0 0, .int 0 0, .int 0 0, .int 0 0, .int 0 0, .int 13 0, .int 11 0, .int 9 0, .int 4294966783 0, .int 0 0, .int 0 0, .int 2147483648 0, .int 0 0, .int 0 0, .int 0 0, .int 0 0, .int 0 0, .int 1 0].toArray 0), #[]⟩
noncomputable def o136 (_P : Params) : Obj := ⟨.type "re.Pattern", none, (.fields [.str (Str.ofString "[\\x00-\\x08\\x0A-\\x1F\\x7F]") 2427, .int 32 2458, .int 0 0, .none, .none, .ref 135, .int 0 0].toArray), #[]⟩
noncomputable def ge27 (P : Params) : DictEntry := ⟨PyData.keyHash P (Str.ofString "Headers"), .str (Str.ofString "Headers") 2615, .ref 259⟩
noncomputable def o3v18 (P : Params) : Obj := ⟨.type "dict", none, (.dict [ge24 P, ge1 P, ge2 P, ge3 P, ge4 P, ge5 P, ge6 P, ge7 P, ge8 P, ge9 P, ge10 P, ge12 P, ge13 P, ge15 P, ge16 P, ge17 P, ge18 P, ge20 P, ge21 P, ge22 P, ge23 P, ge25 P, ge26 P, ge27 P].toArray 24), #[]⟩
noncomputable def o29v6 (_P : Params) : Obj := ⟨.none, none, (.fields [.int 2 0, .int 0 0, .ref 37, .int 7 0, .int 0 0, .ref 44, .int 16 0, .int 0 0, .ref 61, .int 20 0, .int 0 0, .ref 79, .int 23 0, .int 0 0, .ref 125, .int 31 0, .int 0 0, .ref 142].toArray), #[]⟩
noncomputable def o137 (_P : Params) : Obj := ⟨.type "tuple", none, (.seq [].toArray 0), #[]⟩
noncomputable def o138 (_P : Params) : Obj := ⟨.type "builtin_function_or_method", none, (.fields [.builtin "type.__prepare__", .type "type"].toArray), #[]⟩
noncomputable def o139 (P : Params) : Obj := ⟨.type "dict", none, (.dict [⟨PyData.keyHash P (Str.ofString "__module__"), .str (Str.ofString "__module__") 2467, .str (Str.ofString "cpy313.wsgiref.headers") 2398⟩, ⟨PyData.keyHash P (Str.ofString "__qualname__"), .str (Str.ofString "__qualname__") 2469, .str (Str.ofString "Headers") 2468⟩, ⟨PyData.keyHash P (Str.ofString "__firstlineno__"), .str (Str.ofString "__firstlineno__") 2471, .int 31 2470⟩, ⟨PyData.keyHash P (Str.ofString "__init__"), .str (Str.ofString "__init__") 2481, .ref 151⟩, ⟨PyData.keyHash P (Str.ofString "_convert_string_type"), .str (Str.ofString "_convert_string_type") 2491, .ref 158⟩, ⟨PyData.keyHash P (Str.ofString "__len__"), .str (Str.ofString "__len__") 2498, .ref 165⟩, ⟨PyData.keyHash P (Str.ofString "__setitem__"), .str (Str.ofString "__setitem__") 2507, .ref 172⟩, ⟨PyData.keyHash P (Str.ofString "__delitem__"), .str (Str.ofString "__delitem__") 2513, .ref 177⟩, ⟨PyData.keyHash P (Str.ofString "__getitem__"), .str (Str.ofString "__getitem__") 2521, .ref 184⟩, ⟨PyData.keyHash P (Str.ofString "__contains__"), .str (Str.ofString "__contains__") 2529, .ref 191⟩, ⟨PyData.keyHash P (Str.ofString "get_all"), .str (Str.ofString "get_all") 2537, .ref 198⟩, ⟨PyData.keyHash P (Str.ofString "get"), .str (Str.ofString "get") 2548, .ref 206⟩, ⟨PyData.keyHash P (Str.ofString "keys"), .str (Str.ofString "keys") 2554, .ref 211⟩, ⟨PyData.keyHash P (Str.ofString "values"), .str (Str.ofString "values") 2560, .ref 216⟩, ⟨PyData.keyHash P (Str.ofString "items"), .str (Str.ofString "items") 2567, .ref 223⟩, ⟨PyData.keyHash P (Str.ofString "__repr__"), .str (Str.ofString "__repr__") 2574, .ref 230⟩, ⟨PyData.keyHash P (Str.ofString "__str__"), .str (Str.ofString "__str__") 2580, .ref 235⟩, ⟨PyData.keyHash P (Str.ofString "__bytes__"), .str (Str.ofString "__bytes__") 2587, .ref 242⟩, ⟨PyData.keyHash P (Str.ofString "setdefault"), .str (Str.ofString "setdefault") 2596, .ref 249⟩, ⟨PyData.keyHash P (Str.ofString "add_header"), .str (Str.ofString "add_header") 2606, .ref 256⟩, ⟨PyData.keyHash P (Str.ofString "__static_attributes__"), .str (Str.ofString "__static_attributes__") 2608, .ref 257⟩].toArray 21), #[]⟩
noncomputable def o140 (_P : Params) : Obj := ⟨.type "tuple", none, (.seq [].toArray 0), #[]⟩
noncomputable def o141 (_P : Params) : Obj := ⟨.none, none, (.fields [.int 33 0, .int 4 0, .ref 150, .int 43 0, .int 4 0, .ref 157, .int 51 0, .int 4 0, .ref 164, .int 54 0, .int 4 0, .ref 171, .int 58 0, .int 4 0, .ref 176, .int 62 0, .int 4 0, .ref 183, .int 65 0, .int 4 0, .ref 190, .int 68 0, .int 4 0, .ref 197, .int 71 0, .int 4 0, .ref 205, .int 78 0, .int 4 0, .ref 210, .int 81 0, .int 4 0, .ref 215, .int 84 0, .int 4 0, .ref 222, .int 87 0, .int 4 0, .ref 229, .int 90 0, .int 4 0, .ref 234, .int 93 0, .int 4 0, .ref 241, .int 96 0, .int 4 0, .ref 248, .int 99 0, .int 4 0, .ref 255].toArray), #[]⟩
noncomputable def o142 (_P : Params) : Obj := ⟨.type "code", none, (.fields [.str (Str.ofString "Headers") 2462, .str (Str.ofString "Headers") 2463, .str (Str.ofString "/claim/cut.py") 2464, .int 31 0, .int 0 0, .int 0 0, .int 0 0, .int 0 0, .ref 140, .bool false, .int 276 0, .ref 141, .none, .none, .none, .none, .int 2465 0, .int 31 0, .str (Str.ofString "/claim/cut.py") 2466].toArray), #[]⟩
noncomputable def o143 (_P : Params) : Obj := ⟨.type "frame", none, .plain, #[(some (.ref 142)), (some (.ref 3)), (some (.ref 139)), none, (some (.str (Str.ofString "cpy313.wsgiref.headers") 2398)), none, (some (.ref 0))]⟩
noncomputable def o144 (_P : Params) : Obj := ⟨.type "tuple", none, (.seq [.none].toArray 0), #[]⟩
noncomputable def o145 (_P : Params) : Obj := ⟨.type "tuple", none, (.seq [].toArray 0), #[]⟩
noncomputable def o146 (_P : Params) : Obj := ⟨.none, none, (.fields [].toArray), #[]⟩
noncomputable def o147 (_P : Params) : Obj := ⟨.type "tuple", none, (.seq [.str (Str.ofString "self") 2475, .str (Str.ofString "headers") 2476, .str (Str.ofString "k") 2477, .str (Str.ofString "v") 2478].toArray 0), #[]⟩
noncomputable def o148 (_P : Params) : Obj := ⟨.type "tuple", none, (.seq [].toArray 0), #[]⟩
noncomputable def o149 (_P : Params) : Obj := cdF "__init__" "Headers.__init__" (pM 0)
noncomputable def o150 (_P : Params) : Obj := ⟨.type "code", none, (.fields [.str (Str.ofString "__init__") 2472, .str (Str.ofString "Headers.__init__") 2473, .str (Str.ofString "/claim/cut.py") 2474, .int 33 0, .int 2 0, .int 0 0, .int 0 0, .int 3 0, .ref 145, .bool true, .int 276 0, .ref 146, .none, .ref 147, .ref 148, .ref 149, .int 2479 0, .int 33 0, .str (Str.ofString "/claim/cut.py") 2480].toArray), #[]⟩
noncomputable def o151 (_P : Params) : Obj := ⟨.type "function", none, .func (fnOf (Str.ofString "__init__") (Str.ofString "Headers.__init__") (parOf (pM 0)) (bodOf (pM 0)) (scoOf (pM 0)) (.ref 144) (.none) .none (.str (Str.ofString "cpy313.wsgiref.headers") 2398) none (.ref 150) .none), #[]⟩
noncomputable def o152 (_P : Params) : Obj := ⟨.type "tuple", none, (.seq [].toArray 0), #[]⟩
noncomputable def o153 (_P : Params) : Obj := ⟨.none, none, (.fields [].toArray), #[]⟩
noncomputable def o154 (_P : Params) : Obj := ⟨.type "tuple", none, (.seq [.str (Str.ofString "self") 2485, .str (Str.ofString "value") 2486, .str (Str.ofString "name") 2487, .str (Str.ofString "regex") 2488].toArray 0), #[]⟩
noncomputable def o155 (_P : Params) : Obj := ⟨.type "tuple", none, (.seq [].toArray 0), #[]⟩
noncomputable def o156 (_P : Params) : Obj := cdF "_convert_string_type" "Headers._convert_string_type" (pM 1)
noncomputable def o157 (_P : Params) : Obj := ⟨.type "code", none, (.fields [.str (Str.ofString "_convert_string_type") 2482, .str (Str.ofString "Headers._convert_string_type") 2483, .str (Str.ofString "/claim/cut.py") 2484, .int 43 0, .int 2 0, .int 0 0, .int 1 0, .int 3 0, .ref 152, .bool true, .int 276 0, .ref 153, .none, .ref 154, .ref 155, .ref 156, .int 2489 0, .int 43 0, .str (Str.ofString "/claim/cut.py") 2490].toArray), #[]⟩
noncomputable def o158 (_P : Params) : Obj := ⟨.type "function", none, .func (fnOf (Str.ofString "_convert_string_type") (Str.ofString "Headers._convert_string_type") (parOf (pM 1)) (bodOf (pM 1)) (scoOf (pM 1)) (.none) (.none) .none (.str (Str.ofString "cpy313.wsgiref.headers") 2398) none (.ref 157) .none), #[]⟩
noncomputable def o159 (_P : Params) : Obj := ⟨.type "tuple", none, (.seq [].toArray 0), #[]⟩
noncomputable def o160 (_P : Params) : Obj := ⟨.none, none, (.fields [].toArray), #[]⟩
noncomputable def o161 (_P : Params) : Obj := ⟨.type "tuple", none, (.seq [.str (Str.ofString "self") 2495].toArray 0), #[]⟩
noncomputable def o162 (_P : Params) : Obj := ⟨.type "tuple", none, (.seq [].toArray 0), #[]⟩
noncomputable def o163 (_P : Params) : Obj := cdF "__len__" "Headers.__len__" (pM 2)
noncomputable def o164 (_P : Params) : Obj := ⟨.type "code", none, (.fields [.str (Str.ofString "__len__") 2492, .str (Str.ofString "Headers.__len__") 2493, .str (Str.ofString "/claim/cut.py") 2494, .int 51 0, .int 1 0, .int 0 0, .int 0 0, .int 3 0, .ref 159, .bool true, .int 276 0, .ref 160, .none, .ref 161, .ref 162, .ref 163, .int 2496 0, .int 51 0, .str (Str.ofString "/claim/cut.py") 2497].toArray), #[]⟩
noncomputable def o165 (_P : Params) : Obj := ⟨.type "function", none, .func (fnOf (Str.ofString "__len__") (Str.ofString "Headers.__len__") (parOf (pM 2)) (bodOf (pM 2)) (scoOf (pM 2)) (.none) (.none) .none (.str (Str.ofString "cpy313.wsgiref.headers") 2398) none (.ref 164) .none), #[]⟩
noncomputable def o166 (_P : Params) : Obj := ⟨.type "tuple", none, (.seq [].toArray 0), #[]⟩
noncomputable def o167 (_P : Params) : Obj := ⟨.none, none, (.fields [].toArray), #[]⟩
noncomputable def o168 (_P : Params) : Obj := ⟨.type "tuple", none, (.seq [.str (Str.ofString "self") 2502, .str (Str.ofString "name") 2503, .str (Str.ofString "val") 2504].toArray 0), #[]⟩
noncomputable def o169 (_P : Params) : Obj := ⟨.type "tuple", none, (.seq [].toArray 0), #[]⟩
noncomputable def o170 (_P : Params) : Obj := cdF "__setitem__" "Headers.__setitem__" (pM 3)
noncomputable def o171 (_P : Params) : Obj := ⟨.type "code", none, (.fields [.str (Str.ofString "__setitem__") 2499, .str (Str.ofString "Headers.__setitem__") 2500, .str (Str.ofString "/claim/cut.py") 2501, .int 54 0, .int 3 0, .int 0 0, .int 0 0, .int 3 0, .ref 166, .bool true, .int 276 0, .ref 167, .none, .ref 168, .ref 169, .ref 170, .int 2505 0, .int 54 0, .str (Str.ofString "/claim/cut.py") 2506].toArray), #[]⟩
noncomputable def o172 (_P : Params) : Obj := ⟨.type "function", none, .func (fnOf (Str.ofString "__setitem__") (Str.ofString "Headers.__setitem__") (parOf (pM 3)) (bodOf (pM 3)) (scoOf (pM 3)) (.none) (.none) .none (.str (Str.ofString "cpy313.wsgiref.headers") 2398) none (.ref 171) .none), #[]⟩
noncomputable def o173 (_P : Params) : Obj := ⟨.type "tuple", none, (.seq [].toArray 0), #[]⟩
noncomputable def o174 (_P : Params) : Obj := ⟨.none, none, (.fields [].toArray), #[]⟩
noncomputable def o175 (_P : Params) : Obj := cdF "__delitem__" "Headers.__delitem__" (pM 4)
noncomputable def o176 (_P : Params) : Obj := ⟨.type "code", none, (.fields [.str (Str.ofString "__delitem__") 2508, .str (Str.ofString "Headers.__delitem__") 2509, .str (Str.ofString "/claim/cut.py") 2510, .int 58 0, .int 2 0, .int 0 0, .int 0 0, .int 3 0, .ref 173, .bool true, .int 276 0, .ref 174, .none, .none, .none, .ref 175, .int 2511 0, .int 58 0, .str (Str.ofString "/claim/cut.py") 2512].toArray), #[]⟩
noncomputable def o177 (_P : Params) : Obj := ⟨.type "function", none, .func (fnOf (Str.ofString "__delitem__") (Str.ofString "Headers.__delitem__") (parOf (pM 4)) (bodOf (pM 4)) (scoOf (pM 4)) (.none) (.none) .none (.str (Str.ofString "cpy313.wsgiref.headers") 2398) none (.ref 176) .none), #[]⟩
noncomputable def o178 (_P : Params) : Obj := ⟨.type "tuple", none, (.seq [].toArray 0), #[]⟩
noncomputable def o179 (_P : Params) : Obj := ⟨.none, none, (.fields [].toArray), #[]⟩
noncomputable def o180 (_P : Params) : Obj := ⟨.type "tuple", none, (.seq [.str (Str.ofString "self") 2517, .str (Str.ofString "name") 2518].toArray 0), #[]⟩
noncomputable def o181 (_P : Params) : Obj := ⟨.type "tuple", none, (.seq [].toArray 0), #[]⟩
noncomputable def o182 (_P : Params) : Obj := cdF "__getitem__" "Headers.__getitem__" (pM 5)
noncomputable def o183 (_P : Params) : Obj := ⟨.type "code", none, (.fields [.str (Str.ofString "__getitem__") 2514, .str (Str.ofString "Headers.__getitem__") 2515, .str (Str.ofString "/claim/cut.py") 2516, .int 62 0, .int 2 0, .int 0 0, .int 0 0, .int 3 0, .ref 178, .bool true, .int 276 0, .ref 179, .none, .ref 180, .ref 181, .ref 182, .int 2519 0, .int 62 0, .str (Str.ofString "/claim/cut.py") 2520].toArray), #[]⟩
noncomputable def o184 (_P : Params) : Obj := ⟨.type "function", none, .func (fnOf (Str.ofString "__getitem__") (Str.ofString "Headers.__getitem__") (parOf (pM 5)) (bodOf (pM 5)) (scoOf (pM 5)) (.none) (.none) .none (.str (Str.ofString "cpy313.wsgiref.headers") 2398) none (.ref 183) .none), #[]⟩
noncomputable def o185 (_P : Params) : Obj := ⟨.type "tuple", none, (.seq [].toArray 0), #[]⟩
noncomputable def o186 (_P : Params) : Obj := ⟨.none, none, (.fields [].toArray), #[]⟩
noncomputable def o187 (_P : Params) : Obj := ⟨.type "tuple", none, (.seq [.str (Str.ofString "self") 2525, .str (Str.ofString "name") 2526].toArray 0), #[]⟩
noncomputable def o188 (_P : Params) : Obj := ⟨.type "tuple", none, (.seq [].toArray 0), #[]⟩
noncomputable def o189 (_P : Params) : Obj := cdF "__contains__" "Headers.__contains__" (pM 6)
noncomputable def o190 (_P : Params) : Obj := ⟨.type "code", none, (.fields [.str (Str.ofString "__contains__") 2522, .str (Str.ofString "Headers.__contains__") 2523, .str (Str.ofString "/claim/cut.py") 2524, .int 65 0, .int 2 0, .int 0 0, .int 0 0, .int 3 0, .ref 185, .bool true, .int 276 0, .ref 186, .none, .ref 187, .ref 188, .ref 189, .int 2527 0, .int 65 0, .str (Str.ofString "/claim/cut.py") 2528].toArray), #[]⟩
noncomputable def o191 (_P : Params) : Obj := ⟨.type "function", none, .func (fnOf (Str.ofString "__contains__") (Str.ofString "Headers.__contains__") (parOf (pM 6)) (bodOf (pM 6)) (scoOf (pM 6)) (.none) (.none) .none (.str (Str.ofString "cpy313.wsgiref.headers") 2398) none (.ref 190) .none), #[]⟩
noncomputable def o192 (_P : Params) : Obj := ⟨.type "tuple", none, (.seq [].toArray 0), #[]⟩
noncomputable def o193 (_P : Params) : Obj := ⟨.none, none, (.fields [].toArray), #[]⟩
noncomputable def o194 (_P : Params) : Obj := ⟨.type "tuple", none, (.seq [.str (Str.ofString "self") 2533, .str (Str.ofString "name") 2534].toArray 0), #[]⟩
noncomputable def o195 (_P : Params) : Obj := ⟨.type "tuple", none, (.seq [].toArray 0), #[]⟩
noncomputable def o196 (_P : Params) : Obj := cdF "get_all" "Headers.get_all" (pM 7)
noncomputable def o197 (_P : Params) : Obj := ⟨.type "code", none, (.fields [.str (Str.ofString "get_all") 2530, .str (Str.ofString "Headers.get_all") 2531, .str (Str.ofString "/claim/cut.py") 2532, .int 68 0, .int 2 0, .int 0 0, .int 0 0, .int 3 0, .ref 192, .bool true, .int 276 0, .ref 193, .none, .ref 194, .ref 195, .ref 196, .int 2535 0, .int 68 0, .str (Str.ofString "/claim/cut.py") 2536].toArray), #[]⟩
noncomputable def o198 (_P : Params) : Obj := ⟨.type "function", none, .func (fnOf (Str.ofString "get_all") (Str.ofString "Headers.get_all") (parOf (pM 7)) (bodOf (pM 7)) (scoOf (pM 7)) (.none) (.none) .none (.str (Str.ofString "cpy313.wsgiref.headers") 2398) none (.ref 197) .none), #[]⟩
noncomputable def o199 (_P : Params) : Obj := ⟨.type "tuple", none, (.seq [.none].toArray 0), #[]⟩
noncomputable def o200 (_P : Params) : Obj := ⟨.type "tuple", none, (.seq [].toArray 0), #[]⟩
noncomputable def o201 (_P : Params) : Obj := ⟨.none, none, (.fields [].toArray), #[]⟩
noncomputable def o202 (_P : Params) : Obj := ⟨.type "tuple", none, (.seq [.str (Str.ofString "self") 2541, .str (Str.ofString "name") 2542, .str (Str.ofString "default") 2543, .str (Str.ofString "k") 2544, .str (Str.ofString "v") 2545].toArray 0), #[]⟩
noncomputable def o203 (_P : Params) : Obj := ⟨.type "tuple", none, (.seq [].toArray 0), #[]⟩
noncomputable def o204 (_P : Params) : Obj := cdF "get" "Headers.get" (pM 8)
noncomputable def o205 (_P : Params) : Obj := ⟨.type "code", none, (.fields [.str (Str.ofString "get") 2538, .str (Str.ofString "Headers.get") 2539, .str (Str.ofString "/claim/cut.py") 2540, .int 71 0, .int 3 0, .int 0 0, .int 0 0, .int 3 0, .ref 200, .bool true, .int 276 0, .ref 201, .none, .ref 202, .ref 203, .ref 204, .int 2546 0, .int 71 0, .str (Str.ofString "/claim/cut.py") 2547].toArray), #[]⟩
noncomputable def o206 (_P : Params) : Obj := ⟨.type "function", none, .func (fnOf (Str.ofString "get") (Str.ofString "Headers.get") (parOf (pM 8)) (bodOf (pM 8)) (scoOf (pM 8)) (.ref 199) (.none) .none (.str (Str.ofString "cpy313.wsgiref.headers") 2398) none (.ref 205) .none), #[]⟩
noncomputable def o207 (_P : Params) : Obj := ⟨.type "tuple", none, (.seq [].toArray 0), #[]⟩
noncomputable def o208 (_P : Params) : Obj := ⟨.none, none, (.fields [].toArray), #[]⟩
noncomputable def o209 (_P : Params) : Obj := cdF "keys" "Headers.keys" (pM 9)
noncomputable def o210 (_P : Params) : Obj := ⟨.type "code", none, (.fields [.str (Str.ofString "keys") 2549, .str (Str.ofString "Headers.keys") 2550, .str (Str.ofString "/claim/cut.py") 2551, .int 78 0, .int 1 0, .int 0 0, .int 0 0, .int 3 0, .ref 207, .bool true, .int 276 0, .ref 208, .none, .none, .none, .ref 209, .int 2552 0, .int 78 0, .str (Str.ofString "/claim/cut.py") 2553].toArray), #[]⟩
noncomputable def o211 (_P : Params) : Obj := ⟨.type "function", none, .func (fnOf (Str.ofString "keys") (Str.ofString "Headers.keys") (parOf (pM 9)) (bodOf (pM 9)) (scoOf (pM 9)) (.none) (.none) .none (.str (Str.ofString "cpy313.wsgiref.headers") 2398) none (.ref 210) .none), #[]⟩
noncomputable def o212 (_P : Params) : Obj := ⟨.type "tuple", none, (.seq [].toArray 0), #[]⟩
noncomputable def o213 (_P : Params) : Obj := ⟨.none, none, (.fields [].toArray), #[]⟩
noncomputable def o214 (_P : Params) : Obj := cdF "values" "Headers.values" (pM 10)
noncomputable def o215 (_P : Params) : Obj := ⟨.type "code", none, (.fields [.str (Str.ofString "values") 2555, .str (Str.ofString "Headers.values") 2556, .str (Str.ofString "/claim/cut.py") 2557, .int 81 0, .int 1 0, .int 0 0, .int 0 0, .int 3 0, .ref 212, .bool true, .int 276 0, .ref 213, .none, .none, .none, .ref 214, .int 2558 0, .int 81 0, .str (Str.ofString "/claim/cut.py") 2559].toArray), #[]⟩
noncomputable def o216 (_P : Params) : Obj := ⟨.type "function", none, .func (fnOf (Str.ofString "values") (Str.ofString "Headers.values") (parOf (pM 10)) (bodOf (pM 10)) (scoOf (pM 10)) (.none) (.none) .none (.str (Str.ofString "cpy313.wsgiref.headers") 2398) none (.ref 215) .none), #[]⟩
noncomputable def o217 (_P : Params) : Obj := ⟨.type "tuple", none, (.seq [].toArray 0), #[]⟩
noncomputable def o218 (_P : Params) : Obj := ⟨.none, none, (.fields [].toArray), #[]⟩
noncomputable def o219 (_P : Params) : Obj := ⟨.type "tuple", none, (.seq [.str (Str.ofString "self") 2564].toArray 0), #[]⟩
noncomputable def o220 (_P : Params) : Obj := ⟨.type "tuple", none, (.seq [].toArray 0), #[]⟩
noncomputable def o221 (_P : Params) : Obj := cdF "items" "Headers.items" (pM 11)
noncomputable def o222 (_P : Params) : Obj := ⟨.type "code", none, (.fields [.str (Str.ofString "items") 2561, .str (Str.ofString "Headers.items") 2562, .str (Str.ofString "/claim/cut.py") 2563, .int 84 0, .int 1 0, .int 0 0, .int 0 0, .int 3 0, .ref 217, .bool true, .int 276 0, .ref 218, .none, .ref 219, .ref 220, .ref 221, .int 2565 0, .int 84 0, .str (Str.ofString "/claim/cut.py") 2566].toArray), #[]⟩
noncomputable def o223 (_P : Params) : Obj := ⟨.type "function", none, .func (fnOf (Str.ofString "items") (Str.ofString "Headers.items") (parOf (pM 11)) (bodOf (pM 11)) (scoOf (pM 11)) (.none) (.none) .none (.str (Str.ofString "cpy313.wsgiref.headers") 2398) none (.ref 222) .none), #[]⟩
noncomputable def o224 (_P : Params) : Obj := ⟨.type "tuple", none, (.seq [].toArray 0), #[]⟩
noncomputable def o225 (_P : Params) : Obj := ⟨.none, none, (.fields [].toArray), #[]⟩
noncomputable def o226 (_P : Params) : Obj := ⟨.type "tuple", none, (.seq [.str (Str.ofString "self") 2571].toArray 0), #[]⟩
noncomputable def o227 (_P : Params) : Obj := ⟨.type "tuple", none, (.seq [].toArray 0), #[]⟩
noncomputable def o228 (_P : Params) : Obj := cdF "__repr__" "Headers.__repr__" (pM 12)
noncomputable def o229 (_P : Params) : Obj := ⟨.type "code", none, (.fields [.str (Str.ofString "__repr__") 2568, .str (Str.ofString "Headers.__repr__") 2569, .str (Str.ofString "/claim/cut.py") 2570, .int 87 0, .int 1 0, .int 0 0, .int 0 0, .int 3 0, .ref 224, .bool true, .int 276 0, .ref 225, .none, .ref 226, .ref 227, .ref 228, .int 2572 0, .int 87 0, .str (Str.ofString "/claim/cut.py") 2573].toArray), #[]⟩
noncomputable def o230 (_P : Params) : Obj := ⟨.type "function", none, .func (fnOf (Str.ofString "__repr__") (Str.ofString "Headers.__repr__") (parOf (pM 12)) (bodOf (pM 12)) (scoOf (pM 12)) (.none) (.none) .none (.str (Str.ofString "cpy313.wsgiref.headers") 2398) none (.ref 229) .none), #[]⟩
noncomputable def o231 (_P : Params) : Obj := ⟨.type "tuple", none, (.seq [].toArray 0), #[]⟩
noncomputable def o232 (_P : Params) : Obj := ⟨.none, none, (.fields [].toArray), #[]⟩
noncomputable def o233 (_P : Params) : Obj := cdF "__str__" "Headers.__str__" (pM 13)
noncomputable def o234 (_P : Params) : Obj := ⟨.type "code", none, (.fields [.str (Str.ofString "__str__") 2575, .str (Str.ofString "Headers.__str__") 2576, .str (Str.ofString "/claim/cut.py") 2577, .int 90 0, .int 1 0, .int 0 0, .int 0 0, .int 3 0, .ref 231, .bool true, .int 276 0, .ref 232, .none, .none, .none, .ref 233, .int 2578 0, .int 90 0, .str (Str.ofString "/claim/cut.py") 2579].toArray), #[]⟩
noncomputable def o235 (_P : Params) : Obj := ⟨.type "function", none, .func (fnOf (Str.ofString "__str__") (Str.ofString "Headers.__str__") (parOf (pM 13)) (bodOf (pM 13)) (scoOf (pM 13)) (.none) (.none) .none (.str (Str.ofString "cpy313.wsgiref.headers") 2398) none (.ref 234) .none), #[]⟩
noncomputable def o236 (_P : Params) : Obj := ⟨.type "tuple", none, (.seq [].toArray 0), #[]⟩
noncomputable def o237 (_P : Params) : Obj := ⟨.none, none, (.fields [].toArray), #[]⟩
noncomputable def o238 (_P : Params) : Obj := ⟨.type "tuple", none, (.seq [.str (Str.ofString "self") 2584].toArray 0), #[]⟩
noncomputable def o239 (_P : Params) : Obj := ⟨.type "tuple", none, (.seq [].toArray 0), #[]⟩
noncomputable def o240 (_P : Params) : Obj := cdF "__bytes__" "Headers.__bytes__" (pM 14)
noncomputable def o241 (_P : Params) : Obj := ⟨.type "code", none, (.fields [.str (Str.ofString "__bytes__") 2581, .str (Str.ofString "Headers.__bytes__") 2582, .str (Str.ofString "/claim/cut.py") 2583, .int 93 0, .int 1 0, .int 0 0, .int 0 0, .int 3 0, .ref 236, .bool true, .int 276 0, .ref 237, .none, .ref 238, .ref 239, .ref 240, .int 2585 0, .int 93 0, .str (Str.ofString "/claim/cut.py") 2586].toArray), #[]⟩
noncomputable def o242 (_P : Params) : Obj := ⟨.type "function", none, .func (fnOf (Str.ofString "__bytes__") (Str.ofString "Headers.__bytes__") (parOf (pM 14)) (bodOf (pM 14)) (scoOf (pM 14)) (.none) (.none) .none (.str (Str.ofString "cpy313.wsgiref.headers") 2398) none (.ref 241) .none), #[]⟩
noncomputable def o243 (_P : Params) : Obj := ⟨.type "tuple", none, (.seq [].toArray 0), #[]⟩
noncomputable def o244 (_P : Params) : Obj := ⟨.none, none, (.fields [].toArray), #[]⟩
noncomputable def o245 (_P : Params) : Obj := ⟨.type "tuple", none, (.seq [.str (Str.ofString "self") 2591, .str (Str.ofString "name") 2592, .str (Str.ofString "value") 2593].toArray 0), #[]⟩
noncomputable def o246 (_P : Params) : Obj := ⟨.type "tuple", none, (.seq [].toArray 0), #[]⟩
noncomputable def o247 (_P : Params) : Obj := cdF "setdefault" "Headers.setdefault" (pM 15)
noncomputable def o248 (_P : Params) : Obj := ⟨.type "code", none, (.fields [.str (Str.ofString "setdefault") 2588, .str (Str.ofString "Headers.setdefault") 2589, .str (Str.ofString "/claim/cut.py") 2590, .int 96 0, .int 3 0, .int 0 0, .int 0 0, .int 3 0, .ref 243, .bool true, .int 276 0, .ref 244, .none, .ref 245, .ref 246, .ref 247, .int 2594 0, .int 96 0, .str (Str.ofString "/claim/cut.py") 2595].toArray), #[]⟩
noncomputable def o249 (_P : Params) : Obj := ⟨.type "function", none, .func (fnOf (Str.ofString "setdefault") (Str.ofString "Headers.setdefault") (parOf (pM 15)) (bodOf (pM 15)) (scoOf (pM 15)) (.none) (.none) .none (.str (Str.ofString "cpy313.wsgiref.headers") 2398) none (.ref 248) .none), #[]⟩
noncomputable def o250 (_P : Params) : Obj := ⟨.type "tuple", none, (.seq [].toArray 0), #[]⟩
noncomputable def o251 (_P : Params) : Obj := ⟨.none, none, (.fields [].toArray), #[]⟩
noncomputable def o252 (_P : Params) : Obj := ⟨.type "tuple", none, (.seq [.str (Str.ofString "self") 2600, .str (Str.ofString "_name") 2601, .str (Str.ofString "_value") 2602, .str (Str.ofString "_params") 2603].toArray 0), #[]⟩
noncomputable def o253 (_P : Params) : Obj := ⟨.type "tuple", none, (.seq [].toArray 0), #[]⟩
noncomputable def o254 (_P : Params) : Obj := cdF "add_header" "Headers.add_header" (pM 16)
noncomputable def o255 (_P : Params) : Obj := ⟨.type "code", none, (.fields [.str (Str.ofString "add_header") 2597, .str (Str.ofString "Headers.add_header") 2598, .str (Str.ofString "/claim/cut.py") 2599, .int 99 0, .int 3 0, .int 0 0, .int 0 0, .int 11 0, .ref 250, .bool true, .int 276 0, .ref 251, .none, .ref 252, .ref 253, .ref 254, .int 2604 0, .int 99 0, .str (Str.ofString "/claim/cut.py") 2605].toArray), #[]⟩
noncomputable def o256 (_P : Params) : Obj := ⟨.type "function", none, .func (fnOf (Str.ofString "add_header") (Str.ofString "Headers.add_header") (parOf (pM 16)) (bodOf (pM 16)) (scoOf (pM 16)) (.none) (.none) .none (.str (Str.ofString "cpy313.wsgiref.headers") 2398) none (.ref 255) .none), #[]⟩
noncomputable def o257 (_P : Params) : Obj := ⟨.type "tuple", none, (.seq [.str (Str.ofString "_headers") 2607].toArray 0), #[]⟩
noncomputable def o258 (P : Params) : Obj := ⟨.type "dict", none, (.dict [⟨PyData.keyHash P (Str.ofString "__module__"), .str (Str.ofString "__module__") 2467, .str (Str.ofString "cpy313.wsgiref.headers") 2398⟩, ⟨PyData.keyHash P (Str.ofString "__firstlineno__"), .str (Str.ofString "__firstlineno__") 2471, .int 31 2470⟩, ⟨PyData.keyHash P (Str.ofString "__init__"), .str (Str.ofString "__init__") 2481, .ref 151⟩, ⟨PyData.keyHash P (Str.ofString "_convert_string_type"), .str (Str.ofString "_convert_string_type") 2491, .ref 158⟩, ⟨PyData.keyHash P (Str.ofString "__len__"), .str (Str.ofString "__len__") 2498, .ref 165⟩, ⟨PyData.keyHash P (Str.ofString "__setitem__"), .str (Str.ofString "__setitem__") 2507, .ref 172⟩, ⟨PyData.keyHash P (Str.ofString "__delitem__"), .str (Str.ofString "__delitem__") 2513, .ref 177⟩, ⟨PyData.keyHash P (Str.ofString "__getitem__"), .str (Str.ofString "__getitem__") 2521, .ref 184⟩, ⟨PyData.keyHash P (Str.ofString "__contains__"), .str (Str.ofString "__contains__") 2529, .ref 191⟩, ⟨PyData.keyHash P (Str.ofString "get_all"), .str (Str.ofString "get_all") 2537, .ref 198⟩, ⟨PyData.keyHash P (Str.ofString "get"), .str (Str.ofString "get") 2548, .ref 206⟩, ⟨PyData.keyHash P (Str.ofString "keys"), .str (Str.ofString "keys") 2554, .ref 211⟩, ⟨PyData.keyHash P (Str.ofString "values"), .str (Str.ofString "values") 2560, .ref 216⟩, ⟨PyData.keyHash P (Str.ofString "items"), .str (Str.ofString "items") 2567, .ref 223⟩, ⟨PyData.keyHash P (Str.ofString "__repr__"), .str (Str.ofString "__repr__") 2574, .ref 230⟩, ⟨PyData.keyHash P (Str.ofString "__str__"), .str (Str.ofString "__str__") 2580, .ref 235⟩, ⟨PyData.keyHash P (Str.ofString "__bytes__"), .str (Str.ofString "__bytes__") 2587, .ref 242⟩, ⟨PyData.keyHash P (Str.ofString "setdefault"), .str (Str.ofString "setdefault") 2596, .ref 249⟩, ⟨PyData.keyHash P (Str.ofString "add_header"), .str (Str.ofString "add_header") 2606, .ref 256⟩, ⟨PyData.keyHash P (Str.ofString "__static_attributes__"), .str (Str.ofString "__static_attributes__") 2608, .ref 257⟩, ⟨PyData.keyHash P (Str.ofString "__dict__"), .str (Str.ofString "__dict__") 2610, .ref 260⟩, ⟨PyData.keyHash P (Str.ofString "__weakref__"), .str (Str.ofString "__weakref__") 2612, .ref 261⟩, ⟨PyData.keyHash P (Str.ofString "__doc__"), .str (Str.ofString "__doc__") 2613, .none⟩].toArray 4), #[]⟩
noncomputable def o259 (_P : Params) : Obj := ⟨.type "type", none, (.cls ⟨(Str.ofString "Headers"), [.type "object"], [.ref 259, .type "object"], 258, (Str.ofString "Headers"), true, [], [], false, none, false⟩), #[none, none, (some (.str (Str.ofString "Headers") 2460)), (some (.str (Str.ofString "Headers") 2468)), (some (.builtin "object.__new__")), (some (.bool true))]⟩
noncomputable def o260 (_P : Params) : Obj := ⟨.type "getset_descriptor", none, (.fields [.str (Str.ofString "__dict__") 2609, .ref 259, .builtin "function.__dict__", .builtin "function.__dict__#set"].toArray), #[]⟩
noncomputable def o261 (_P : Params) : Obj := ⟨.type "getset_descriptor", none, (.fields [.str (Str.ofString "__weakref__") 2611, .ref 259, .builtin "ExceptionGroup.__weakref__", .none].toArray), #[]⟩
noncomputable def o262 (_P : Params) : Obj := ⟨.type "super", none, (.fields [.ref 259, .ref 259, .ref 259].toArray), #[]⟩
noncomputable def o263 (_P : Params) : Obj := ⟨.type "builtin_function_or_method", none, (.fields [.builtin "object.__init_subclass__", .ref 259].toArray), #[]⟩
noncomputable def ge28 (P : Params) : DictEntry := ⟨PyData.keyHash P (Str.ofString "__name__"), .str (Str.ofString "__name__") 165, .str (Str.ofString "law_sh0062_01") 2616⟩
noncomputable def o3v19 (P : Params) : Obj := ⟨.type "dict", none, (.dict [ge28 P, ge1 P, ge2 P, ge3 P, ge4 P, ge5 P, ge6 P, ge7 P, ge8 P, ge9 P, ge10 P, ge12 P, ge13 P, ge15 P, ge16 P, ge17 P, ge18 P, ge20 P, ge21 P, ge22 P, ge23 P, ge25 P, ge26 P, ge27 P].toArray 24), #[]⟩
noncomputable def ge29 (P : Params) : DictEntry := ⟨PyData.keyHash P (Str.ofString "_law_numbers"), .str (Str.ofString "_law_numbers") 2623, .ref 268⟩
noncomputable def o3v20 (P : Params) : Obj := ⟨.type "dict", none, (.dict [ge28 P, ge1 P, ge2 P, ge3 P, ge4 P, ge5 P, ge6 P, ge7 P, ge8 P, ge9 P, ge10 P, ge12 P, ge13 P, ge15 P, ge16 P, ge17 P, ge18 P, ge20 P, ge21 P, ge22 P, ge23 P, ge25 P, ge26 P, ge27 P, ge29 P].toArray 25), #[]⟩
noncomputable def o29v7 (_P : Params) : Obj := ⟨.none, none, (.fields [.int 2 0, .int 0 0, .ref 37, .int 7 0, .int 0 0, .ref 44, .int 16 0, .int 0 0, .ref 61, .int 20 0, .int 0 0, .ref 79, .int 23 0, .int 0 0, .ref 125, .int 31 0, .int 0 0, .ref 142, .int 102 0, .int 0 0, .ref 267].toArray), #[]⟩
noncomputable def o264 (_P : Params) : Obj := ⟨.type "tuple", none, (.seq [].toArray 0), #[]⟩
noncomputable def o265 (_P : Params) : Obj := ⟨.none, none, (.fields [].toArray), #[]⟩
noncomputable def o266 (_P : Params) : Obj := cdF "_law_numbers" "_law_numbers" (pS 20)
noncomputable def o267 (_P : Params) : Obj := ⟨.type "code", none, (.fields [.str (Str.ofString "_law_numbers") 2618, .str (Str.ofString "_law_numbers") 2619, .str (Str.ofString "/claim/cut.py") 2620, .int 102 0, .int 1 0, .int 0 0, .int 0 0, .int 3 0, .ref 264, .bool true, .int 276 0, .ref 265, .none, .none, .none, .ref 266, .int 2621 0, .int 102 0, .str (Str.ofString "/claim/cut.py") 2622].toArray), #[]⟩
noncomputable def o268 (_P : Params) : Obj := ⟨.type "function", none, .func (fnOf (Str.ofString "_law_numbers") (Str.ofString "_law_numbers") (parOf (pS 20)) (bodOf (pS 20)) (scoOf (pS 20)) (.none) (.none) .none (.str (Str.ofString "law_sh0062_01") 2616) none (.ref 267) .none), #[]⟩
noncomputable def ge30 (P : Params) : DictEntry := ⟨PyData.keyHash P (Str.ofString "_law_hidden"), .str (Str.ofString "_law_hidden") 2631, .ref 275⟩
noncomputable def o3v21 (P : Params) : Obj := ⟨.type "dict", none, (.dict [ge28 P, ge1 P, ge2 P, ge3 P, ge4 P, ge5 P, ge6 P, ge7 P, ge8 P, ge9 P, ge10 P, ge12 P, ge13 P, ge15 P, ge16 P, ge17 P, ge18 P, ge20 P, ge21 P, ge22 P, ge23 P, ge25 P, ge26 P, ge27 P, ge29 P, ge30 P].toArray 26), #[]⟩
noncomputable def o29v8 (_P : Params) : Obj := ⟨.none, none, (.fields [.int 2 0, .int 0 0, .ref 37, .int 7 0, .int 0 0, .ref 44, .int 16 0, .int 0 0, .ref 61, .int 20 0, .int 0 0, .ref 79, .int 23 0, .int 0 0, .ref 125, .int 31 0, .int 0 0, .ref 142, .int 102 0, .int 0 0, .ref 267, .int 105 0, .int 0 0, .ref 274].toArray), #[]⟩
noncomputable def o269 (_P : Params) : Obj := ⟨.type "tuple", none, (.seq [].toArray 0), #[]⟩
noncomputable def o270 (_P : Params) : Obj := ⟨.none, none, (.fields [].toArray), #[]⟩
noncomputable def o271 (_P : Params) : Obj := ⟨.type "tuple", none, (.seq [.str (Str.ofString "number") 2627, .str (Str.ofString "codes") 2628].toArray 0), #[]⟩
noncomputable def o272 (_P : Params) : Obj := ⟨.type "tuple", none, (.seq [].toArray 0), #[]⟩
noncomputable def o273 (_P : Params) : Obj := cdF "_law_hidden" "_law_hidden" (pS 21)
noncomputable def o274 (_P : Params) : Obj := ⟨.type "code", none, (.fields [.str (Str.ofString "_law_hidden") 2624, .str (Str.ofString "_law_hidden") 2625, .str (Str.ofString "/claim/cut.py") 2626, .int 105 0, .int 1 0, .int 0 0, .int 0 0, .int 3 0, .ref 269, .bool true, .int 276 0, .ref 270, .none, .ref 271, .ref 272, .ref 273, .int 2629 0, .int 105 0, .str (Str.ofString "/claim/cut.py") 2630].toArray), #[]⟩
noncomputable def o275 (_P : Params) : Obj := ⟨.type "function", none, .func (fnOf (Str.ofString "_law_hidden") (Str.ofString "_law_hidden") (parOf (pS 21)) (bodOf (pS 21)) (scoOf (pS 21)) (.none) (.none) .none (.str (Str.ofString "law_sh0062_01") 2616) none (.ref 274) .none), #[]⟩
noncomputable def ge31 (P : Params) : DictEntry := ⟨PyData.keyHash P (Str.ofString "_law_rules"), .str (Str.ofString "_law_rules") 2637, .ref 280⟩
noncomputable def o3v22 (P : Params) : Obj := ⟨.type "dict", none, (.dict [ge28 P, ge1 P, ge2 P, ge3 P, ge4 P, ge5 P, ge6 P, ge7 P, ge8 P, ge9 P, ge10 P, ge12 P, ge13 P, ge15 P, ge16 P, ge17 P, ge18 P, ge20 P, ge21 P, ge22 P, ge23 P, ge25 P, ge26 P, ge27 P, ge29 P, ge30 P, ge31 P].toArray 27), #[]⟩
noncomputable def o29v9 (_P : Params) : Obj := ⟨.none, none, (.fields [.int 2 0, .int 0 0, .ref 37, .int 7 0, .int 0 0, .ref 44, .int 16 0, .int 0 0, .ref 61, .int 20 0, .int 0 0, .ref 79, .int 23 0, .int 0 0, .ref 125, .int 31 0, .int 0 0, .ref 142, .int 102 0, .int 0 0, .ref 267, .int 105 0, .int 0 0, .ref 274, .int 108 0, .int 0 0, .ref 279].toArray), #[]⟩
noncomputable def o276 (_P : Params) : Obj := ⟨.type "tuple", none, (.seq [].toArray 0), #[]⟩
noncomputable def o277 (_P : Params) : Obj := ⟨.none, none, (.fields [].toArray), #[]⟩
noncomputable def o278 (_P : Params) : Obj := cdF "_law_rules" "_law_rules" (pS 22)
noncomputable def o279 (_P : Params) : Obj := ⟨.type "code", none, (.fields [.str (Str.ofString "_law_rules") 2632, .str (Str.ofString "_law_rules") 2633, .str (Str.ofString "/claim/cut.py") 2634, .int 108 0, .int 3 0, .int 0 0, .int 0 0, .int 3 0, .ref 276, .bool true, .int 276 0, .ref 277, .none, .none, .none, .ref 278, .int 2635 0, .int 108 0, .str (Str.ofString "/claim/cut.py") 2636].toArray), #[]⟩
noncomputable def o280 (_P : Params) : Obj := ⟨.type "function", none, .func (fnOf (Str.ofString "_law_rules") (Str.ofString "_law_rules") (parOf (pS 22)) (bodOf (pS 22)) (scoOf (pS 22)) (.none) (.none) .none (.str (Str.ofString "law_sh0062_01") 2616) none (.ref 279) .none), #[]⟩
noncomputable def ge32 (P : Params) : DictEntry := ⟨PyData.keyHash P (Str.ofString "_law_start"), .str (Str.ofString "_law_start") 2654, .ref 287⟩
noncomputable def o3v23 (P : Params) : Obj := ⟨.type "dict", none, (.dict [ge28 P, ge1 P, ge2 P, ge3 P, ge4 P, ge5 P, ge6 P, ge7 P, ge8 P, ge9 P, ge10 P, ge12 P, ge13 P, ge15 P, ge16 P, ge17 P, ge18 P, ge20 P, ge21 P, ge22 P, ge23 P, ge25 P, ge26 P, ge27 P, ge29 P, ge30 P, ge31 P, ge32 P].toArray 28), #[]⟩
noncomputable def o29v10 (_P : Params) : Obj := ⟨.none, none, (.fields [.int 2 0, .int 0 0, .ref 37, .int 7 0, .int 0 0, .ref 44, .int 16 0, .int 0 0, .ref 61, .int 20 0, .int 0 0, .ref 79, .int 23 0, .int 0 0, .ref 125, .int 31 0, .int 0 0, .ref 142, .int 102 0, .int 0 0, .ref 267, .int 105 0, .int 0 0, .ref 274, .int 108 0, .int 0 0, .ref 279, .int 115 0, .int 0 0, .ref 286].toArray), #[]⟩
noncomputable def o281 (_P : Params) : Obj := ⟨.type "tuple", none, (.seq [].toArray 0), #[]⟩
noncomputable def o282 (_P : Params) : Obj := ⟨.none, none, (.fields [].toArray), #[]⟩
noncomputable def o283 (_P : Params) : Obj := ⟨.type "tuple", none, (.seq [.str (Str.ofString "n") 2641, .str (Str.ofString "numbers") 2642, .str (Str.ofString "beside") 2643, .str (Str.ofString "typed") 2644, .str (Str.ofString "meant") 2645, .str (Str.ofString "place") 2646, .str (Str.ofString "number") 2647, .str (Str.ofString "which") 2648, .str (Str.ofString "small") 2649, .str (Str.ofString "pairs") 2650, .str (Str.ofString "pair") 2651].toArray 0), #[]⟩
noncomputable def o284 (_P : Params) : Obj := ⟨.type "tuple", none, (.seq [].toArray 0), #[]⟩
noncomputable def o285 (_P : Params) : Obj := cdF "_law_start" "_law_start" (pS 23)
noncomputable def o286 (_P : Params) : Obj := ⟨.type "code", none, (.fields [.str (Str.ofString "_law_start") 2638, .str (Str.ofString "_law_start") 2639, .str (Str.ofString "/claim/cut.py") 2640, .int 115 0, .int 2 0, .int 0 0, .int 0 0, .int 3 0, .ref 281, .bool true, .int 276 0, .ref 282, .none, .ref 283, .ref 284, .ref 285, .int 2652 0, .int 115 0, .str (Str.ofString "/claim/cut.py") 2653].toArray), #[]⟩
noncomputable def o287 (_P : Params) : Obj := ⟨.type "function", none, .func (fnOf (Str.ofString "_law_start") (Str.ofString "_law_start") (parOf (pS 23)) (bodOf (pS 23)) (scoOf (pS 23)) (.none) (.none) .none (.str (Str.ofString "law_sh0062_01") 2616) none (.ref 286) .none), #[]⟩
noncomputable def ge33 (P : Params) : DictEntry := ⟨PyData.keyHash P (Str.ofString "_law_marked"), .str (Str.ofString "_law_marked") 2660, .ref 292⟩
noncomputable def o3v24 (P : Params) : Obj := ⟨.type "dict", none, (.dict [ge28 P, ge1 P, ge2 P, ge3 P, ge4 P, ge5 P, ge6 P, ge7 P, ge8 P, ge9 P, ge10 P, ge12 P, ge13 P, ge15 P, ge16 P, ge17 P, ge18 P, ge20 P, ge21 P, ge22 P, ge23 P, ge25 P, ge26 P, ge27 P, ge29 P, ge30 P, ge31 P, ge32 P, ge33 P].toArray 29), #[]⟩
noncomputable def o29v11 (_P : Params) : Obj := ⟨.none, none, (.fields [.int 2 0, .int 0 0, .ref 37, .int 7 0, .int 0 0, .ref 44, .int 16 0, .int 0 0, .ref 61, .int 20 0, .int 0 0, .ref 79, .int 23 0, .int 0 0, .ref 125, .int 31 0, .int 0 0, .ref 142, .int 102 0, .int 0 0, .ref 267, .int 105 0, .int 0 0, .ref 274, .int 108 0, .int 0 0, .ref 279, .int 115 0, .int 0 0, .ref 286, .int 129 0, .int 0 0, .ref 291].toArray), #[]⟩
noncomputable def o288 (_P : Params) : Obj := ⟨.type "tuple", none, (.seq [].toArray 0), #[]⟩
noncomputable def o289 (_P : Params) : Obj := ⟨.none, none, (.fields [].toArray), #[]⟩
noncomputable def o290 (_P : Params) : Obj := cdF "_law_marked" "_law_marked" (pS 24)
noncomputable def o291 (_P : Params) : Obj := ⟨.type "code", none, (.fields [.str (Str.ofString "_law_marked") 2655, .str (Str.ofString "_law_marked") 2656, .str (Str.ofString "/claim/cut.py") 2657, .int 129 0, .int 1 0, .int 0 0, .int 0 0, .int 3 0, .ref 288, .bool true, .int 276 0, .ref 289, .none, .none, .none, .ref 290, .int 2658 0, .int 129 0, .str (Str.ofString "/claim/cut.py") 2659].toArray), #[]⟩
noncomputable def o292 (_P : Params) : Obj := ⟨.type "function", none, .func (fnOf (Str.ofString "_law_marked") (Str.ofString "_law_marked") (parOf (pS 24)) (bodOf (pS 24)) (scoOf (pS 24)) (.none) (.none) .none (.str (Str.ofString "law_sh0062_01") 2616) none (.ref 291) .none), #[]⟩
noncomputable def ge34 (P : Params) : DictEntry := ⟨PyData.keyHash P (Str.ofString "_law_prepared"), .str (Str.ofString "_law_prepared") 2666, .ref 297⟩
noncomputable def o3v25 (P : Params) : Obj := ⟨.type "dict", none, (.dict [ge28 P, ge1 P, ge2 P, ge3 P, ge4 P, ge5 P, ge6 P, ge7 P, ge8 P, ge9 P, ge10 P, ge12 P, ge13 P, ge15 P, ge16 P, ge17 P, ge18 P, ge20 P, ge21 P, ge22 P, ge23 P, ge25 P, ge26 P, ge27 P, ge29 P, ge30 P, ge31 P, ge32 P, ge33 P, ge34 P].toArray 30), #[]⟩
noncomputable def o29v12 (_P : Params) : Obj := ⟨.none, none, (.fields [.int 2 0, .int 0 0, .ref 37, .int 7 0, .int 0 0, .ref 44, .int 16 0, .int 0 0, .ref 61, .int 20 0, .int 0 0, .ref 79, .int 23 0, .int 0 0, .ref 125, .int 31 0, .int 0 0, .ref 142, .int 102 0, .int 0 0, .ref 267, .int 105 0, .int 0 0, .ref 274, .int 108 0, .int 0 0, .ref 279, .int 115 0, .int 0 0, .ref 286, .int 129 0, .int 0 0, .ref 291, .int 131 0, .int 0 0, .ref 296].toArray), #[]⟩
noncomputable def o293 (_P : Params) : Obj := ⟨.type "tuple", none, (.seq [].toArray 0), #[]⟩
noncomputable def o294 (_P : Params) : Obj := ⟨.none, none, (.fields [].toArray), #[]⟩
noncomputable def o295 (_P : Params) : Obj := cdF "_law_prepared" "_law_prepared" (pS 25)
noncomputable def o296 (_P : Params) : Obj := ⟨.type "code", none, (.fields [.str (Str.ofString "_law_prepared") 2661, .str (Str.ofString "_law_prepared") 2662, .str (Str.ofString "/claim/cut.py") 2663, .int 131 0, .int 1 0, .int 0 0, .int 0 0, .int 3 0, .ref 293, .bool true, .int 276 0, .ref 294, .none, .none, .none, .ref 295, .int 2664 0, .int 131 0, .str (Str.ofString "/claim/cut.py") 2665].toArray), #[]⟩
noncomputable def o297 (_P : Params) : Obj := ⟨.type "function", none, .func (fnOf (Str.ofString "_law_prepared") (Str.ofString "_law_prepared") (parOf (pS 25)) (bodOf (pS 25)) (scoOf (pS 25)) (.none) (.none) .none (.str (Str.ofString "law_sh0062_01") 2616) none (.ref 296) .none), #[]⟩
noncomputable def ge35 (P : Params) : DictEntry := ⟨PyData.keyHash P (Str.ofString "_law_run"), .str (Str.ofString "_law_run") 2681, .ref 304⟩
noncomputable def o3v26 (P : Params) : Obj := ⟨.type "dict", none, (.dict [ge28 P, ge1 P, ge2 P, ge3 P, ge4 P, ge5 P, ge6 P, ge7 P, ge8 P, ge9 P, ge10 P, ge12 P, ge13 P, ge15 P, ge16 P, ge17 P, ge18 P, ge20 P, ge21 P, ge22 P, ge23 P, ge25 P, ge26 P, ge27 P, ge29 P, ge30 P, ge31 P, ge32 P, ge33 P, ge34 P, ge35 P].toArray 31), #[]⟩
noncomputable def o29v13 (_P : Params) : Obj := ⟨.none, none, (.fields [.int 2 0, .int 0 0, .ref 37, .int 7 0, .int 0 0, .ref 44, .int 16 0, .int 0 0, .ref 61, .int 20 0, .int 0 0, .ref 79, .int 23 0, .int 0 0, .ref 125, .int 31 0, .int 0 0, .ref 142, .int 102 0, .int 0 0, .ref 267, .int 105 0, .int 0 0, .ref 274, .int 108 0, .int 0 0, .ref 279, .int 115 0, .int 0 0, .ref 286, .int 129 0, .int 0 0, .ref 291, .int 131 0, .int 0 0, .ref 296, .int 133 0, .int 0 0, .ref 303].toArray), #[]⟩
noncomputable def o298 (_P : Params) : Obj := ⟨.type "tuple", none, (.seq [].toArray 0), #[]⟩
noncomputable def o299 (_P : Params) : Obj := ⟨.none, none, (.fields [].toArray), #[]⟩
noncomputable def o300 (_P : Params) : Obj := ⟨.type "tuple", none, (.seq [.str (Str.ofString "rules") 2670, .str (Str.ofString "typed") 2671, .str (Str.ofString "tape") 2672, .str (Str.ofString "clock") 2673, .str (Str.ofString "told") 2674, .str (Str.ofString "end") 2675, .str (Str.ofString "rows") 2676, .str (Str.ofString "parts") 2677, .str (Str.ofString "name") 2678].toArray 0), #[]⟩
noncomputable def o301 (_P : Params) : Obj := ⟨.type "tuple", none, (.seq [].toArray 0), #[]⟩
noncomputable def o302 (_P : Params) : Obj := cdF "_law_run" "_law_run" (pS 26)
noncomputable def o303 (_P : Params) : Obj := ⟨.type "code", none, (.fields [.str (Str.ofString "_law_run") 2667, .str (Str.ofString "_law_run") 2668, .str (Str.ofString "/claim/cut.py") 2669, .int 133 0, .int 2 0, .int 0 0, .int 0 0, .int 3 0, .ref 298, .bool true, .int 276 0, .ref 299, .none, .ref 300, .ref 301, .ref 302, .int 2679 0, .int 133 0, .str (Str.ofString "/claim/cut.py") 2680].toArray), #[]⟩
noncomputable def o304 (_P : Params) : Obj := ⟨.type "function", none, .func (fnOf (Str.ofString "_law_run") (Str.ofString "_law_run") (parOf (pS 26)) (bodOf (pS 26)) (scoOf (pS 26)) (.none) (.none) .none (.str (Str.ofString "law_sh0062_01") 2616) none (.ref 303) .none), #[]⟩
noncomputable def ge36 (P : Params) : DictEntry := ⟨PyData.keyHash P (Str.ofString "_law_word"), .str (Str.ofString "_law_word") 2694, .ref 311⟩
noncomputable def o3v27 (P : Params) : Obj := ⟨.type "dict", none, (.dict [ge28 P, ge1 P, ge2 P, ge3 P, ge4 P, ge5 P, ge6 P, ge7 P, ge8 P, ge9 P, ge10 P, ge12 P, ge13 P, ge15 P, ge16 P, ge17 P, ge18 P, ge20 P, ge21 P, ge22 P, ge23 P, ge25 P, ge26 P, ge27 P, ge29 P, ge30 P, ge31 P, ge32 P, ge33 P, ge34 P, ge35 P, ge36 P].toArray 32), #[]⟩
noncomputable def o29v14 (_P : Params) : Obj := ⟨.none, none, (.fields [.int 2 0, .int 0 0, .ref 37, .int 7 0, .int 0 0, .ref 44, .int 16 0, .int 0 0, .ref 61, .int 20 0, .int 0 0, .ref 79, .int 23 0, .int 0 0, .ref 125, .int 31 0, .int 0 0, .ref 142, .int 102 0, .int 0 0, .ref 267, .int 105 0, .int 0 0, .ref 274, .int 108 0, .int 0 0, .ref 279, .int 115 0, .int 0 0, .ref 286, .int 129 0, .int 0 0, .ref 291, .int 131 0, .int 0 0, .ref 296, .int 133 0, .int 0 0, .ref 303, .int 148 0, .int 0 0, .ref 310].toArray), #[]⟩
noncomputable def o305 (_P : Params) : Obj := ⟨.type "tuple", none, (.seq [].toArray 0), #[]⟩
noncomputable def o306 (_P : Params) : Obj := ⟨.none, none, (.fields [].toArray), #[]⟩
noncomputable def o307 (_P : Params) : Obj := ⟨.type "tuple", none, (.seq [.str (Str.ofString "start") 2685, .str (Str.ofString "j") 2686, .str (Str.ofString "k") 2687, .str (Str.ofString "turn") 2688, .str (Str.ofString "n") 2689, .str (Str.ofString "half") 2690, .str (Str.ofString "gone") 2691].toArray 0), #[]⟩
noncomputable def o308 (_P : Params) : Obj := ⟨.type "tuple", none, (.seq [].toArray 0), #[]⟩
noncomputable def o309 (_P : Params) : Obj := cdF "_law_word" "_law_word" (pS 27)
noncomputable def o310 (_P : Params) : Obj := ⟨.type "code", none, (.fields [.str (Str.ofString "_law_word") 2682, .str (Str.ofString "_law_word") 2683, .str (Str.ofString "/claim/cut.py") 2684, .int 148 0, .int 4 0, .int 0 0, .int 0 0, .int 3 0, .ref 305, .bool true, .int 276 0, .ref 306, .none, .ref 307, .ref 308, .ref 309, .int 2692 0, .int 148 0, .str (Str.ofString "/claim/cut.py") 2693].toArray), #[]⟩
noncomputable def o311 (_P : Params) : Obj := ⟨.type "function", none, .func (fnOf (Str.ofString "_law_word") (Str.ofString "_law_word") (parOf (pS 27)) (bodOf (pS 27)) (scoOf (pS 27)) (.none) (.none) .none (.str (Str.ofString "law_sh0062_01") 2616) none (.ref 310) .none), #[]⟩
noncomputable def ge37 (P : Params) : DictEntry := ⟨PyData.keyHash P (Str.ofString "_law_heard"), .str (Str.ofString "_law_heard") 2705, .ref 318⟩
noncomputable def o3v28 (P : Params) : Obj := ⟨.type "dict", none, (.dict [ge28 P, ge1 P, ge2 P, ge3 P, ge4 P, ge5 P, ge6 P, ge7 P, ge8 P, ge9 P, ge10 P, ge12 P, ge13 P, ge15 P, ge16 P, ge17 P, ge18 P, ge20 P, ge21 P, ge22 P, ge23 P, ge25 P, ge26 P, ge27 P, ge29 P, ge30 P, ge31 P, ge32 P, ge33 P, ge34 P, ge35 P, ge36 P, ge37 P].toArray 33), #[]⟩
noncomputable def o29v15 (_P : Params) : Obj := ⟨.none, none, (.fields [.int 2 0, .int 0 0, .ref 37, .int 7 0, .int 0 0, .ref 44, .int 16 0, .int 0 0, .ref 61, .int 20 0, .int 0 0, .ref 79, .int 23 0, .int 0 0, .ref 125, .int 31 0, .int 0 0, .ref 142, .int 102 0, .int 0 0, .ref 267, .int 105 0, .int 0 0, .ref 274, .int 108 0, .int 0 0, .ref 279, .int 115 0, .int 0 0, .ref 286, .int 129 0, .int 0 0, .ref 291, .int 131 0, .int 0 0, .ref 296, .int 133 0, .int 0 0, .ref 303, .int 148 0, .int 0 0, .ref 310, .int 162 0, .int 0 0, .ref 317].toArray), #[]⟩
noncomputable def o312 (_P : Params) : Obj := ⟨.type "tuple", none, (.seq [].toArray 0), #[]⟩
noncomputable def o313 (_P : Params) : Obj := ⟨.none, none, (.fields [].toArray), #[]⟩
noncomputable def o314 (_P : Params) : Obj := ⟨.type "tuple", none, (.seq [.str (Str.ofString "word") 2698, .str (Str.ofString "turn") 2699, .str (Str.ofString "sent") 2700, .str (Str.ofString "head") 2701, .str (Str.ofString "rows") 2702].toArray 0), #[]⟩
noncomputable def o315 (_P : Params) : Obj := ⟨.type "tuple", none, (.seq [].toArray 0), #[]⟩
noncomputable def o316 (_P : Params) : Obj := cdF "_law_heard" "_law_heard" (pS 28)
noncomputable def o317 (_P : Params) : Obj := ⟨.type "code", none, (.fields [.str (Str.ofString "_law_heard") 2695, .str (Str.ofString "_law_heard") 2696, .str (Str.ofString "/claim/cut.py") 2697, .int 162 0, .int 2 0, .int 0 0, .int 0 0, .int 3 0, .ref 312, .bool true, .int 276 0, .ref 313, .none, .ref 314, .ref 315, .ref 316, .int 2703 0, .int 162 0, .str (Str.ofString "/claim/cut.py") 2704].toArray), #[]⟩
noncomputable def o318 (_P : Params) : Obj := ⟨.type "function", none, .func (fnOf (Str.ofString "_law_heard") (Str.ofString "_law_heard") (parOf (pS 28)) (bodOf (pS 28)) (scoOf (pS 28)) (.none) (.none) .none (.str (Str.ofString "law_sh0062_01") 2616) none (.ref 317) .none), #[]⟩
noncomputable def ge38 (P : Params) : DictEntry := ⟨PyData.keyHash P (Str.ofString "law"), .str (Str.ofString "law") 2719, .ref 325⟩
noncomputable def o3v29 (P : Params) : Obj := ⟨.type "dict", none, (.dict [ge28 P, ge1 P, ge2 P, ge3 P, ge4 P, ge5 P, ge6 P, ge7 P, ge8 P, ge9 P, ge10 P, ge12 P, ge13 P, ge15 P, ge16 P, ge17 P, ge18 P, ge20 P, ge21 P, ge22 P, ge23 P, ge25 P, ge26 P, ge27 P, ge29 P, ge30 P, ge31 P, ge32 P, ge33 P, ge34 P, ge35 P, ge36 P, ge37 P, ge38 P].toArray 34), #[]⟩
noncomputable def o29v16 (_P : Params) : Obj := ⟨.none, none, (.fields [.int 2 0, .int 0 0, .ref 37, .int 7 0, .int 0 0, .ref 44, .int 16 0, .int 0 0, .ref 61, .int 20 0, .int 0 0, .ref 79, .int 23 0, .int 0 0, .ref 125, .int 31 0, .int 0 0, .ref 142, .int 102 0, .int 0 0, .ref 267, .int 105 0, .int 0 0, .ref 274, .int 108 0, .int 0 0, .ref 279, .int 115 0, .int 0 0, .ref 286, .int 129 0, .int 0 0, .ref 291, .int 131 0, .int 0 0, .ref 296, .int 133 0, .int 0 0, .ref 303, .int 148 0, .int 0 0, .ref 310, .int 162 0, .int 0 0, .ref 317, .int 172 0, .int 0 0, .ref 324].toArray), #[]⟩
noncomputable def o319 (_P : Params) : Obj := ⟨.type "tuple", none, (.seq [].toArray 0), #[]⟩
noncomputable def o320 (_P : Params) : Obj := ⟨.none, none, (.fields [].toArray), #[]⟩
noncomputable def o321 (_P : Params) : Obj := ⟨.type "tuple", none, (.seq [.str (Str.ofString "script") 2709, .str (Str.ofString "numbers") 2710, .str (Str.ofString "typed") 2711, .str (Str.ofString "start") 2712, .str (Str.ofString "j") 2713, .str (Str.ofString "k") 2714, .str (Str.ofString "due") 2715, .str (Str.ofString "word") 2716].toArray 0), #[]⟩
noncomputable def o322 (_P : Params) : Obj := ⟨.type "tuple", none, (.seq [].toArray 0), #[]⟩
noncomputable def o323 (_P : Params) : Obj := cdF "law" "law" (pS 29)
noncomputable def o324 (_P : Params) : Obj := ⟨.type "code", none, (.fields [.str (Str.ofString "law") 2706, .str (Str.ofString "law") 2707, .str (Str.ofString "/claim/cut.py") 2708, .int 172 0, .int 1 0, .int 0 0, .int 0 0, .int 3 0, .ref 319, .bool true, .int 276 0, .ref 320, .none, .ref 321, .ref 322, .ref 323, .int 2717 0, .int 172 0, .str (Str.ofString "/claim/cut.py") 2718].toArray), #[]⟩
noncomputable def o325 (_P : Params) : Obj := ⟨.type "function", none, .func (fnOf (Str.ofString "law") (Str.ofString "law") (parOf (pS 29)) (bodOf (pS 29)) (scoOf (pS 29)) (.none) (.none) .none (.str (Str.ofString "law_sh0062_01") 2616) none (.ref 324) .none), #[]⟩
noncomputable def tr_e (P : Params) : BT := (N (o0 P) (N (o1 P) (N (o3 P) (N (o7 P) (N (o15 P) L L) (N (o23 P) L L)) (N (o11 P) (N (o19 P) L L) (N (o27 P) L L))) (N (o5 P) (N (o9 P) (N (o17 P) L L) (N (o25 P) L L)) (N (o13 P) (N (o21 P) L L) L))) (N (o2 P) (N (o4 P) (N (o8 P) (N (o16 P) L L) (N (o24 P) L L)) (N (o12 P) (N (o20 P) L L) L)) (N (o6 P) (N (o10 P) (N (o18 P) L L) (N (o26 P) L L)) (N (o14 P) (N (o22 P) L L) L))))
noncomputable def st_e (w : World) (os : OsState) : SharedT := ⟨tr_e w.params, 28, {}, #[], {}, 276, os⟩
noncomputable def tr_s0 (P : Params) : BT := (N (o0 P) (N (o1 P) (N (o3 P) (N (o7 P) (N (o15 P) L L) (N (o23 P) L L)) (N (o11v1 P) (N (o19 P) L L) (N (o27 P) L L))) (N (o5 P) (N (o9 P) (N (o17 P) L L) (N (o25 P) L L)) (N (o13 P) (N (o21 P) L L) L))) (N (o2 P) (N (o4 P) (N (o8 P) (N (o16 P) L L) (N (o24 P) L L)) (N (o12 P) (N (o20 P) L L) L)) (N (o6 P) (N (o10 P) (N (o18 P) L L) (N (o26 P) L L)) (N (o14 P) (N (o22 P) L L) L))))
noncomputable def st_s0 (w : World) (os : OsState) : SharedT := ⟨tr_s0 w.params, 28, {}, #[], {}, 276, os⟩
noncomputable def tr_pre (P : Params) : BT := (N (o0 P) (N (o1 P) (N (o3 P) (N (o7 P) (N (o15 P) (N (o31 P) L L) L) (N (o23 P) L L)) (N (o11v1 P) (N (o19 P) L L) (N (o27 P) L L))) (N (o5 P) (N (o9 P) (N (o17 P) L L) (N (o25 P) L L)) (N (o13 P) (N (o21 P) L L) (N (o29 P) L L)))) (N (o2 P) (N (o4 P) (N (o8 P) (N (o16 P) L L) (N (o24 P) L L)) (N (o12 P) (N (o20 P) L L) (N (o28 P) L L))) (N (o6 P) (N (o10 P) (N (o18 P) L L) (N (o26 P) L L)) (N (o14 P) (N (o22 P) L L) (N (o30 P) L L)))))
noncomputable def st_pre (w : World) (os : OsState) : SharedT := ⟨tr_pre w.params, 32, {}, #[], {}, 282, os⟩
noncomputable def tr_p0 (P : Params) : BT := (N (o0 P) (N (o1 P) (N (o3v1 P) (N (o7 P) (N (o15 P) (N (o31 P) L L) L) (N (o23 P) L L)) (N (o11v1 P) (N (o19 P) (N (o35 P) L L) L) (N (o27 P) L L))) (N (o5 P) (N (o9 P) (N (o17 P) (N (o33 P) L L) L) (N (o25 P) L L)) (N (o13 P) (N (o21 P) (N (o37 P) L L) L) (N (o29v1 P) L L)))) (N (o2 P) (N (o4 P) (N (o8 P) (N (o16 P) (N (o32 P) L L) L) (N (o24 P) L L)) (N (o12 P) (N (o20 P) (N (o36 P) L L) L) (N (o28 P) L L))) (N (o6 P) (N (o10 P) (N (o18 P) (N (o34 P) L L) L) (N (o26 P) L L)) (N (o14 P) (N (o22 P) (N (o38 P) L L) L) (N (o30 P) L L)))))
noncomputable def st_p0 (w : World) (os : OsState) : SharedT := ⟨tr_p0 w.params, 39, {}, #[], {}, 289, os⟩
noncomputable def tr_p1 (P : Params) : BT := (N (o0 P) (N (o1 P) (N (o3v2 P) (N (o7 P) (N (o15 P) (N (o31 P) L L) L) (N (o23 P) L L)) (N (o11v1 P) (N (o19 P) (N (o35 P) L L) L) (N (o27 P) L L))) (N (o5 P) (N (o9 P) (N (o17 P) (N (o33 P) L L) L) (N (o25 P) L L)) (N (o13 P) (N (o21 P) (N (o37 P) L L) L) (N (o29v1 P) L L)))) (N (o2 P) (N (o4 P) (N (o8 P) (N (o16 P) (N (o32 P) L L) L) (N (o24 P) L L)) (N (o12 P) (N (o20 P) (N (o36 P) L L) L) (N (o28 P) L L))) (N (o6 P) (N (o10 P) (N (o18 P) (N (o34 P) L L) L) (N (o26 P) L L)) (N (o14 P) (N (o22 P) (N (o38 P) L L) L) (N (o30 P) L L)))))
noncomputable def st_p1 (w : World) (os : OsState) : SharedT := ⟨tr_p1 w.params, 39, {}, #[], {}, 291, os⟩
noncomputable def tr_p2 (P : Params) : BT := (N (o0 P) (N (o1 P) (N (o3v3 P) (N (o7 P) (N (o15 P) (N (o31 P) L L) L) (N (o23 P) L L)) (N (o11v1 P) (N (o19 P) (N (o35 P) L L) L) (N (o27 P) L L))) (N (o5 P) (N (o9 P) (N (o17 P) (N (o33 P) L L) L) (N (o25 P) L L)) (N (o13 P) (N (o21 P) (N (o37 P) L L) L) (N (o29v1 P) L L)))) (N (o2 P) (N (o4 P) (N (o8 P) (N (o16 P) (N (o32 P) L L) L) (N (o24 P) L L)) (N (o12 P) (N (o20 P) (N (o36 P) L L) L) (N (o28 P) L L))) (N (o6 P) (N (o10 P) (N (o18 P) (N (o34 P) L L) L) (N (o26 P) L L)) (N (o14 P) (N (o22 P) (N (o38 P) L L) L) (N (o30 P) L L)))))
noncomputable def st_p2 (w : World) (os : OsState) : SharedT := ⟨tr_p2 w.params, 39, {}, #[], {}, 293, os⟩
noncomputable def tr_p3 (P : Params) : BT := (N (o0 P) (N (o1 P) (N (o3v4 P) (N (o7 P) (N (o15 P) (N (o31 P) L L) L) (N (o23 P) (N (o39 P) L L) L)) (N (o11v1 P) (N (o19 P) (N (o35 P) L L) L) (N (o27 P) (N (o43 P) L L) L))) (N (o5 P) (N (o9 P) (N (o17 P) (N (o33 P) L L) L) (N (o25 P) (N (o41 P) L L) L)) (N (o13 P) (N (o21 P) (N (o37 P) L L) L) (N (o29v2 P) (N (o45 P) L L) L)))) (N (o2 P) (N (o4 P) (N (o8 P) (N (o16 P) (N (o32 P) L L) L) (N (o24 P) (N (o40 P) L L) L)) (N (o12 P) (N (o20 P) (N (o36 P) L L) L) (N (o28 P) (N (o44 P) L L) L))) (N (o6 P) (N (o10 P) (N (o18 P) (N (o34 P) L L) L) (N (o26 P) (N (o42 P) L L) L)) (N (o14 P) (N (o22 P) (N (o38 P) L L) L) (N (o30 P) L L)))))
noncomputable def st_p3 (w : World) (os : OsState) : SharedT := ⟨tr_p3 w.params, 46, {}, #[], {}, 301, os⟩
noncomputable def tr_p4 (P : Params) : BT := (N (o0 P) (N (o1 P) (N (o3v5 P) (N (o7 P) (N (o15 P) (N (o31 P) L L) L) (N (o23 P) (N (o39 P) L L) L)) (N (o11v1 P) (N (o19 P) (N (o35 P) L L) L) (N (o27 P) (N (o43 P) L L) L))) (N (o5 P) (N (o9 P) (N (o17 P) (N (o33 P) L L) L) (N (o25 P) (N (o41 P) L L) L)) (N (o13 P) (N (o21 P) (N (o37 P) L L) L) (N (o29v2 P) (N (o45 P) L L) L)))) (N (o2 P) (N (o4 P) (N (o8 P) (N (o16 P) (N (o32 P) L L) L) (N (o24 P) (N (o40 P) L L) L)) (N (o12 P) (N (o20 P) (N (o36 P) L L) L) (N (o28 P) (N (o44 P) L L) L))) (N (o6 P) (N (o10 P) (N (o18 P) (N (o34 P) L L) L) (N (o26 P) (N (o42 P) L L) L)) (N (o14 P) (N (o22 P) (N (o38 P) L L) L) (N (o30 P) L L)))))
noncomputable def st_p4 (w : World) (os : OsState) : SharedT := ⟨tr_p4 w.params, 46, {}, #[], {}, 303, os⟩
noncomputable def tr_p5 (P : Params) : BT := (N (o0 P) (N (o1 P) (N (o3v6 P) (N (o7 P) (N (o15 P) (N (o31 P) L L) (N (o47 P) L L)) (N (o23 P) (N (o39 P) L L) L)) (N (o11v1 P) (N (o19 P) (N (o35 P) L L) L) (N (o27 P) (N (o43 P) L L) L))) (N (o5 P) (N (o9 P) (N (o17 P) (N (o33 P) L L) (N (o49 P) L L)) (N (o25 P) (N (o41 P) L L) L)) (N (o13 P) (N (o21 P) (N (o37 P) L L) L) (N (o29v2 P) (N (o45 P) L L) L)))) (N (o2 P) (N (o4 P) (N (o8 P) (N (o16 P) (N (o32 P) L L) (N (o48 P) L L)) (N (o24 P) (N (o40 P) L L) L)) (N (o12 P) (N (o20 P) (N (o36 P) L L) L) (N (o28 P) (N (o44 P) L L) L))) (N (o6 P) (N (o10 P) (N (o18 P) (N (o34 P) L L) (N (o50 P) L L)) (N (o26 P) (N (o42 P) L L) L)) (N (o14 P) (N (o22 P) (N (o38 P) L L) L) (N (o30 P) (N (o46 P) L L) L)))))
noncomputable def st_p5 (w : World) (os : OsState) : SharedT := ⟨tr_p5 w.params, 51, {}, #[], {}, 319, os⟩
noncomputable def tr_p6 (P : Params) : BT := (N (o0 P) (N (o1 P) (N (o3v7 P) (N (o7 P) (N (o15 P) (N (o31 P) L L) (N (o47 P) L L)) (N (o23 P) (N (o39 P) L L) (N (o55 P) L L))) (N (o11v1 P) (N (o19 P) (N (o35 P) L L) (N (o51 P) L L)) (N (o27 P) (N (o43 P) L L) L))) (N (o5 P) (N (o9 P) (N (o17 P) (N (o33 P) L L) (N (o49 P) L L)) (N (o25 P) (N (o41 P) L L) L)) (N (o13 P) (N (o21 P) (N (o37 P) L L) (N (o53 P) L L)) (N (o29v2 P) (N (o45 P) L L) L)))) (N (o2 P) (N (o4 P) (N (o8 P) (N (o16 P) (N (o32 P) L L) (N (o48 P) L L)) (N (o24 P) (N (o40 P) L L) L)) (N (o12 P) (N (o20 P) (N (o36 P) L L) (N (o52 P) L L)) (N (o28 P) (N (o44 P) L L) L))) (N (o6 P) (N (o10 P) (N (o18 P) (N (o34 P) L L) (N (o50 P) L L)) (N (o26 P) (N (o42 P) L L) L)) (N (o14 P) (N (o22 P) (N (o38 P) L L) (N (o54 P) L L)) (N (o30 P) (N (o46 P) L L) L)))))
noncomputable def st_p6 (w : World) (os : OsState) : SharedT := ⟨tr_p6 w.params, 56, {}, #[], {}, 361, os⟩
noncomputable def tr_p7 (P : Params) : BT := (N (o0 P) (N (o1 P) (N (o3v8 P) (N (o7 P) (N (o15 P) (N (o31 P) L L) (N (o47 P) L L)) (N (o23 P) (N (o39 P) L L) (N (o55 P) L L))) (N (o11v1 P) (N (o19 P) (N (o35 P) L L) (N (o51 P) L L)) (N (o27 P) (N (o43 P) L L) L))) (N (o5 P) (N (o9 P) (N (o17 P) (N (o33 P) L L) (N (o49 P) L L)) (N (o25 P) (N (o41 P) L L) L)) (N (o13 P) (N (o21 P) (N (o37 P) L L) (N (o53 P) L L)) (N (o29v2 P) (N (o45 P) L L) L)))) (N (o2 P) (N (o4 P) (N (o8 P) (N (o16 P) (N (o32 P) L L) (N (o48 P) L L)) (N (o24 P) (N (o40 P) L L) L)) (N (o12 P) (N (o20 P) (N (o36 P) L L) (N (o52 P) L L)) (N (o28 P) (N (o44 P) L L) L))) (N (o6 P) (N (o10 P) (N (o18 P) (N (o34 P) L L) (N (o50 P) L L)) (N (o26 P) (N (o42 P) L L) L)) (N (o14 P) (N (o22 P) (N (o38 P) L L) (N (o54 P) L L)) (N (o30 P) (N (o46 P) L L) L)))))
noncomputable def st_p7 (w : World) (os : OsState) : SharedT := ⟨tr_p7 w.params, 56, {}, #[], {}, 363, os⟩
noncomputable def tr_p8 (P : Params) : BT := (N (o0 P) (N (o1 P) (N (o3v9 P) (N (o7 P) (N (o15 P) (N (o31 P) L L) (N (o47 P) L L)) (N (o23 P) (N (o39 P) L L) (N (o55 P) L L))) (N (o11v1 P) (N (o19 P) (N (o35 P) L L) (N (o51 P) L L)) (N (o27 P) (N (o43 P) L L) (N (o59 P) L L)))) (N (o5 P) (N (o9 P) (N (o17 P) (N (o33 P) L L) (N (o49 P) L L)) (N (o25 P) (N (o41 P) L L) (N (o57 P) L L))) (N (o13 P) (N (o21 P) (N (o37 P) L L) (N (o53 P) L L)) (N (o29v3 P) (N (o45 P) L L) (N (o61 P) L L))))) (N (o2 P) (N (o4 P) (N (o8 P) (N (o16 P) (N (o32 P) L L) (N (o48 P) L L)) (N (o24 P) (N (o40 P) L L) (N (o56 P) L L))) (N (o12 P) (N (o20 P) (N (o36 P) L L) (N (o52 P) L L)) (N (o28 P) (N (o44 P) L L) (N (o60 P) L L)))) (N (o6 P) (N (o10 P) (N (o18 P) (N (o34 P) L L) (N (o50 P) L L)) (N (o26 P) (N (o42 P) L L) (N (o58 P) L L))) (N (o14 P) (N (o22 P) (N (o38 P) L L) (N (o54 P) L L)) (N (o30 P) (N (o46 P) L L) (N (o62 P) L L))))))
noncomputable def st_p8 (w : World) (os : OsState) : SharedT := ⟨tr_p8 w.params, 63, {}, #[], {}, 370, os⟩
noncomputable def tr_p9 (P : Params) : BT := (N (o0 P) (N (o1 P) (N (o3v10 P) (N (o7 P) (N (o15 P) (N (o31 P) L L) (N (o47 P) L L)) (N (o23 P) (N (o39 P) L L) (N (o55 P) L L))) (N (o11v1 P) (N (o19 P) (N (o35 P) L L) (N (o51 P) L L)) (N (o27 P) (N (o43 P) L L) (N (o59 P) L L)))) (N (o5 P) (N (o9 P) (N (o17 P) (N (o33 P) L L) (N (o49 P) L L)) (N (o25 P) (N (o41 P) L L) (N (o57 P) L L))) (N (o13 P) (N (o21 P) (N (o37 P) L L) (N (o53 P) L L)) (N (o29v3 P) (N (o45 P) L L) (N (o61 P) L L))))) (N (o2 P) (N (o4 P) (N (o8 P) (N (o16 P) (N (o32 P) L L) (N (o48 P) L L)) (N (o24 P) (N (o40 P) L L) (N (o56 P) L L))) (N (o12 P) (N (o20 P) (N (o36 P) L L) (N (o52 P) L L)) (N (o28 P) (N (o44 P) L L) (N (o60 P) L L)))) (N (o6 P) (N (o10 P) (N (o18 P) (N (o34 P) L L) (N (o50 P) L L)) (N (o26 P) (N (o42 P) L L) (N (o58 P) L L))) (N (o14 P) (N (o22 P) (N (o38 P) L L) (N (o54 P) L L)) (N (o30 P) (N (o46 P) L L) (N (o62 P) L L))))))
noncomputable def st_p9 (w : World) (os : OsState) : SharedT := ⟨tr_p9 w.params, 63, {}, #[], {}, 372, os⟩
noncomputable def tr_p10 (P : Params) : BT := (N (o0 P) (N (o1 P) (N (o3v11 P) (N (o7 P) (N (o15 P) (N (o31 P) (N (o63 P) L L) L) (N (o47 P) L L)) (N (o23 P) (N (o39 P) (N (o71 P) L L) L) (N (o55 P) L L))) (N (o11v1 P) (N (o19 P) (N (o35 P) (N (o67 P) L L) L) (N (o51 P) L L)) (N (o27 P) (N (o43 P) L L) (N (o59 P) L L)))) (N (o5 P) (N (o9 P) (N (o17 P) (N (o33 P) (N (o65 P) L L) L) (N (o49 P) L L)) (N (o25 P) (N (o41 P) (N (o73 P) L L) L) (N (o57 P) L L))) (N (o13 P) (N (o21 P) (N (o37 P) (N (o69 P) L L) L) (N (o53 P) L L)) (N (o29v3 P) (N (o45 P) L L) (N (o61 P) L L))))) (N (o2 P) (N (o4 P) (N (o8 P) (N (o16 P) (N (o32 P) (N (o64 P) L L) L) (N (o48 P) L L)) (N (o24 P) (N (o40 P) (N (o72 P) L L) L) (N (o56 P) L L))) (N (o12 P) (N (o20 P) (N (o36 P) (N (o68 P) L L) L) (N (o52 P) L L)) (N (o28 P) (N (o44 P) L L) (N (o60 P) L L)))) (N (o6 P) (N (o10 P) (N (o18 P) (N (o34 P) (N (o66 P) L L) L) (N (o50 P) L L)) (N (o26 P) (N (o42 P) L L) (N (o58 P) L L))) (N (o14 P) (N (o22 P) (N (o38 P) (N (b1O P) L L) L) (N (o54 P) L L)) (N (o30 P) (N (o46 P) L L) (N (o62 P) L L))))))
noncomputable def st_p10 (w : World) (os : OsState) : SharedT := ⟨tr_p10 w.params, 74, {}, #[], {}, 432, os⟩
noncomputable def tr_p11 (P : Params) : BT := (N (o0 P) (N (o1 P) (N (o3v12 P) (N (o7 P) (N (o15 P) (N (o31 P) (N (o63 P) L L) L) (N (o47 P) (N (o79 P) L L) L)) (N (o23 P) (N (o39 P) (N (o71 P) L L) L) (N (o55 P) L L))) (N (o11v1 P) (N (o19 P) (N (o35 P) (N (o67 P) L L) L) (N (o51 P) L L)) (N (o27 P) (N (o43 P) (N (o75 P) L L) L) (N (o59 P) L L)))) (N (o5 P) (N (o9 P) (N (o17 P) (N (o33 P) (N (o65 P) L L) L) (N (o49 P) L L)) (N (o25 P) (N (o41 P) (N (o73 P) L L) L) (N (o57 P) L L))) (N (o13 P) (N (o21 P) (N (o37 P) (N (o69 P) L L) L) (N (o53 P) L L)) (N (o29v4 P) (N (o45 P) (N (o77 P) L L) L) (N (o61 P) L L))))) (N (o2 P) (N (o4 P) (N (o8 P) (N (o16 P) (N (o32 P) (N (o64 P) L L) L) (N (o48 P) (N (o80 P) L L) L)) (N (o24 P) (N (o40 P) (N (o72 P) L L) L) (N (o56 P) L L))) (N (o12 P) (N (o20 P) (N (o36 P) (N (o68 P) L L) L) (N (o52 P) L L)) (N (o28 P) (N (o44 P) (N (o76 P) L L) L) (N (o60 P) L L)))) (N (o6 P) (N (o10 P) (N (o18 P) (N (o34 P) (N (o66 P) L L) L) (N (o50 P) L L)) (N (o26 P) (N (o42 P) (N (o74 P) L L) L) (N (o58 P) L L))) (N (o14 P) (N (o22 P) (N (o38 P) (N (b1O P) L L) L) (N (o54 P) L L)) (N (o30 P) (N (o46 P) (N (o78 P) L L) L) (N (o62 P) L L))))))
noncomputable def st_p11 (w : World) (os : OsState) : SharedT := ⟨tr_p11 w.params, 81, {}, #[], {}, 439, os⟩
noncomputable def tr_p12 (P : Params) : BT := (N (o0 P) (N (o1 P) (N (o3v13 P) (N (o7 P) (N (o15 P) (N (o31 P) (N (o63 P) L L) (N (subO 14 P) L L)) (N (o47 P) (N (o79 P) L L) (N (subO 30 P) L L))) (N (o23 P) (N (o39 P) (N (o71 P) L L) (N (subO 22 P) L L)) (N (o55 P) (N (subO 6 P) L L) (N (subO 38 P) L L)))) (N (o11v1 P) (N (o19 P) (N (o35 P) (N (o67 P) L L) (N (subO 18 P) L L)) (N (o51 P) (N (subO 2 P) L L) (N (subO 34 P) L L))) (N (o27 P) (N (o43 P) (N (o75 P) L L) (N (subO 26 P) L L)) (N (o59 P) (N (subO 10 P) L L) L)))) (N (o5 P) (N (o9 P) (N (o17 P) (N (o33 P) (N (o65 P) L L) (N (subO 16 P) L L)) (N (o49 P) (N (b3O' P) L L) (N (subO 32 P) L L))) (N (o25 P) (N (o41 P) (N (o73 P) L L) (N (subO 24 P) L L)) (N (o57 P) (N (subO 8 P) L L) L))) (N (o13 P) (N (o21 P) (N (o37 P) (N (o69 P) L L) (N (subO 20 P) L L)) (N (o53 P) (N (subO 4 P) L L) (N (subO 36 P) L L))) (N (o29v4 P) (N (o45 P) (N (o77 P) L L) (N (subO 28 P) L L)) (N (o61 P) (N (subO 12 P) L L) L))))) (N (o2 P) (N (o4 P) (N (o8 P) (N (o16 P) (N (o32 P) (N (o64 P) L L) (N (subO 15 P) L L)) (N (o48 P) (N (o80 P) L L) (N (subO 31 P) L L))) (N (o24 P) (N (o40 P) (N (o72 P) L L) (N (subO 23 P) L L)) (N (o56 P) (N (subO 7 P) L L) L))) (N (o12 P) (N (o20 P) (N (o36 P) (N (o68 P) L L) (N (subO 19 P) L L)) (N (o52 P) (N (subO 3 P) L L) (N (subO 35 P) L L))) (N (o28 P) (N (o44 P) (N (o76 P) L L) (N (subO 27 P) L L)) (N (o60 P) (N (subO 11 P) L L) L)))) (N (o6 P) (N (o10 P) (N (o18 P) (N (o34 P) (N (o66 P) L L) (N (subO 17 P) L L)) (N (o50 P) (N (subO 1 P) L L) (N (subO 33 P) L L))) (N (o26 P) (N (o42 P) (N (o74 P) L L) (N (subO 25 P) L L)) (N (o58 P) (N (subO 9 P) L L) L))) (N (o14 P) (N (o22 P) (N (o38 P) (N (b1O P) L L) (N (subO 21 P) L L)) (N (o54 P) (N (subO 5 P) L L) (N (subO 37 P) L L))) (N (o30 P) (N (o46 P) (N (o78 P) L L) (N (subO 29 P) L L)) (N (o62 P) (N (subO 13 P) L L) L))))))
noncomputable def st_p12 (w : World) (os : OsState) : SharedT := ⟨tr_p12 w.params, 120, {}, #[], {}, 2390, os⟩
noncomputable def tr_p13 (P : Params) : BT := (N (o0 P) (N (o1 P) (N (o3v14 P) (N (o7 P) (N (o15 P) (N (o31 P) (N (o63 P) L L) (N (subO 14 P) L L)) (N (o47 P) (N (o79 P) L L) (N (subO 30 P) L L))) (N (o23 P) (N (o39 P) (N (o71 P) L L) (N (subO 22 P) L L)) (N (o55 P) (N (subO 6 P) L L) (N (subO 38 P) L L)))) (N (o11v1 P) (N (o19 P) (N (o35 P) (N (o67 P) L L) (N (subO 18 P) L L)) (N (o51 P) (N (subO 2 P) L L) (N (subO 34 P) L L))) (N (o27 P) (N (o43 P) (N (o75 P) L L) (N (subO 26 P) L L)) (N (o59 P) (N (subO 10 P) L L) (N (o123 P) L L))))) (N (o5 P) (N (o9 P) (N (o17 P) (N (o33 P) (N (o65 P) L L) (N (subO 16 P) L L)) (N (o49 P) (N (b3O' P) L L) (N (subO 32 P) L L))) (N (o25 P) (N (o41 P) (N (o73 P) L L) (N (subO 24 P) L L)) (N (o57 P) (N (subO 8 P) L L) (N (o121 P) L L)))) (N (o13 P) (N (o21 P) (N (o37 P) (N (o69 P) L L) (N (subO 20 P) L L)) (N (o53 P) (N (subO 4 P) L L) (N (subO 36 P) L L))) (N (o29v5 P) (N (o45 P) (N (o77 P) L L) (N (subO 28 P) L L)) (N (o61 P) (N (subO 12 P) L L) (N (o125 P) L L)))))) (N (o2 P) (N (o4 P) (N (o8 P) (N (o16 P) (N (o32 P) (N (o64 P) L L) (N (subO 15 P) L L)) (N (o48 P) (N (o80 P) L L) (N (subO 31 P) L L))) (N (o24 P) (N (o40 P) (N (o72 P) L L) (N (subO 23 P) L L)) (N (o56 P) (N (subO 7 P) L L) (N (o120 P) L L)))) (N (o12 P) (N (o20 P) (N (o36 P) (N (o68 P) L L) (N (subO 19 P) L L)) (N (o52 P) (N (subO 3 P) L L) (N (subO 35 P) L L))) (N (o28 P) (N (o44 P) (N (o76 P) L L) (N (subO 27 P) L L)) (N (o60 P) (N (subO 11 P) L L) (N (o124 P) L L))))) (N (o6 P) (N (o10 P) (N (o18 P) (N (o34 P) (N (o66 P) L L) (N (subO 17 P) L L)) (N (o50 P) (N (subO 1 P) L L) (N (subO 33 P) L L))) (N (o26 P) (N (o42 P) (N (o74 P) L L) (N (subO 25 P) L L)) (N (o58 P) (N (subO 9 P) L L) (N (o122 P) L L)))) (N (o14 P) (N (o22 P) (N (o38 P) (N (b1O P) L L) (N (subO 21 P) L L)) (N (o54 P) (N (subO 5 P) L L) (N (subO 37 P) L L))) (N (o30 P) (N (o46 P) (N (o78 P) L L) (N (subO 29 P) L L)) (N (o62 P) (N (subO 13 P) L L) (N (o126 P) L L)))))))
noncomputable def st_p13 (w : World) (os : OsState) : SharedT := ⟨tr_p13 w.params, 127, {}, #[], {}, 2398, os⟩
noncomputable def tr_p14 (P : Params) : BT := (N (o0 P) (N (o1 P) (N (o3v15 P) (N (o7 P) (N (o15 P) (N (o31 P) (N (o63 P) L L) (N (subO 14 P) L L)) (N (o47 P) (N (o79 P) L L) (N (subO 30 P) L L))) (N (o23 P) (N (o39 P) (N (o71 P) L L) (N (subO 22 P) L L)) (N (o55 P) (N (subO 6 P) L L) (N (subO 38 P) L L)))) (N (o11v1 P) (N (o19 P) (N (o35 P) (N (o67 P) L L) (N (subO 18 P) L L)) (N (o51 P) (N (subO 2 P) L L) (N (subO 34 P) L L))) (N (o27 P) (N (o43 P) (N (o75 P) L L) (N (subO 26 P) L L)) (N (o59 P) (N (subO 10 P) L L) (N (o123 P) L L))))) (N (o5 P) (N (o9 P) (N (o17 P) (N (o33 P) (N (o65 P) L L) (N (subO 16 P) L L)) (N (o49 P) (N (b3O' P) L L) (N (subO 32 P) L L))) (N (o25 P) (N (o41 P) (N (o73 P) L L) (N (subO 24 P) L L)) (N (o57 P) (N (subO 8 P) L L) (N (o121 P) L L)))) (N (o13 P) (N (o21 P) (N (o37 P) (N (o69 P) L L) (N (subO 20 P) L L)) (N (o53 P) (N (subO 4 P) L L) (N (subO 36 P) L L))) (N (o29v5 P) (N (o45 P) (N (o77 P) L L) (N (subO 28 P) L L)) (N (o61 P) (N (subO 12 P) L L) (N (o125 P) L L)))))) (N (o2 P) (N (o4 P) (N (o8 P) (N (o16 P) (N (o32 P) (N (o64 P) L L) (N (subO 15 P) L L)) (N (o48 P) (N (o80 P) L L) (N (subO 31 P) L L))) (N (o24 P) (N (o40 P) (N (o72 P) L L) (N (subO 23 P) L L)) (N (o56 P) (N (subO 7 P) L L) (N (o120 P) L L)))) (N (o12 P) (N (o20 P) (N (o36 P) (N (o68 P) L L) (N (subO 19 P) L L)) (N (o52 P) (N (subO 3 P) L L) (N (subO 35 P) L L))) (N (o28 P) (N (o44 P) (N (o76 P) L L) (N (subO 27 P) L L)) (N (o60 P) (N (subO 11 P) L L) (N (o124 P) L L))))) (N (o6 P) (N (o10 P) (N (o18 P) (N (o34 P) (N (o66 P) L L) (N (subO 17 P) L L)) (N (o50 P) (N (subO 1 P) L L) (N (subO 33 P) L L))) (N (o26 P) (N (o42 P) (N (o74 P) L L) (N (subO 25 P) L L)) (N (o58 P) (N (subO 9 P) L L) (N (o122 P) L L)))) (N (o14 P) (N (o22 P) (N (o38 P) (N (b1O P) L L) (N (subO 21 P) L L)) (N (o54 P) (N (subO 5 P) L L) (N (subO 37 P) L L))) (N (o30 P) (N (o46 P) (N (o78 P) L L) (N (subO 29 P) L L)) (N (o62 P) (N (subO 13 P) L L) (N (o126 P) L L)))))))
noncomputable def st_p14 (w : World) (os : OsState) : SharedT := ⟨tr_p14 w.params, 127, {}, #[], {}, 2400, os⟩
noncomputable def tr_p15 (P : Params) : BT := (N (o0 P) (N (o1 P) (N (o3v16 P) (N (o7 P) (N (o15 P) (N (o31 P) (N (o63 P) (N (o127 P) L L) L) (N (subO 14 P) L L)) (N (o47 P) (N (o79 P) L L) (N (subO 30 P) L L))) (N (o23 P) (N (o39 P) (N (o71 P) L L) (N (subO 22 P) L L)) (N (o55 P) (N (subO 6 P) L L) (N (subO 38 P) L L)))) (N (o11v1 P) (N (o19 P) (N (o35 P) (N (o67 P) (N (o131 P) L L) L) (N (subO 18 P) L L)) (N (o51 P) (N (subO 2 P) L L) (N (subO 34 P) L L))) (N (o27 P) (N (o43 P) (N (o75 P) L L) (N (subO 26 P) L L)) (N (o59 P) (N (subO 10 P) L L) (N (o123 P) L L))))) (N (o5 P) (N (o9 P) (N (o17 P) (N (o33 P) (N (o65 P) (N (o129 P) L L) L) (N (subO 16 P) L L)) (N (o49 P) (N (b3O' P) L L) (N (subO 32 P) L L))) (N (o25 P) (N (o41 P) (N (o73 P) L L) (N (subO 24 P) L L)) (N (o57 P) (N (subO 8 P) L L) (N (o121 P) L L)))) (N (o13 P) (N (o21 P) (N (o37 P) (N (o69 P) L L) (N (subO 20 P) L L)) (N (o53 P) (N (subO 4 P) L L) (N (subO 36 P) L L))) (N (o29v5 P) (N (o45 P) (N (o77 P) L L) (N (subO 28 P) L L)) (N (o61 P) (N (subO 12 P) L L) (N (o125 P) L L)))))) (N (o2 P) (N (o4 P) (N (o8 P) (N (o16 P) (N (o32 P) (N (o64 P) (N (o128 P) L L) L) (N (subO 15 P) L L)) (N (o48 P) (N (o80 P) L L) (N (subO 31 P) L L))) (N (o24 P) (N (o40 P) (N (o72 P) L L) (N (subO 23 P) L L)) (N (o56 P) (N (subO 7 P) L L) (N (o120 P) L L)))) (N (o12 P) (N (o20 P) (N (o36 P) (N (o68 P) L L) (N (subO 19 P) L L)) (N (o52 P) (N (subO 3 P) L L) (N (subO 35 P) L L))) (N (o28 P) (N (o44 P) (N (o76 P) L L) (N (subO 27 P) L L)) (N (o60 P) (N (subO 11 P) L L) (N (o124 P) L L))))) (N (o6 P) (N (o10 P) (N (o18 P) (N (o34 P) (N (o66 P) (N (o130 P) L L) L) (N (subO 17 P) L L)) (N (o50 P) (N (subO 1 P) L L) (N (subO 33 P) L L))) (N (o26 P) (N (o42 P) (N (o74 P) L L) (N (subO 25 P) L L)) (N (o58 P) (N (subO 9 P) L L) (N (o122 P) L L)))) (N (o14 P) (N (o22 P) (N (o38 P) (N (b1O P) L L) (N (subO 21 P) L L)) (N (o54 P) (N (subO 5 P) L L) (N (subO 37 P) L L))) (N (o30 P) (N (o46 P) (N (o78 P) L L) (N (subO 29 P) L L)) (N (o62 P) (N (subO 13 P) L L) (N (o126 P) L L)))))))
noncomputable def st_p15 (w : World) (os : OsState) : SharedT := ⟨tr_p15 w.params, 132, {}, #[], {}, 2426, os⟩
noncomputable def tr_p16 (P : Params) : BT := (N (o0 P) (N (o1 P) (N (o3v17 P) (N (o7 P) (N (o15 P) (N (o31 P) (N (o63 P) (N (o127 P) L L) L) (N (subO 14 P) L L)) (N (o47 P) (N (o79 P) L L) (N (subO 30 P) L L))) (N (o23 P) (N (o39 P) (N (o71 P) (N (o135 P) L L) L) (N (subO 22 P) L L)) (N (o55 P) (N (subO 6 P) L L) (N (subO 38 P) L L)))) (N (o11v1 P) (N (o19 P) (N (o35 P) (N (o67 P) (N (o131 P) L L) L) (N (subO 18 P) L L)) (N (o51 P) (N (subO 2 P) L L) (N (subO 34 P) L L))) (N (o27 P) (N (o43 P) (N (o75 P) L L) (N (subO 26 P) L L)) (N (o59 P) (N (subO 10 P) L L) (N (o123 P) L L))))) (N (o5 P) (N (o9 P) (N (o17 P) (N (o33 P) (N (o65 P) (N (o129 P) L L) L) (N (subO 16 P) L L)) (N (o49 P) (N (b3O' P) L L) (N (subO 32 P) L L))) (N (o25 P) (N (o41 P) (N (o73 P) L L) (N (subO 24 P) L L)) (N (o57 P) (N (subO 8 P) L L) (N (o121 P) L L)))) (N (o13 P) (N (o21 P) (N (o37 P) (N (o69 P) (N (o133 P) L L) L) (N (subO 20 P) L L)) (N (o53 P) (N (subO 4 P) L L) (N (subO 36 P) L L))) (N (o29v5 P) (N (o45 P) (N (o77 P) L L) (N (subO 28 P) L L)) (N (o61 P) (N (subO 12 P) L L) (N (o125 P) L L)))))) (N (o2 P) (N (o4 P) (N (o8 P) (N (o16 P) (N (o32 P) (N (o64 P) (N (o128 P) L L) L) (N (subO 15 P) L L)) (N (o48 P) (N (o80 P) L L) (N (subO 31 P) L L))) (N (o24 P) (N (o40 P) (N (o72 P) (N (o136 P) L L) L) (N (subO 23 P) L L)) (N (o56 P) (N (subO 7 P) L L) (N (o120 P) L L)))) (N (o12 P) (N (o20 P) (N (o36 P) (N (o68 P) (N (o132 P) L L) L) (N (subO 19 P) L L)) (N (o52 P) (N (subO 3 P) L L) (N (subO 35 P) L L))) (N (o28 P) (N (o44 P) (N (o76 P) L L) (N (subO 27 P) L L)) (N (o60 P) (N (subO 11 P) L L) (N (o124 P) L L))))) (N (o6 P) (N (o10 P) (N (o18 P) (N (o34 P) (N (o66 P) (N (o130 P) L L) L) (N (subO 17 P) L L)) (N (o50 P) (N (subO 1 P) L L) (N (subO 33 P) L L))) (N (o26 P) (N (o42 P) (N (o74 P) L L) (N (subO 25 P) L L)) (N (o58 P) (N (subO 9 P) L L) (N (o122 P) L L)))) (N (o14 P) (N (o22 P) (N (o38 P) (N (b1O P) (N (o134 P) L L) L) (N (subO 21 P) L L)) (N (o54 P) (N (subO 5 P) L L) (N (subO 37 P) L L))) (N (o30 P) (N (o46 P) (N (o78 P) L L) (N (subO 29 P) L L)) (N (o62 P) (N (subO 13 P) L L) (N (o126 P) L L)))))))
noncomputable def st_p16 (w : World) (os : OsState) : SharedT := ⟨tr_p16 w.params, 137, {}, #[], {}, 2460, os⟩
noncomputable def tr_p17 (P : Params) : BT := (N (o0 P) (N (o1 P) (N (o3v18 P) (N (o7 P) (N (o15 P) (N (o31 P) (N (o63 P) (N (o127 P) (N (o255 P) L L) L) (N (o191 P) L L)) (N (subO 14 P) (N (o159 P) L L) (N (o223 P) L L))) (N (o47 P) (N (o79 P) (N (o143 P) L L) (N (o207 P) L L)) (N (subO 30 P) (N (o175 P) L L) (N (o239 P) L L)))) (N (o23 P) (N (o39 P) (N (o71 P) (N (o135 P) (N (o263 P) L L) L) (N (o199 P) L L)) (N (subO 22 P) (N (o167 P) L L) (N (o231 P) L L))) (N (o55 P) (N (subO 6 P) (N (o151 P) L L) (N (o215 P) L L)) (N (subO 38 P) (N (o183 P) L L) (N (o247 P) L L))))) (N (o11v1 P) (N (o19 P) (N (o35 P) (N (o67 P) (N (o131 P) (N (o259 P) L L) L) (N (o195 P) L L)) (N (subO 18 P) (N (o163 P) L L) (N (o227 P) L L))) (N (o51 P) (N (subO 2 P) (N (o147 P) L L) (N (o211 P) L L)) (N (subO 34 P) (N (o179 P) L L) (N (o243 P) L L)))) (N (o27 P) (N (o43 P) (N (o75 P) (N (o139 P) L L) (N (o203 P) L L)) (N (subO 26 P) (N (o171 P) L L) (N (o235 P) L L))) (N (o59 P) (N (subO 10 P) (N (o155 P) L L) (N (o219 P) L L)) (N (o123 P) (N (o187 P) L L) (N (o251 P) L L)))))) (N (o5 P) (N (o9 P) (N (o17 P) (N (o33 P) (N (o65 P) (N (o129 P) (N (o257 P) L L) L) (N (o193 P) L L)) (N (subO 16 P) (N (o161 P) L L) (N (o225 P) L L))) (N (o49 P) (N (b3O' P) (N (o145 P) L L) (N (o209 P) L L)) (N (subO 32 P) (N (o177 P) L L) (N (o241 P) L L)))) (N (o25 P) (N (o41 P) (N (o73 P) (N (o137 P) L L) (N (o201 P) L L)) (N (subO 24 P) (N (o169 P) L L) (N (o233 P) L L))) (N (o57 P) (N (subO 8 P) (N (o153 P) L L) (N (o217 P) L L)) (N (o121 P) (N (o185 P) L L) (N (o249 P) L L))))) (N (o13 P) (N (o21 P) (N (o37 P) (N (o69 P) (N (o133 P) (N (o261 P) L L) L) (N (o197 P) L L)) (N (subO 20 P) (N (o165 P) L L) (N (o229 P) L L))) (N (o53 P) (N (subO 4 P) (N (o149 P) L L) (N (o213 P) L L)) (N (subO 36 P) (N (o181 P) L L) (N (o245 P) L L)))) (N (o29v6 P) (N (o45 P) (N (o77 P) (N (o141 P) L L) (N (o205 P) L L)) (N (subO 28 P) (N (o173 P) L L) (N (o237 P) L L))) (N (o61 P) (N (subO 12 P) (N (o157 P) L L) (N (o221 P) L L)) (N (o125 P) (N (o189 P) L L) (N (o253 P) L L))))))) (N (o2 P) (N (o4 P) (N (o8 P) (N (o16 P) (N (o32 P) (N (o64 P) (N (o128 P) (N (o256 P) L L) L) (N (o192 P) L L)) (N (subO 15 P) (N (o160 P) L L) (N (o224 P) L L))) (N (o48 P) (N (o80 P) (N (o144 P) L L) (N (o208 P) L L)) (N (subO 31 P) (N (o176 P) L L) (N (o240 P) L L)))) (N (o24 P) (N (o40 P) (N (o72 P) (N (o136 P) L L) (N (o200 P) L L)) (N (subO 23 P) (N (o168 P) L L) (N (o232 P) L L))) (N (o56 P) (N (subO 7 P) (N (o152 P) L L) (N (o216 P) L L)) (N (o120 P) (N (o184 P) L L) (N (o248 P) L L))))) (N (o12 P) (N (o20 P) (N (o36 P) (N (o68 P) (N (o132 P) (N (o260 P) L L) L) (N (o196 P) L L)) (N (subO 19 P) (N (o164 P) L L) (N (o228 P) L L))) (N (o52 P) (N (subO 3 P) (N (o148 P) L L) (N (o212 P) L L)) (N (subO 35 P) (N (o180 P) L L) (N (o244 P) L L)))) (N (o28 P) (N (o44 P) (N (o76 P) (N (o140 P) L L) (N (o204 P) L L)) (N (subO 27 P) (N (o172 P) L L) (N (o236 P) L L))) (N (o60 P) (N (subO 11 P) (N (o156 P) L L) (N (o220 P) L L)) (N (o124 P) (N (o188 P) L L) (N (o252 P) L L)))))) (N (o6 P) (N (o10 P) (N (o18 P) (N (o34 P) (N (o66 P) (N (o130 P) (N (o258 P) L L) L) (N (o194 P) L L)) (N (subO 17 P) (N (o162 P) L L) (N (o226 P) L L))) (N (o50 P) (N (subO 1 P) (N (o146 P) L L) (N (o210 P) L L)) (N (subO 33 P) (N (o178 P) L L) (N (o242 P) L L)))) (N (o26 P) (N (o42 P) (N (o74 P) (N (o138 P) L L) (N (o202 P) L L)) (N (subO 25 P) (N (o170 P) L L) (N (o234 P) L L))) (N (o58 P) (N (subO 9 P) (N (o154 P) L L) (N (o218 P) L L)) (N (o122 P) (N (o186 P) L L) (N (o250 P) L L))))) (N (o14 P) (N (o22 P) (N (o38 P) (N (b1O P) (N (o134 P) (N (o262 P) L L) L) (N (o198 P) L L)) (N (subO 21 P) (N (o166 P) L L) (N (o230 P) L L))) (N (o54 P) (N (subO 5 P) (N (o150 P) L L) (N (o214 P) L L)) (N (subO 37 P) (N (o182 P) L L) (N (o246 P) L L)))) (N (o30 P) (N (o46 P) (N (o78 P) (N (o142 P) L L) (N (o206 P) L L)) (N (subO 29 P) (N (o174 P) L L) (N (o238 P) L L))) (N (o62 P) (N (subO 13 P) (N (o158 P) L L) (N (o222 P) L L)) (N (o126 P) (N (o190 P) L L) (N (o254 P) L L))))))))
noncomputable def st_p17 (w : World) (os : OsState) : SharedT := ⟨tr_p17 w.params, 264, {}, #[], {}, 2616, os⟩
noncomputable def tr_p18 (P : Params) : BT := (N (o0 P) (N (o1 P) (N (o3v19 P) (N (o7 P) (N (o15 P) (N (o31 P) (N (o63 P) (N (o127 P) (N (o255 P) L L) L) (N (o191 P) L L)) (N (subO 14 P) (N (o159 P) L L) (N (o223 P) L L))) (N (o47 P) (N (o79 P) (N (o143 P) L L) (N (o207 P) L L)) (N (subO 30 P) (N (o175 P) L L) (N (o239 P) L L)))) (N (o23 P) (N (o39 P) (N (o71 P) (N (o135 P) (N (o263 P) L L) L) (N (o199 P) L L)) (N (subO 22 P) (N (o167 P) L L) (N (o231 P) L L))) (N (o55 P) (N (subO 6 P) (N (o151 P) L L) (N (o215 P) L L)) (N (subO 38 P) (N (o183 P) L L) (N (o247 P) L L))))) (N (o11v1 P) (N (o19 P) (N (o35 P) (N (o67 P) (N (o131 P) (N (o259 P) L L) L) (N (o195 P) L L)) (N (subO 18 P) (N (o163 P) L L) (N (o227 P) L L))) (N (o51 P) (N (subO 2 P) (N (o147 P) L L) (N (o211 P) L L)) (N (subO 34 P) (N (o179 P) L L) (N (o243 P) L L)))) (N (o27 P) (N (o43 P) (N (o75 P) (N (o139 P) L L) (N (o203 P) L L)) (N (subO 26 P) (N (o171 P) L L) (N (o235 P) L L))) (N (o59 P) (N (subO 10 P) (N (o155 P) L L) (N (o219 P) L L)) (N (o123 P) (N (o187 P) L L) (N (o251 P) L L)))))) (N (o5 P) (N (o9 P) (N (o17 P) (N (o33 P) (N (o65 P) (N (o129 P) (N (o257 P) L L) L) (N (o193 P) L L)) (N (subO 16 P) (N (o161 P) L L) (N (o225 P) L L))) (N (o49 P) (N (b3O' P) (N (o145 P) L L) (N (o209 P) L L)) (N (subO 32 P) (N (o177 P) L L) (N (o241 P) L L)))) (N (o25 P) (N (o41 P) (N (o73 P) (N (o137 P) L L) (N (o201 P) L L)) (N (subO 24 P) (N (o169 P) L L) (N (o233 P) L L))) (N (o57 P) (N (subO 8 P) (N (o153 P) L L) (N (o217 P) L L)) (N (o121 P) (N (o185 P) L L) (N (o249 P) L L))))) (N (o13 P) (N (o21 P) (N (o37 P) (N (o69 P) (N (o133 P) (N (o261 P) L L) L) (N (o197 P) L L)) (N (subO 20 P) (N (o165 P) L L) (N (o229 P) L L))) (N (o53 P) (N (subO 4 P) (N (o149 P) L L) (N (o213 P) L L)) (N (subO 36 P) (N (o181 P) L L) (N (o245 P) L L)))) (N (o29v6 P) (N (o45 P) (N (o77 P) (N (o141 P) L L) (N (o205 P) L L)) (N (subO 28 P) (N (o173 P) L L) (N (o237 P) L L))) (N (o61 P) (N (subO 12 P) (N (o157 P) L L) (N (o221 P) L L)) (N (o125 P) (N (o189 P) L L) (N (o253 P) L L))))))) (N (o2 P) (N (o4 P) (N (o8 P) (N (o16 P) (N (o32 P) (N (o64 P) (N (o128 P) (N (o256 P) L L) L) (N (o192 P) L L)) (N (subO 15 P) (N (o160 P) L L) (N (o224 P) L L))) (N (o48 P) (N (o80 P) (N (o144 P) L L) (N (o208 P) L L)) (N (subO 31 P) (N (o176 P) L L) (N (o240 P) L L)))) (N (o24 P) (N (o40 P) (N (o72 P) (N (o136 P) L L) (N (o200 P) L L)) (N (subO 23 P) (N (o168 P) L L) (N (o232 P) L L))) (N (o56 P) (N (subO 7 P) (N (o152 P) L L) (N (o216 P) L L)) (N (o120 P) (N (o184 P) L L) (N (o248 P) L L))))) (N (o12 P) (N (o20 P) (N (o36 P) (N (o68 P) (N (o132 P) (N (o260 P) L L) L) (N (o196 P) L L)) (N (subO 19 P) (N (o164 P) L L) (N (o228 P) L L))) (N (o52 P) (N (subO 3 P) (N (o148 P) L L) (N (o212 P) L L)) (N (subO 35 P) (N (o180 P) L L) (N (o244 P) L L)))) (N (o28 P) (N (o44 P) (N (o76 P) (N (o140 P) L L) (N (o204 P) L L)) (N (subO 27 P) (N (o172 P) L L) (N (o236 P) L L))) (N (o60 P) (N (subO 11 P) (N (o156 P) L L) (N (o220 P) L L)) (N (o124 P) (N (o188 P) L L) (N (o252 P) L L)))))) (N (o6 P) (N (o10 P) (N (o18 P) (N (o34 P) (N (o66 P) (N (o130 P) (N (o258 P) L L) L) (N (o194 P) L L)) (N (subO 17 P) (N (o162 P) L L) (N (o226 P) L L))) (N (o50 P) (N (subO 1 P) (N (o146 P) L L) (N (o210 P) L L)) (N (subO 33 P) (N (o178 P) L L) (N (o242 P) L L)))) (N (o26 P) (N (o42 P) (N (o74 P) (N (o138 P) L L) (N (o202 P) L L)) (N (subO 25 P) (N (o170 P) L L) (N (o234 P) L L))) (N (o58 P) (N (subO 9 P) (N (o154 P) L L) (N (o218 P) L L)) (N (o122 P) (N (o186 P) L L) (N (o250 P) L L))))) (N (o14 P) (N (o22 P) (N (o38 P) (N (b1O P) (N (o134 P) (N (o262 P) L L) L) (N (o198 P) L L)) (N (subO 21 P) (N (o166 P) L L) (N (o230 P) L L))) (N (o54 P) (N (subO 5 P) (N (o150 P) L L) (N (o214 P) L L)) (N (subO 37 P) (N (o182 P) L L) (N (o246 P) L L)))) (N (o30 P) (N (o46 P) (N (o78 P) (N (o142 P) L L) (N (o206 P) L L)) (N (subO 29 P) (N (o174 P) L L) (N (o238 P) L L))) (N (o62 P) (N (subO 13 P) (N (o158 P) L L) (N (o222 P) L L)) (N (o126 P) (N (o190 P) L L) (N (o254 P) L L))))))))
noncomputable def st_p18 (w : World) (os : OsState) : SharedT := ⟨tr_p18 w.params, 264, {}, #[], {}, 2618, os⟩
noncomputable def tr_p19 (P : Params) : BT := (N (o0 P) (N (o1 P) (N (o3v20 P) (N (o7 P) (N (o15 P) (N (o31 P) (N (o63 P) (N (o127 P) (N (o255 P) L L) L) (N (o191 P) L L)) (N (subO 14 P) (N (o159 P) L L) (N (o223 P) L L))) (N (o47 P) (N (o79 P) (N (o143 P) L L) (N (o207 P) L L)) (N (subO 30 P) (N (o175 P) L L) (N (o239 P) L L)))) (N (o23 P) (N (o39 P) (N (o71 P) (N (o135 P) (N (o263 P) L L) L) (N (o199 P) L L)) (N (subO 22 P) (N (o167 P) L L) (N (o231 P) L L))) (N (o55 P) (N (subO 6 P) (N (o151 P) L L) (N (o215 P) L L)) (N (subO 38 P) (N (o183 P) L L) (N (o247 P) L L))))) (N (o11v1 P) (N (o19 P) (N (o35 P) (N (o67 P) (N (o131 P) (N (o259 P) L L) L) (N (o195 P) L L)) (N (subO 18 P) (N (o163 P) L L) (N (o227 P) L L))) (N (o51 P) (N (subO 2 P) (N (o147 P) L L) (N (o211 P) L L)) (N (subO 34 P) (N (o179 P) L L) (N (o243 P) L L)))) (N (o27 P) (N (o43 P) (N (o75 P) (N (o139 P) (N (o267 P) L L) L) (N (o203 P) L L)) (N (subO 26 P) (N (o171 P) L L) (N (o235 P) L L))) (N (o59 P) (N (subO 10 P) (N (o155 P) L L) (N (o219 P) L L)) (N (o123 P) (N (o187 P) L L) (N (o251 P) L L)))))) (N (o5 P) (N (o9 P) (N (o17 P) (N (o33 P) (N (o65 P) (N (o129 P) (N (o257 P) L L) L) (N (o193 P) L L)) (N (subO 16 P) (N (o161 P) L L) (N (o225 P) L L))) (N (o49 P) (N (b3O' P) (N (o145 P) L L) (N (o209 P) L L)) (N (subO 32 P) (N (o177 P) L L) (N (o241 P) L L)))) (N (o25 P) (N (o41 P) (N (o73 P) (N (o137 P) (N (o265 P) L L) L) (N (o201 P) L L)) (N (subO 24 P) (N (o169 P) L L) (N (o233 P) L L))) (N (o57 P) (N (subO 8 P) (N (o153 P) L L) (N (o217 P) L L)) (N (o121 P) (N (o185 P) L L) (N (o249 P) L L))))) (N (o13 P) (N (o21 P) (N (o37 P) (N (o69 P) (N (o133 P) (N (o261 P) L L) L) (N (o197 P) L L)) (N (subO 20 P) (N (o165 P) L L) (N (o229 P) L L))) (N (o53 P) (N (subO 4 P) (N (o149 P) L L) (N (o213 P) L L)) (N (subO 36 P) (N (o181 P) L L) (N (o245 P) L L)))) (N (o29v7 P) (N (o45 P) (N (o77 P) (N (o141 P) L L) (N (o205 P) L L)) (N (subO 28 P) (N (o173 P) L L) (N (o237 P) L L))) (N (o61 P) (N (subO 12 P) (N (o157 P) L L) (N (o221 P) L L)) (N (o125 P) (N (o189 P) L L) (N (o253 P) L L))))))) (N (o2 P) (N (o4 P) (N (o8 P) (N (o16 P) (N (o32 P) (N (o64 P) (N (o128 P) (N (o256 P) L L) L) (N (o192 P) L L)) (N (subO 15 P) (N (o160 P) L L) (N (o224 P) L L))) (N (o48 P) (N (o80 P) (N (o144 P) L L) (N (o208 P) L L)) (N (subO 31 P) (N (o176 P) L L) (N (o240 P) L L)))) (N (o24 P) (N (o40 P) (N (o72 P) (N (o136 P) (N (o264 P) L L) L) (N (o200 P) L L)) (N (subO 23 P) (N (o168 P) L L) (N (o232 P) L L))) (N (o56 P) (N (subO 7 P) (N (o152 P) L L) (N (o216 P) L L)) (N (o120 P) (N (o184 P) L L) (N (o248 P) L L))))) (N (o12 P) (N (o20 P) (N (o36 P) (N (o68 P) (N (o132 P) (N (o260 P) L L) L) (N (o196 P) L L)) (N (subO 19 P) (N (o164 P) L L) (N (o228 P) L L))) (N (o52 P) (N (subO 3 P) (N (o148 P) L L) (N (o212 P) L L)) (N (subO 35 P) (N (o180 P) L L) (N (o244 P) L L)))) (N (o28 P) (N (o44 P) (N (o76 P) (N (o140 P) (N (o268 P) L L) L) (N (o204 P) L L)) (N (subO 27 P) (N (o172 P) L L) (N (o236 P) L L))) (N (o60 P) (N (subO 11 P) (N (o156 P) L L) (N (o220 P) L L)) (N (o124 P) (N (o188 P) L L) (N (o252 P) L L)))))) (N (o6 P) (N (o10 P) (N (o18 P) (N (o34 P) (N (o66 P) (N (o130 P) (N (o258 P) L L) L) (N (o194 P) L L)) (N (subO 17 P) (N (o162 P) L L) (N (o226 P) L L))) (N (o50 P) (N (subO 1 P) (N (o146 P) L L) (N (o210 P) L L)) (N (subO 33 P) (N (o178 P) L L) (N (o242 P) L L)))) (N (o26 P) (N (o42 P) (N (o74 P) (N (o138 P) (N (o266 P) L L) L) (N (o202 P) L L)) (N (subO 25 P) (N (o170 P) L L) (N (o234 P) L L))) (N (o58 P) (N (subO 9 P) (N (o154 P) L L) (N (o218 P) L L)) (N (o122 P) (N (o186 P) L L) (N (o250 P) L L))))) (N (o14 P) (N (o22 P) (N (o38 P) (N (b1O P) (N (o134 P) (N (o262 P) L L) L) (N (o198 P) L L)) (N (subO 21 P) (N (o166 P) L L) (N (o230 P) L L))) (N (o54 P) (N (subO 5 P) (N (o150 P) L L) (N (o214 P) L L)) (N (subO 37 P) (N (o182 P) L L) (N (o246 P) L L)))) (N (o30 P) (N (o46 P) (N (o78 P) (N (o142 P) L L) (N (o206 P) L L)) (N (subO 29 P) (N (o174 P) L L) (N (o238 P) L L))) (N (o62 P) (N (subO 13 P) (N (o158 P) L L) (N (o222 P) L L)) (N (o126 P) (N (o190 P) L L) (N (o254 P) L L))))))))
noncomputable def st_p19 (w : World) (os : OsState) : SharedT := ⟨tr_p19 w.params, 269, {}, #[], {}, 2624, os⟩
noncomputable def tr_p20 (P : Params) : BT := (N (o0 P) (N (o1 P) (N (o3v21 P) (N (o7 P) (N (o15 P) (N (o31 P) (N (o63 P) (N (o127 P) (N (o255 P) L L) L) (N (o191 P) L L)) (N (subO 14 P) (N (o159 P) L L) (N (o223 P) L L))) (N (o47 P) (N (o79 P) (N (o143 P) (N (o271 P) L L) L) (N (o207 P) L L)) (N (subO 30 P) (N (o175 P) L L) (N (o239 P) L L)))) (N (o23 P) (N (o39 P) (N (o71 P) (N (o135 P) (N (o263 P) L L) L) (N (o199 P) L L)) (N (subO 22 P) (N (o167 P) L L) (N (o231 P) L L))) (N (o55 P) (N (subO 6 P) (N (o151 P) L L) (N (o215 P) L L)) (N (subO 38 P) (N (o183 P) L L) (N (o247 P) L L))))) (N (o11v1 P) (N (o19 P) (N (o35 P) (N (o67 P) (N (o131 P) (N (o259 P) L L) L) (N (o195 P) L L)) (N (subO 18 P) (N (o163 P) L L) (N (o227 P) L L))) (N (o51 P) (N (subO 2 P) (N (o147 P) (N (o275 P) L L) L) (N (o211 P) L L)) (N (subO 34 P) (N (o179 P) L L) (N (o243 P) L L)))) (N (o27 P) (N (o43 P) (N (o75 P) (N (o139 P) (N (o267 P) L L) L) (N (o203 P) L L)) (N (subO 26 P) (N (o171 P) L L) (N (o235 P) L L))) (N (o59 P) (N (subO 10 P) (N (o155 P) L L) (N (o219 P) L L)) (N (o123 P) (N (o187 P) L L) (N (o251 P) L L)))))) (N (o5 P) (N (o9 P) (N (o17 P) (N (o33 P) (N (o65 P) (N (o129 P) (N (o257 P) L L) L) (N (o193 P) L L)) (N (subO 16 P) (N (o161 P) L L) (N (o225 P) L L))) (N (o49 P) (N (b3O' P) (N (o145 P) (N (o273 P) L L) L) (N (o209 P) L L)) (N (subO 32 P) (N (o177 P) L L) (N (o241 P) L L)))) (N (o25 P) (N (o41 P) (N (o73 P) (N (o137 P) (N (o265 P) L L) L) (N (o201 P) L L)) (N (subO 24 P) (N (o169 P) L L) (N (o233 P) L L))) (N (o57 P) (N (subO 8 P) (N (o153 P) L L) (N (o217 P) L L)) (N (o121 P) (N (o185 P) L L) (N (o249 P) L L))))) (N (o13 P) (N (o21 P) (N (o37 P) (N (o69 P) (N (o133 P) (N (o261 P) L L) L) (N (o197 P) L L)) (N (subO 20 P) (N (o165 P) L L) (N (o229 P) L L))) (N (o53 P) (N (subO 4 P) (N (o149 P) L L) (N (o213 P) L L)) (N (subO 36 P) (N (o181 P) L L) (N (o245 P) L L)))) (N (o29v8 P) (N (o45 P) (N (o77 P) (N (o141 P) (N (o269 P) L L) L) (N (o205 P) L L)) (N (subO 28 P) (N (o173 P) L L) (N (o237 P) L L))) (N (o61 P) (N (subO 12 P) (N (o157 P) L L) (N (o221 P) L L)) (N (o125 P) (N (o189 P) L L) (N (o253 P) L L))))))) (N (o2 P) (N (o4 P) (N (o8 P) (N (o16 P) (N (o32 P) (N (o64 P) (N (o128 P) (N (o256 P) L L) L) (N (o192 P) L L)) (N (subO 15 P) (N (o160 P) L L) (N (o224 P) L L))) (N (o48 P) (N (o80 P) (N (o144 P) (N (o272 P) L L) L) (N (o208 P) L L)) (N (subO 31 P) (N (o176 P) L L) (N (o240 P) L L)))) (N (o24 P) (N (o40 P) (N (o72 P) (N (o136 P) (N (o264 P) L L) L) (N (o200 P) L L)) (N (subO 23 P) (N (o168 P) L L) (N (o232 P) L L))) (N (o56 P) (N (subO 7 P) (N (o152 P) L L) (N (o216 P) L L)) (N (o120 P) (N (o184 P) L L) (N (o248 P) L L))))) (N (o12 P) (N (o20 P) (N (o36 P) (N (o68 P) (N (o132 P) (N (o260 P) L L) L) (N (o196 P) L L)) (N (subO 19 P) (N (o164 P) L L) (N (o228 P) L L))) (N (o52 P) (N (subO 3 P) (N (o148 P) L L) (N (o212 P) L L)) (N (subO 35 P) (N (o180 P) L L) (N (o244 P) L L)))) (N (o28 P) (N (o44 P) (N (o76 P) (N (o140 P) (N (o268 P) L L) L) (N (o204 P) L L)) (N (subO 27 P) (N (o172 P) L L) (N (o236 P) L L))) (N (o60 P) (N (subO 11 P) (N (o156 P) L L) (N (o220 P) L L)) (N (o124 P) (N (o188 P) L L) (N (o252 P) L L)))))) (N (o6 P) (N (o10 P) (N (o18 P) (N (o34 P) (N (o66 P) (N (o130 P) (N (o258 P) L L) L) (N (o194 P) L L)) (N (subO 17 P) (N (o162 P) L L) (N (o226 P) L L))) (N (o50 P) (N (subO 1 P) (N (o146 P) (N (o274 P) L L) L) (N (o210 P) L L)) (N (subO 33 P) (N (o178 P) L L) (N (o242 P) L L)))) (N (o26 P) (N (o42 P) (N (o74 P) (N (o138 P) (N (o266 P) L L) L) (N (o202 P) L L)) (N (subO 25 P) (N (o170 P) L L) (N (o234 P) L L))) (N (o58 P) (N (subO 9 P) (N (o154 P) L L) (N (o218 P) L L)) (N (o122 P) (N (o186 P) L L) (N (o250 P) L L))))) (N (o14 P) (N (o22 P) (N (o38 P) (N (b1O P) (N (o134 P) (N (o262 P) L L) L) (N (o198 P) L L)) (N (subO 21 P) (N (o166 P) L L) (N (o230 P) L L))) (N (o54 P) (N (subO 5 P) (N (o150 P) L L) (N (o214 P) L L)) (N (subO 37 P) (N (o182 P) L L) (N (o246 P) L L)))) (N (o30 P) (N (o46 P) (N (o78 P) (N (o142 P) (N (o270 P) L L) L) (N (o206 P) L L)) (N (subO 29 P) (N (o174 P) L L) (N (o238 P) L L))) (N (o62 P) (N (subO 13 P) (N (o158 P) L L) (N (o222 P) L L)) (N (o126 P) (N (o190 P) L L) (N (o254 P) L L))))))))
noncomputable def st_p20 (w : World) (os : OsState) : SharedT := ⟨tr_p20 w.params, 276, {}, #[], {}, 2632, os⟩
noncomputable def tr_p21 (P : Params) : BT := (N (o0 P) (N (o1 P) (N (o3v22 P) (N (o7 P) (N (o15 P) (N (o31 P) (N (o63 P) (N (o127 P) (N (o255 P) L L) L) (N (o191 P) L L)) (N (subO 14 P) (N (o159 P) L L) (N (o223 P) L L))) (N (o47 P) (N (o79 P) (N (o143 P) (N (o271 P) L L) L) (N (o207 P) L L)) (N (subO 30 P) (N (o175 P) L L) (N (o239 P) L L)))) (N (o23 P) (N (o39 P) (N (o71 P) (N (o135 P) (N (o263 P) L L) L) (N (o199 P) L L)) (N (subO 22 P) (N (o167 P) L L) (N (o231 P) L L))) (N (o55 P) (N (subO 6 P) (N (o151 P) (N (o279 P) L L) L) (N (o215 P) L L)) (N (subO 38 P) (N (o183 P) L L) (N (o247 P) L L))))) (N (o11v1 P) (N (o19 P) (N (o35 P) (N (o67 P) (N (o131 P) (N (o259 P) L L) L) (N (o195 P) L L)) (N (subO 18 P) (N (o163 P) L L) (N (o227 P) L L))) (N (o51 P) (N (subO 2 P) (N (o147 P) (N (o275 P) L L) L) (N (o211 P) L L)) (N (subO 34 P) (N (o179 P) L L) (N (o243 P) L L)))) (N (o27 P) (N (o43 P) (N (o75 P) (N (o139 P) (N (o267 P) L L) L) (N (o203 P) L L)) (N (subO 26 P) (N (o171 P) L L) (N (o235 P) L L))) (N (o59 P) (N (subO 10 P) (N (o155 P) L L) (N (o219 P) L L)) (N (o123 P) (N (o187 P) L L) (N (o251 P) L L)))))) (N (o5 P) (N (o9 P) (N (o17 P) (N (o33 P) (N (o65 P) (N (o129 P) (N (o257 P) L L) L) (N (o193 P) L L)) (N (subO 16 P) (N (o161 P) L L) (N (o225 P) L L))) (N (o49 P) (N (b3O' P) (N (o145 P) (N (o273 P) L L) L) (N (o209 P) L L)) (N (subO 32 P) (N (o177 P) L L) (N (o241 P) L L)))) (N (o25 P) (N (o41 P) (N (o73 P) (N (o137 P) (N (o265 P) L L) L) (N (o201 P) L L)) (N (subO 24 P) (N (o169 P) L L) (N (o233 P) L L))) (N (o57 P) (N (subO 8 P) (N (o153 P) L L) (N (o217 P) L L)) (N (o121 P) (N (o185 P) L L) (N (o249 P) L L))))) (N (o13 P) (N (o21 P) (N (o37 P) (N (o69 P) (N (o133 P) (N (o261 P) L L) L) (N (o197 P) L L)) (N (subO 20 P) (N (o165 P) L L) (N (o229 P) L L))) (N (o53 P) (N (subO 4 P) (N (o149 P) (N (o277 P) L L) L) (N (o213 P) L L)) (N (subO 36 P) (N (o181 P) L L) (N (o245 P) L L)))) (N (o29v9 P) (N (o45 P) (N (o77 P) (N (o141 P) (N (o269 P) L L) L) (N (o205 P) L L)) (N (subO 28 P) (N (o173 P) L L) (N (o237 P) L L))) (N (o61 P) (N (subO 12 P) (N (o157 P) L L) (N (o221 P) L L)) (N (o125 P) (N (o189 P) L L) (N (o253 P) L L))))))) (N (o2 P) (N (o4 P) (N (o8 P) (N (o16 P) (N (o32 P) (N (o64 P) (N (o128 P) (N (o256 P) L L) L) (N (o192 P) L L)) (N (subO 15 P) (N (o160 P) L L) (N (o224 P) L L))) (N (o48 P) (N (o80 P) (N (o144 P) (N (o272 P) L L) L) (N (o208 P) L L)) (N (subO 31 P) (N (o176 P) L L) (N (o240 P) L L)))) (N (o24 P) (N (o40 P) (N (o72 P) (N (o136 P) (N (o264 P) L L) L) (N (o200 P) L L)) (N (subO 23 P) (N (o168 P) L L) (N (o232 P) L L))) (N (o56 P) (N (subO 7 P) (N (o152 P) (N (o280 P) L L) L) (N (o216 P) L L)) (N (o120 P) (N (o184 P) L L) (N (o248 P) L L))))) (N (o12 P) (N (o20 P) (N (o36 P) (N (o68 P) (N (o132 P) (N (o260 P) L L) L) (N (o196 P) L L)) (N (subO 19 P) (N (o164 P) L L) (N (o228 P) L L))) (N (o52 P) (N (subO 3 P) (N (o148 P) (N (o276 P) L L) L) (N (o212 P) L L)) (N (subO 35 P) (N (o180 P) L L) (N (o244 P) L L)))) (N (o28 P) (N (o44 P) (N (o76 P) (N (o140 P) (N (o268 P) L L) L) (N (o204 P) L L)) (N (subO 27 P) (N (o172 P) L L) (N (o236 P) L L))) (N (o60 P) (N (subO 11 P) (N (o156 P) L L) (N (o220 P) L L)) (N (o124 P) (N (o188 P) L L) (N (o252 P) L L)))))) (N (o6 P) (N (o10 P) (N (o18 P) (N (o34 P) (N (o66 P) (N (o130 P) (N (o258 P) L L) L) (N (o194 P) L L)) (N (subO 17 P) (N (o162 P) L L) (N (o226 P) L L))) (N (o50 P) (N (subO 1 P) (N (o146 P) (N (o274 P) L L) L) (N (o210 P) L L)) (N (subO 33 P) (N (o178 P) L L) (N (o242 P) L L)))) (N (o26 P) (N (o42 P) (N (o74 P) (N (o138 P) (N (o266 P) L L) L) (N (o202 P) L L)) (N (subO 25 P) (N (o170 P) L L) (N (o234 P) L L))) (N (o58 P) (N (subO 9 P) (N (o154 P) L L) (N (o218 P) L L)) (N (o122 P) (N (o186 P) L L) (N (o250 P) L L))))) (N (o14 P) (N (o22 P) (N (o38 P) (N (b1O P) (N (o134 P) (N (o262 P) L L) L) (N (o198 P) L L)) (N (subO 21 P) (N (o166 P) L L) (N (o230 P) L L))) (N (o54 P) (N (subO 5 P) (N (o150 P) (N (o278 P) L L) L) (N (o214 P) L L)) (N (subO 37 P) (N (o182 P) L L) (N (o246 P) L L)))) (N (o30 P) (N (o46 P) (N (o78 P) (N (o142 P) (N (o270 P) L L) L) (N (o206 P) L L)) (N (subO 29 P) (N (o174 P) L L) (N (o238 P) L L))) (N (o62 P) (N (subO 13 P) (N (o158 P) L L) (N (o222 P) L L)) (N (o126 P) (N (o190 P) L L) (N (o254 P) L L))))))))
noncomputable def st_p21 (w : World) (os : OsState) : SharedT := ⟨tr_p21 w.params, 281, {}, #[], {}, 2638, os⟩
noncomputable def tr_p22 (P : Params) : BT := (N (o0 P) (N (o1 P) (N (o3v23 P) (N (o7 P) (N (o15 P) (N (o31 P) (N (o63 P) (N (o127 P) (N (o255 P) L L) L) (N (o191 P) L L)) (N (subO 14 P) (N (o159 P) (N (o287 P) L L) L) (N (o223 P) L L))) (N (o47 P) (N (o79 P) (N (o143 P) (N (o271 P) L L) L) (N (o207 P) L L)) (N (subO 30 P) (N (o175 P) L L) (N (o239 P) L L)))) (N (o23 P) (N (o39 P) (N (o71 P) (N (o135 P) (N (o263 P) L L) L) (N (o199 P) L L)) (N (subO 22 P) (N (o167 P) L L) (N (o231 P) L L))) (N (o55 P) (N (subO 6 P) (N (o151 P) (N (o279 P) L L) L) (N (o215 P) L L)) (N (subO 38 P) (N (o183 P) L L) (N (o247 P) L L))))) (N (o11v1 P) (N (o19 P) (N (o35 P) (N (o67 P) (N (o131 P) (N (o259 P) L L) L) (N (o195 P) L L)) (N (subO 18 P) (N (o163 P) L L) (N (o227 P) L L))) (N (o51 P) (N (subO 2 P) (N (o147 P) (N (o275 P) L L) L) (N (o211 P) L L)) (N (subO 34 P) (N (o179 P) L L) (N (o243 P) L L)))) (N (o27 P) (N (o43 P) (N (o75 P) (N (o139 P) (N (o267 P) L L) L) (N (o203 P) L L)) (N (subO 26 P) (N (o171 P) L L) (N (o235 P) L L))) (N (o59 P) (N (subO 10 P) (N (o155 P) (N (o283 P) L L) L) (N (o219 P) L L)) (N (o123 P) (N (o187 P) L L) (N (o251 P) L L)))))) (N (o5 P) (N (o9 P) (N (o17 P) (N (o33 P) (N (o65 P) (N (o129 P) (N (o257 P) L L) L) (N (o193 P) L L)) (N (subO 16 P) (N (o161 P) L L) (N (o225 P) L L))) (N (o49 P) (N (b3O' P) (N (o145 P) (N (o273 P) L L) L) (N (o209 P) L L)) (N (subO 32 P) (N (o177 P) L L) (N (o241 P) L L)))) (N (o25 P) (N (o41 P) (N (o73 P) (N (o137 P) (N (o265 P) L L) L) (N (o201 P) L L)) (N (subO 24 P) (N (o169 P) L L) (N (o233 P) L L))) (N (o57 P) (N (subO 8 P) (N (o153 P) (N (o281 P) L L) L) (N (o217 P) L L)) (N (o121 P) (N (o185 P) L L) (N (o249 P) L L))))) (N (o13 P) (N (o21 P) (N (o37 P) (N (o69 P) (N (o133 P) (N (o261 P) L L) L) (N (o197 P) L L)) (N (subO 20 P) (N (o165 P) L L) (N (o229 P) L L))) (N (o53 P) (N (subO 4 P) (N (o149 P) (N (o277 P) L L) L) (N (o213 P) L L)) (N (subO 36 P) (N (o181 P) L L) (N (o245 P) L L)))) (N (o29v10 P) (N (o45 P) (N (o77 P) (N (o141 P) (N (o269 P) L L) L) (N (o205 P) L L)) (N (subO 28 P) (N (o173 P) L L) (N (o237 P) L L))) (N (o61 P) (N (subO 12 P) (N (o157 P) (N (o285 P) L L) L) (N (o221 P) L L)) (N (o125 P) (N (o189 P) L L) (N (o253 P) L L))))))) (N (o2 P) (N (o4 P) (N (o8 P) (N (o16 P) (N (o32 P) (N (o64 P) (N (o128 P) (N (o256 P) L L) L) (N (o192 P) L L)) (N (subO 15 P) (N (o160 P) L L) (N (o224 P) L L))) (N (o48 P) (N (o80 P) (N (o144 P) (N (o272 P) L L) L) (N (o208 P) L L)) (N (subO 31 P) (N (o176 P) L L) (N (o240 P) L L)))) (N (o24 P) (N (o40 P) (N (o72 P) (N (o136 P) (N (o264 P) L L) L) (N (o200 P) L L)) (N (subO 23 P) (N (o168 P) L L) (N (o232 P) L L))) (N (o56 P) (N (subO 7 P) (N (o152 P) (N (o280 P) L L) L) (N (o216 P) L L)) (N (o120 P) (N (o184 P) L L) (N (o248 P) L L))))) (N (o12 P) (N (o20 P) (N (o36 P) (N (o68 P) (N (o132 P) (N (o260 P) L L) L) (N (o196 P) L L)) (N (subO 19 P) (N (o164 P) L L) (N (o228 P) L L))) (N (o52 P) (N (subO 3 P) (N (o148 P) (N (o276 P) L L) L) (N (o212 P) L L)) (N (subO 35 P) (N (o180 P) L L) (N (o244 P) L L)))) (N (o28 P) (N (o44 P) (N (o76 P) (N (o140 P) (N (o268 P) L L) L) (N (o204 P) L L)) (N (subO 27 P) (N (o172 P) L L) (N (o236 P) L L))) (N (o60 P) (N (subO 11 P) (N (o156 P) (N (o284 P) L L) L) (N (o220 P) L L)) (N (o124 P) (N (o188 P) L L) (N (o252 P) L L)))))) (N (o6 P) (N (o10 P) (N (o18 P) (N (o34 P) (N (o66 P) (N (o130 P) (N (o258 P) L L) L) (N (o194 P) L L)) (N (subO 17 P) (N (o162 P) L L) (N (o226 P) L L))) (N (o50 P) (N (subO 1 P) (N (o146 P) (N (o274 P) L L) L) (N (o210 P) L L)) (N (subO 33 P) (N (o178 P) L L) (N (o242 P) L L)))) (N (o26 P) (N (o42 P) (N (o74 P) (N (o138 P) (N (o266 P) L L) L) (N (o202 P) L L)) (N (subO 25 P) (N (o170 P) L L) (N (o234 P) L L))) (N (o58 P) (N (subO 9 P) (N (o154 P) (N (o282 P) L L) L) (N (o218 P) L L)) (N (o122 P) (N (o186 P) L L) (N (o250 P) L L))))) (N (o14 P) (N (o22 P) (N (o38 P) (N (b1O P) (N (o134 P) (N (o262 P) L L) L) (N (o198 P) L L)) (N (subO 21 P) (N (o166 P) L L) (N (o230 P) L L))) (N (o54 P) (N (subO 5 P) (N (o150 P) (N (o278 P) L L) L) (N (o214 P) L L)) (N (subO 37 P) (N (o182 P) L L) (N (o246 P) L L)))) (N (o30 P) (N (o46 P) (N (o78 P) (N (o142 P) (N (o270 P) L L) L) (N (o206 P) L L)) (N (subO 29 P) (N (o174 P) L L) (N (o238 P) L L))) (N (o62 P) (N (subO 13 P) (N (o158 P) (N (o286 P) L L) L) (N (o222 P) L L)) (N (o126 P) (N (o190 P) L L) (N (o254 P) L L))))))))
noncomputable def st_p22 (w : World) (os : OsState) : SharedT := ⟨tr_p22 w.params, 288, {}, #[], {}, 2655, os⟩
noncomputable def tr_p23 (P : Params) : BT := (N (o0 P) (N (o1 P) (N (o3v24 P) (N (o7 P) (N (o15 P) (N (o31 P) (N (o63 P) (N (o127 P) (N (o255 P) L L) L) (N (o191 P) L L)) (N (subO 14 P) (N (o159 P) (N (o287 P) L L) L) (N (o223 P) L L))) (N (o47 P) (N (o79 P) (N (o143 P) (N (o271 P) L L) L) (N (o207 P) L L)) (N (subO 30 P) (N (o175 P) L L) (N (o239 P) L L)))) (N (o23 P) (N (o39 P) (N (o71 P) (N (o135 P) (N (o263 P) L L) L) (N (o199 P) L L)) (N (subO 22 P) (N (o167 P) L L) (N (o231 P) L L))) (N (o55 P) (N (subO 6 P) (N (o151 P) (N (o279 P) L L) L) (N (o215 P) L L)) (N (subO 38 P) (N (o183 P) L L) (N (o247 P) L L))))) (N (o11v1 P) (N (o19 P) (N (o35 P) (N (o67 P) (N (o131 P) (N (o259 P) L L) L) (N (o195 P) L L)) (N (subO 18 P) (N (o163 P) (N (o291 P) L L) L) (N (o227 P) L L))) (N (o51 P) (N (subO 2 P) (N (o147 P) (N (o275 P) L L) L) (N (o211 P) L L)) (N (subO 34 P) (N (o179 P) L L) (N (o243 P) L L)))) (N (o27 P) (N (o43 P) (N (o75 P) (N (o139 P) (N (o267 P) L L) L) (N (o203 P) L L)) (N (subO 26 P) (N (o171 P) L L) (N (o235 P) L L))) (N (o59 P) (N (subO 10 P) (N (o155 P) (N (o283 P) L L) L) (N (o219 P) L L)) (N (o123 P) (N (o187 P) L L) (N (o251 P) L L)))))) (N (o5 P) (N (o9 P) (N (o17 P) (N (o33 P) (N (o65 P) (N (o129 P) (N (o257 P) L L) L) (N (o193 P) L L)) (N (subO 16 P) (N (o161 P) (N (o289 P) L L) L) (N (o225 P) L L))) (N (o49 P) (N (b3O' P) (N (o145 P) (N (o273 P) L L) L) (N (o209 P) L L)) (N (subO 32 P) (N (o177 P) L L) (N (o241 P) L L)))) (N (o25 P) (N (o41 P) (N (o73 P) (N (o137 P) (N (o265 P) L L) L) (N (o201 P) L L)) (N (subO 24 P) (N (o169 P) L L) (N (o233 P) L L))) (N (o57 P) (N (subO 8 P) (N (o153 P) (N (o281 P) L L) L) (N (o217 P) L L)) (N (o121 P) (N (o185 P) L L) (N (o249 P) L L))))) (N (o13 P) (N (o21 P) (N (o37 P) (N (o69 P) (N (o133 P) (N (o261 P) L L) L) (N (o197 P) L L)) (N (subO 20 P) (N (o165 P) L L) (N (o229 P) L L))) (N (o53 P) (N (subO 4 P) (N (o149 P) (N (o277 P) L L) L) (N (o213 P) L L)) (N (subO 36 P) (N (o181 P) L L) (N (o245 P) L L)))) (N (o29v11 P) (N (o45 P) (N (o77 P) (N (o141 P) (N (o269 P) L L) L) (N (o205 P) L L)) (N (subO 28 P) (N (o173 P) L L) (N (o237 P) L L))) (N (o61 P) (N (subO 12 P) (N (o157 P) (N (o285 P) L L) L) (N (o221 P) L L)) (N (o125 P) (N (o189 P) L L) (N (o253 P) L L))))))) (N (o2 P) (N (o4 P) (N (o8 P) (N (o16 P) (N (o32 P) (N (o64 P) (N (o128 P) (N (o256 P) L L) L) (N (o192 P) L L)) (N (subO 15 P) (N (o160 P) (N (o288 P) L L) L) (N (o224 P) L L))) (N (o48 P) (N (o80 P) (N (o144 P) (N (o272 P) L L) L) (N (o208 P) L L)) (N (subO 31 P) (N (o176 P) L L) (N (o240 P) L L)))) (N (o24 P) (N (o40 P) (N (o72 P) (N (o136 P) (N (o264 P) L L) L) (N (o200 P) L L)) (N (subO 23 P) (N (o168 P) L L) (N (o232 P) L L))) (N (o56 P) (N (subO 7 P) (N (o152 P) (N (o280 P) L L) L) (N (o216 P) L L)) (N (o120 P) (N (o184 P) L L) (N (o248 P) L L))))) (N (o12 P) (N (o20 P) (N (o36 P) (N (o68 P) (N (o132 P) (N (o260 P) L L) L) (N (o196 P) L L)) (N (subO 19 P) (N (o164 P) (N (o292 P) L L) L) (N (o228 P) L L))) (N (o52 P) (N (subO 3 P) (N (o148 P) (N (o276 P) L L) L) (N (o212 P) L L)) (N (subO 35 P) (N (o180 P) L L) (N (o244 P) L L)))) (N (o28 P) (N (o44 P) (N (o76 P) (N (o140 P) (N (o268 P) L L) L) (N (o204 P) L L)) (N (subO 27 P) (N (o172 P) L L) (N (o236 P) L L))) (N (o60 P) (N (subO 11 P) (N (o156 P) (N (o284 P) L L) L) (N (o220 P) L L)) (N (o124 P) (N (o188 P) L L) (N (o252 P) L L)))))) (N (o6 P) (N (o10 P) (N (o18 P) (N (o34 P) (N (o66 P) (N (o130 P) (N (o258 P) L L) L) (N (o194 P) L L)) (N (subO 17 P) (N (o162 P) (N (o290 P) L L) L) (N (o226 P) L L))) (N (o50 P) (N (subO 1 P) (N (o146 P) (N (o274 P) L L) L) (N (o210 P) L L)) (N (subO 33 P) (N (o178 P) L L) (N (o242 P) L L)))) (N (o26 P) (N (o42 P) (N (o74 P) (N (o138 P) (N (o266 P) L L) L) (N (o202 P) L L)) (N (subO 25 P) (N (o170 P) L L) (N (o234 P) L L))) (N (o58 P) (N (subO 9 P) (N (o154 P) (N (o282 P) L L) L) (N (o218 P) L L)) (N (o122 P) (N (o186 P) L L) (N (o250 P) L L))))) (N (o14 P) (N (o22 P) (N (o38 P) (N (b1O P) (N (o134 P) (N (o262 P) L L) L) (N (o198 P) L L)) (N (subO 21 P) (N (o166 P) L L) (N (o230 P) L L))) (N (o54 P) (N (subO 5 P) (N (o150 P) (N (o278 P) L L) L) (N (o214 P) L L)) (N (subO 37 P) (N (o182 P) L L) (N (o246 P) L L)))) (N (o30 P) (N (o46 P) (N (o78 P) (N (o142 P) (N (o270 P) L L) L) (N (o206 P) L L)) (N (subO 29 P) (N (o174 P) L L) (N (o238 P) L L))) (N (o62 P) (N (subO 13 P) (N (o158 P) (N (o286 P) L L) L) (N (o222 P) L L)) (N (o126 P) (N (o190 P) L L) (N (o254 P) L L))))))))
noncomputable def st_p23 (w : World) (os : OsState) : SharedT := ⟨tr_p23 w.params, 293, {}, #[], {}, 2661, os⟩
noncomputable def tr_p24 (P : Params) : BT := (N (o0 P) (N (o1 P) (N (o3v25 P) (N (o7 P) (N (o15 P) (N (o31 P) (N (o63 P) (N (o127 P) (N (o255 P) L L) L) (N (o191 P) L L)) (N (subO 14 P) (N (o159 P) (N (o287 P) L L) L) (N (o223 P) L L))) (N (o47 P) (N (o79 P) (N (o143 P) (N (o271 P) L L) L) (N (o207 P) L L)) (N (subO 30 P) (N (o175 P) L L) (N (o239 P) L L)))) (N (o23 P) (N (o39 P) (N (o71 P) (N (o135 P) (N (o263 P) L L) L) (N (o199 P) L L)) (N (subO 22 P) (N (o167 P) (N (o295 P) L L) L) (N (o231 P) L L))) (N (o55 P) (N (subO 6 P) (N (o151 P) (N (o279 P) L L) L) (N (o215 P) L L)) (N (subO 38 P) (N (o183 P) L L) (N (o247 P) L L))))) (N (o11v1 P) (N (o19 P) (N (o35 P) (N (o67 P) (N (o131 P) (N (o259 P) L L) L) (N (o195 P) L L)) (N (subO 18 P) (N (o163 P) (N (o291 P) L L) L) (N (o227 P) L L))) (N (o51 P) (N (subO 2 P) (N (o147 P) (N (o275 P) L L) L) (N (o211 P) L L)) (N (subO 34 P) (N (o179 P) L L) (N (o243 P) L L)))) (N (o27 P) (N (o43 P) (N (o75 P) (N (o139 P) (N (o267 P) L L) L) (N (o203 P) L L)) (N (subO 26 P) (N (o171 P) L L) (N (o235 P) L L))) (N (o59 P) (N (subO 10 P) (N (o155 P) (N (o283 P) L L) L) (N (o219 P) L L)) (N (o123 P) (N (o187 P) L L) (N (o251 P) L L)))))) (N (o5 P) (N (o9 P) (N (o17 P) (N (o33 P) (N (o65 P) (N (o129 P) (N (o257 P) L L) L) (N (o193 P) L L)) (N (subO 16 P) (N (o161 P) (N (o289 P) L L) L) (N (o225 P) L L))) (N (o49 P) (N (b3O' P) (N (o145 P) (N (o273 P) L L) L) (N (o209 P) L L)) (N (subO 32 P) (N (o177 P) L L) (N (o241 P) L L)))) (N (o25 P) (N (o41 P) (N (o73 P) (N (o137 P) (N (o265 P) L L) L) (N (o201 P) L L)) (N (subO 24 P) (N (o169 P) (N (o297 P) L L) L) (N (o233 P) L L))) (N (o57 P) (N (subO 8 P) (N (o153 P) (N (o281 P) L L) L) (N (o217 P) L L)) (N (o121 P) (N (o185 P) L L) (N (o249 P) L L))))) (N (o13 P) (N (o21 P) (N (o37 P) (N (o69 P) (N (o133 P) (N (o261 P) L L) L) (N (o197 P) L L)) (N (subO 20 P) (N (o165 P) (N (o293 P) L L) L) (N (o229 P) L L))) (N (o53 P) (N (subO 4 P) (N (o149 P) (N (o277 P) L L) L) (N (o213 P) L L)) (N (subO 36 P) (N (o181 P) L L) (N (o245 P) L L)))) (N (o29v12 P) (N (o45 P) (N (o77 P) (N (o141 P) (N (o269 P) L L) L) (N (o205 P) L L)) (N (subO 28 P) (N (o173 P) L L) (N (o237 P) L L))) (N (o61 P) (N (subO 12 P) (N (o157 P) (N (o285 P) L L) L) (N (o221 P) L L)) (N (o125 P) (N (o189 P) L L) (N (o253 P) L L))))))) (N (o2 P) (N (o4 P) (N (o8 P) (N (o16 P) (N (o32 P) (N (o64 P) (N (o128 P) (N (o256 P) L L) L) (N (o192 P) L L)) (N (subO 15 P) (N (o160 P) (N (o288 P) L L) L) (N (o224 P) L L))) (N (o48 P) (N (o80 P) (N (o144 P) (N (o272 P) L L) L) (N (o208 P) L L)) (N (subO 31 P) (N (o176 P) L L) (N (o240 P) L L)))) (N (o24 P) (N (o40 P) (N (o72 P) (N (o136 P) (N (o264 P) L L) L) (N (o200 P) L L)) (N (subO 23 P) (N (o168 P) (N (o296 P) L L) L) (N (o232 P) L L))) (N (o56 P) (N (subO 7 P) (N (o152 P) (N (o280 P) L L) L) (N (o216 P) L L)) (N (o120 P) (N (o184 P) L L) (N (o248 P) L L))))) (N (o12 P) (N (o20 P) (N (o36 P) (N (o68 P) (N (o132 P) (N (o260 P) L L) L) (N (o196 P) L L)) (N (subO 19 P) (N (o164 P) (N (o292 P) L L) L) (N (o228 P) L L))) (N (o52 P) (N (subO 3 P) (N (o148 P) (N (o276 P) L L) L) (N (o212 P) L L)) (N (subO 35 P) (N (o180 P) L L) (N (o244 P) L L)))) (N (o28 P) (N (o44 P) (N (o76 P) (N (o140 P) (N (o268 P) L L) L) (N (o204 P) L L)) (N (subO 27 P) (N (o172 P) L L) (N (o236 P) L L))) (N (o60 P) (N (subO 11 P) (N (o156 P) (N (o284 P) L L) L) (N (o220 P) L L)) (N (o124 P) (N (o188 P) L L) (N (o252 P) L L)))))) (N (o6 P) (N (o10 P) (N (o18 P) (N (o34 P) (N (o66 P) (N (o130 P) (N (o258 P) L L) L) (N (o194 P) L L)) (N (subO 17 P) (N (o162 P) (N (o290 P) L L) L) (N (o226 P) L L))) (N (o50 P) (N (subO 1 P) (N (o146 P) (N (o274 P) L L) L) (N (o210 P) L L)) (N (subO 33 P) (N (o178 P) L L) (N (o242 P) L L)))) (N (o26 P) (N (o42 P) (N (o74 P) (N (o138 P) (N (o266 P) L L) L) (N (o202 P) L L)) (N (subO 25 P) (N (o170 P) L L) (N (o234 P) L L))) (N (o58 P) (N (subO 9 P) (N (o154 P) (N (o282 P) L L) L) (N (o218 P) L L)) (N (o122 P) (N (o186 P) L L) (N (o250 P) L L))))) (N (o14 P) (N (o22 P) (N (o38 P) (N (b1O P) (N (o134 P) (N (o262 P) L L) L) (N (o198 P) L L)) (N (subO 21 P) (N (o166 P) (N (o294 P) L L) L) (N (o230 P) L L))) (N (o54 P) (N (subO 5 P) (N (o150 P) (N (o278 P) L L) L) (N (o214 P) L L)) (N (subO 37 P) (N (o182 P) L L) (N (o246 P) L L)))) (N (o30 P) (N (o46 P) (N (o78 P) (N (o142 P) (N (o270 P) L L) L) (N (o206 P) L L)) (N (subO 29 P) (N (o174 P) L L) (N (o238 P) L L))) (N (o62 P) (N (subO 13 P) (N (o158 P) (N (o286 P) L L) L) (N (o222 P) L L)) (N (o126 P) (N (o190 P) L L) (N (o254 P) L L))))))))
noncomputable def st_p24 (w : World) (os : OsState) : SharedT := ⟨tr_p24 w.params, 298, {}, #[], {}, 2667, os⟩
noncomputable def tr_p25 (P : Params) : BT := (N (o0 P) (N (o1 P) (N (o3v26 P) (N (o7 P) (N (o15 P) (N (o31 P) (N (o63 P) (N (o127 P) (N (o255 P) L L) L) (N (o191 P) L L)) (N (subO 14 P) (N (o159 P) (N (o287 P) L L) L) (N (o223 P) L L))) (N (o47 P) (N (o79 P) (N (o143 P) (N (o271 P) L L) L) (N (o207 P) L L)) (N (subO 30 P) (N (o175 P) (N (o303 P) L L) L) (N (o239 P) L L)))) (N (o23 P) (N (o39 P) (N (o71 P) (N (o135 P) (N (o263 P) L L) L) (N (o199 P) L L)) (N (subO 22 P) (N (o167 P) (N (o295 P) L L) L) (N (o231 P) L L))) (N (o55 P) (N (subO 6 P) (N (o151 P) (N (o279 P) L L) L) (N (o215 P) L L)) (N (subO 38 P) (N (o183 P) L L) (N (o247 P) L L))))) (N (o11v1 P) (N (o19 P) (N (o35 P) (N (o67 P) (N (o131 P) (N (o259 P) L L) L) (N (o195 P) L L)) (N (subO 18 P) (N (o163 P) (N (o291 P) L L) L) (N (o227 P) L L))) (N (o51 P) (N (subO 2 P) (N (o147 P) (N (o275 P) L L) L) (N (o211 P) L L)) (N (subO 34 P) (N (o179 P) L L) (N (o243 P) L L)))) (N (o27 P) (N (o43 P) (N (o75 P) (N (o139 P) (N (o267 P) L L) L) (N (o203 P) L L)) (N (subO 26 P) (N (o171 P) (N (o299 P) L L) L) (N (o235 P) L L))) (N (o59 P) (N (subO 10 P) (N (o155 P) (N (o283 P) L L) L) (N (o219 P) L L)) (N (o123 P) (N (o187 P) L L) (N (o251 P) L L)))))) (N (o5 P) (N (o9 P) (N (o17 P) (N (o33 P) (N (o65 P) (N (o129 P) (N (o257 P) L L) L) (N (o193 P) L L)) (N (subO 16 P) (N (o161 P) (N (o289 P) L L) L) (N (o225 P) L L))) (N (o49 P) (N (b3O' P) (N (o145 P) (N (o273 P) L L) L) (N (o209 P) L L)) (N (subO 32 P) (N (o177 P) L L) (N (o241 P) L L)))) (N (o25 P) (N (o41 P) (N (o73 P) (N (o137 P) (N (o265 P) L L) L) (N (o201 P) L L)) (N (subO 24 P) (N (o169 P) (N (o297 P) L L) L) (N (o233 P) L L))) (N (o57 P) (N (subO 8 P) (N (o153 P) (N (o281 P) L L) L) (N (o217 P) L L)) (N (o121 P) (N (o185 P) L L) (N (o249 P) L L))))) (N (o13 P) (N (o21 P) (N (o37 P) (N (o69 P) (N (o133 P) (N (o261 P) L L) L) (N (o197 P) L L)) (N (subO 20 P) (N (o165 P) (N (o293 P) L L) L) (N (o229 P) L L))) (N (o53 P) (N (subO 4 P) (N (o149 P) (N (o277 P) L L) L) (N (o213 P) L L)) (N (subO 36 P) (N (o181 P) L L) (N (o245 P) L L)))) (N (o29v13 P) (N (o45 P) (N (o77 P) (N (o141 P) (N (o269 P) L L) L) (N (o205 P) L L)) (N (subO 28 P) (N (o173 P) (N (o301 P) L L) L) (N (o237 P) L L))) (N (o61 P) (N (subO 12 P) (N (o157 P) (N (o285 P) L L) L) (N (o221 P) L L)) (N (o125 P) (N (o189 P) L L) (N (o253 P) L L))))))) (N (o2 P) (N (o4 P) (N (o8 P) (N (o16 P) (N (o32 P) (N (o64 P) (N (o128 P) (N (o256 P) L L) L) (N (o192 P) L L)) (N (subO 15 P) (N (o160 P) (N (o288 P) L L) L) (N (o224 P) L L))) (N (o48 P) (N (o80 P) (N (o144 P) (N (o272 P) L L) L) (N (o208 P) L L)) (N (subO 31 P) (N (o176 P) (N (o304 P) L L) L) (N (o240 P) L L)))) (N (o24 P) (N (o40 P) (N (o72 P) (N (o136 P) (N (o264 P) L L) L) (N (o200 P) L L)) (N (subO 23 P) (N (o168 P) (N (o296 P) L L) L) (N (o232 P) L L))) (N (o56 P) (N (subO 7 P) (N (o152 P) (N (o280 P) L L) L) (N (o216 P) L L)) (N (o120 P) (N (o184 P) L L) (N (o248 P) L L))))) (N (o12 P) (N (o20 P) (N (o36 P) (N (o68 P) (N (o132 P) (N (o260 P) L L) L) (N (o196 P) L L)) (N (subO 19 P) (N (o164 P) (N (o292 P) L L) L) (N (o228 P) L L))) (N (o52 P) (N (subO 3 P) (N (o148 P) (N (o276 P) L L) L) (N (o212 P) L L)) (N (subO 35 P) (N (o180 P) L L) (N (o244 P) L L)))) (N (o28 P) (N (o44 P) (N (o76 P) (N (o140 P) (N (o268 P) L L) L) (N (o204 P) L L)) (N (subO 27 P) (N (o172 P) (N (o300 P) L L) L) (N (o236 P) L L))) (N (o60 P) (N (subO 11 P) (N (o156 P) (N (o284 P) L L) L) (N (o220 P) L L)) (N (o124 P) (N (o188 P) L L) (N (o252 P) L L)))))) (N (o6 P) (N (o10 P) (N (o18 P) (N (o34 P) (N (o66 P) (N (o130 P) (N (o258 P) L L) L) (N (o194 P) L L)) (N (subO 17 P) (N (o162 P) (N (o290 P) L L) L) (N (o226 P) L L))) (N (o50 P) (N (subO 1 P) (N (o146 P) (N (o274 P) L L) L) (N (o210 P) L L)) (N (subO 33 P) (N (o178 P) L L) (N (o242 P) L L)))) (N (o26 P) (N (o42 P) (N (o74 P) (N (o138 P) (N (o266 P) L L) L) (N (o202 P) L L)) (N (subO 25 P) (N (o170 P) (N (o298 P) L L) L) (N (o234 P) L L))) (N (o58 P) (N (subO 9 P) (N (o154 P) (N (o282 P) L L) L) (N (o218 P) L L)) (N (o122 P) (N (o186 P) L L) (N (o250 P) L L))))) (N (o14 P) (N (o22 P) (N (o38 P) (N (b1O P) (N (o134 P) (N (o262 P) L L) L) (N (o198 P) L L)) (N (subO 21 P) (N (o166 P) (N (o294 P) L L) L) (N (o230 P) L L))) (N (o54 P) (N (subO 5 P) (N (o150 P) (N (o278 P) L L) L) (N (o214 P) L L)) (N (subO 37 P) (N (o182 P) L L) (N (o246 P) L L)))) (N (o30 P) (N (o46 P) (N (o78 P) (N (o142 P) (N (o270 P) L L) L) (N (o206 P) L L)) (N (subO 29 P) (N (o174 P) (N (o302 P) L L) L) (N (o238 P) L L))) (N (o62 P) (N (subO 13 P) (N (o158 P) (N (o286 P) L L) L) (N (o222 P) L L)) (N (o126 P) (N (o190 P) L L) (N (o254 P) L L))))))))
noncomputable def st_p25 (w : World) (os : OsState) : SharedT := ⟨tr_p25 w.params, 305, {}, #[], {}, 2682, os⟩
noncomputable def tr_p26 (P : Params) : BT := (N (o0 P) (N (o1 P) (N (o3v27 P) (N (o7 P) (N (o15 P) (N (o31 P) (N (o63 P) (N (o127 P) (N (o255 P) L L) L) (N (o191 P) L L)) (N (subO 14 P) (N (o159 P) (N (o287 P) L L) L) (N (o223 P) L L))) (N (o47 P) (N (o79 P) (N (o143 P) (N (o271 P) L L) L) (N (o207 P) L L)) (N (subO 30 P) (N (o175 P) (N (o303 P) L L) L) (N (o239 P) L L)))) (N (o23 P) (N (o39 P) (N (o71 P) (N (o135 P) (N (o263 P) L L) L) (N (o199 P) L L)) (N (subO 22 P) (N (o167 P) (N (o295 P) L L) L) (N (o231 P) L L))) (N (o55 P) (N (subO 6 P) (N (o151 P) (N (o279 P) L L) L) (N (o215 P) L L)) (N (subO 38 P) (N (o183 P) (N (o311 P) L L) L) (N (o247 P) L L))))) (N (o11v1 P) (N (o19 P) (N (o35 P) (N (o67 P) (N (o131 P) (N (o259 P) L L) L) (N (o195 P) L L)) (N (subO 18 P) (N (o163 P) (N (o291 P) L L) L) (N (o227 P) L L))) (N (o51 P) (N (subO 2 P) (N (o147 P) (N (o275 P) L L) L) (N (o211 P) L L)) (N (subO 34 P) (N (o179 P) (N (o307 P) L L) L) (N (o243 P) L L)))) (N (o27 P) (N (o43 P) (N (o75 P) (N (o139 P) (N (o267 P) L L) L) (N (o203 P) L L)) (N (subO 26 P) (N (o171 P) (N (o299 P) L L) L) (N (o235 P) L L))) (N (o59 P) (N (subO 10 P) (N (o155 P) (N (o283 P) L L) L) (N (o219 P) L L)) (N (o123 P) (N (o187 P) L L) (N (o251 P) L L)))))) (N (o5 P) (N (o9 P) (N (o17 P) (N (o33 P) (N (o65 P) (N (o129 P) (N (o257 P) L L) L) (N (o193 P) L L)) (N (subO 16 P) (N (o161 P) (N (o289 P) L L) L) (N (o225 P) L L))) (N (o49 P) (N (b3O' P) (N (o145 P) (N (o273 P) L L) L) (N (o209 P) L L)) (N (subO 32 P) (N (o177 P) (N (o305 P) L L) L) (N (o241 P) L L)))) (N (o25 P) (N (o41 P) (N (o73 P) (N (o137 P) (N (o265 P) L L) L) (N (o201 P) L L)) (N (subO 24 P) (N (o169 P) (N (o297 P) L L) L) (N (o233 P) L L))) (N (o57 P) (N (subO 8 P) (N (o153 P) (N (o281 P) L L) L) (N (o217 P) L L)) (N (o121 P) (N (o185 P) L L) (N (o249 P) L L))))) (N (o13 P) (N (o21 P) (N (o37 P) (N (o69 P) (N (o133 P) (N (o261 P) L L) L) (N (o197 P) L L)) (N (subO 20 P) (N (o165 P) (N (o293 P) L L) L) (N (o229 P) L L))) (N (o53 P) (N (subO 4 P) (N (o149 P) (N (o277 P) L L) L) (N (o213 P) L L)) (N (subO 36 P) (N (o181 P) (N (o309 P) L L) L) (N (o245 P) L L)))) (N (o29v14 P) (N (o45 P) (N (o77 P) (N (o141 P) (N (o269 P) L L) L) (N (o205 P) L L)) (N (subO 28 P) (N (o173 P) (N (o301 P) L L) L) (N (o237 P) L L))) (N (o61 P) (N (subO 12 P) (N (o157 P) (N (o285 P) L L) L) (N (o221 P) L L)) (N (o125 P) (N (o189 P) L L) (N (o253 P) L L))))))) (N (o2 P) (N (o4 P) (N (o8 P) (N (o16 P) (N (o32 P) (N (o64 P) (N (o128 P) (N (o256 P) L L) L) (N (o192 P) L L)) (N (subO 15 P) (N (o160 P) (N (o288 P) L L) L) (N (o224 P) L L))) (N (o48 P) (N (o80 P) (N (o144 P) (N (o272 P) L L) L) (N (o208 P) L L)) (N (subO 31 P) (N (o176 P) (N (o304 P) L L) L) (N (o240 P) L L)))) (N (o24 P) (N (o40 P) (N (o72 P) (N (o136 P) (N (o264 P) L L) L) (N (o200 P) L L)) (N (subO 23 P) (N (o168 P) (N (o296 P) L L) L) (N (o232 P) L L))) (N (o56 P) (N (subO 7 P) (N (o152 P) (N (o280 P) L L) L) (N (o216 P) L L)) (N (o120 P) (N (o184 P) L L) (N (o248 P) L L))))) (N (o12 P) (N (o20 P) (N (o36 P) (N (o68 P) (N (o132 P) (N (o260 P) L L) L) (N (o196 P) L L)) (N (subO 19 P) (N (o164 P) (N (o292 P) L L) L) (N (o228 P) L L))) (N (o52 P) (N (subO 3 P) (N (o148 P) (N (o276 P) L L) L) (N (o212 P) L L)) (N (subO 35 P) (N (o180 P) (N (o308 P) L L) L) (N (o244 P) L L)))) (N (o28 P) (N (o44 P) (N (o76 P) (N (o140 P) (N (o268 P) L L) L) (N (o204 P) L L)) (N (subO 27 P) (N (o172 P) (N (o300 P) L L) L) (N (o236 P) L L))) (N (o60 P) (N (subO 11 P) (N (o156 P) (N (o284 P) L L) L) (N (o220 P) L L)) (N (o124 P) (N (o188 P) L L) (N (o252 P) L L)))))) (N (o6 P) (N (o10 P) (N (o18 P) (N (o34 P) (N (o66 P) (N (o130 P) (N (o258 P) L L) L) (N (o194 P) L L)) (N (subO 17 P) (N (o162 P) (N (o290 P) L L) L) (N (o226 P) L L))) (N (o50 P) (N (subO 1 P) (N (o146 P) (N (o274 P) L L) L) (N (o210 P) L L)) (N (subO 33 P) (N (o178 P) (N (o306 P) L L) L) (N (o242 P) L L)))) (N (o26 P) (N (o42 P) (N (o74 P) (N (o138 P) (N (o266 P) L L) L) (N (o202 P) L L)) (N (subO 25 P) (N (o170 P) (N (o298 P) L L) L) (N (o234 P) L L))) (N (o58 P) (N (subO 9 P) (N (o154 P) (N (o282 P) L L) L) (N (o218 P) L L)) (N (o122 P) (N (o186 P) L L) (N (o250 P) L L))))) (N (o14 P) (N (o22 P) (N (o38 P) (N (b1O P) (N (o134 P) (N (o262 P) L L) L) (N (o198 P) L L)) (N (subO 21 P) (N (o166 P) (N (o294 P) L L) L) (N (o230 P) L L))) (N (o54 P) (N (subO 5 P) (N (o150 P) (N (o278 P) L L) L) (N (o214 P) L L)) (N (subO 37 P) (N (o182 P) (N (o310 P) L L) L) (N (o246 P) L L)))) (N (o30 P) (N (o46 P) (N (o78 P) (N (o142 P) (N (o270 P) L L) L) (N (o206 P) L L)) (N (subO 29 P) (N (o174 P) (N (o302 P) L L) L) (N (o238 P) L L))) (N (o62 P) (N (subO 13 P) (N (o158 P) (N (o286 P) L L) L) (N (o222 P) L L)) (N (o126 P) (N (o190 P) L L) (N (o254 P) L L))))))))
noncomputable def st_p26 (w : World) (os : OsState) : SharedT := ⟨tr_p26 w.params, 312, {}, #[], {}, 2695, os⟩
noncomputable def tr_p27 (P : Params) : BT := (N (o0 P) (N (o1 P) (N (o3v28 P) (N (o7 P) (N (o15 P) (N (o31 P) (N (o63 P) (N (o127 P) (N (o255 P) L L) L) (N (o191 P) L L)) (N (subO 14 P) (N (o159 P) (N (o287 P) L L) L) (N (o223 P) L L))) (N (o47 P) (N (o79 P) (N (o143 P) (N (o271 P) L L) L) (N (o207 P) L L)) (N (subO 30 P) (N (o175 P) (N (o303 P) L L) L) (N (o239 P) L L)))) (N (o23 P) (N (o39 P) (N (o71 P) (N (o135 P) (N (o263 P) L L) L) (N (o199 P) L L)) (N (subO 22 P) (N (o167 P) (N (o295 P) L L) L) (N (o231 P) L L))) (N (o55 P) (N (subO 6 P) (N (o151 P) (N (o279 P) L L) L) (N (o215 P) L L)) (N (subO 38 P) (N (o183 P) (N (o311 P) L L) L) (N (o247 P) L L))))) (N (o11v1 P) (N (o19 P) (N (o35 P) (N (o67 P) (N (o131 P) (N (o259 P) L L) L) (N (o195 P) L L)) (N (subO 18 P) (N (o163 P) (N (o291 P) L L) L) (N (o227 P) L L))) (N (o51 P) (N (subO 2 P) (N (o147 P) (N (o275 P) L L) L) (N (o211 P) L L)) (N (subO 34 P) (N (o179 P) (N (o307 P) L L) L) (N (o243 P) L L)))) (N (o27 P) (N (o43 P) (N (o75 P) (N (o139 P) (N (o267 P) L L) L) (N (o203 P) L L)) (N (subO 26 P) (N (o171 P) (N (o299 P) L L) L) (N (o235 P) L L))) (N (o59 P) (N (subO 10 P) (N (o155 P) (N (o283 P) L L) L) (N (o219 P) L L)) (N (o123 P) (N (o187 P) (N (o315 P) L L) L) (N (o251 P) L L)))))) (N (o5 P) (N (o9 P) (N (o17 P) (N (o33 P) (N (o65 P) (N (o129 P) (N (o257 P) L L) L) (N (o193 P) L L)) (N (subO 16 P) (N (o161 P) (N (o289 P) L L) L) (N (o225 P) L L))) (N (o49 P) (N (b3O' P) (N (o145 P) (N (o273 P) L L) L) (N (o209 P) L L)) (N (subO 32 P) (N (o177 P) (N (o305 P) L L) L) (N (o241 P) L L)))) (N (o25 P) (N (o41 P) (N (o73 P) (N (o137 P) (N (o265 P) L L) L) (N (o201 P) L L)) (N (subO 24 P) (N (o169 P) (N (o297 P) L L) L) (N (o233 P) L L))) (N (o57 P) (N (subO 8 P) (N (o153 P) (N (o281 P) L L) L) (N (o217 P) L L)) (N (o121 P) (N (o185 P) (N (o313 P) L L) L) (N (o249 P) L L))))) (N (o13 P) (N (o21 P) (N (o37 P) (N (o69 P) (N (o133 P) (N (o261 P) L L) L) (N (o197 P) L L)) (N (subO 20 P) (N (o165 P) (N (o293 P) L L) L) (N (o229 P) L L))) (N (o53 P) (N (subO 4 P) (N (o149 P) (N (o277 P) L L) L) (N (o213 P) L L)) (N (subO 36 P) (N (o181 P) (N (o309 P) L L) L) (N (o245 P) L L)))) (N (o29v15 P) (N (o45 P) (N (o77 P) (N (o141 P) (N (o269 P) L L) L) (N (o205 P) L L)) (N (subO 28 P) (N (o173 P) (N (o301 P) L L) L) (N (o237 P) L L))) (N (o61 P) (N (subO 12 P) (N (o157 P) (N (o285 P) L L) L) (N (o221 P) L L)) (N (o125 P) (N (o189 P) (N (o317 P) L L) L) (N (o253 P) L L))))))) (N (o2 P) (N (o4 P) (N (o8 P) (N (o16 P) (N (o32 P) (N (o64 P) (N (o128 P) (N (o256 P) L L) L) (N (o192 P) L L)) (N (subO 15 P) (N (o160 P) (N (o288 P) L L) L) (N (o224 P) L L))) (N (o48 P) (N (o80 P) (N (o144 P) (N (o272 P) L L) L) (N (o208 P) L L)) (N (subO 31 P) (N (o176 P) (N (o304 P) L L) L) (N (o240 P) L L)))) (N (o24 P) (N (o40 P) (N (o72 P) (N (o136 P) (N (o264 P) L L) L) (N (o200 P) L L)) (N (subO 23 P) (N (o168 P) (N (o296 P) L L) L) (N (o232 P) L L))) (N (o56 P) (N (subO 7 P) (N (o152 P) (N (o280 P) L L) L) (N (o216 P) L L)) (N (o120 P) (N (o184 P) (N (o312 P) L L) L) (N (o248 P) L L))))) (N (o12 P) (N (o20 P) (N (o36 P) (N (o68 P) (N (o132 P) (N (o260 P) L L) L) (N (o196 P) L L)) (N (subO 19 P) (N (o164 P) (N (o292 P) L L) L) (N (o228 P) L L))) (N (o52 P) (N (subO 3 P) (N (o148 P) (N (o276 P) L L) L) (N (o212 P) L L)) (N (subO 35 P) (N (o180 P) (N (o308 P) L L) L) (N (o244 P) L L)))) (N (o28 P) (N (o44 P) (N (o76 P) (N (o140 P) (N (o268 P) L L) L) (N (o204 P) L L)) (N (subO 27 P) (N (o172 P) (N (o300 P) L L) L) (N (o236 P) L L))) (N (o60 P) (N (subO 11 P) (N (o156 P) (N (o284 P) L L) L) (N (o220 P) L L)) (N (o124 P) (N (o188 P) (N (o316 P) L L) L) (N (o252 P) L L)))))) (N (o6 P) (N (o10 P) (N (o18 P) (N (o34 P) (N (o66 P) (N (o130 P) (N (o258 P) L L) L) (N (o194 P) L L)) (N (subO 17 P) (N (o162 P) (N (o290 P) L L) L) (N (o226 P) L L))) (N (o50 P) (N (subO 1 P) (N (o146 P) (N (o274 P) L L) L) (N (o210 P) L L)) (N (subO 33 P) (N (o178 P) (N (o306 P) L L) L) (N (o242 P) L L)))) (N (o26 P) (N (o42 P) (N (o74 P) (N (o138 P) (N (o266 P) L L) L) (N (o202 P) L L)) (N (subO 25 P) (N (o170 P) (N (o298 P) L L) L) (N (o234 P) L L))) (N (o58 P) (N (subO 9 P) (N (o154 P) (N (o282 P) L L) L) (N (o218 P) L L)) (N (o122 P) (N (o186 P) (N (o314 P) L L) L) (N (o250 P) L L))))) (N (o14 P) (N (o22 P) (N (o38 P) (N (b1O P) (N (o134 P) (N (o262 P) L L) L) (N (o198 P) L L)) (N (subO 21 P) (N (o166 P) (N (o294 P) L L) L) (N (o230 P) L L))) (N (o54 P) (N (subO 5 P) (N (o150 P) (N (o278 P) L L) L) (N (o214 P) L L)) (N (subO 37 P) (N (o182 P) (N (o310 P) L L) L) (N (o246 P) L L)))) (N (o30 P) (N (o46 P) (N (o78 P) (N (o142 P) (N (o270 P) L L) L) (N (o206 P) L L)) (N (subO 29 P) (N (o174 P) (N (o302 P) L L) L) (N (o238 P) L L))) (N (o62 P) (N (subO 13 P) (N (o158 P) (N (o286 P) L L) L) (N (o222 P) L L)) (N (o126 P) (N (o190 P) (N (o318 P) L L) L) (N (o254 P) L L))))))))
noncomputable def st_p27 (w : World) (os : OsState) : SharedT := ⟨tr_p27 w.params, 319, {}, #[], {}, 2706, os⟩
noncomputable def tr_p28 (P : Params) : BT := (N (o0 P) (N (o1 P) (N (o3v29 P) (N (o7 P) (N (o15 P) (N (o31 P) (N (o63 P) (N (o127 P) (N (o255 P) L L) L) (N (o191 P) (N (o319 P) L L) L)) (N (subO 14 P) (N (o159 P) (N (o287 P) L L) L) (N (o223 P) L L))) (N (o47 P) (N (o79 P) (N (o143 P) (N (o271 P) L L) L) (N (o207 P) L L)) (N (subO 30 P) (N (o175 P) (N (o303 P) L L) L) (N (o239 P) L L)))) (N (o23 P) (N (o39 P) (N (o71 P) (N (o135 P) (N (o263 P) L L) L) (N (o199 P) L L)) (N (subO 22 P) (N (o167 P) (N (o295 P) L L) L) (N (o231 P) L L))) (N (o55 P) (N (subO 6 P) (N (o151 P) (N (o279 P) L L) L) (N (o215 P) L L)) (N (subO 38 P) (N (o183 P) (N (o311 P) L L) L) (N (o247 P) L L))))) (N (o11v1 P) (N (o19 P) (N (o35 P) (N (o67 P) (N (o131 P) (N (o259 P) L L) L) (N (o195 P) (N (o323 P) L L) L)) (N (subO 18 P) (N (o163 P) (N (o291 P) L L) L) (N (o227 P) L L))) (N (o51 P) (N (subO 2 P) (N (o147 P) (N (o275 P) L L) L) (N (o211 P) L L)) (N (subO 34 P) (N (o179 P) (N (o307 P) L L) L) (N (o243 P) L L)))) (N (o27 P) (N (o43 P) (N (o75 P) (N (o139 P) (N (o267 P) L L) L) (N (o203 P) L L)) (N (subO 26 P) (N (o171 P) (N (o299 P) L L) L) (N (o235 P) L L))) (N (o59 P) (N (subO 10 P) (N (o155 P) (N (o283 P) L L) L) (N (o219 P) L L)) (N (o123 P) (N (o187 P) (N (o315 P) L L) L) (N (o251 P) L L)))))) (N (o5 P) (N (o9 P) (N (o17 P) (N (o33 P) (N (o65 P) (N (o129 P) (N (o257 P) L L) L) (N (o193 P) (N (o321 P) L L) L)) (N (subO 16 P) (N (o161 P) (N (o289 P) L L) L) (N (o225 P) L L))) (N (o49 P) (N (b3O' P) (N (o145 P) (N (o273 P) L L) L) (N (o209 P) L L)) (N (subO 32 P) (N (o177 P) (N (o305 P) L L) L) (N (o241 P) L L)))) (N (o25 P) (N (o41 P) (N (o73 P) (N (o137 P) (N (o265 P) L L) L) (N (o201 P) L L)) (N (subO 24 P) (N (o169 P) (N (o297 P) L L) L) (N (o233 P) L L))) (N (o57 P) (N (subO 8 P) (N (o153 P) (N (o281 P) L L) L) (N (o217 P) L L)) (N (o121 P) (N (o185 P) (N (o313 P) L L) L) (N (o249 P) L L))))) (N (o13 P) (N (o21 P) (N (o37 P) (N (o69 P) (N (o133 P) (N (o261 P) L L) L) (N (o197 P) (N (o325 P) L L) L)) (N (subO 20 P) (N (o165 P) (N (o293 P) L L) L) (N (o229 P) L L))) (N (o53 P) (N (subO 4 P) (N (o149 P) (N (o277 P) L L) L) (N (o213 P) L L)) (N (subO 36 P) (N (o181 P) (N (o309 P) L L) L) (N (o245 P) L L)))) (N (o29v16 P) (N (o45 P) (N (o77 P) (N (o141 P) (N (o269 P) L L) L) (N (o205 P) L L)) (N (subO 28 P) (N (o173 P) (N (o301 P) L L) L) (N (o237 P) L L))) (N (o61 P) (N (subO 12 P) (N (o157 P) (N (o285 P) L L) L) (N (o221 P) L L)) (N (o125 P) (N (o189 P) (N (o317 P) L L) L) (N (o253 P) L L))))))) (N (o2 P) (N (o4 P) (N (o8 P) (N (o16 P) (N (o32 P) (N (o64 P) (N (o128 P) (N (o256 P) L L) L) (N (o192 P) (N (o320 P) L L) L)) (N (subO 15 P) (N (o160 P) (N (o288 P) L L) L) (N (o224 P) L L))) (N (o48 P) (N (o80 P) (N (o144 P) (N (o272 P) L L) L) (N (o208 P) L L)) (N (subO 31 P) (N (o176 P) (N (o304 P) L L) L) (N (o240 P) L L)))) (N (o24 P) (N (o40 P) (N (o72 P) (N (o136 P) (N (o264 P) L L) L) (N (o200 P) L L)) (N (subO 23 P) (N (o168 P) (N (o296 P) L L) L) (N (o232 P) L L))) (N (o56 P) (N (subO 7 P) (N (o152 P) (N (o280 P) L L) L) (N (o216 P) L L)) (N (o120 P) (N (o184 P) (N (o312 P) L L) L) (N (o248 P) L L))))) (N (o12 P) (N (o20 P) (N (o36 P) (N (o68 P) (N (o132 P) (N (o260 P) L L) L) (N (o196 P) (N (o324 P) L L) L)) (N (subO 19 P) (N (o164 P) (N (o292 P) L L) L) (N (o228 P) L L))) (N (o52 P) (N (subO 3 P) (N (o148 P) (N (o276 P) L L) L) (N (o212 P) L L)) (N (subO 35 P) (N (o180 P) (N (o308 P) L L) L) (N (o244 P) L L)))) (N (o28 P) (N (o44 P) (N (o76 P) (N (o140 P) (N (o268 P) L L) L) (N (o204 P) L L)) (N (subO 27 P) (N (o172 P) (N (o300 P) L L) L) (N (o236 P) L L))) (N (o60 P) (N (subO 11 P) (N (o156 P) (N (o284 P) L L) L) (N (o220 P) L L)) (N (o124 P) (N (o188 P) (N (o316 P) L L) L) (N (o252 P) L L)))))) (N (o6 P) (N (o10 P) (N (o18 P) (N (o34 P) (N (o66 P) (N (o130 P) (N (o258 P) L L) L) (N (o194 P) (N (o322 P) L L) L)) (N (subO 17 P) (N (o162 P) (N (o290 P) L L) L) (N (o226 P) L L))) (N (o50 P) (N (subO 1 P) (N (o146 P) (N (o274 P) L L) L) (N (o210 P) L L)) (N (subO 33 P) (N (o178 P) (N (o306 P) L L) L) (N (o242 P) L L)))) (N (o26 P) (N (o42 P) (N (o74 P) (N (o138 P) (N (o266 P) L L) L) (N (o202 P) L L)) (N (subO 25 P) (N (o170 P) (N (o298 P) L L) L) (N (o234 P) L L))) (N (o58 P) (N (subO 9 P) (N (o154 P) (N (o282 P) L L) L) (N (o218 P) L L)) (N (o122 P) (N (o186 P) (N (o314 P) L L) L) (N (o250 P) L L))))) (N (o14 P) (N (o22 P) (N (o38 P) (N (b1O P) (N (o134 P) (N (o262 P) L L) L) (N (o198 P) L L)) (N (subO 21 P) (N (o166 P) (N (o294 P) L L) L) (N (o230 P) L L))) (N (o54 P) (N (subO 5 P) (N (o150 P) (N (o278 P) L L) L) (N (o214 P) L L)) (N (subO 37 P) (N (o182 P) (N (o310 P) L L) L) (N (o246 P) L L)))) (N (o30 P) (N (o46 P) (N (o78 P) (N (o142 P) (N (o270 P) L L) L) (N (o206 P) L L)) (N (subO 29 P) (N (o174 P) (N (o302 P) L L) L) (N (o238 P) L L))) (N (o62 P) (N (subO 13 P) (N (o158 P) (N (o286 P) L L) L) (N (o222 P) L L)) (N (o126 P) (N (o190 P) (N (o318 P) L L) L) (N (o254 P) L L))))))))
noncomputable def st_p28 (w : World) (os : OsState) : SharedT := ⟨tr_p28 w.params, 326, {}, #[], {}, 2720, os⟩
end Mine
end

section -- HPa
open PySem PySem.W PySem.Spec PySem.Calls PyProof.Rows
namespace Mine
set_option maxRecDepth 100000
noncomputable def tenv : Env := { scope := pw.main.scope, locals := mainNs, globals := mainNs, cells := [], code := .ref 30, frame := some 31 }
noncomputable def cE : Code := .body (behindTheImports pw) tenv
noncomputable abbrev tf : List Frame := [topFrame ⟨0, 0, 0, 0⟩]
noncomputable abbrev ps (a b c d : Nat) : Pos := ⟨a, b, c, d⟩
noncomputable abbrev annR : Option Value := some (.ref 6)
theorem pc0 (w : World) : (fun os => segRunT treeTable pw w 28 annR 1 30 (st_pre w os) (pieceOf (pS 1) tenv cE (ps 0 0 0 0) tf)) = fun os => some (.next, st_p0 w os, cE, (ps 2 0 4 12)) := by
  rw [Fast.te10110043849684766642, Fast.te14364793385576792824]; kernel_rfl
theorem pc1 (w : World) : (fun os => segRunT treeTable pw w 28 annR 1 10 (st_p0 w os) (pieceOf (pS 2) tenv cE (ps 2 0 4 12) tf)) = fun os => some (.next, st_p1 w os, cE, (ps 5 0 5 8)) := by
  rw [Fast.te10110043849684766642, Fast.te14364793385576792824]; kernel_rfl
theorem pc2 (w : World) : (fun os => segRunT treeTable pw w 28 annR 1 10 (st_p1 w os) (pieceOf (pS 3) tenv cE (ps 5 0 5 8) tf)) = fun os => some (.next, st_p2 w os, cE, (ps 6 0 6 4)) := by
  rw [Fast.te10110043849684766642, Fast.te14364793385576792824]; kernel_rfl
theorem pc3 (w : World) : (fun os => segRunT treeTable pw w 28 annR 1 31 (st_p2 w os) (pieceOf (pS 4) tenv cE (ps 6 0 6 4) tf)) = fun os => some (.next, st_p3 w os, cE, (ps 7 0 11 16)) := by
  rw [Fast.te10110043849684766642, Fast.te14364793385576792824]; kernel_rfl
theorem pc4 (w : World) : (fun os => segRunT treeTable pw w 28 annR 1 10 (st_p3 w os) (pieceOf (pS 5) tenv cE (ps 7 0 11 16) tf)) = fun os => some (.next, st_p4 w os, cE, (ps 12 0 12 8)) := by
  rw [Fast.te10110043849684766642, Fast.te14364793385576792824]; kernel_rfl
theorem pc5 (w : World) : (fun os => segRunT treeTable pw w 28 annR 1 60 (st_p4 w os) (pieceOf (pS 6) tenv cE (ps 12 0 12 8) tf)) = fun os => some (.next, st_p5 w os, cE, (ps 13 0 13 10)) := by
  rw [Fast.te10110043849684766642, Fast.te14364793385576792824]; kernel_rfl
theorem pc6 (w : World) : (fun os => segRunT treeTable pw w 28 annR 1 86 (st_p5 w os) (pieceOf (pS 7) tenv cE (ps 13 0 13 10) tf)) = fun os => some (.next, st_p6 w os, cE, (ps 14 0 14 10)) := by
  rw [Fast.te10110043849684766642, Fast.te14364793385576792824]; kernel_rfl
theorem pc7 (w : World) : (fun os => segRunT treeTable pw w 28 annR 1 10 (st_p6 w os) (pieceOf (pS 8) tenv cE (ps 14 0 14 10) tf)) = fun os => some (.next, st_p7 w os, cE, (ps 15 0 15 4)) := by
  rw [Fast.te10110043849684766642, Fast.te14364793385576792824]; kernel_rfl
theorem pc8 (w : World) : (fun os => segRunT treeTable pw w 28 annR 1 30 (st_p7 w os) (pieceOf (pS 9) tenv cE (ps 15 0 15 4) tf)) = fun os => some (.next, st_p8 w os, cE, (ps 16 0 17 59)) := by
  rw [Fast.te10110043849684766642, Fast.te14364793385576792824]; kernel_rfl
theorem pc9 (w : World) : (fun os => segRunT treeTable pw w 28 annR 1 10 (st_p8 w os) (pieceOf (pS 10) tenv cE (ps 16 0 17 59) tf)) = fun os => some (.next, st_p9 w os, cE, (ps 18 0 18 8)) := by
  rw [Fast.te10110043849684766642, Fast.te14364793385576792824]; kernel_rfl
theorem pc11 (w : World) : (fun os => segRunT treeTable pw w 28 annR 1 30 (st_p10 w os) (pieceOf (pS 12) tenv cE (ps 19 0 19 6) tf)) = fun os => some (.next, st_p11 w os, cE, (ps 20 0 21 30)) := by
  rw [Fast.te10110043849684766642, Fast.te14364793385576792824]; kernel_rfl
end Mine
end

section -- HPb
open PySem PySem.W PySem.Spec PySem.Calls PyProof.Rows
namespace Mine
set_option maxRecDepth 100000
theorem pc13 (w : World) : (fun os => segRunT treeTable pw w 28 annR 1 31 (st_p12 w os) (pieceOf (pS 14) tenv cE (ps 22 0 22 13) tf)) = fun os => some (.next, st_p13 w os, cE, (ps 23 0 27 23)) := by
  rw [Fast.te10110043849684766642, Fast.te14364793385576792824]; kernel_rfl
theorem pc14 (w : World) : (fun os => segRunT treeTable pw w 28 annR 1 10 (st_p13 w os) (pieceOf (pS 15) tenv cE (ps 23 0 27 23) tf)) = fun os => some (.next, st_p14 w os, cE, (ps 28 0 28 8)) := by
  rw [Fast.te10110043849684766642, Fast.te14364793385576792824]; kernel_rfl
theorem pc15 (w : World) : (fun os => segRunT treeTable pw w 28 annR 1 70 (st_p14 w os) (pieceOf (pS 16) tenv cE (ps 28 0 28 8) tf)) = fun os => some (.next, st_p15 w os, cE, (ps 29 0 29 19)) := by
  rw [Fast.te10110043849684766642, Fast.te14364793385576792824]; kernel_rfl
theorem pc16 (w : World) : (fun os => segRunT treeTable pw w 28 annR 1 78 (st_p15 w os) (pieceOf (pS 17) tenv cE (ps 29 0 29 19) tf)) = fun os => some (.next, st_p16 w os, cE, (ps 30 0 30 20)) := by
  rw [Fast.te10110043849684766642, Fast.te14364793385576792824]; kernel_rfl
theorem pc18 (w : World) : (fun os => segRunT treeTable pw w 28 annR 1 10 (st_p17 w os) (pieceOf (pS 19) tenv cE (ps 31 0 100 16) tf)) = fun os => some (.next, st_p18 w os, cE, (ps 101 0 101 8)) := by
  rw [Fast.te10110043849684766642, Fast.te14364793385576792824]; kernel_rfl
theorem pc19 (w : World) : (fun os => segRunT treeTable pw w 28 annR 1 27 (st_p18 w os) (pieceOf (pS 20) tenv cE (ps 101 0 101 8) tf)) = fun os => some (.next, st_p19 w os, cE, (ps 102 0 104 75)) := by
  rw [Fast.te10110043849684766642, Fast.te14364793385576792824]; kernel_rfl
theorem pc20 (w : World) : (fun os => segRunT treeTable pw w 28 annR 1 31 (st_p19 w os) (pieceOf (pS 21) tenv cE (ps 102 0 104 75) tf)) = fun os => some (.next, st_p20 w os, cE, (ps 105 0 107 34)) := by
  rw [Fast.te10110043849684766642, Fast.te14364793385576792824]; kernel_rfl
theorem pc21 (w : World) : (fun os => segRunT treeTable pw w 28 annR 1 27 (st_p20 w os) (pieceOf (pS 22) tenv cE (ps 105 0 107 34) tf)) = fun os => some (.next, st_p21 w os, cE, (ps 108 0 114 100)) := by
  rw [Fast.te10110043849684766642, Fast.te14364793385576792824]; kernel_rfl
theorem pc22 (w : World) : (fun os => segRunT treeTable pw w 28 annR 1 40 (st_p21 w os) (pieceOf (pS 23) tenv cE (ps 108 0 114 100) tf)) = fun os => some (.next, st_p22 w os, cE, (ps 115 0 128 25)) := by
  rw [Fast.te10110043849684766642, Fast.te14364793385576792824]; kernel_rfl
theorem pc23 (w : World) : (fun os => segRunT treeTable pw w 28 annR 1 27 (st_p22 w os) (pieceOf (pS 24) tenv cE (ps 115 0 128 25) tf)) = fun os => some (.next, st_p23 w os, cE, (ps 129 0 130 49)) := by
  rw [Fast.te10110043849684766642, Fast.te14364793385576792824]; kernel_rfl
theorem pc24 (w : World) : (fun os => segRunT treeTable pw w 28 annR 1 27 (st_p23 w os) (pieceOf (pS 25) tenv cE (ps 129 0 130 49) tf)) = fun os => some (.next, st_p24 w os, cE, (ps 131 0 132 95)) := by
  rw [Fast.te10110043849684766642, Fast.te14364793385576792824]; kernel_rfl
theorem pc25 (w : World) : (fun os => segRunT treeTable pw w 28 annR 1 38 (st_p24 w os) (pieceOf (pS 26) tenv cE (ps 131 0 132 95) tf)) = fun os => some (.next, st_p25 w os, cE, (ps 133 0 147 15)) := by
  rw [Fast.te10110043849684766642, Fast.te14364793385576792824]; kernel_rfl
theorem pc26 (w : World) : (fun os => segRunT treeTable pw w 28 annR 1 36 (st_p25 w os) (pieceOf (pS 27) tenv cE (ps 133 0 147 15) tf)) = fun os => some (.next, st_p26 w os, cE, (ps 148 0 161 56)) := by
  rw [Fast.te10110043849684766642, Fast.te14364793385576792824]; kernel_rfl
theorem pc27 (w : World) : (fun os => segRunT treeTable pw w 28 annR 1 34 (st_p26 w os) (pieceOf (pS 28) tenv cE (ps 148 0 161 56) tf)) = fun os => some (.next, st_p27 w os, cE, (ps 162 0 171 57)) := by
  rw [Fast.te10110043849684766642, Fast.te14364793385576792824]; kernel_rfl
theorem pc28 (w : World) : (fun os => segRunT treeTable pw w 28 annR 1 37 (st_p27 w os) (pieceOf (pS 29) tenv cE (ps 162 0 171 57) tf)) = fun os => some (.next, st_p28 w os, cE, (ps 172 0 182 65)) := by
  rw [Fast.te10110043849684766642, Fast.te14364793385576792824]; kernel_rfl
end Mine
end

section -- HPs
open PySem PySem.W PySem.Spec PySem.Calls PyProof.Rows
namespace Mine
set_option maxRecDepth 100000
theorem pc10 : ∀ w : World, (fun os => segRunT treeTable pw w 28 annR 1 999 (st_p9 w os) (pieceOf (pS 11) tenv cE (ps 18 0 18 8) tf)) = fun os => some (.next, st_p10 w os, cE, (ps 19 0 19 6)) :=
  byRow2 "special-get-raises" (P := fun w => (fun os => segRunT treeTable pw w 28 annR 1 999 (st_p9 w os) (pieceOf (pS 11) tenv cE (ps 18 0 18 8) tf)) = fun os => some (.next, st_p10 w os, cE, (ps 19 0 19 6))) (fun w => by
    rw [Fast.te10110043849684766642, Fast.te14364793385576792824]; kernel_rfl) (fun w => by
    rw [Fast.te10110043849684766642, Fast.te14364793385576792824]; kernel_rfl)
end Mine
end

section -- HPk
open PySem PySem.W PySem.Spec PySem.Calls PyProof.Rows
namespace Mine
set_option maxRecDepth 100000
theorem pc17 (w : World) : (fun os => segRunT treeTable pw w 28 annR 1 728 (st_p16 w os) (pieceOf (pS 18) tenv cE (ps 30 0 30 20) tf)) = fun os => some (.next, st_p17 w os, cE, (ps 31 0 100 16)) := by
  rw [Fast.te10110043849684766642, Fast.te14364793385576792824]; kernel_rfl
end Mine
end

section -- HOp
open PySem PySem.W PySem.Spec PySem.Calls PyProof.Rows
namespace Mine
set_option maxRecDepth 100000
noncomputable def endT (f : SharedT → Thread → Option (SharedT × Thread)) : Nat → SharedT → Thread → Option SharedT
  | 0, _, _ => none
  | n + 1, s, t => match t.atExitBegin with
    | some [] => some s
    | some _ => none
    | none => match f s t with
      | some (s', t') => endT f n s' t'
      | none => none
theorem endT_spec {tb : String → Option Builtin} {p : Program} {w : World} : ∀ {n : Nat} {s s' : SharedT} {t : Thread}, endT (stepT (denote tb) p w) n s t = some s' → importEnds tb p w n s.abs t = some s'.abs
  | 0, _, _, _, h => by cases h
  | n + 1, s, s', t, h => by
    unfold endT at h
    unfold importEnds
    cases he : t.atExitBegin with
    | some l =>
      rw [he] at h
      cases l with
      | nil => cases h; rfl
      | cons => cases h
    | none =>
      rw [he] at h
      cases hs : stepT (denote tb) p w s t with
      | none => rw [hs] at h; cases h
      | some r => obtain ⟨s₂, t₂⟩ := r; rw [hs] at h; dsimp only; rw [stepT_spec hs]; exact endT_spec h
noncomputable def st_z (os : OsState) : SharedT := ⟨BT.nil, 0, {}, #[], {}, 1, os⟩
noncomputable abbrev NN : Nat := 31000
theorem hz : (start (opening pw)).1 = (st_z (start (opening pw)).1.os).abs := by kernel_rfl
theorem hop1 (w : World) : (fun os => endT (stepT (denote treeTable) (opening pw) w) 900 (st_z os) (start (opening pw)).2) = fun os => some (st_e w os) := by
  rw [Fast.te10156331382660048174, Fast.te11892475500146522536, Fast.te14364793385576792824, Fast.te1435165496053646825]; kernel_rfl
theorem hop2 (w : World) : (fun os => (fenceModules? pw ⟨absHeap (tr_e w.params) 28 {}, #[], {}, 276, os⟩).map (fun s => (s.heap, s.gens, s.drawn, s.toks))) = fun _ => some (absHeap (tr_s0 w.params) 28 {}, #[], {}, 276) := by
  rw [Fast.te14289696077712309145]; kernel_rfl
theorem hop (w : World) : (fencedOpening treeTable pw w NN).map (fun s => (s.heap, s.gens, s.drawn, s.toks)) = some (absHeap (tr_s0 w.params) 28 {}, #[], {}, 276) :=
  open_cut (M := 900) (He := fun P => absHeap (tr_e P) 28 {}) (H₀ := fun P => absHeap (tr_s0 P) 28 {}) (fun w => by
    rw [hz]; exact endT_spec (congrFun (hop1 w) _)) (by decide) hop2 w
end Mine
end

section -- HLk
open PySem PySem.W PySem.Spec PySem.Calls PyProof.Rows
namespace Mine
set_option maxRecDepth 100000
noncomputable def posOf : Stmt → Pos
  | .FunctionDef _ _ _ _ _ _ _ _ _ p => p
  | _ => default
noncomputable abbrev rw0 : OpenLaw := PySem.Challenge.rw_sh0062_01
noncomputable def qv : Program := { pw with main := { pw.main with body := [pS 29] } }
noncomputable def lo : List Str := [Str.ofString "_sre", Str.ofString "_wall", Str.ofString "TICK", Str.ofString "decode_rfc2231", Str.ofString "_twin_re_1", Str.ofString "_twin_re_2", Str.ofString "CRLF", Str.ofString "quotedata", Str.ofString "b1_set", Str.ofString "in_table_b1", Str.ofString "b3_exceptions", Str.ofString "map_table_b3", Str.ofString "_name_disallowed_re", Str.ofString "_value_disallowed_re", Str.ofString "Headers", Str.ofString "_law_numbers", Str.ofString "_law_hidden", Str.ofString "_law_rules", Str.ofString "_law_start", Str.ofString "_law_marked", Str.ofString "_law_prepared", Str.ofString "_law_run", Str.ofString "_law_word", Str.ofString "_law_heard"]
noncomputable abbrev Xt0 : Shared → Bool := fun s => xlAt qv [] s && recOk (RowW.records rw0.row.toRowW) s
noncomputable abbrev hK : Hook := kHook KK KAs (fun _ => rfl)
noncomputable def H0 (P : Params) : Heap := absHeap (tr_s0 P) 28 {}
noncomputable def H1 (P : Params) : Heap := absHeap (tr_p28 P) 326 {}
theorem hsize (w : World) : ((H0 w.params).isNs mainGlobals && (#[] : Array GenState).size == 0, (H0 w.params).objs.size, (H0 w.params).nsMap mainGlobals "__annotations__") = (true, 28, annR) := by kernel_rfl
theorem hpre (w : World) : (fun os => topGo treeTable pw w 28 annR 12 (st_s0 w os).abs (topStub pw)) = fun os => some ((st_pre w os).abs, ⟨denote treeTable cE, cE, ps 0 0 0 0, tf⟩) := by
  rw [Fast.te15667345088766844465, Fast.te11892475500146522536, Fast.te14364793385576792824]; kernel_rfl
theorem hblock (w : World) (os : OsState) : segRun treeTable pw w 28 annR 1 1 (st_pre w os).abs (blockOf (behindTheImports pw) tenv cE (ps 0 0 0 0) tf) = some (.next, (st_pre w os).abs, cE, ps 0 0 0 0) := by kernel_rfl
theorem hfin (w : World) : (fun os => topRun treeTable pw w 28 annR 2 (st_p28 w os).abs ⟨doneF .next, cE, ps 172 0 182 65, tf⟩) = fun os => some (st_p28 w os).abs := by kernel_rfl
theorem lk1 (w : World) : (fun os : OsState => (staticsOk (importedModules pw.main.body) (H0 w.params) (H1 w.params) && namesBound pw (H1 w.params) && gensDone ⟨H1 w.params, #[], {}, 2720, os⟩ && laidKept (H0 w.params) (H1 w.params))) = fun _ => true := by kernel_rfl
theorem lk2 (w : World) : (fun os => openSeen qv lo (importedModules pw.main.body) Xt0 true ⟨H1 w.params, #[], {}, 2720, os⟩) = fun _ => openGood qv lo := by
  rw [Fast.te4187177175401517315]; kernel_rfl
theorem lk3 (w : World) : (fun os => hK.obs ⟨H1 w.params, #[], {}, 2720, os⟩) = fun _ => hK.val w := by kernel_rfl
end Mine
end

section -- HD1
open PySem PySem.W PySem.Spec PySem.Calls PyProof.Rows
namespace Mine
set_option maxRecDepth 100000
section
variable {α β : Type} {w : World} {n m : Nat} {s s₁ s₂ : Shared} {p p₁ p₂ : Pos} {x : Sem α} {a : α} {b : β}
noncomputable abbrev sgo (w : World) (n : Nat) (s : Shared) (t : Thread) : Option (Shared × Thread) := segGo treeTable pw w 28 annR 1 n s t
theorem sgo_add : ∀ {n m : Nat} {s s₁ : Shared} {t t₁ : Thread} {r : Option (Shared × Thread)}, sgo w n s t = some (s₁, t₁) → sgo w m s₁ t₁ = r → sgo w (n + m) s t = r
  | 0, m, s, s₁, t, t₁, r, h, k => by
    obtain ⟨rfl, rfl⟩ : s = s₁ ∧ t = t₁ := by simpa [sgo, segGo] using h
    rw [Nat.zero_add]; exact k
  | n + 1, m, s, s₁, t, t₁, r, h, k => by
    rw [show n + 1 + m = n + m + 1 by omega]
    unfold sgo segGo at h ⊢
    cases he : endAt 1 t with
    | some f => rw [he] at h; cases h
    | none =>
      rw [he] at h
      cases hk : stepOk 28 annR t with
      | false => rw [hk] at h; cases h
      | true =>
        rw [hk] at h
        cases hs : step (denote treeTable) pw w s t with
        | halt o s₂ => rw [hs] at h; cases h
        | go s₂ t₂ => rw [hs] at h; exact sgo_add h k
/-- the tree x, run at the top for n steps -/
noncomputable def Do (w : World) (x : Sem α) (p : Pos) (s : Shared) (a : α) (p' : Pos) (s' : Shared) (n : Nat) : Prop :=
  ∀ (K : α → Sem Fin) (H : Value → Sem Fin) (gd : Bool → Bool) (lv : List Value → List Value),
    sgo w n s ⟨x.wrap K H gd lv, cE, p, tf⟩ = some (s', ⟨K a, cE, p', tf⟩)
theorem Do.pure : Do w (Sem.pure a) p s a p s 0 := fun _ _ _ _ => rfl
theorem Do.pure' : Do w (Pure.pure a : Sem α) p s a p s 0 := fun _ _ _ _ => rfl
theorem Do.cast (h : Do w x p s a p₁ s₁ n) (e : n = m) : Do w x p s a p₁ s₁ m := e ▸ h
theorem Do.bind {f : α → Sem β} (h : Do w x p s a p₁ s₁ n) (k : Do w (f a) p₁ s₁ b p₂ s₂ m) : Do w (x >>= f) p s b p₂ s₂ (n + m) := fun K H gd lv => by
  rw [Sem.bind_eq_wrap', Sem.wrap_wrap]
  exact sgo_add (h _ _ _ _) (k K H gd lv)
theorem Do.bindS {f : α → Sem β} (h : Do w x p s a p₁ s₁ n) (k : Do w (f a) p₁ s₁ b p₂ s₂ m) : Do w (x.bind f) p s b p₂ s₂ (n + m) := Do.bind h k
theorem Do.keep (vs : List Value) (h : Do w x p s a p₁ s₁ n) : Do w (x.keep vs) p s a p₁ s₁ n := fun K H gd lv => by
  rw [Sem.keep_eq_wrap, Sem.wrap_wrap]
  exact h _ _ _ _
theorem Do.holding (vs : List Value) (h : Do w x p s a p₁ s₁ n) : Do w (holding vs x) p s a p₁ s₁ n := by
  unfold PySem.holding
  split
  · exact h
  · exact h.keep _
theorem Do.onRaise {g : Value → Sem Unit} (h : Do w x p s a p₁ s₁ n) : Do w (x.onRaise g) p s a p₁ s₁ n := fun K H gd lv => by
  rw [Sem.onRaise_eq_wrap, Sem.wrap_wrap]
  exact h _ _ _ _
theorem Do.tryCatch {g : Value → Sem α} (h : Do w x p s a p₁ s₁ n) : Do w (x.tryCatch g) p s a p₁ s₁ n := fun K H gd lv => by
  rw [Sem.tryCatch_eq_wrap, Sem.wrap_wrap]
  exact h _ _ _ _
theorem sgo_one {t t' : Thread} {s s' : Shared} (h1 : endAt 1 t = none) (h2 : stepOk 28 annR t = true) (h3 : step (denote treeTable) pw w s t = .go s' t') : sgo w 1 s t = some (s', t') := by
  unfold sgo segGo
  rw [h1, h2, h3]
  rfl
theorem do_load {c : Addr} {o : Obj} {part : Option Value} (h : s.heap.get? c = some o) : Do w (loadPart c part) p s o p s 1 := fun K H gd lv => by
  refine sgo_one rfl rfl ?_
  obtain ⟨heap, gens, drawn, toks, os⟩ := s
  show step _ _ _ _ ⟨.load c part _, _, _, _⟩ = _
  simp only [step]
  rw [show heap.get? c = some o from h]
  rfl
theorem do_load' {c : Addr} {o : Obj} (h : s.heap.get? c = some o) : Do w (PySem.load c) p s o p s 1 := do_load h
theorem do_update {c : Addr} {f : Obj → Obj} {part : Option Value} (h : (s.heap.get? c).isSome = true) (hc : 28 ≤ c) : Do w (updatePart c part f) p s () p { s with heap := s.heap.update c f } 1 := fun K H gd lv => by
  refine sgo_one rfl ?_ ?_
  · show (_ && (Nat.ble 28 c || _ || _ || _)) = true
    rw [Nat.ble_eq_true_of_le hc]; rfl
  · obtain ⟨heap, gens, drawn, toks, os⟩ := s
    show step _ _ _ _ ⟨.update c part _ _, _, _, _⟩ = _
    simp only [step]
    rw [if_pos h]
    rfl
theorem do_alloc {o : Obj} : Do w (alloc o) p s s.heap.objs.size p { s with heap := s.heap.push o } 1 := fun K H gd lv => by
  obtain ⟨heap, gens, drawn, toks, os⟩ := s; exact sgo_one rfl rfl rfl
theorem do_fresh : Do w fresh p s s.toks p { s with toks := s.toks + 1 } 1 := fun K H gd lv => by
  obtain ⟨heap, gens, drawn, toks, os⟩ := s; exact sgo_one rfl rfl rfl
theorem do_rule {r : String} : Do w (rule r) p s () p s 1 := fun K H gd lv => by
  obtain ⟨heap, gens, drawn, toks, os⟩ := s; exact sgo_one rfl rfl rfl
theorem do_at {q : Pos} : Do w (standAt q) p s () q s 1 := fun K H gd lv => by
  obtain ⟨heap, gens, drawn, toks, os⟩ := s; exact sgo_one rfl rfl rfl
theorem do_ask : Do w ask p s ⟨pw, w.params⟩ p s 1 := fun K H gd lv => by
  obtain ⟨heap, gens, drawn, toks, os⟩ := s; exact sgo_one rfl rfl rfl
theorem do_callhash {i : Int} {t : Tok} : Do w (PySem.call (.builtin "int.__hash__") [.int i t]) p s (.int (rawHash i) s.toks) p { s with toks := s.toks + 1 } 4 := fun K H gd lv => by
  obtain ⟨heap, gens, drawn, toks, os⟩ := s
  unfold sgo
  kernel_rfl
end
theorem sp_hash {i : Int} {t : Tok} : specialOf (.int i t) "__hash__" = .pure (some (.builtin "int.__hash__")) := by kernel_rfl
theorem bs_hash {i : Int} {t : Tok} : bindSpecial (.builtin "int.__hash__") (.int i t) = .pure (.builtin "int.__hash__", [.int i t]) := by kernel_rfl
theorem raw_small {i : Int} (h0 : 0 ≤ i) (h1 : i < 1000000) : rawHash i = i := by
  have e : ((i.natAbs : Int) % ((2 ^ 61 - 1 : Nat) : Int)) = i := by
    rw [Int.natAbs_of_nonneg h0]
    exact Int.emod_eq_of_lt h0 (by omega)
  simp only [rawHash]
  rw [e, if_neg (show ¬ (i < 0) by omega), if_neg (by simp; omega)]
section
variable {w : World} {s : Shared} {p : Pos}
theorem do_bsi {i : Int} {t : Tok} : Do w (bindSpecialIfBound? (.int i t) "__hash__") p s (some (.builtin "int.__hash__", [.int i t])) p s 1 := by
  unfold bindSpecialIfBound?
  simp only [sp_hash]
  refine Do.bindS Do.pure (m := 1) (n := 0) (Do.bindS do_ask (n := 1) (m := 0) ?_)
  try dsimp only
  split
  · exact Do.bindS (n := 0) (m := 0) Do.pure Do.pure'
  · exact Do.tryCatch (Do.bindS (n := 0) (m := 0) Do.pure Do.pure')
theorem do_hash {i : Int} {t : Tok} (h0 : 0 ≤ i) (h1 : i < 1000000) : Do w (pyHash (.int i t)) p s i p { s with toks := s.toks + 1 } 5 := by
  unfold pyHash pyHashByItsType
  simp only [sp_hash]
  refine Do.bind (n := 0) (m := 5) (a := ()) Do.pure' (Do.bind (n := 0) (m := 5) (a := some (.builtin "int.__hash__")) Do.pure ?_)
  try dsimp only
  rw [if_neg (by rw [beq_builtin_none]; exact Bool.false_ne_true)]
  refine Do.bind (n := 0) (m := 5) (a := some (.builtin "int.__hash__")) Do.pure ?_
  try dsimp only
  rw [if_neg (by simp)]
  refine Do.bind (n := 5) (m := 0) (a := some (.int (rawHash i) s.toks)) (p₁ := p) (s₁ := { s with toks := s.toks + 1 }) ?_ ?_
  · unfold callSpecialIfBoundUnlessNone?
    refine Do.holding _ (Do.bind (n := 1) (m := 4) do_bsi ?_)
    try dsimp only
    rw [if_neg (fun h => by cases (eq_of_beq h))]
    exact Do.bind (n := 4) (m := 0) do_callhash Do.pure'
  · try dsimp only
    unfold pyHashByItsType.reduced
    rw [raw_small h0 h1]
    rw [if_pos (by simp; omega), if_neg (by simp; omega)]
    exact Do.pure'
end
end Mine
end

section -- HD2
open PySem PySem.W PySem.Spec PySem.Calls PyProof.Rows
namespace Mine
set_option maxRecDepth 100000
noncomputable abbrev dO (es : List DictEntry) (k : Nat) : Obj := { cls := .type "dict", data := .dict es.toArray k }
/-- the state z with more objects behind it -/
noncomputable def SS (z : Shared) (l : List Obj) (t : Nat) : Shared := { z with heap := ⟨z.heap.objs ++ l.toArray, z.heap.life⟩, toks := t }
section
variable {z : Shared} {w : World} {p : Pos} {l : List Obj} {t : Nat}
theorem SS_get {i : Nat} {es : List DictEntry} {k : Nat} (h : l[i]? = some (dO es k)) : (SS z l t).heap.get? (z.heap.objs.size + i) = some (dO es k) := by
  show (match (z.heap.objs ++ l.toArray)[z.heap.objs.size + i]? with | some ⟨_, _, .freed, _⟩ => none | o => o) = _
  rw [Array.getElem?_append_right (by omega), Nat.add_sub_cancel_left, List.getElem?_toArray, h]
theorem SS_upd {i : Nat} {f : Obj → Obj} : { SS z l t with heap := (SS z l t).heap.update (z.heap.objs.size + i) f } = SS z (l.modify i f) t := by
  unfold SS Heap.update
  simp only [Shared.mk.injEq, Heap.mk.injEq, and_true]
  apply Array.ext_getElem?
  intro j
  rw [Array.getElem?_modify]
  by_cases hj : j < z.heap.objs.size
  · rw [if_neg (by omega), Array.getElem?_append_left hj, Array.getElem?_append_left hj]
  · have hj' : z.heap.objs.size ≤ j := by omega
    rw [Array.getElem?_append_right hj', Array.getElem?_append_right hj', List.getElem?_toArray, List.getElem?_toArray, List.getElem?_modify]
    by_cases e : z.heap.objs.size + i = j
    · have e' : i = j - z.heap.objs.size := by omega
      rw [if_pos e, ← e']; cases l[i]? <;> simp
    · have e' : ¬ i = j - z.heap.objs.size := by omega
      rw [if_neg e]; cases l[j - z.heap.objs.size]? <;> simp [e']
theorem SS_push {o : Obj} : { SS z l t with heap := (SS z l t).heap.push o } = SS z (l ++ [o]) t := by
  unfold SS Heap.push
  simp only [Shared.mk.injEq, Heap.mk.injEq, and_true]
  apply Array.toList_inj.mp
  simp
theorem SS_size : (SS z l t).heap.objs.size = z.heap.objs.size + l.length := by simp [SS]
theorem SS_tok {n : Nat} : { SS z l t with toks := n } = SS z l n := rfl
theorem do_entries {s : Shared} {c : Addr} {es : List DictEntry} {k : Nat} {part : Option Value} (h : s.heap.get? c = some (dO es k)) : Do w (dictEntries c part) p s es.toArray p s 1 :=
  Do.bind (n := 1) (m := 0) (do_load h) Do.pure'
theorem do_epoch {s : Shared} {c : Addr} {es : List DictEntry} {k : Nat} {part : Option Value} (h : s.heap.get? c = some (dO es k)) : Do w (dictEpoch c part) p s k p s 1 :=
  Do.bind (n := 1) (m := 0) (do_load h) Do.pure'
theorem do_keys {i : Nat} {es : List DictEntry} {k : Nat} {part : Option Value} {e : DictEntry} (h : l[i]? = some (dO es k)) (hl : es.length ≤ 10000) (h28 : 28 ≤ z.heap.objs.size) :
    Do w (updateDictKeys (z.heap.objs.size + i) (·.push e) part) p (SS z l t) () p (SS z (l.modify i fun _ => dO (es ++ [e]) (k + 1)) t) 3 := by
  unfold updateDictKeys
  have hm : (l.modify i (Obj.mapDictKeys (·.push e))) = l.modify i fun _ => dO (es ++ [e]) (k + 1) := by
    apply List.ext_getElem?
    intro j
    rw [List.getElem?_modify, List.getElem?_modify]
    by_cases q : i = j
    · subst q
      rw [h]
      simp [Obj.mapDictKeys]
    · simp [q]
  refine Do.bind (n := 1) (m := 2) (do_load (SS_get h)) ?_
  refine Do.bind (n := 1) (m := 1) (do_update (by rw [SS_get h]; rfl) (Nat.le_trans h28 (Nat.le_add_right _ _))) ?_
  rw [SS_upd, hm]
  unfold lookBehind
  refine Do.bind (n := 1) (m := 0) (do_load (SS_get (es := es ++ [e]) (k := k + 1) ?_)) ?_
  · rw [List.getElem?_modify, h]; simp
  · have : (dO (es ++ [e]) (k + 1)).data.pastItsLine = none := by
      show (if (es ++ [e]).toArray.size > sizeLine + 1 then _ else _) = _
      rw [if_neg (by rw [sizeLine_eq]; simp; omega)]
    rw [this]
    exact Do.pure'
noncomputable def Off (i : Int) (es : List DictEntry) : Prop := ∀ e ∈ es, e.hash ≠ i
theorem places_none {i : Int} {es : List DictEntry} (h : Off i es) : placesWithHash es.toArray.size (fun j => es.toArray[j]?.map (·.hash)) i = [] := by
  unfold placesWithHash
  rw [List.filter_eq_nil_iff]
  intro j hj
  rw [List.mem_range] at hj
  have hj' : j < es.length := by simpa using hj
  simpa [hj'] using h _ (List.getElem_mem hj')
theorem do_find {s : Shared} {c : Addr} {es : List DictEntry} {k : Nat} {i : Int} {u : Tok} (h : s.heap.get? c = some (dO es k)) (hi : Off i es) : Do w (dictFind c (.int i u) i) p s none p s 1 := by
  unfold dictFind
  refine Do.holding _ (Do.bind (n := 1) (m := 0) (do_entries h) ?_)
  rw [places_none hi]
  exact Do.pure'
theorem do_set {i : Nat} {es : List DictEntry} {k : Nat} {x : Int} {u : Tok} {y : Str} {v : Tok} (h : l[i]? = some (dO es k)) (hl : es.length ≤ 10000) (h28 : 28 ≤ z.heap.objs.size) (hi : Off x es) (h0 : 0 ≤ x) (h1 : x < 1000000) :
    Do w (dictSet (z.heap.objs.size + i) (.int x u) (.str y v)) p (SS z l t) () p (SS z (l.modify i fun _ => dO (es ++ [⟨x, .int x u, .str y v⟩]) (k + 1)) (t + 1)) 10 := by
  unfold dictSet
  refine Do.holding _ (Do.bind (n := 5) (m := 5) (do_hash h0 h1) ?_)
  unfold dictSetHashed
  refine Do.holding _ (Do.bind (n := 1) (m := 4) (do_find (SS_get h) hi) ?_)
  exact Do.bind (n := 1) (m := 3) do_rule (do_keys h hl h28)
theorem do_put {i : Nat} {es : List DictEntry} {k : Nat} {x : Int} {u : Tok} {y : Value} (h : l[i]? = some (dO es k)) (hl : es.length ≤ 10000) (h28 : 28 ≤ z.heap.objs.size) (hi : Off x es) :
    Do w (dictPut (z.heap.objs.size + i) x (.int x u) y) p (SS z l t) () p (SS z (l.modify i fun _ => dO (es ++ [⟨x, .int x u, y⟩]) (k + 1)) t) 4 := by
  unfold dictPut
  exact Do.bind (n := 1) (m := 3) (do_find (SS_get h) hi) (do_keys h hl h28)
end
end Mine
end

section -- HD3
open PySem PySem.W PySem.Spec PySem.Calls PyProof.Rows
namespace Mine
set_option maxRecDepth 100000
/-- the entries that a long part makes, from the token t on -/
noncomputable def eL : Nat → List (Int × Str) → List DictEntry
  | _, [] => []
  | t, d :: r => ⟨d.1, .int d.1 t, .str d.2 (t + 1)⟩ :: eL (t + 3) r
theorem eL_len : ∀ (t : Nat) (ds : List (Int × Str)), (eL t ds).length = ds.length
  | _, [] => rfl
  | t, d :: r => by rw [eL, List.length_cons, eL_len, List.length_cons]
noncomputable def PK (w : World) (q : Pos) (x : Sem Value × Sem Value) (d : Int × Str) : Prop :=
  (∀ s, Do w x.1 q s (.int d.1 s.toks) q { s with toks := s.toks + 1 } 1) ∧ ∀ s, Do w x.2 q s (.str d.2 s.toks) q { s with toks := s.toks + 1 } 2
inductive PKs (w : World) (q : Pos) : List (Sem Value × Sem Value) → List (Int × Str) → Prop
  | nil : PKs w q [] []
  | cons {x d xs ds} : PK w q x d → PKs w q xs ds → PKs w q (x :: xs) (d :: ds)
theorem PKs.len {w : World} {q : Pos} {xs : List (Sem Value × Sem Value)} {ds : List (Int × Str)} (h : PKs w q xs ds) : xs.length = ds.length := by
  induction h with
  | nil => rfl
  | cons _ _ ih => rw [List.length_cons, List.length_cons, ih]
/-- keys rise, and stand above those that are there -/
noncomputable def Rise : List (Int × Str) → Prop
  | [] => True
  | d :: r => 0 ≤ d.1 ∧ d.1 < 1000000 ∧ (∀ e ∈ r, d.1 < e.1) ∧ Rise r
noncomputable def Under (es : List DictEntry) (ds : List (Int × Str)) : Prop := ∀ e ∈ es, ∀ d ∈ ds, e.hash < d.1
theorem Under.off {es : List DictEntry} {d : Int × Str} {r : List (Int × Str)} (h : Under es (d :: r)) : Off d.1 es := fun e he q => by have := h e he d (.head _); omega
theorem Under.next {es : List DictEntry} {d : Int × Str} {r : List (Int × Str)} {u v : Value} (h : Under es (d :: r)) (k : ∀ e ∈ r, d.1 < e.1) : Under (es ++ [⟨d.1, u, v⟩]) r := fun e he x hx => by
  rcases List.mem_append.mp he with he | he
  · exact h e he x (.tail _ hx)
  · rw [List.mem_singleton.mp he]; exact k x hx
section
variable {z : Shared} {w : World} {q : Pos}
theorem set_last (l : List Obj) (o o' : Obj) : (l ++ [o]).modify l.length (fun _ => o') = l ++ [o'] := by
  induction l with
  | nil => rfl
  | cons a l ih => rw [List.cons_append, List.length_cons, List.modify_succ_cons, ih]; rfl
theorem get_last (l : List Obj) (o : Obj) : (l ++ [o])[l.length]? = some o := by simp
theorem do_loop (h28 : 28 ≤ z.heap.objs.size) (l : List Obj) {d : Addr} (hd : d = z.heap.objs.size + l.length) : ∀ (xs : List (Sem Value × Sem Value)) (ds : List (Int × Str)) (es : List DictEntry) (k t : Nat), PKs w q xs ds → Rise ds → Under es ds → es.length + ds.length ≤ 10000 →
    Do w (forIn xs PUnit.unit fun (x : Sem Value × Sem Value) (_ : PUnit) => (do let kv ← x.1; let vv ← holding [kv] x.2; holding [kv, vv] (dictSet d kv vv); pure (ForInStep.yield PUnit.unit) : Sem (ForInStep PUnit)))
      q (SS z (l ++ [dO es k]) t) PUnit.unit q (SS z (l ++ [dO (es ++ eL t ds) (k + ds.length)]) (t + 3 * ds.length)) (13 * ds.length)
  | _, _, es, k, t, .nil, _, _, _ => by
    rw [List.forIn_nil]
    simpa [eL] using (Do.pure' : Do w (pure PUnit.unit : Sem PUnit) q (SS z (l ++ [dO es k]) t) _ q _ 0)
  | _, _, es, k, t, .cons (x := x) (d := d') (xs := xs) (ds := ds) hx hs, hr, hu, hl => by
    rw [List.forIn_cons]
    rw [List.length_cons] at hl
    have st : Do w (dictSet d (.int d'.1 t) (.str d'.2 (t + 1))) q (SS z (l ++ [dO es k]) (t + 2)) () q (SS z (l ++ [dO (es ++ [⟨d'.1, .int d'.1 t, .str d'.2 (t + 1)⟩]) (k + 1)]) (t + 3)) 10 := by
      subst hd
      have := do_set (z := z) (w := w) (p := q) (l := l ++ [dO es k]) (t := t + 2) (i := l.length) (u := t) (v := t + 1) (y := d'.2) (get_last _ _) (by omega) h28 hu.off hr.1 hr.2.1
      rw [set_last] at this
      exact this
    have body : Do w (do let kv ← x.1; let vv ← holding [kv] x.2; holding [kv, vv] (dictSet d kv vv); pure (ForInStep.yield PUnit.unit) : Sem (ForInStep PUnit)) q (SS z (l ++ [dO es k]) t) (ForInStep.yield PUnit.unit) q (SS z (l ++ [dO (es ++ [⟨d'.1, .int d'.1 t, .str d'.2 (t + 1)⟩]) (k + 1)]) (t + 3)) 13 := by
      refine Do.bind (n := 1) (m := 12) (hx.1 (SS z (l ++ [dO es k]) t)) ?_
      refine Do.bind (n := 2) (m := 10) (Do.holding _ (hx.2 (SS z (l ++ [dO es k]) (t + 1)))) ?_
      exact Do.bind (n := 10) (m := 0) (Do.holding _ st) Do.pure'
    have next := do_loop h28 l hd xs ds (es ++ [⟨d'.1, .int d'.1 t, .str d'.2 (t + 1)⟩]) (k + 1) (t + 3) hs hr.2.2.2 (hu.next hr.2.2.1) (by simp; omega)
    refine (Do.bind (n := 13) (m := 13 * ds.length) body ?_).cast (by rw [List.length_cons]; omega)
    dsimp only
    rw [List.length_cons, eL]
    rw [List.append_assoc] at next
    rw [show t + 3 * (ds.length + 1) = t + 3 + 3 * ds.length by omega, show k + (ds.length + 1) = k + 1 + ds.length by omega]
    exact next
theorem do_sub (h28 : 28 ≤ z.heap.objs.size) (l : List Obj) (t : Nat) {xs : List (Sem Value × Sem Value)} {ds : List (Int × Str)} (hs : PKs w q xs ds) (hr : Rise ds) (hl : 15 < ds.length) (hl2 : ds.length ≤ 100) :
    Do w (subDict xs) q (SS z l t) (z.heap.objs.size + l.length) q (SS z (l ++ [dO (eL t ds) ds.length]) (t + 3 * ds.length)) (1 + (1 + 13 * ds.length)) := by
  unfold subDict
  refine Do.bind (n := 1) (m := 1 + 13 * ds.length) (by have := do_alloc (w := w) (p := q) (s := SS z l t) (o := dO [] 0); rw [SS_push, SS_size] at this; exact this) ?_
  refine Do.bind (a := ()) (n := 1 + 13 * ds.length) (m := 0) (Do.holding _ ?_) Do.pure'
  rw [if_neg (by rw [hs.len]; omega)]
  refine Do.bind (a := ()) (n := 1) (m := 13 * ds.length) do_rule ?_
  have := do_loop (q := q) h28 l rfl xs ds [] 0 t hs hr (fun e he => nomatch he) (by simp; omega)
  rw [List.nil_append, Nat.zero_add] at this
  refine (Do.bind (n := 13 * ds.length) (m := 0) this Do.pure')
end
end Mine
end

section -- HD4
open PySem PySem.W PySem.Spec PySem.Calls PyProof.Rows
namespace Mine
set_option maxRecDepth 100000
noncomputable def eS : Nat → List (Int × Str) → List DictEntry
  | _, [] => []
  | t, d :: r => ⟨d.1, .int d.1 t, .str d.2 (t + 1)⟩ :: eS (t + 2) r
theorem eS_len : ∀ (t : Nat) (ds : List (Int × Str)), (eS t ds).length = ds.length
  | _, [] => rfl
  | t, d :: r => by rw [eS, List.length_cons, eS_len, List.length_cons]
noncomputable def vS : Nat → List (Int × Str) → List (Value × Value)
  | _, [] => []
  | t, d :: r => (.int d.1 t, .str d.2 (t + 1)) :: vS (t + 2) r
section
variable {z : Shared} {w : World} {q : Pos}
theorem do_pairs (l : List Obj) : ∀ (xs : List (Sem Value × Sem Value)) (ds : List (Int × Str)) (t : Nat), PKs w q xs ds →
    Do w (evalPairs xs) q (SS z l t) (vS t ds) q (SS z l (t + 2 * ds.length)) (3 * ds.length)
  | _, _, t, .nil => Do.pure'
  | _, _, t, .cons (x := x) (d := d) (xs := xs) (ds := ds) hx hs => by
    rw [evalPairs]
    refine (Do.bind (n := 1) (m := 2 + 3 * ds.length) (hx.1 (SS z l t)) ?_).cast (by rw [List.length_cons]; omega)
    refine Do.bind (n := 2) (m := 3 * ds.length) (Do.holding _ (hx.2 (SS z l (t + 1)))) ?_
    have next := do_pairs l xs ds (t + 2) hs
    refine Do.bind (n := 3 * ds.length) (m := 0) (Do.holding _ next) ?_
    rw [List.length_cons, show t + 2 * (ds.length + 1) = t + 2 + 2 * ds.length by omega]
    exact Do.pure'
theorem do_loop2 (h28 : 28 ≤ z.heap.objs.size) (l : List Obj) {d : Addr} (hd : d = z.heap.objs.size + l.length) : ∀ (ds : List (Int × Str)) (es : List DictEntry) (k t u : Nat), Rise ds → Under es ds → es.length + ds.length ≤ 10000 →
    Do w (forIn (vS u ds) PUnit.unit fun (x : Value × Value) (_ : PUnit) => (do dictSet d x.1 x.2; pure (ForInStep.yield PUnit.unit) : Sem (ForInStep PUnit)))
      q (SS z (l ++ [dO es k]) t) PUnit.unit q (SS z (l ++ [dO (es ++ eS u ds) (k + ds.length)]) (t + ds.length)) (10 * ds.length)
  | [], es, k, t, u, _, _, _ => by
    rw [vS, List.forIn_nil]
    simpa [eS] using (Do.pure' : Do w (pure PUnit.unit : Sem PUnit) q (SS z (l ++ [dO es k]) t) _ q _ 0)
  | d' :: ds, es, k, t, u, hr, hu, hl => by
    rw [vS, List.forIn_cons]
    rw [List.length_cons] at hl
    have st : Do w (dictSet d (.int d'.1 u) (.str d'.2 (u + 1))) q (SS z (l ++ [dO es k]) t) () q (SS z (l ++ [dO (es ++ [⟨d'.1, .int d'.1 u, .str d'.2 (u + 1)⟩]) (k + 1)]) (t + 1)) 10 := by
      subst hd
      have := do_set (z := z) (w := w) (p := q) (l := l ++ [dO es k]) (t := t) (i := l.length) (u := u) (v := u + 1) (y := d'.2) (get_last _ _) (by omega) h28 hu.off hr.1 hr.2.1
      rw [set_last] at this
      exact this
    have next := do_loop2 h28 l hd ds (es ++ [⟨d'.1, .int d'.1 u, .str d'.2 (u + 1)⟩]) (k + 1) (t + 1) (u + 2) hr.2.2.2 (hu.next hr.2.2.1) (by simp; omega)
    refine (Do.bind (n := 10) (m := 10 * ds.length) (a := ForInStep.yield PUnit.unit) (Do.bind (n := 10) (m := 0) st Do.pure') ?_).cast (by rw [List.length_cons]; omega)
    dsimp only
    rw [List.length_cons, eS]
    rw [List.append_assoc] at next
    rw [show t + (ds.length + 1) = t + 1 + ds.length by omega, show k + (ds.length + 1) = k + 1 + ds.length by omega]
    exact next
theorem do_subS (h28 : 28 ≤ z.heap.objs.size) (l : List Obj) (t : Nat) {xs : List (Sem Value × Sem Value)} {ds : List (Int × Str)} (hs : PKs w q xs ds) (hr : Rise ds) (hl : ds.length ≤ 15) :
    Do w (subDict xs) q (SS z l t) (z.heap.objs.size + l.length) q (SS z (l ++ [dO (eS t ds) ds.length]) (t + 3 * ds.length)) (1 + (3 * ds.length + 10 * ds.length)) := by
  unfold subDict
  refine Do.bind (n := 1) (m := 3 * ds.length + 10 * ds.length) (by have := do_alloc (w := w) (p := q) (s := SS z l t) (o := dO [] 0); rw [SS_push, SS_size] at this; exact this) ?_
  refine Do.bind (a := ()) (n := 3 * ds.length + 10 * ds.length) (m := 0) (Do.holding _ ?_) Do.pure'
  rw [if_pos (by rw [hs.len]; omega)]
  refine Do.bind (n := 3 * ds.length) (m := 10 * ds.length) (do_pairs _ xs ds t hs) ?_
  refine Do.holding _ ?_
  have := do_loop2 (w := w) (q := q) h28 l rfl ds [] 0 (t + 2 * ds.length) t hr (fun e he => nomatch he) (by simp; omega)
  rw [List.nil_append, Nat.zero_add, show t + 2 * ds.length + ds.length = t + 3 * ds.length by omega] at this
  exact Do.bind (n := 10 * ds.length) (m := 0) this Do.pure'
theorem do_typ {s : Shared} {c : Addr} {es : List DictEntry} {k : Nat} (h : s.heap.get? c = some (dO es k)) : Do w (typeOf (.ref c)) q s (.type "dict") q s 1 :=
  Do.bind (n := 1) (m := 0) (do_load h) Do.pure'
theorem sub_dict : isSubtype (.type "dict") (.type "dict") = .pure true := by kernel_rfl
theorem lk_iter : typeLookup (.type "dict") "__iter__" = .pure (some (.builtin "dict.__iter__")) := by kernel_rfl
/-- entries whose keys are ints, rising -/
noncomputable def RiseE : List DictEntry → Prop
  | [] => True
  | e :: r => (∃ x u y v, e = ⟨x, .int x u, .str y v⟩) ∧ (∀ f ∈ r, e.hash < f.hash) ∧ RiseE r
noncomputable def UnderE (es fs : List DictEntry) : Prop := ∀ e ∈ es, ∀ f ∈ fs, e.hash < f.hash
theorem do_mloop (L : List Obj) (t : Nat) (fs : List DictEntry) {body : Nat → PUnit → Sem (ForInStep PUnit)}
    (hb : ∀ j e es k, fs[j]? = some e → (∃ x u y v, e = ⟨x, .int x u, .str y v⟩) → Off e.hash es → es.length ≤ 10000 → Do w (body j PUnit.unit) q (SS z (dO es k :: L) t) (ForInStep.yield PUnit.unit) q (SS z (dO (es ++ [e]) (k + 1) :: L) t) 6) :
    ∀ (n i : Nat) (gs es : List DictEntry) (k : Nat), fs.drop i = gs → gs.length = n → RiseE gs → UnderE es gs → es.length + n ≤ 10000 →
    Do w (forIn (List.range' i n) PUnit.unit body) q (SS z (dO es k :: L) t) PUnit.unit q (SS z (dO (es ++ gs) (k + n) :: L) t) (6 * n)
  | 0, i, gs, es, k, hg, hn, _, _, _ => by
    obtain rfl : gs = [] := List.eq_nil_of_length_eq_zero hn
    rw [List.range'_zero, List.forIn_nil]
    simpa using (Do.pure' : Do w (pure PUnit.unit : Sem PUnit) q (SS z (dO es k :: L) t) _ q _ 0)
  | n + 1, i, [], es, k, hg, hn, _, _, _ => by cases hn
  | n + 1, i, e :: gs, es, k, hg, hn, hr, hu, hl => by
    rw [List.range'_succ, List.forIn_cons]
    have he : fs[i]? = some e := by
      have := congrArg (fun l => l[0]?) hg
      simpa using this
    have hd : fs.drop (i + 1) = gs := by
      have := congrArg (List.drop 1) hg
      simpa [List.drop_drop] using this
    have step := hb i e es k he hr.1 (fun f hf h => by have := hu f hf e (.head _); omega) (by omega)
    have next := do_mloop L t fs hb n (i + 1) gs (es ++ [e]) (k + 1) hd (by simpa using hn) hr.2.2 (fun f hf g hg => by
      rcases List.mem_append.mp hf with hf | hf
      · exact hu f hf g (.tail _ hg)
      · rw [List.mem_singleton.mp hf]; exact hr.2.1 g hg) (by simp; omega)
    refine (Do.bind (n := 6) (m := 6 * n) step ?_).cast (by omega)
    dsimp only
    rw [List.append_assoc] at next
    rw [show k + (n + 1) = k + 1 + n by omega]
    exact next
theorem get_lastC (m : Obj) (l : List Obj) (o : Obj) : (m :: (l ++ [o]))[l.length + 1]? = some o := by simp
theorem do_merge (h28 : 28 ≤ z.heap.objs.size) (es fs : List DictEntry) (k kf : Nat) (l : List Obj) (t : Nat) (hne : es ≠ []) (hr : RiseE fs) (hu : UnderE es fs) (hl : es.length + fs.length ≤ 10000) :
    Do w (mergeMapping z.heap.objs.size (.ref (z.heap.objs.size + (l.length + 1))) false) q (SS z (dO es k :: (l ++ [dO fs kf])) t) () q (SS z (dO (es ++ fs) (k + fs.length) :: (l ++ [dO fs kf])) t) (5 + 6 * fs.length) := by
  have hd : ∀ es k, (SS z (dO es k :: (l ++ [dO fs kf])) t).heap.get? z.heap.objs.size = some (dO es k) := fun es k => SS_get (i := 0) rfl
  have ha : ∀ es k, (SS z (dO es k :: (l ++ [dO fs kf])) t).heap.get? (z.heap.objs.size + (l.length + 1)) = some (dO fs kf) := fun es k => SS_get (get_lastC _ _ _)
  have hsys : (z.heap.objs.size + (l.length + 1) == sysModules) = false := beq_eq_false_iff_ne.mpr (by show _ ≠ 1; omega)
  have hem : es.toArray.isEmpty = false := by cases es with | nil => exact absurd rfl hne | cons => rfl
  unfold mergeMapping isInstance specialOf
  refine (Do.bind (a := true) (n := 1) (m := 4 + 6 * fs.length) (Do.bind (n := 1) (m := 0) (do_typ (ha es k)) (by rw [sub_dict]; exact Do.pure)) ?_).cast (by omega)
  try dsimp only
  rw [if_pos rfl]
  refine (Do.bind (n := 1) (m := 3 + 6 * fs.length) (a := some (.builtin "dict.__iter__")) (Do.bind (n := 1) (m := 0) (do_typ (ha es k)) (by rw [lk_iter]; exact Do.pure)) ?_).cast (by omega)
  refine (Do.bind (n := 0) (m := 3 + 6 * fs.length) (a := true) (by have e : (some (Value.builtin "dict.__iter__") == some (Value.builtin "dict.__iter__")) = true := beq_self_eq_true _; rw [e]; exact Do.pure') ?_).cast (by omega)
  try dsimp only
  rw [hsys]
  try dsimp only
  rw [if_neg Bool.false_ne_true]
  refine (Do.bind (n := 1) (m := 2 + 6 * fs.length) (do_entries (hd es k)) ?_).cast (by omega)
  try dsimp only
  rw [hem, if_neg Bool.false_ne_true]
  refine (Do.bind (n := 1) (m := 1 + 6 * fs.length) (do_entries (ha es k)) ?_).cast (by omega)
  refine Do.bind (n := 1) (m := 6 * fs.length) (do_epoch (ha es k)) ?_
  have e : List.range fs.toArray.size = List.range' 0 fs.length := by rw [List.size_toArray, List.range_eq_range']
  rw [e]
  refine Do.bind (n := 6 * fs.length) (m := 0) (do_mloop _ t fs ?_ fs.length 0 fs es k rfl rfl hr hu hl) Do.pure'
  rintro j _ es k hj ⟨x, u, y, v, rfl⟩ ho hes
  refine Do.bind (n := 1) (m := 5) (do_entries (ha es k)) ?_
  rw [List.getElem?_toArray, hj]
  try dsimp only
  have put := do_put (z := z) (w := w) (p := q) (l := dO es k :: (l ++ [dO fs kf])) (t := t) (i := 0) (u := u) (y := .str y v) rfl hes h28 ho
  refine Do.bind (n := 4) (m := 1) (Do.holding _ (by rw [if_neg Bool.false_ne_true]; exact put)) ?_
  refine Do.bind (n := 1) (m := 0) (do_epoch (ha _ _)) ?_
  rw [if_neg (by simp)]
  exact Do.pure'
end
end Mine
end

section -- HD5
open PySem PySem.W PySem.Spec PySem.Calls PyProof.Rows
namespace Mine
set_option maxRecDepth 100000
noncomputable abbrev It (x : Sem Value × Sem Value) : Option (Sem Value) × Sem Value := (some x.1, x.2)
noncomputable abbrev StT := Option Addr × List (Sem Value × Sem Value)
theorem gather {f : Option (Sem Value) × Sem Value → StT → Sem (ForInStep StT)} (hf : ∀ x main run, run.length + 1 < 17 → f (It x) (main, run) = pure (.yield (main, run ++ [x]))) :
    ∀ (xs run : List (Sem Value × Sem Value)) (main : Option Addr) (rest : List (Option (Sem Value) × Sem Value)), run.length + xs.length < 17 → forIn (xs.map It ++ rest) ((main, run) : StT) f = forIn rest ((main, run ++ xs) : StT) f
  | [], run, main, rest, _ => by simp
  | x :: xs, run, main, rest, h => by
    rw [List.length_cons] at h
    rw [List.map_cons, List.cons_append, List.forIn_cons, hf x main run (by omega), pure_bind]
    have := gather hf xs (run ++ [x]) main rest (by simp; omega)
    simpa using this
noncomputable def goE : Nat → List (List (Int × Str)) → List DictEntry
  | _, [] => []
  | t, d :: r => eL t d ++ goE (t + 3 * d.length) r
noncomputable def goS : Nat → List (List (Int × Str)) → List Obj
  | _, [] => []
  | t, d :: r => dO (eL t d) d.length :: goS (t + 3 * d.length) r
theorem goE_len : ∀ (t : Nat) (dss : List (List (Int × Str))), (goE t dss).length = dss.flatten.length
  | _, [] => rfl
  | t, d :: r => by rw [goE, List.length_append, goE_len, eL_len, List.flatten_cons, List.length_append]
theorem Rise.append : ∀ {a b : List (Int × Str)}, Rise (a ++ b) → Rise a ∧ Rise b ∧ ∀ x ∈ a, ∀ y ∈ b, x.1 < y.1
  | [], b, h => ⟨trivial, h, fun _ hx => nomatch hx⟩
  | x :: a, b, ⟨h0, h1, h2, h3⟩ => by
    obtain ⟨r1, r2, r3⟩ := Rise.append h3
    refine ⟨⟨h0, h1, fun e he => h2 e (List.mem_append_left _ he), r1⟩, r2, fun y hy c hc => ?_⟩
    rcases List.mem_cons.mp hy with rfl | hy
    · exact h2 c (List.mem_append_right _ hc)
    · exact r3 y hy c hc
theorem eL_mem : ∀ {t : Nat} {ds : List (Int × Str)} {e : DictEntry}, e ∈ eL t ds → (∃ d ∈ ds, e.hash = d.1) ∧ ∃ x u y v, e = ⟨x, .int x u, .str y v⟩
  | _, [], _, h => nomatch h
  | t, d :: r, e, h => by
    rw [eL] at h
    rcases List.mem_cons.mp h with rfl | h
    · exact ⟨⟨d, .head _, rfl⟩, _, _, _, _, rfl⟩
    · obtain ⟨⟨d', hd, h1⟩, h2⟩ := eL_mem h
      exact ⟨⟨d', .tail _ hd, h1⟩, h2⟩
theorem goE_mem : ∀ {t : Nat} {dss : List (List (Int × Str))} {e : DictEntry}, e ∈ goE t dss → ∃ d ∈ dss.flatten, e.hash = d.1
  | _, [], _, h => nomatch h
  | t, d :: r, e, h => by
    rw [goE] at h
    rw [List.flatten_cons]
    rcases List.mem_append.mp h with h | h
    · obtain ⟨⟨d', hd, q⟩, _⟩ := eL_mem h
      exact ⟨d', List.mem_append_left _ hd, q⟩
    · obtain ⟨d', hd, q⟩ := goE_mem h
      exact ⟨d', List.mem_append_right _ hd, q⟩
theorem eS_mem : ∀ {t : Nat} {ds : List (Int × Str)} {e : DictEntry}, e ∈ eS t ds → (∃ d ∈ ds, e.hash = d.1) ∧ ∃ x u y v, e = ⟨x, .int x u, .str y v⟩
  | _, [], _, h => nomatch h
  | t, d :: r, e, h => by
    rw [eS] at h
    rcases List.mem_cons.mp h with rfl | h
    · exact ⟨⟨d, .head _, rfl⟩, _, _, _, _, rfl⟩
    · obtain ⟨⟨d', hd, h1⟩, h2⟩ := eS_mem h
      exact ⟨⟨d', .tail _ hd, h1⟩, h2⟩
theorem Rise.eL : ∀ {ds : List (Int × Str)} (t : Nat), Rise ds → RiseE (eL t ds)
  | [], _, _ => trivial
  | d :: r, t, ⟨_, _, h2, h3⟩ => ⟨⟨_, _, _, _, rfl⟩, fun f hf => by obtain ⟨⟨d', hd, e⟩, _⟩ := eL_mem hf; rw [e]; exact h2 d' hd, Rise.eL _ h3⟩
theorem Rise.eS : ∀ {ds : List (Int × Str)} (t : Nat), Rise ds → RiseE (eS t ds)
  | [], _, _ => trivial
  | d :: r, t, ⟨_, _, h2, h3⟩ => ⟨⟨_, _, _, _, rfl⟩, fun f hf => by obtain ⟨⟨d', hd, e⟩, _⟩ := eS_mem hf; rw [e]; exact h2 d' hd, Rise.eS _ h3⟩
theorem Under.eL {es : List DictEntry} {ds : List (Int × Str)} (t : Nat) (h : Under es ds) : UnderE es (eL t ds) := fun e he f hf => by
  obtain ⟨⟨d, hd, q⟩, _⟩ := eL_mem hf
  rw [q]; exact h e he d hd
theorem Under.eS {es : List DictEntry} {ds : List (Int × Str)} (t : Nat) (h : Under es ds) : UnderE es (eS t ds) := fun e he f hf => by
  obtain ⟨⟨d, hd, q⟩, _⟩ := eS_mem hf
  rw [q]; exact h e he d hd
theorem Under.more {es : List DictEntry} {a b : List (Int × Str)} {t : Nat} (h : Under es (a ++ b)) (k : ∀ x ∈ a, ∀ y ∈ b, x.1 < y.1) : Under (es ++ Mine.eL t a) b := fun e he d hd => by
  rcases List.mem_append.mp he with he | he
  · exact h e he d (List.mem_append_right _ hd)
  · obtain ⟨⟨d', hd', q⟩, _⟩ := eL_mem he
    rw [q]; exact k d' hd' d hd
inductive PKss (w : World) (q : Pos) : List (List (Sem Value × Sem Value)) → List (List (Int × Str)) → Prop
  | nil : PKss w q [] []
  | cons {x d xs ds} : PKs w q x d → d.length = 17 → PKss w q xs ds → PKss w q (x :: xs) (d :: ds)
section
variable {z : Shared} {w : World} {q : Pos} {f : Option (Sem Value) × Sem Value → StT → Sem (ForInStep StT)}
theorem chunk (hf : ∀ x main run, run.length + 1 < 17 → f (It x) (main, run) = pure (.yield (main, run ++ [x]))) {xs : List (Sem Value × Sem Value)} (hl : xs.length = 17) {rest : List (Option (Sem Value) × Sem Value)} {main main' : Option Addr} {S₀ S₁ S₂ : Shared} {r : StT} {n m : Nat}
    (step : ∀ y ys, xs = ys ++ [y] → Do w (f (It y) (main, ys)) q S₀ (.yield (main', [])) q S₁ n) (next : Do w (forIn rest ((main', []) : StT) f) q S₁ r q S₂ m) : Do w (forIn (xs.map It ++ rest) ((main, []) : StT) f) q S₀ r q S₂ (n + m) := by
  have hne : xs ≠ [] := by intro h; rw [h] at hl; cases hl
  obtain ⟨ys, y, rfl⟩ : ∃ ys y, xs = ys ++ [y] := ⟨xs.dropLast, xs.getLast hne, (List.dropLast_concat_getLast hne).symm⟩
  rw [List.length_append, List.length_singleton] at hl
  rw [List.map_append, List.append_assoc, gather hf ys [] main _ (by simp; omega), List.nil_append, List.map_singleton, List.singleton_append, List.forIn_cons]
  exact Do.bind (step y ys rfl) next
theorem do_chunks (h28 : 28 ≤ z.heap.objs.size) (hf : ∀ x main run, run.length + 1 < 17 → f (It x) (main, run) = pure (.yield (main, run ++ [x])))
    (hs : ∀ (xs : List (Sem Value × Sem Value)) (ds : List (Int × Str)) (es : List DictEntry) (k : Nat) (l : List Obj) (t : Nat) y ys, PKs w q xs ds → ds.length = 17 → Rise ds → Under es ds → es ≠ [] → es.length + ds.length ≤ 9000 → xs = ys ++ [y] →
      Do w (f (It y) (some z.heap.objs.size, ys)) q (SS z (dO es k :: l) t) (.yield (some z.heap.objs.size, [])) q (SS z (dO (es ++ eL t ds) (k + 17) :: (l ++ [dO (eL t ds) 17])) (t + 51)) 330)
    (lastx : List (Sem Value × Sem Value)) (hlast : lastx.length < 17) : ∀ (cs : List (List (Sem Value × Sem Value))) (dss : List (List (Int × Str))) (es : List DictEntry) (k : Nat) (l : List Obj) (t : Nat), PKss w q cs dss → Rise dss.flatten → Under es dss.flatten → es ≠ [] → es.length + dss.flatten.length ≤ 9000 →
    Do w (forIn ((cs.map (·.map It)).flatten ++ lastx.map It) ((some z.heap.objs.size, []) : StT) f) q (SS z (dO es k :: l) t) (some z.heap.objs.size, lastx) q
      (SS z (dO (es ++ goE t dss) (k + dss.flatten.length) :: (l ++ goS t dss)) (t + 3 * dss.flatten.length)) (330 * dss.length)
  | _, _, es, k, l, t, .nil, _, _, _, _ => by
    have := gather hf lastx [] (some z.heap.objs.size) [] (by simpa using hlast)
    rw [List.append_nil, List.forIn_nil, List.nil_append] at this
    simp only [List.map_nil, List.flatten_nil, List.nil_append, this, goE, goS, List.append_nil, List.length_nil, Nat.mul_zero, Nat.add_zero]
    exact Do.pure'
  | _, _, es, k, l, t, .cons (x := x) (d := d) (xs := xs) (ds := ds) hx h17 hxs, hr, hu, hne, hl => by
    rw [List.flatten_cons] at hr hu hl
    rw [List.length_append] at hl
    obtain ⟨r1, r2, r3⟩ := hr.append
    have next := do_chunks h28 hf hs lastx hlast xs ds (es ++ eL t d) (k + 17) (l ++ [dO (eL t d) 17]) (t + 51) hxs r2 (hu.more r3) (by simp [hne]) (by simp only [List.length_append, eL_len]; omega)
    rw [List.map_cons, List.flatten_cons, List.append_assoc]
    have h0 := chunk hf (by rw [hx.len]; exact h17) (fun y ys e => hs x d es k l t y ys hx h17 r1 (fun e he d' hd => hu e he d' (List.mem_append_left _ hd)) hne (by omega) e) next
    have h := Do.cast h0 (m := 330 * (d :: ds).length) (by rw [List.length_cons]; omega)
    have e1 : k + (d :: ds).flatten.length = k + 17 + ds.flatten.length := by simp; omega
    have e2 : t + 3 * (d :: ds).flatten.length = t + 51 + 3 * ds.flatten.length := by simp; omega
    have e3 : es ++ goE t (d :: ds) = es ++ eL t d ++ goE (t + 51) ds := by rw [goE, h17, List.append_assoc]
    have e4 : l ++ goS t (d :: ds) = l ++ [dO (eL t d) 17] ++ goS (t + 51) ds := by rw [goS, h17]; simp
    rw [e1, e2, e3, e4]
    exact h
theorem do_disp (h28 : 28 ≤ z.heap.objs.size) {x0 : List (Sem Value × Sem Value)} {d0 : List (Int × Str)} {cs : List (List (Sem Value × Sem Value))} {dss : List (List (Int × Str))} {xl : List (Sem Value × Sem Value)} {dl : List (Int × Str)} (t : Nat)
    (p0 : PKs w q x0 d0) (l0 : d0.length = 17) (pc : PKss w q cs dss) (pl : PKs w q xl dl) (ll : dl.length ≤ 15) (nl : dl ≠ []) (hr : Rise (d0 ++ (dss.flatten ++ dl))) (hl : d0.length + dss.flatten.length + dl.length ≤ 9000) :
    Do w (dictDisplay (x0.map It ++ ((cs.map (·.map It)).flatten ++ xl.map It))) q (SS z [] t) (.ref z.heap.objs.size) q
      (SS z (dO (eL t d0 ++ goE (t + 51) dss ++ eS (t + 51 + 3 * dss.flatten.length) dl) (17 + dss.flatten.length + dl.length) :: (goS (t + 51) dss ++ [dO (eS (t + 51 + 3 * dss.flatten.length) dl) dl.length])) (t + 51 + 3 * dss.flatten.length + 3 * dl.length))
      ((223 + 330 * dss.length) + (1 + (3 * dl.length + 10 * dl.length) + (5 + 6 * dl.length))) := by
  obtain ⟨r0, r12, q0⟩ := hr.append
  obtain ⟨r1, r2, q1⟩ := r12.append
  unfold dictDisplay
  dsimp only
  have hne : eL t d0 ≠ [] := fun h => by have := congrArg List.length h; rw [eL_len, l0] at this; cases this
  have hxl : xl ≠ [] := fun h => by have := pl.len; rw [h] at this; exact nl (List.eq_nil_of_length_eq_zero this.symm)
  have hu0 : Under (eL t d0) dss.flatten := fun e he d hd => by
    obtain ⟨⟨d', hd', e1⟩, _⟩ := eL_mem he
    rw [e1]; exact q0 d' hd' d (List.mem_append_left _ hd)
  refine Do.bind (p₁ := q) (a := (some z.heap.objs.size, xl)) (n := 223 + 330 * dss.length) (m := 1 + (3 * dl.length + 10 * dl.length) + (5 + 6 * dl.length)) (s₁ := SS z (dO (eL t d0 ++ goE (t + 51) dss) (17 + dss.flatten.length) :: goS (t + 51) dss) (t + 51 + 3 * dss.flatten.length)) ?_ ?_
  · have hf : ∀ (x : Sem Value × Sem Value) (main : Option Addr) (run : List (Sem Value × Sem Value)), run.length + 1 < 17 → ((run ++ [(x.1, x.2)]).length == 17) = false := by intro x main run h; simp; omega
    refine chunk (fun x main run h => by simp only [hf x main run h, Bool.false_eq_true, if_false]) (by rw [p0.len]; exact l0) (n := 223) (m := 330 * dss.length) (S₁ := SS z (dO (eL t d0) 17 :: []) (t + 51)) (main' := some z.heap.objs.size) ?_ ?_
    · rintro y ys rfl
      have h17 : ((ys ++ [(y.1, y.2)]).length == 17) = true := by have := p0.len; rw [l0] at this; simpa using this
      have hE : (ys ++ [(y.1, y.2)]).isEmpty = false := by cases ys <;> rfl
      simp only [h17, if_true, hE, Bool.false_eq_true, if_false]
      have := do_sub (q := q) (z := z) (w := w) h28 [] t p0 r0 (by omega) (by omega)
      rw [l0] at this
      exact Do.bind (n := 223) (m := 0) (Do.bind (n := 223) (m := 0) this Do.pure') Do.pure'
    · refine do_chunks (z := z) (w := w) (q := q) h28 ?_ ?_ xl (by have := pl.len; omega) cs dss (eL t d0) 17 [] (t + 51) pc r1 hu0 hne (by rw [eL_len]; omega)
      · intro x main run h
        simp only [hf x main run h, Bool.false_eq_true, if_false]
      · rintro xs ds es k l t y ys hx hds hrd hu hes hl9 rfl
        have h17 : ((ys ++ [(y.1, y.2)]).length == 17) = true := by have := hx.len; rw [hds] at this; simpa using this
        have hE : (ys ++ [(y.1, y.2)]).isEmpty = false := by cases ys <;> rfl
        simp only [h17, if_true, hE, Bool.false_eq_true, if_false]
        have s1 := do_sub (q := q) (z := z) (w := w) h28 (dO es k :: l) t hx hrd (by omega) (by omega)
        have s2 := do_merge (q := q) (z := z) (w := w) h28 es (eL t ds) k 17 l (t + 51) hes (hrd.eL t) (hu.eL t) (by rw [eL_len]; omega)
        rw [hds] at s1
        rw [eL_len, hds] at s2
        refine Do.bind (n := 330) (m := 0) (a := some z.heap.objs.size) ?_ Do.pure'
        refine Do.bind (n := 223) (m := 107) (Do.holding _ s1) ?_
        exact Do.bind (n := 107) (m := 0) (Do.onRaise (Do.holding _ s2)) Do.pure'
  · have hE : xl.isEmpty = false := by cases xl with | nil => exact absurd rfl hxl | cons => rfl
    simp only [hE, Bool.false_eq_true, if_false]
    have s1 := do_subS (q := q) (z := z) (w := w) h28 (dO (eL t d0 ++ goE (t + 51) dss) (17 + dss.flatten.length) :: goS (t + 51) dss) (t + 51 + 3 * dss.flatten.length) pl r2 ll
    have s2 := do_merge (q := q) (z := z) (w := w) h28 (eL t d0 ++ goE (t + 51) dss) (eS (t + 51 + 3 * dss.flatten.length) dl) (17 + dss.flatten.length) dl.length (goS (t + 51) dss) (t + 51 + 3 * dss.flatten.length + 3 * dl.length) (by simp [hne]) (r2.eS _) ?_ ?_
    · rw [eS_len] at s2
      refine Do.bind (n := 1 + (3 * dl.length + 10 * dl.length) + (5 + 6 * dl.length)) (m := 0) (a := some z.heap.objs.size) ?_ Do.pure'
      refine Do.bind (n := 1 + (3 * dl.length + 10 * dl.length)) (m := 5 + 6 * dl.length) (Do.holding _ s1) ?_
      exact Do.bind (n := 5 + 6 * dl.length) (m := 0) (Do.onRaise (Do.holding _ s2)) Do.pure'
    · intro e he g hg
      obtain ⟨⟨d, hd, q2⟩, _⟩ := eS_mem hg
      rw [q2]
      rcases List.mem_append.mp he with he | he
      · obtain ⟨⟨d', hd', e1⟩, _⟩ := eL_mem he
        rw [e1]; exact q0 d' hd' d (List.mem_append_right _ hd)
      · obtain ⟨d', hd', e1⟩ := goE_mem he
        rw [e1]; exact q1 d' hd' d hd
    · rw [List.length_append, eL_len, goE_len, eS_len]; omega
end
end Mine
end

section -- HD6
open PySem PySem.W PySem.Spec PySem.Calls PyProof.Rows
namespace Mine
set_option maxRecDepth 100000
noncomputable def isIK : Option Expr → Bool
  | some (.Constant (.int _) _ _) => true
  | _ => false
noncomputable def isSV : Expr → Bool
  | .Constant (.str _) _ _ => true
  | _ => false
theorem isIK_inv {k : Option Expr} (h : isIK k = true) : ∃ i a b, k = some (.Constant (.int i) a b) := by
  unfold isIK at h
  split at h
  · exact ⟨_, _, _, rfl⟩
  · exact Bool.noConfusion h
theorem isSV_inv {v : Expr} (h : isSV v = true) : ∃ y c d, v = .Constant (.str y) c d := by
  unfold isSV at h
  split at h
  · exact ⟨_, _, _, rfl⟩
  · exact Bool.noConfusion h
noncomputable def isKV : List (Option Expr) → List Expr → Bool
  | [], [] => true
  | k :: ks, v :: vs => isIK k && (isSV v && isKV ks vs)
  | _, _ => false
theorem isKV_inv {k : Option Expr} {v : Expr} {ks : List (Option Expr)} {vs : List Expr} (h : isKV (k :: ks) (v :: vs) = true) : (∃ i a b, k = some (.Constant (.int i) a b)) ∧ (∃ y c d, v = .Constant (.str y) c d) ∧ isKV ks vs = true :=
  have h1 := Bool.and_eq_true_iff.mp h
  have h2 := Bool.and_eq_true_iff.mp h1.2
  ⟨isIK_inv h1.1, isSV_inv h2.1, h2.2⟩
noncomputable def xsOf (q : Pos) (env : Env) : List (Option Expr) → List Expr → List (Sem Value × Sem Value)
  | some k :: ks, v :: vs => (eval k env, do let x ← eval v env; standAt q; pure x) :: xsOf q env ks vs
  | _, _ => []
noncomputable def dsOf (ks : List (Option Expr)) (vs : List Expr) : List (Int × Str) := ((ks.filterMap id).map constInt).zip (vs.map constStr)
theorem xs_items (q : Pos) (env : Env) : ∀ (ks : List (Option Expr)) (vs : List Expr), isKV ks vs = true → (evalEachOpt ks env).zip ((evalEach vs env).map fun v => do let x ← v; standAt q; pure x) = (xsOf q env ks vs).map It
  | [], [], _ => rfl
  | [], _ :: _, h => Bool.noConfusion h
  | _ :: _, [], h => Bool.noConfusion h
  | k :: ks, v :: vs, h => by
    obtain ⟨⟨i, a, b, rfl⟩, ⟨y, c, d, rfl⟩, h⟩ := isKV_inv h
    have ih := xs_items q env ks vs h
    show (_, _) :: ((evalEachOpt ks env).zip _) = (_, _) :: ((xsOf q env ks vs).map It)
    rw [ih]
    rfl
theorem xs_pks {w : World} (q : Pos) (env : Env) : ∀ (ks : List (Option Expr)) (vs : List Expr), isKV ks vs = true → PKs w q (xsOf q env ks vs) (dsOf ks vs)
  | [], [], _ => .nil
  | [], _ :: _, h => Bool.noConfusion h
  | _ :: _, [], h => Bool.noConfusion h
  | k :: ks, v :: vs, h => by
    obtain ⟨⟨i, a, b, rfl⟩, ⟨y, c, d, rfl⟩, h⟩ := isKV_inv h
    have ih := xs_pks (w := w) q env ks vs h
    refine .cons (d := (i, y)) ⟨fun s => ?_, fun s => ?_⟩ ih
    · exact Do.bind (n := 1) (m := 0) do_fresh Do.pure'
    · exact Do.bind (n := 1) (m := 1) (a := .str y s.toks) (Do.bind (n := 1) (m := 0) do_fresh Do.pure') (Do.bind (n := 1) (m := 0) do_at Do.pure')
noncomputable def chop {α : Type} : Nat → List α → List (List α)
  | 0, _ => []
  | n + 1, xs => xs.take 17 :: chop n (xs.drop 17)
theorem chop_flat {α : Type} : ∀ (n : Nat) (xs : List α), (chop n xs).flatten ++ xs.drop (17 * n) = xs
  | 0, xs => by simp [chop]
  | n + 1, xs => by
    rw [chop, List.flatten_cons, List.append_assoc, show 17 * (n + 1) = 17 + 17 * n by omega, ← List.drop_drop, chop_flat n (xs.drop 17), List.take_append_drop]
theorem PKs.take {w : World} {q : Pos} : ∀ {xs : List (Sem Value × Sem Value)} {ds : List (Int × Str)} (n : Nat), PKs w q xs ds → PKs w q (xs.take n) (ds.take n)
  | _, _, 0, _ => by rw [List.take_zero, List.take_zero]; exact .nil
  | _, _, n + 1, .nil => .nil
  | _, _, n + 1, .cons h r => .cons h (r.take n)
theorem PKs.drop {w : World} {q : Pos} : ∀ {xs : List (Sem Value × Sem Value)} {ds : List (Int × Str)} (n : Nat), PKs w q xs ds → PKs w q (xs.drop n) (ds.drop n)
  | _, _, 0, h => h
  | _, _, n + 1, .nil => .nil
  | _, _, n + 1, .cons _ r => r.drop n
theorem PKs.chop {w : World} {q : Pos} : ∀ (n : Nat) {xs : List (Sem Value × Sem Value)} {ds : List (Int × Str)}, PKs w q xs ds → 17 * n ≤ ds.length → PKss w q (chop n xs) (chop n ds)
  | 0, _, _, _, _ => .nil
  | n + 1, _, _, h, l => .cons (h.take 17) (by rw [List.length_take]; omega) (PKs.chop n (h.drop 17) (by rw [List.length_drop]; omega))
noncomputable def riseB : List (Int × Str) → Bool
  | [] => true
  | [d] => decide (d.1 < 1000000) && decide (0 ≤ d.1)
  | d :: e :: r => decide (d.1 < e.1) && decide (0 ≤ d.1) && riseB (e :: r)
theorem rise_up : ∀ (r : List (Int × Str)) (d : Int × Str), riseB (d :: r) = true → d.1 < 1000000 ∧ 0 ≤ d.1 ∧ (∀ e ∈ r, d.1 < e.1) ∧ Rise r
  | [], d, h => by
    simp only [riseB, Bool.and_eq_true, decide_eq_true_eq] at h
    exact ⟨h.1, h.2, fun _ he => (nomatch he), trivial⟩
  | e :: r, d, h => by
    simp only [riseB, Bool.and_eq_true, decide_eq_true_eq] at h
    obtain ⟨h1, h2, h3, h4⟩ := rise_up r e h.2
    refine ⟨by omega, h.1.2, fun f hf => ?_, h2, h1, h3, h4⟩
    rcases List.mem_cons.mp hf with rfl | hf
    · exact h.1.1
    · have := h3 f hf; omega
theorem rise_of {l : List (Int × Str)} (h : riseB l = true) : Rise l := by
  cases l with
  | nil => trivial
  | cons d r => obtain ⟨h1, h2, h3, h4⟩ := rise_up r d h; exact ⟨h2, h1, h3, h4⟩
noncomputable def aKs : Stmt → List (Option Expr)
  | .Assign _ (.Dict ks _ _) _ => ks
  | _ => []
noncomputable def aVs : Stmt → List Expr
  | .Assign _ (.Dict _ vs _) _ => vs
  | _ => []
noncomputable abbrev dK : List (Option Expr) := aKs (pS 13)
noncomputable abbrev dV : List Expr := aVs (pS 13)
noncomputable abbrev D0 : List (Int × Str) := dsOf dK dV
theorem d_kv : isKV dK dV = true := by kernel_rfl
theorem d_rise : riseB D0 = true := by kernel_rfl
theorem d_len : D0.length = 650 := by kernel_rfl
noncomputable abbrev dq : Pos := ps 22 0 22 0
theorem d_shape : pS 13 = .Assign [.Name (Str.ofString "b3_exceptions") (ps 22 0 22 13)] (.Dict dK dV (ps 22 16 22 8704)) (ps 22 0 22 8704) := by kernel_rfl
end Mine
end

section -- HD7
open PySem PySem.W PySem.Spec PySem.Calls PyProof.Rows
namespace Mine
set_option maxRecDepth 100000
noncomputable def tr_m (P : Params) : BT := (tr_p12 P).set 3 fun _ => ((tr_p11 P).get 3).getD default
noncomputable def st_m (w : World) (os : OsState) : SharedT := ⟨tr_m w.params, 120, {}, #[], {}, 2389, os⟩
noncomputable abbrev E0 : List (Int × Str) := D0.take 17
noncomputable abbrev E1 : List (List (Int × Str)) := chop 37 (D0.drop 17)
noncomputable abbrev E2 : List (Int × Str) := (D0.drop 17).drop (17 * 37)
noncomputable abbrev LL : List Obj := dO (eL 439 E0 ++ goE (439 + 51) E1 ++ eS (439 + 51 + 3 * E1.flatten.length) E2) (17 + E1.flatten.length + E2.length) :: (goS (439 + 51) E1 ++ [dO (eS (439 + 51 + 3 * E1.flatten.length) E2) E2.length])
theorem e_split : E0 ++ (E1.flatten ++ E2) = D0 := by rw [chop_flat, List.take_append_drop]
theorem e1_len : E1.flatten.length = 629 := by
  have := congrArg List.length e_split
  rw [d_len] at this
  simp only [List.length_append, List.length_take, List.length_drop, d_len] at this
  omega
theorem e2_len : E2.length = 4 := by simp only [List.length_drop, d_len]
theorem ll_is (P : Params) : LL = b3O :: (List.range 38).map fun c => subO (c + 1) P := by kernel_rfl
theorem heap_is (P : Params) : (tr_p11 P).list 81 ++ (b3O :: (List.range 38).map fun c => subO (c + 1) P) = (tr_m P).list 120 := by kernel_rfl
theorem hfin12 (w : World) : (fun os => segRunT treeTable pw w 28 annR 1 10 (st_m w os) ⟨(do standAt (ps 22 0 22 13); bindName tenv (Str.ofString "b3_exceptions") (.ref 81); pure .next : Sem Flow).wrap doneF deadEnd id id, cE, ps 22 16 22 8704, tf⟩) = fun os => some (.next, st_p12 w os, cE, ps 22 0 22 13) := by
  rw [Fast.te10110043849684766642, Fast.te14364793385576792824]; kernel_rfl
end Mine
end

section -- HD8
open PySem PySem.W PySem.Spec PySem.Calls PyProof.Rows
namespace Mine
set_option maxRecDepth 100000
noncomputable def LLg (D : List (Int × Str)) : List Obj :=
  dO (eL 439 (D.take 17) ++ goE (439 + 51) (chop 37 (D.drop 17)) ++ eS (439 + 51 + 3 * (chop 37 (D.drop 17)).flatten.length) ((D.drop 17).drop (17 * 37))) (17 + (chop 37 (D.drop 17)).flatten.length + ((D.drop 17).drop (17 * 37)).length) ::
  (goS (439 + 51) (chop 37 (D.drop 17)) ++ [dO (eS (439 + 51 + 3 * (chop 37 (D.drop 17)).flatten.length) ((D.drop 17).drop (17 * 37))) ((D.drop 17).drop (17 * 37)).length])
theorem chop_len {α : Type} : ∀ (n : Nat) (xs : List α), (chop n xs).length = n
  | 0, _ => rfl
  | n + 1, xs => by rw [chop, List.length_cons, chop_len]
theorem do_dispD {z : Shared} {w : World} {q : Pos} {D : List (Int × Str)} {X : List (Sem Value × Sem Value)} (h28 : 28 ≤ z.heap.objs.size) (pk : PKs w q X D) (hl : D.length = 650) (hr : Rise D) :
    Do w (dictDisplay (X.map It)) q (SS z [] 439) (.ref z.heap.objs.size) q (SS z (LLg D) 2389) 12515 := by
  have es : D.take 17 ++ ((chop 37 (D.drop 17)).flatten ++ (D.drop 17).drop (17 * 37)) = D := by rw [chop_flat, List.take_append_drop]
  have l0 : (D.take 17).length = 17 := by rw [List.length_take, hl]; rfl
  have l2 : ((D.drop 17).drop (17 * 37)).length = 4 := by rw [List.length_drop, List.length_drop, hl]
  have l1 : (chop 37 (D.drop 17)).flatten.length = 629 := by
    have := congrArg List.length es
    rw [List.length_append, List.length_append, l0, l2, hl] at this
    omega
  have hd := do_disp (z := z) (w := w) (q := q) h28 439 (pk.take 17) l0 ((pk.drop 17).chop 37 (by rw [List.length_drop, hl]; decide)) ((pk.drop 17).drop (17 * 37)) (by rw [l2]; decide) (fun h => absurd (l2.symm.trans (congrArg List.length h)) (by decide))
    (by rw [es]; exact hr) (by rw [l0, l1, l2]; decide)
  rw [← List.map_flatten, ← List.map_append, chop_flat, ← List.map_append, List.take_append_drop] at hd
  have he1 : (439 + 51 + 3 * (chop 37 (D.drop 17)).flatten.length + 3 * ((D.drop 17).drop (17 * 37)).length) = 2389 := by rw [l1, l2]
  have hn : (223 + 330 * (chop 37 (D.drop 17)).length + (1 + (3 * ((D.drop 17).drop (17 * 37)).length + 10 * ((D.drop 17).drop (17 * 37)).length) + (5 + 6 * ((D.drop 17).drop (17 * 37)).length))) = 12515 := by rw [l2, chop_len]
  rw [he1, hn] at hd
  exact hd
theorem z_size (w : World) (os : OsState) : (st_p11 w os).abs.heap.objs.size = 81 := absHeap_size _ _ _
theorem z_zero (w : World) (os : OsState) : SS (st_p11 w os).abs [] 439 = (st_p11 w os).abs := by
  unfold SS SharedT.abs st_p11
  simp
theorem z_end (w : World) (os : OsState) : SS (st_p11 w os).abs (LLg D0) 2389 = (st_m w os).abs := by
  have h : LLg D0 = LL := by kernel_rfl
  unfold SS SharedT.abs st_p11 st_m absHeap
  simp only [Shared.mk.injEq, Heap.mk.injEq, and_true]
  rw [h, ll_is w.params, List.append_toArray, heap_is]
theorem sw_no : swapsWith (.Dict dK dV (ps 22 16 22 8704)) (some (.Name (Str.ofString "b3_exceptions") (ps 22 0 22 13))) 22 tenv = pure false := rfl
theorem do_eval (w : World) (os : OsState) : Do w (eval (.Dict dK dV (ps 22 16 22 8704)) tenv) (ps 22 0 22 8704) (st_p11 w os).abs (.ref 81) (ps 22 16 22 8704) (st_m w os).abs (1 + 12515) := by
  have pk := xs_pks (w := w) (ps 22 16 22 8704) tenv dK dV d_kv
  have hd := do_dispD (z := (st_p11 w os).abs) (by rw [z_size w os]; decide) pk d_len (rise_of d_rise)
  rw [← xs_items _ _ _ _ d_kv, z_zero, z_size w os, z_end] at hd
  rw [arm_eval_Dict]
  exact Do.bind do_at hd
theorem ex13 : exec (pS 13) tenv = (standAt (ps 22 0 22 8704) >>= fun _ => eval (.Dict dK dV (ps 22 16 22 8704)) tenv) >>= fun v => (do standAt (ps 22 0 22 13); bindName tenv (Str.ofString "b3_exceptions") v; pure .next : Sem Flow) := by
  rw [d_shape, exec_Assign_Name _ _ _ _ _ sw_no]
  rfl
end Mine
end

section -- HD9
open PySem PySem.W PySem.Spec PySem.Calls PyProof.Rows
namespace Mine
set_option maxRecDepth 100000
noncomputable def tail12 (v : Value) : Sem Flow := do standAt (ps 22 0 22 13); bindName tenv (Str.ofString "b3_exceptions") v; pure .next
theorem pc12 (w : World) (os : OsState) : segRun treeTable pw w 28 annR 1 (12517 + 10) (st_p11 w os).abs (pieceOf (pS 13) tenv cE (ps 20 0 21 30) tf) = some (.next, (st_p12 w os).abs, cE, ps 22 0 22 13) := by
  have hp : Do w (standAt (ps 22 0 22 8704) >>= fun _ => eval (.Dict dK dV (ps 22 16 22 8704)) tenv) (ps 20 0 21 30) (st_p11 w os).abs (.ref 81) (ps 22 16 22 8704) (st_m w os).abs 12517 :=
    Do.bind (n := 1) (m := 1 + 12515) do_at (do_eval w os)
  have hf := congrFun (hfin12 w) os
  have hx : (exec (pS 13) tenv).wrap doneF deadEnd id id = (standAt (ps 22 0 22 8704) >>= fun _ => eval (.Dict dK dV (ps 22 16 22 8704)) tenv).wrap (fun v => (tail12 v).wrap doneF deadEnd id id) (fun e => (Sem.raise e).wrap doneF deadEnd id id) (fun g => id (id g)) (fun l => id (id l)) := by
    rw [ex13, Sem.bind_eq_wrap', Sem.wrap_wrap]
    rfl
  have h1 := hp (fun v => (tail12 v).wrap doneF deadEnd id id) (fun e => (Sem.raise e).wrap doneF deadEnd id id) (fun g => id (id g)) (fun l => id (id l))
  show segRun treeTable pw w 28 annR 1 (12517 + 10) (st_p11 w os).abs ⟨(exec (pS 13) tenv).wrap doneF deadEnd id id, cE, ps 20 0 21 30, tf⟩ = _
  rw [hx]
  exact seg_go h1 (segRun_of hf)
end Mine
end

section -- HHd
open PySem PySem.W PySem.Spec PySem.Calls PyProof.Rows
namespace Mine
set_option maxRecDepth 100000
theorem hbody : behindTheImports pw = [pS 1, pS 2, pS 3, pS 4, pS 5, pS 6, pS 7, pS 8, pS 9, pS 10, pS 11, pS 12, pS 13, pS 14, pS 15, pS 16, pS 17, pS 18, pS 19, pS 20, pS 21, pS 22, pS 23, pS 24, pS 25, pS 26, pS 27, pS 28, pS 29] := by kernel_rfl
noncomputable abbrev MM : Nat := 12 + (1 + (30 + (10 + (10 + (31 + (10 + (60 + (86 + (10 + (30 + (10 + (999 + (30 + ((12517 + 10) + (31 + (10 + (70 + (78 + (728 + (10 + (27 + (31 + (27 + (40 + (27 + (27 + (38 + (36 + (34 + (37 + 2))))))))))))))))))))))))))))))
theorem hrun (w : World) (os : OsState) : topRun treeTable pw w 28 annR MM (st_s0 w os).abs (topStub pw) = some (st_p28 w os).abs := by
  refine go_top (congrFun (hpre w) os) (piece_block (hblock w os) ?_)
  rw [hbody]
  exact (piece_cons (segRun_of (congrFun (pc0 w) os)) (piece_cons (segRun_of (congrFun (pc1 w) os)) (piece_cons (segRun_of (congrFun (pc2 w) os)) (piece_cons (segRun_of (congrFun (pc3 w) os)) (piece_cons (segRun_of (congrFun (pc4 w) os)) (piece_cons (segRun_of (congrFun (pc5 w) os)) (piece_cons (segRun_of (congrFun (pc6 w) os)) (piece_cons (segRun_of (congrFun (pc7 w) os)) (piece_cons (segRun_of (congrFun (pc8 w) os)) (piece_cons (segRun_of (congrFun (pc9 w) os)) (piece_cons (segRun_of (congrFun (pc10 w) os)) (piece_cons (segRun_of (congrFun (pc11 w) os)) (piece_cons (pc12 w os) (piece_cons (segRun_of (congrFun (pc13 w) os)) (piece_cons (segRun_of (congrFun (pc14 w) os)) (piece_cons (segRun_of (congrFun (pc15 w) os)) (piece_cons (segRun_of (congrFun (pc16 w) os)) (piece_cons (segRun_of (congrFun (pc17 w) os)) (piece_cons (segRun_of (congrFun (pc18 w) os)) (piece_cons (segRun_of (congrFun (pc19 w) os)) (piece_cons (segRun_of (congrFun (pc20 w) os)) (piece_cons (segRun_of (congrFun (pc21 w) os)) (piece_cons (segRun_of (congrFun (pc22 w) os)) (piece_cons (segRun_of (congrFun (pc23 w) os)) (piece_cons (segRun_of (congrFun (pc24 w) os)) (piece_cons (segRun_of (congrFun (pc25 w) os)) (piece_cons (segRun_of (congrFun (pc26 w) os)) (piece_cons (segRun_of (congrFun (pc27 w) os)) (piece_cons (segRun_of (congrFun (pc28 w) os)) (piece_nil (congrFun (hfin w) os)))))))))))))))))))))))))))))))
theorem head : LeftO pw qv lo Xt0 hK.obs hK.val NN :=
  LeftO.of_pieces (H₀ := H0) (H₁ := H1) (gs₀ := #[]) (gs₁ := #[]) (d₀ := {}) (d₁ := {}) (k₀ := 276) (k₁ := 2720) (m₀ := 28) (ann := annR) (M := MM) hop hsize (fun w os => hrun w os) (by decide)
    (fun w => by
      funext os
      exact Prod.ext (congrFun (lk1 w) os) (Prod.ext (congrFun (lk2 w) os) (congrFun (lk3 w) os)))
end Mine
end

section -- Top1
open PySem PySem.W PySem.Spec PySem.Calls PyProof.Rows
namespace Mine
set_option maxRecDepth 100000
theorem said0 : OpenLaw.wellSaid PySem.Challenge.rw_sh0062_01 = true := by
  rw [Fast.te9446332074065402090]
  delta Fast.tw9446332074065402090
  repeat' (with_reducible refine look_both ?_ ?_)
  delta Fast.tw17960256430627541270
  repeat' (with_reducible refine look_both ?_ ?_)
  delta Fast.tw2436336058641802641
  repeat' (with_reducible refine look_both ?_ ?_)
  delta Fast.tw12908688711261696721
  repeat' (with_reducible refine look_both ?_ ?_)
  all_goals decide +kernel
set_option maxHeartbeats 8000000 in
theorem hold1 (hc : WalkO qv lo (XL qv []) hK.says rw0.row.toRowW (DefRec.mk (Str.ofString "law") (parOf (pS 29)) (bodOf (pS 29)) (scoOf (pS 29)) (posOf (pS 29))) [] fun f vs => PySem.call f vs) : PySem.Challenge.rw_sh0062_01.Holds := by
  w_on
  refine holds_law said0 fun said => ?_
  refine holds_open (q := qv) (loose := lo) (Xt := Xt0) (XP := XL qv []) (Yf := hK.obs) (Ya := hK.val) (YP := hK.says) (N := 31000) head hK.of hK.keeps (fun s e => xl_of s (Bool.and_eq_true_iff.mp e).1) XL.keeps (by rfl) (by rfl) (by rfl) (fun s e => recFacts_of (Bool.and_eq_true_iff.mp e).2) (by rfl) (by assumption) (by decide +kernel) ⟨rfl, rfl, rfl, rfl, rfl, by decide +kernel⟩ ?hw hc
  w_witness2
end Mine
end

section -- WLaw
open PySem PySem.W PySem.Spec PySem.Calls PyProof.Rows
namespace Mine
set_option maxRecDepth 100000
set_option pp.deepTerms false
set_option pp.deepTerms.threshold 6
set_option pp.proofs false
theorem law_end {w : World} {dp un : Nat} {gd : Option (List Code)} {L fa : Addr} {ccd : Value} {outer : List Env} {A₀ : Around} {base h₀ : Heap} {mm : Str → Option Value} {s : Shared} {P : Flow → Shared → Prop} {E' : Value → Shared → Prop} {mean : ExcName → Option Value} {mg mb : Str → Option Value} {vp : Program} {loose : List Str}
   (B : Below A₀ base outer h₀) (F : Fr h₀ L s.heap mm) (X : (KK w.params).In h₀) (N : News h₀ L s.heap []) (T : Top vp loose mean mg mb h₀) (sl : Addr) (vs : List Value) (ns : List Int) (hm : mm (Str.ofString "script") = some (.ref sl)) (hl : h₀.IsList sl vs.toArray) (hi : IntsAre vs ns) (hln : ns.length ≤ 100) (hdp : dp + 100 < recursionLimit) (hun : un + 1000 < cLine)
   (ret : ∀ (s' : Shared) m' news', s'.gens = s.gens → s'.os = s.os → Fr h₀ L s'.heap m' → News h₀ L s'.heap news' → P (.ret (.bool true)) s') :
   wpAny (model pw w) (ktrTop dp un gd (Str.ofString "law") (scoOf (pS 29)) L fa ccd [] outer) (execs (bodOf (pS 29)) (envOf (Str.ofString "law") (scoOf (pS 29)) L fa ccd)) P E' s :=
  wpAny_mono (law_body (Q := fun v s' => P (.ret v) s') B F X N T sl vs ns hm hl hi hln hdp hun fun s' hg ho h => let ⟨_, _, a, b⟩ := h; ret s' _ _ hg ho a b) (fun fl s' h => by cases fl <;> first | exact h | exact h.elim) fun _ _ h => h.elim
set_option maxHeartbeats 8000000 in
theorem walk_all (q : Program) : WalkO q lo (XL q []) hK.says rw0.row.toRowW (DefRec.mk (Str.ofString "law") (parOf (pS 29)) (bodOf (pS 29)) (scoOf (pS 29)) (posOf (pS 29))) [] fun f vs => PySem.call f vs := by
  k_go0
  (all_goals try k_fold)
  rename Frag.In _ _ => KX1
  rename Top _ _ _ _ _ _ => T1
  rename Heap.IsList _ _ _ => L1
  rename IntsAre _ _ => I1
  rename Below _ _ _ _ => B1
  rename Fr _ _ _ _ => F1
  rename News _ _ _ _ => N1
  rename ¬ (_ : Int) < _ => c1
  refine law_end B1 F1 KX1 N1 T1 _ _ _ rfl L1 I1 ?_ ?_ ?_ ?_
  · omega
  · decide
  · decide
  · intro s' m' news' hg ho F2 N2
    rename Shared.gens _ = #[] => g1
    exact goodW_bool F2 (hg.trans g1) (fun _ => rfl) (by first | kernel_rfl | with_unfolding_all rfl) ho
theorem fin : PySem.Challenge.rw_sh0062_01.Holds := hold1 (walk_all qv)
end Mine
end

set_option maxRecDepth 100000 in
theorem PySem.Challenge.cw_sh0062_01_holds : PySem.Challenge.rw_sh0062_01.Holds :=
  Mine.fin
