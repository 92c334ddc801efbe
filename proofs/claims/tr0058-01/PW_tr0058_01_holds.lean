import PyProof.Rows.All
import Wide.All
import OpenK.AllK
import Wide.FinOn
import PySem.Challenge.RW_tr0058_01
open PySem PySem.W PyProof.Rows PySem.Calls
set_option Elab.async false
set_option linter.unusedVariables false
set_option linter.unusedSimpArgs false
set_option compiler.extract_closed false
namespace Mine
noncomputable section
open PySem PySem.W PyProof.Rows PySem.Calls
set_option maxRecDepth 100000
noncomputable def fnAt (i : Nat) : Option (Arguments × List Stmt × Scope) := match PySem.Challenge.pw_tr0058_01.main.body[i]? with
  | some (.FunctionDef _ a b _ _ _ sc _ _ _) => some (a, b, sc)
  | _ => none
noncomputable def lifeN : Life := {}
noncomputable abbrev LL : List Str := [Str.ofString "b1_set", Str.ofString "b3_exceptions", Str.ofString "c6_set", Str.ofString "c8_set"]
noncomputable def drawnN : Drawn := {}
noncomputable abbrev dictO (es : Array DictEntry) (n : Nat) : Obj := ⟨.type "dict", none, .dict es n, #[]⟩
/-- one pair of the great display, as it is written -/
structure It where
  k : Int
  i : Nat
  p : Pos
  s : Str
  j : Nat
  q : Pos
noncomputable def entsA (tk : Nat) : List It → List DictEntry
  | [] => []
  | x :: r => ⟨hashInt x.k, .int x.k tk, .str x.s (tk + 1)⟩ :: entsA (tk + 3) r
noncomputable def entsB (tk : Nat) : List It → List DictEntry
  | [] => []
  | x :: r => ⟨hashInt x.k, .int x.k tk, .str x.s (tk + 1)⟩ :: entsB (tk + 2) r
noncomputable def dictAt (n : Nat) : Option (List (Option Expr) × List Expr × Pos × Str × Pos × Pos) := match PySem.Challenge.pw_tr0058_01.main.body[n]? with
  | some (.Assign [.Name x q] (.Dict ks vs dp) p) => some (ks, vs, dp, x, q, p)
  | _ => none
noncomputable def D10 : List (Option Expr) × List Expr × Pos × Str × Pos × Pos := (dictAt 10).getD default
noncomputable def itsT : List It := (D10.1.zip D10.2.1).filterMap fun e => match e with
  | (some (.Constant (.int k) i p), .Constant (.str s) j q) => some ⟨k, i, p, s, j, q⟩
  | _ => none
noncomputable def grp (n : Nat) : List It := (itsT.drop (17 * n)).take 17
noncomputable def b3E : List DictEntry := entsA 340 (itsT.take 646) ++ entsB (340 + 51 * 38) (grp 38)
noncomputable def F1 : Arguments × List Stmt × Scope := (fnAt 1).getD default
noncomputable def F2 : Arguments × List Stmt × Scope := (fnAt 2).getD default
noncomputable def F6 : Arguments × List Stmt × Scope := (fnAt 6).getD default
noncomputable def F9 : Arguments × List Stmt × Scope := (fnAt 9).getD default
noncomputable def F11 : Arguments × List Stmt × Scope := (fnAt 11).getD default
noncomputable def F13 : Arguments × List Stmt × Scope := (fnAt 13).getD default
noncomputable def F15 : Arguments × List Stmt × Scope := (fnAt 15).getD default
noncomputable def F17 : Arguments × List Stmt × Scope := (fnAt 17).getD default
noncomputable def F18 : Arguments × List Stmt × Scope := (fnAt 18).getD default
noncomputable def F19 : Arguments × List Stmt × Scope := (fnAt 19).getD default
noncomputable def F20 : Arguments × List Stmt × Scope := (fnAt 20).getD default
noncomputable def F21 : Arguments × List Stmt × Scope := (fnAt 21).getD default
noncomputable def F22 : Arguments × List Stmt × Scope := (fnAt 22).getD default
noncomputable def F23 : Arguments × List Stmt × Scope := (fnAt 23).getD default
noncomputable def F24 : Arguments × List Stmt × Scope := (fnAt 24).getD default
noncomputable def F25 : Arguments × List Stmt × Scope := (fnAt 25).getD default
noncomputable def F26 : Arguments × List Stmt × Scope := (fnAt 26).getD default
noncomputable def ob11v0 (P : Params) : Obj := ⟨(.type "tuple"), none, (.seq #[] 0), #[]⟩
noncomputable def ob12v0 (P : Params) : Obj := ⟨.none, none, (.fields #[]), #[]⟩
noncomputable def ob13v0 (P : Params) : Obj := ⟨(.type "code"), none, (.fields #[(.str (Str.ofString "<module>") 182), (.str (Str.ofString "<module>") 183), (.str (Str.ofString "/claim/cut.py") 184), (.int 1 0), (.int 0 0), (.int 0 0), (.int 0 0), (.int 0 0), (.ref 11), (.bool false), (.int 181 0), (.ref 12), .none, .none, .none, .none, (.int 185 0), (.int 1 0), (.str (Str.ofString "/claim/cut.py") 186)]), #[]⟩
noncomputable def ob14v0 (P : Params) : Obj := ⟨(.type "frame"), none, .plain, #[(some (.ref 13)), (some (.ref 3)), (some (.ref 3)), none, (some (.str (Str.ofString "__main__") 164)), none, (some (.ref 0))]⟩
noncomputable def tree0 (P : Params) : BT := (.node (boot_o_0 P) (.node (boot_o_1 P) (.node (boot_o_3 P) (.node (boot_o_7 P) .nil .nil) (.node (ob11v0 P) .nil .nil)) (.node (boot_o_5 P) (.node (boot_o_9 P) .nil .nil) (.node (ob13v0 P) .nil .nil))) (.node (boot_o_2 P) (.node (boot_o_4 P) (.node (boot_o_8 P) .nil .nil) (.node (ob12v0 P) .nil .nil)) (.node (boot_o_6 P) (.node (boot_o_10 P) .nil .nil) (.node (ob14v0 P) .nil .nil))))
-- state 0: n 15 toks 187 pos ⟨0, 0, 0, 0⟩
noncomputable def st0 (w : World) (os : OsState) : SharedT := ⟨tree0 w.params, 15, lifeN, #[], drawnN, 187, os⟩
noncomputable def ob2v8 (P : Params) : Obj := ⟨.none, none, (.dict #[⟨PyData.keyHash P (Str.ofString "type.__subclasses__.Exception.0"), (.str (Str.ofString "type.__subclasses__.Exception.0") 240), (.int 38 0)⟩, ⟨PyData.keyHash P (Str.ofString "type.__subclasses__.Exception.n"), (.str (Str.ofString "type.__subclasses__.Exception.n") 241), (.int 1 0)⟩] 2), #[]⟩
noncomputable def ob3v8 (P : Params) : Obj := ⟨(.type "dict"), none, (.dict #[⟨PyData.keyHash P (Str.ofString "__name__"), (.str (Str.ofString "__name__") 165), (.str (Str.ofString "cpy313.stringprep") 271)⟩, ⟨PyData.keyHash P (Str.ofString "__doc__"), (.str (Str.ofString "__doc__") 166), .none⟩, ⟨PyData.keyHash P (Str.ofString "__package__"), (.str (Str.ofString "__package__") 167), .none⟩, ⟨PyData.keyHash P (Str.ofString "__loader__"), (.str (Str.ofString "__loader__") 168), (.builtin "__main__.__loader__#opaque")⟩, ⟨PyData.keyHash P (Str.ofString "__spec__"), (.str (Str.ofString "__spec__") 169), .none⟩, ⟨PyData.keyHash P (Str.ofString "__annotations__"), (.str (Str.ofString "__annotations__") 170), (.ref 6)⟩, ⟨PyData.keyHash P (Str.ofString "__builtins__"), (.str (Str.ofString "__builtins__") 171), (.ref 4)⟩, ⟨PyData.keyHash P (Str.ofString "__file__"), (.str (Str.ofString "__file__") 173), (.str (Str.ofString "/claim/cut.py") 172)⟩, ⟨PyData.keyHash P (Str.ofString "__cached__"), (.str (Str.ofString "__cached__") 174), .none⟩, ⟨PyData.keyHash P (Str.ofString "rgb_to_hls"), (.str (Str.ofString "rgb_to_hls") 207), (.ref 21)⟩, ⟨PyData.keyHash P (Str.ofString "hsv_to_rgb"), (.str (Str.ofString "hsv_to_rgb") 221), (.ref 28)⟩, ⟨PyData.keyHash P (Str.ofString "Error"), (.str (Str.ofString "Error") 243), (.ref 38)⟩, ⟨PyData.keyHash P (Str.ofString "error_reply"), (.str (Str.ofString "error_reply") 259), (.ref 51)⟩, ⟨PyData.keyHash P (Str.ofString "parse257"), (.str (Str.ofString "parse257") 270), (.ref 60)⟩] 14), #[]⟩
noncomputable def ob12v8 (P : Params) : Obj := ⟨.none, none, (.fields #[(.int 2 0), (.int 0 0), (.ref 20), (.int 25 0), (.int 0 0), (.ref 27), (.int 47 0), (.int 0 0), (.ref 34), (.int 49 0), (.int 0 0), (.ref 47), (.int 51 0), (.int 0 0), (.ref 59)]), #[]⟩
noncomputable def ob15v8 (P : Params) : Obj := ⟨(.type "tuple"), none, (.seq #[] 0), #[]⟩
noncomputable def ob16v8 (P : Params) : Obj := ⟨.none, none, (.fields #[]), #[]⟩
noncomputable def ob17v8 (P : Params) : Obj := ⟨(.type "tuple"), none, (.seq #[(.str (Str.ofString "r") 192), (.str (Str.ofString "g") 193), (.str (Str.ofString "b") 194), (.str (Str.ofString "maxc") 195), (.str (Str.ofString "minc") 196), (.str (Str.ofString "sumc") 197), (.str (Str.ofString "rangec") 198), (.str (Str.ofString "l") 199), (.str (Str.ofString "s") 200), (.str (Str.ofString "rc") 201), (.str (Str.ofString "gc") 202), (.str (Str.ofString "bc") 203), (.str (Str.ofString "h") 204)] 0), #[]⟩
noncomputable def ob18v8 (P : Params) : Obj := ⟨(.type "tuple"), none, (.seq #[] 0), #[]⟩
noncomputable def ob19v8 (P : Params) : Obj := ⟨.none, none, (.func ⟨(Str.ofString "rgb_to_hls"), (Str.ofString "rgb_to_hls"), F1.1, .stmts F1.2.1, F1.2.2, 0, [], .none, .none, .none, .none, none, .none, .none, 0⟩), #[]⟩
noncomputable def ob20v8 (P : Params) : Obj := ⟨(.type "code"), none, (.fields #[(.str (Str.ofString "rgb_to_hls") 189), (.str (Str.ofString "rgb_to_hls") 190), (.str (Str.ofString "/claim/cut.py") 191), (.int 2 0), (.int 3 0), (.int 0 0), (.int 0 0), (.int 3 0), (.ref 15), (.bool true), (.int 181 0), (.ref 16), .none, (.ref 17), (.ref 18), (.ref 19), (.int 205 0), (.int 2 0), (.str (Str.ofString "/claim/cut.py") 206)]), #[]⟩
noncomputable def ob21v8 (P : Params) : Obj := ⟨(.type "function"), none, (.func ⟨(Str.ofString "rgb_to_hls"), (Str.ofString "rgb_to_hls"), F1.1, .stmts F1.2.1, F1.2.2, 3, [], .none, .none, .none, (.str (Str.ofString "cpy313.colorsys") 187), none, (.ref 20), .none, 0⟩), #[]⟩
noncomputable def ob22v8 (P : Params) : Obj := ⟨(.type "tuple"), none, (.seq #[] 0), #[]⟩
noncomputable def ob23v8 (P : Params) : Obj := ⟨.none, none, (.fields #[]), #[]⟩
noncomputable def ob24v8 (P : Params) : Obj := ⟨(.type "tuple"), none, (.seq #[(.str (Str.ofString "h") 211), (.str (Str.ofString "s") 212), (.str (Str.ofString "v") 213), (.str (Str.ofString "i") 214), (.str (Str.ofString "f") 215), (.str (Str.ofString "p") 216), (.str (Str.ofString "q") 217), (.str (Str.ofString "t") 218)] 0), #[]⟩
noncomputable def ob25v8 (P : Params) : Obj := ⟨(.type "tuple"), none, (.seq #[] 0), #[]⟩
noncomputable def ob26v8 (P : Params) : Obj := ⟨.none, none, (.func ⟨(Str.ofString "hsv_to_rgb"), (Str.ofString "hsv_to_rgb"), F2.1, .stmts F2.2.1, F2.2.2, 0, [], .none, .none, .none, .none, none, .none, .none, 0⟩), #[]⟩
noncomputable def ob27v8 (P : Params) : Obj := ⟨(.type "code"), none, (.fields #[(.str (Str.ofString "hsv_to_rgb") 208), (.str (Str.ofString "hsv_to_rgb") 209), (.str (Str.ofString "/claim/cut.py") 210), (.int 25 0), (.int 3 0), (.int 0 0), (.int 0 0), (.int 3 0), (.ref 22), (.bool true), (.int 181 0), (.ref 23), .none, (.ref 24), (.ref 25), (.ref 26), (.int 219 0), (.int 25 0), (.str (Str.ofString "/claim/cut.py") 220)]), #[]⟩
noncomputable def ob28v8 (P : Params) : Obj := ⟨(.type "function"), none, (.func ⟨(Str.ofString "hsv_to_rgb"), (Str.ofString "hsv_to_rgb"), F2.1, .stmts F2.2.1, F2.2.2, 3, [], .none, .none, .none, (.str (Str.ofString "cpy313.colorsys") 187), none, (.ref 27), .none, 0⟩), #[]⟩
noncomputable def ob29v8 (P : Params) : Obj := ⟨(.type "tuple"), none, (.seq #[(.type "Exception")] 0), #[]⟩
noncomputable def ob30v8 (P : Params) : Obj := ⟨(.type "builtin_function_or_method"), none, (.fields #[(.builtin "type.__prepare__"), (.type "type")]), #[]⟩
noncomputable def ob31v8 (P : Params) : Obj := ⟨(.type "dict"), none, (.dict #[⟨PyData.keyHash P (Str.ofString "__module__"), (.str (Str.ofString "__module__") 231), (.str (Str.ofString "cpy313.ftplib") 222)⟩, ⟨PyData.keyHash P (Str.ofString "__qualname__"), (.str (Str.ofString "__qualname__") 233), (.str (Str.ofString "Error") 232)⟩, ⟨PyData.keyHash P (Str.ofString "__firstlineno__"), (.str (Str.ofString "__firstlineno__") 235), (.int 47 234)⟩, ⟨PyData.keyHash P (Str.ofString "__static_attributes__"), (.str (Str.ofString "__static_attributes__") 236), (.ref 36)⟩] 4), #[]⟩
noncomputable def ob32v8 (P : Params) : Obj := ⟨(.type "tuple"), none, (.seq #[] 0), #[]⟩
noncomputable def ob33v8 (P : Params) : Obj := ⟨.none, none, (.fields #[]), #[]⟩
noncomputable def ob34v8 (P : Params) : Obj := ⟨(.type "code"), none, (.fields #[(.str (Str.ofString "Error") 226), (.str (Str.ofString "Error") 227), (.str (Str.ofString "/claim/cut.py") 228), (.int 47 0), (.int 0 0), (.int 0 0), (.int 0 0), (.int 0 0), (.ref 32), (.bool false), (.int 181 0), (.ref 33), .none, .none, .none, .none, (.int 229 0), (.int 47 0), (.str (Str.ofString "/claim/cut.py") 230)]), #[]⟩
noncomputable def ob35v8 (P : Params) : Obj := ⟨(.type "frame"), none, .plain, #[(some (.ref 34)), (some (.ref 3)), (some (.ref 31)), none, (some (.str (Str.ofString "cpy313.ftplib") 222)), none, (some (.ref 0))]⟩
noncomputable def ob36v8 (P : Params) : Obj := ⟨(.type "tuple"), none, (.seq #[] 0), #[]⟩
noncomputable def ob37v8 (P : Params) : Obj := ⟨(.type "dict"), none, (.dict #[⟨PyData.keyHash P (Str.ofString "__module__"), (.str (Str.ofString "__module__") 231), (.str (Str.ofString "cpy313.ftplib") 222)⟩, ⟨PyData.keyHash P (Str.ofString "__firstlineno__"), (.str (Str.ofString "__firstlineno__") 235), (.int 47 234)⟩, ⟨PyData.keyHash P (Str.ofString "__static_attributes__"), (.str (Str.ofString "__static_attributes__") 236), (.ref 36)⟩, ⟨PyData.keyHash P (Str.ofString "__weakref__"), (.str (Str.ofString "__weakref__") 238), (.ref 39)⟩, ⟨PyData.keyHash P (Str.ofString "__doc__"), (.str (Str.ofString "__doc__") 239), .none⟩] 3), #[]⟩
noncomputable def ob38v8 (P : Params) : Obj := ⟨(.type "type"), none, (.cls ⟨(Str.ofString "Error"), [(.type "Exception")], [(.ref 38), (.type "Exception"), (.type "BaseException"), (.type "object")], 37, (Str.ofString "Error"), true, [], [(.ref 51)], false, none, false⟩), #[(some (.ref 29)), none, (some (.str (Str.ofString "Error") 224)), (some (.str (Str.ofString "Error") 232)), (some (.builtin "Exception.__new__")), (some (.bool true))]⟩
noncomputable def ob39v8 (P : Params) : Obj := ⟨(.type "getset_descriptor"), none, (.fields #[(.str (Str.ofString "__weakref__") 237), (.ref 38), (.builtin "ExceptionGroup.__weakref__"), .none]), #[]⟩
noncomputable def ob40v8 (P : Params) : Obj := ⟨(.type "super"), none, (.fields #[(.ref 38), (.ref 38), (.ref 38)]), #[]⟩
noncomputable def ob41v8 (P : Params) : Obj := ⟨(.type "builtin_function_or_method"), none, (.fields #[(.builtin "object.__init_subclass__"), (.ref 38)]), #[]⟩
noncomputable def ob42v8 (P : Params) : Obj := ⟨(.type "tuple"), none, (.seq #[(.ref 38)] 0), #[]⟩
noncomputable def ob43v8 (P : Params) : Obj := ⟨(.type "builtin_function_or_method"), none, (.fields #[(.builtin "type.__prepare__"), (.type "type")]), #[]⟩
noncomputable def ob44v8 (P : Params) : Obj := ⟨(.type "dict"), none, (.dict #[⟨PyData.keyHash P (Str.ofString "__module__"), (.str (Str.ofString "__module__") 251), (.str (Str.ofString "cpy313.ftplib") 222)⟩, ⟨PyData.keyHash P (Str.ofString "__qualname__"), (.str (Str.ofString "__qualname__") 253), (.str (Str.ofString "error_reply") 252)⟩, ⟨PyData.keyHash P (Str.ofString "__firstlineno__"), (.str (Str.ofString "__firstlineno__") 255), (.int 49 254)⟩, ⟨PyData.keyHash P (Str.ofString "__static_attributes__"), (.str (Str.ofString "__static_attributes__") 256), (.ref 49)⟩] 4), #[]⟩
noncomputable def ob45v8 (P : Params) : Obj := ⟨(.type "tuple"), none, (.seq #[] 0), #[]⟩
noncomputable def ob46v8 (P : Params) : Obj := ⟨.none, none, (.fields #[]), #[]⟩
noncomputable def ob47v8 (P : Params) : Obj := ⟨(.type "code"), none, (.fields #[(.str (Str.ofString "error_reply") 246), (.str (Str.ofString "error_reply") 247), (.str (Str.ofString "/claim/cut.py") 248), (.int 49 0), (.int 0 0), (.int 0 0), (.int 0 0), (.int 0 0), (.ref 45), (.bool false), (.int 181 0), (.ref 46), .none, .none, .none, .none, (.int 249 0), (.int 49 0), (.str (Str.ofString "/claim/cut.py") 250)]), #[]⟩
noncomputable def ob48v8 (P : Params) : Obj := ⟨(.type "frame"), none, .plain, #[(some (.ref 47)), (some (.ref 3)), (some (.ref 44)), none, (some (.str (Str.ofString "cpy313.ftplib") 222)), none, (some (.ref 0))]⟩
noncomputable def ob49v8 (P : Params) : Obj := ⟨(.type "tuple"), none, (.seq #[] 0), #[]⟩
noncomputable def ob50v8 (P : Params) : Obj := ⟨(.type "dict"), none, (.dict #[⟨PyData.keyHash P (Str.ofString "__module__"), (.str (Str.ofString "__module__") 251), (.str (Str.ofString "cpy313.ftplib") 222)⟩, ⟨PyData.keyHash P (Str.ofString "__firstlineno__"), (.str (Str.ofString "__firstlineno__") 255), (.int 49 254)⟩, ⟨PyData.keyHash P (Str.ofString "__static_attributes__"), (.str (Str.ofString "__static_attributes__") 256), (.ref 49)⟩, ⟨PyData.keyHash P (Str.ofString "__doc__"), (.str (Str.ofString "__doc__") 257), .none⟩] 2), #[]⟩
noncomputable def ob51v8 (P : Params) : Obj := ⟨(.type "type"), none, (.cls ⟨(Str.ofString "error_reply"), [(.ref 38)], [(.ref 51), (.ref 38), (.type "Exception"), (.type "BaseException"), (.type "object")], 50, (Str.ofString "error_reply"), true, [], [], false, none, false⟩), #[(some (.ref 42)), none, (some (.str (Str.ofString "error_reply") 244)), (some (.str (Str.ofString "error_reply") 252)), (some (.builtin "Exception.__new__")), (some (.bool true))]⟩
noncomputable def ob52v8 (P : Params) : Obj := ⟨(.type "super"), none, (.fields #[(.ref 51), (.ref 51), (.ref 51)]), #[]⟩
noncomputable def ob53v8 (P : Params) : Obj := ⟨(.type "builtin_function_or_method"), none, (.fields #[(.builtin "object.__init_subclass__"), (.ref 51)]), #[]⟩
noncomputable def ob54v8 (P : Params) : Obj := ⟨(.type "tuple"), none, (.seq #[] 0), #[]⟩
noncomputable def ob55v8 (P : Params) : Obj := ⟨.none, none, (.fields #[]), #[]⟩
noncomputable def ob56v8 (P : Params) : Obj := ⟨(.type "tuple"), none, (.seq #[(.str (Str.ofString "resp") 263), (.str (Str.ofString "dirname") 264), (.str (Str.ofString "i") 265), (.str (Str.ofString "n") 266), (.str (Str.ofString "c") 267)] 0), #[]⟩
noncomputable def ob57v8 (P : Params) : Obj := ⟨(.type "tuple"), none, (.seq #[] 0), #[]⟩
noncomputable def ob58v8 (P : Params) : Obj := ⟨.none, none, (.func ⟨(Str.ofString "parse257"), (Str.ofString "parse257"), F6.1, .stmts F6.2.1, F6.2.2, 0, [], .none, .none, .none, .none, none, .none, .none, 0⟩), #[]⟩
noncomputable def ob59v8 (P : Params) : Obj := ⟨(.type "code"), none, (.fields #[(.str (Str.ofString "parse257") 260), (.str (Str.ofString "parse257") 261), (.str (Str.ofString "/claim/cut.py") 262), (.int 51 0), (.int 1 0), (.int 0 0), (.int 0 0), (.int 3 0), (.ref 54), (.bool true), (.int 181 0), (.ref 55), .none, (.ref 56), (.ref 57), (.ref 58), (.int 268 0), (.int 51 0), (.str (Str.ofString "/claim/cut.py") 269)]), #[]⟩
noncomputable def ob60v8 (P : Params) : Obj := ⟨(.type "function"), none, (.func ⟨(Str.ofString "parse257"), (Str.ofString "parse257"), F6.1, .stmts F6.2.1, F6.2.2, 3, [], .none, .none, .none, (.str (Str.ofString "cpy313.ftplib") 222), none, (.ref 59), .none, 0⟩), #[]⟩
noncomputable def tree8 (P : Params) : BT := (.node (boot_o_0 P) (.node (boot_o_1 P) (.node (ob3v8 P) (.node (boot_o_7 P) (.node (ob15v8 P) (.node (ob31v8 P) .nil .nil) (.node (ob47v8 P) .nil .nil)) (.node (ob23v8 P) (.node (ob39v8 P) .nil .nil) (.node (ob55v8 P) .nil .nil))) (.node (ob11v0 P) (.node (ob19v8 P) (.node (ob35v8 P) .nil .nil) (.node (ob51v8 P) .nil .nil)) (.node (ob27v8 P) (.node (ob43v8 P) .nil .nil) (.node (ob59v8 P) .nil .nil)))) (.node (boot_o_5 P) (.node (boot_o_9 P) (.node (ob17v8 P) (.node (ob33v8 P) .nil .nil) (.node (ob49v8 P) .nil .nil)) (.node (ob25v8 P) (.node (ob41v8 P) .nil .nil) (.node (ob57v8 P) .nil .nil))) (.node (ob13v0 P) (.node (ob21v8 P) (.node (ob37v8 P) .nil .nil) (.node (ob53v8 P) .nil .nil)) (.node (ob29v8 P) (.node (ob45v8 P) .nil .nil) .nil)))) (.node (ob2v8 P) (.node (boot_o_4 P) (.node (boot_o_8 P) (.node (ob16v8 P) (.node (ob32v8 P) .nil .nil) (.node (ob48v8 P) .nil .nil)) (.node (ob24v8 P) (.node (ob40v8 P) .nil .nil) (.node (ob56v8 P) .nil .nil))) (.node (ob12v8 P) (.node (ob20v8 P) (.node (ob36v8 P) .nil .nil) (.node (ob52v8 P) .nil .nil)) (.node (ob28v8 P) (.node (ob44v8 P) .nil .nil) (.node (ob60v8 P) .nil .nil)))) (.node (boot_o_6 P) (.node (boot_o_10 P) (.node (ob18v8 P) (.node (ob34v8 P) .nil .nil) (.node (ob50v8 P) .nil .nil)) (.node (ob26v8 P) (.node (ob42v8 P) .nil .nil) (.node (ob58v8 P) .nil .nil))) (.node (ob14v0 P) (.node (ob22v8 P) (.node (ob38v8 P) .nil .nil) (.node (ob54v8 P) .nil .nil)) (.node (ob30v8 P) (.node (ob46v8 P) .nil .nil) .nil)))))
-- state 8: n 61 toks 273 pos ⟨68, 0, 68, 8⟩
noncomputable def st8 (w : World) (os : OsState) : SharedT := ⟨tree8 w.params, 61, lifeN, #[], drawnN, 273, os⟩
noncomputable def ob3v9 (P : Params) : Obj := ⟨(.type "dict"), none, (.dict #[⟨PyData.keyHash P (Str.ofString "__name__"), (.str (Str.ofString "__name__") 165), (.str (Str.ofString "cpy313.stringprep") 271)⟩, ⟨PyData.keyHash P (Str.ofString "__doc__"), (.str (Str.ofString "__doc__") 166), .none⟩, ⟨PyData.keyHash P (Str.ofString "__package__"), (.str (Str.ofString "__package__") 167), .none⟩, ⟨PyData.keyHash P (Str.ofString "__loader__"), (.str (Str.ofString "__loader__") 168), (.builtin "__main__.__loader__#opaque")⟩, ⟨PyData.keyHash P (Str.ofString "__spec__"), (.str (Str.ofString "__spec__") 169), .none⟩, ⟨PyData.keyHash P (Str.ofString "__annotations__"), (.str (Str.ofString "__annotations__") 170), (.ref 6)⟩, ⟨PyData.keyHash P (Str.ofString "__builtins__"), (.str (Str.ofString "__builtins__") 171), (.ref 4)⟩, ⟨PyData.keyHash P (Str.ofString "__file__"), (.str (Str.ofString "__file__") 173), (.str (Str.ofString "/claim/cut.py") 172)⟩, ⟨PyData.keyHash P (Str.ofString "__cached__"), (.str (Str.ofString "__cached__") 174), .none⟩, ⟨PyData.keyHash P (Str.ofString "rgb_to_hls"), (.str (Str.ofString "rgb_to_hls") 207), (.ref 21)⟩, ⟨PyData.keyHash P (Str.ofString "hsv_to_rgb"), (.str (Str.ofString "hsv_to_rgb") 221), (.ref 28)⟩, ⟨PyData.keyHash P (Str.ofString "Error"), (.str (Str.ofString "Error") 243), (.ref 38)⟩, ⟨PyData.keyHash P (Str.ofString "error_reply"), (.str (Str.ofString "error_reply") 259), (.ref 51)⟩, ⟨PyData.keyHash P (Str.ofString "parse257"), (.str (Str.ofString "parse257") 270), (.ref 60)⟩, ⟨PyData.keyHash P (Str.ofString "b1_set"), (.str (Str.ofString "b1_set") 332), (.ref 68)⟩] 15), #[]⟩
noncomputable def ob61v9 (P : Params) : Obj := ⟨(.type "list"), none, (.seq #[(.int 173 273), (.int 847 274), (.int 6150 275), (.int 6155 276), (.int 6156 277), (.int 6157 278), (.int 8203 279), (.int 8204 280), (.int 8205 281), (.int 8288 282), (.int 65279 283)] 0), #[]⟩
noncomputable def ob62v9 (P : Params) : Obj := ⟨(.type "range"), none, (.fields #[(.int 65024 284), (.int 65040 285), (.int 1 286)]), #[]⟩
noncomputable def ob63v9 (P : Params) : Obj := ⟨(.type "list"), none, (.seq #[(.int 65024 289), (.int 65025 290), (.int 65026 291), (.int 65027 292), (.int 65028 293), (.int 65029 294), (.int 65030 295), (.int 65031 296), (.int 65032 297), (.int 65033 298), (.int 65034 299), (.int 65035 300), (.int 65036 301), (.int 65037 302), (.int 65038 303), (.int 65039 304)] 18), #[]⟩
noncomputable def ob64v9 (P : Params) : Obj := ⟨(.type "range_iterator"), none, (.fields #[(.int 65040 0), (.int 0 0), (.int 1 0)]), #[]⟩
noncomputable def ob65v9 (P : Params) : Obj := ⟨(.type "tuple"), none, (.seq #[] 0), #[]⟩
noncomputable def ob66v9 (P : Params) : Obj := ⟨(.type "StopIteration"), none, (.fields #[(.ref 65), .none, .none, .none, (.bool false), .none]), #[]⟩
noncomputable def ob67v9 (P : Params) : Obj := ⟨(.type "list"), none, (.seq #[(.int 173 273), (.int 847 274), (.int 6150 275), (.int 6155 276), (.int 6156 277), (.int 6157 278), (.int 8203 279), (.int 8204 280), (.int 8205 281), (.int 8288 282), (.int 65279 283), (.int 65024 289), (.int 65025 290), (.int 65026 291), (.int 65027 292), (.int 65028 293), (.int 65029 294), (.int 65030 295), (.int 65031 296), (.int 65032 297), (.int 65033 298), (.int 65034 299), (.int 65035 300), (.int 65036 301), (.int 65037 302), (.int 65038 303), (.int 65039 304)] 0), #[]⟩
noncomputable def ob68v9 (P : Params) : Obj := ⟨(.type "set"), none, (.set #[(65024, (.int 65024 289)), (65025, (.int 65025 290)), (65026, (.int 65026 291)), (65027, (.int 65027 292)), (65028, (.int 65028 293)), (65029, (.int 65029 294)), (6150, (.int 6150 275)), (65030, (.int 65030 295)), (65031, (.int 65031 296)), (65032, (.int 65032 297)), (65033, (.int 65033 298)), (6155, (.int 6155 276)), (6156, (.int 6156 277)), (6157, (.int 6157 278)), (8203, (.int 8203 279)), (8204, (.int 8204 280)), (8205, (.int 8205 281)), (65034, (.int 65034 299)), (65035, (.int 65035 300)), (65036, (.int 65036 301)), (65037, (.int 65037 302)), (65038, (.int 65038 303)), (65039, (.int 65039 304)), (173, (.int 173 273)), (847, (.int 847 274)), (8288, (.int 8288 282)), (65279, (.int 65279 283))] 29 ⟨127, #[0, 1, 2, 3, 4, 5, 6, 7, 8, 9, 10, 11, 12, 13, 14, 15, 16, 17, 18, 19, 20, 21, 22, 45, 79, 96, 127], #[], 0, !P.followText "set-order", 2, true⟩), #[]⟩
noncomputable def ob69v9 (P : Params) : Obj := ⟨(.type "list_iterator"), none, (.fields #[.none, (.int 27 0)]), #[]⟩
noncomputable def ob70v9 (P : Params) : Obj := ⟨(.type "tuple"), none, (.seq #[] 0), #[]⟩
noncomputable def ob71v9 (P : Params) : Obj := ⟨(.type "StopIteration"), none, (.fields #[(.ref 70), .none, .none, .none, (.bool false), .none]), #[]⟩
noncomputable def tree9 (P : Params) : BT := (.node (boot_o_0 P) (.node (boot_o_1 P) (.node (ob3v9 P) (.node (boot_o_7 P) (.node (ob15v8 P) (.node (ob31v8 P) (.node (ob63v9 P) .nil .nil) .nil) (.node (ob47v8 P) .nil .nil)) (.node (ob23v8 P) (.node (ob39v8 P) (.node (ob71v9 P) .nil .nil) .nil) (.node (ob55v8 P) .nil .nil))) (.node (ob11v0 P) (.node (ob19v8 P) (.node (ob35v8 P) (.node (ob67v9 P) .nil .nil) .nil) (.node (ob51v8 P) .nil .nil)) (.node (ob27v8 P) (.node (ob43v8 P) .nil .nil) (.node (ob59v8 P) .nil .nil)))) (.node (boot_o_5 P) (.node (boot_o_9 P) (.node (ob17v8 P) (.node (ob33v8 P) (.node (ob65v9 P) .nil .nil) .nil) (.node (ob49v8 P) .nil .nil)) (.node (ob25v8 P) (.node (ob41v8 P) .nil .nil) (.node (ob57v8 P) .nil .nil))) (.node (ob13v0 P) (.node (ob21v8 P) (.node (ob37v8 P) (.node (ob69v9 P) .nil .nil) .nil) (.node (ob53v8 P) .nil .nil)) (.node (ob29v8 P) (.node (ob45v8 P) .nil .nil) (.node (ob61v9 P) .nil .nil))))) (.node (ob2v8 P) (.node (boot_o_4 P) (.node (boot_o_8 P) (.node (ob16v8 P) (.node (ob32v8 P) (.node (ob64v9 P) .nil .nil) .nil) (.node (ob48v8 P) .nil .nil)) (.node (ob24v8 P) (.node (ob40v8 P) .nil .nil) (.node (ob56v8 P) .nil .nil))) (.node (ob12v8 P) (.node (ob20v8 P) (.node (ob36v8 P) (.node (ob68v9 P) .nil .nil) .nil) (.node (ob52v8 P) .nil .nil)) (.node (ob28v8 P) (.node (ob44v8 P) .nil .nil) (.node (ob60v8 P) .nil .nil)))) (.node (boot_o_6 P) (.node (boot_o_10 P) (.node (ob18v8 P) (.node (ob34v8 P) (.node (ob66v9 P) .nil .nil) .nil) (.node (ob50v8 P) .nil .nil)) (.node (ob26v8 P) (.node (ob42v8 P) .nil .nil) (.node (ob58v8 P) .nil .nil))) (.node (ob14v0 P) (.node (ob22v8 P) (.node (ob38v8 P) (.node (ob70v9 P) .nil .nil) .nil) (.node (ob54v8 P) .nil .nil)) (.node (ob30v8 P) (.node (ob46v8 P) .nil .nil) (.node (ob62v9 P) .nil .nil))))))
-- state 9: n 72 toks 333 pos ⟨69, 0, 69, 6⟩
noncomputable def st9 (w : World) (os : OsState) : SharedT := ⟨tree9 w.params, 72, lifeN, #[], drawnN, 333, os⟩
noncomputable def ob3v10 (P : Params) : Obj := ⟨(.type "dict"), none, (.dict #[⟨PyData.keyHash P (Str.ofString "__name__"), (.str (Str.ofString "__name__") 165), (.str (Str.ofString "cpy313.stringprep") 271)⟩, ⟨PyData.keyHash P (Str.ofString "__doc__"), (.str (Str.ofString "__doc__") 166), .none⟩, ⟨PyData.keyHash P (Str.ofString "__package__"), (.str (Str.ofString "__package__") 167), .none⟩, ⟨PyData.keyHash P (Str.ofString "__loader__"), (.str (Str.ofString "__loader__") 168), (.builtin "__main__.__loader__#opaque")⟩, ⟨PyData.keyHash P (Str.ofString "__spec__"), (.str (Str.ofString "__spec__") 169), .none⟩, ⟨PyData.keyHash P (Str.ofString "__annotations__"), (.str (Str.ofString "__annotations__") 170), (.ref 6)⟩, ⟨PyData.keyHash P (Str.ofString "__builtins__"), (.str (Str.ofString "__builtins__") 171), (.ref 4)⟩, ⟨PyData.keyHash P (Str.ofString "__file__"), (.str (Str.ofString "__file__") 173), (.str (Str.ofString "/claim/cut.py") 172)⟩, ⟨PyData.keyHash P (Str.ofString "__cached__"), (.str (Str.ofString "__cached__") 174), .none⟩, ⟨PyData.keyHash P (Str.ofString "rgb_to_hls"), (.str (Str.ofString "rgb_to_hls") 207), (.ref 21)⟩, ⟨PyData.keyHash P (Str.ofString "hsv_to_rgb"), (.str (Str.ofString "hsv_to_rgb") 221), (.ref 28)⟩, ⟨PyData.keyHash P (Str.ofString "Error"), (.str (Str.ofString "Error") 243), (.ref 38)⟩, ⟨PyData.keyHash P (Str.ofString "error_reply"), (.str (Str.ofString "error_reply") 259), (.ref 51)⟩, ⟨PyData.keyHash P (Str.ofString "parse257"), (.str (Str.ofString "parse257") 270), (.ref 60)⟩, ⟨PyData.keyHash P (Str.ofString "b1_set"), (.str (Str.ofString "b1_set") 332), (.ref 68)⟩, ⟨PyData.keyHash P (Str.ofString "in_table_b1"), (.str (Str.ofString "in_table_b1") 339), (.ref 78)⟩] 16), #[]⟩
noncomputable def ob12v10 (P : Params) : Obj := ⟨.none, none, (.fields #[(.int 2 0), (.int 0 0), (.ref 20), (.int 25 0), (.int 0 0), (.ref 27), (.int 47 0), (.int 0 0), (.ref 34), (.int 49 0), (.int 0 0), (.ref 47), (.int 51 0), (.int 0 0), (.ref 59), (.int 70 0), (.int 0 0), (.ref 77)]), #[]⟩
noncomputable def ob72v10 (P : Params) : Obj := ⟨(.type "tuple"), none, (.seq #[] 0), #[]⟩
noncomputable def ob73v10 (P : Params) : Obj := ⟨.none, none, (.fields #[]), #[]⟩
noncomputable def ob74v10 (P : Params) : Obj := ⟨(.type "tuple"), none, (.seq #[(.str (Str.ofString "code") 336)] 0), #[]⟩
noncomputable def ob75v10 (P : Params) : Obj := ⟨(.type "tuple"), none, (.seq #[] 0), #[]⟩
noncomputable def ob76v10 (P : Params) : Obj := ⟨.none, none, (.func ⟨(Str.ofString "in_table_b1"), (Str.ofString "in_table_b1"), F9.1, .stmts F9.2.1, F9.2.2, 0, [], .none, .none, .none, .none, none, .none, .none, 0⟩), #[]⟩
noncomputable def ob77v10 (P : Params) : Obj := ⟨(.type "code"), none, (.fields #[(.str (Str.ofString "in_table_b1") 333), (.str (Str.ofString "in_table_b1") 334), (.str (Str.ofString "/claim/cut.py") 335), (.int 70 0), (.int 1 0), (.int 0 0), (.int 0 0), (.int 3 0), (.ref 72), (.bool true), (.int 181 0), (.ref 73), .none, (.ref 74), (.ref 75), (.ref 76), (.int 337 0), (.int 70 0), (.str (Str.ofString "/claim/cut.py") 338)]), #[]⟩
noncomputable def ob78v10 (P : Params) : Obj := ⟨(.type "function"), none, (.func ⟨(Str.ofString "in_table_b1"), (Str.ofString "in_table_b1"), F9.1, .stmts F9.2.1, F9.2.2, 3, [], .none, .none, .none, (.str (Str.ofString "cpy313.stringprep") 271), none, (.ref 77), .none, 0⟩), #[]⟩
noncomputable def tree10 (P : Params) : BT := (.node (boot_o_0 P) (.node (boot_o_1 P) (.node (ob3v10 P) (.node (boot_o_7 P) (.node (ob15v8 P) (.node (ob31v8 P) (.node (ob63v9 P) .nil .nil) .nil) (.node (ob47v8 P) .nil .nil)) (.node (ob23v8 P) (.node (ob39v8 P) (.node (ob71v9 P) .nil .nil) .nil) (.node (ob55v8 P) .nil .nil))) (.node (ob11v0 P) (.node (ob19v8 P) (.node (ob35v8 P) (.node (ob67v9 P) .nil .nil) .nil) (.node (ob51v8 P) .nil .nil)) (.node (ob27v8 P) (.node (ob43v8 P) (.node (ob75v10 P) .nil .nil) .nil) (.node (ob59v8 P) .nil .nil)))) (.node (boot_o_5 P) (.node (boot_o_9 P) (.node (ob17v8 P) (.node (ob33v8 P) (.node (ob65v9 P) .nil .nil) .nil) (.node (ob49v8 P) .nil .nil)) (.node (ob25v8 P) (.node (ob41v8 P) (.node (ob73v10 P) .nil .nil) .nil) (.node (ob57v8 P) .nil .nil))) (.node (ob13v0 P) (.node (ob21v8 P) (.node (ob37v8 P) (.node (ob69v9 P) .nil .nil) .nil) (.node (ob53v8 P) .nil .nil)) (.node (ob29v8 P) (.node (ob45v8 P) (.node (ob77v10 P) .nil .nil) .nil) (.node (ob61v9 P) .nil .nil))))) (.node (ob2v8 P) (.node (boot_o_4 P) (.node (boot_o_8 P) (.node (ob16v8 P) (.node (ob32v8 P) (.node (ob64v9 P) .nil .nil) .nil) (.node (ob48v8 P) .nil .nil)) (.node (ob24v8 P) (.node (ob40v8 P) (.node (ob72v10 P) .nil .nil) .nil) (.node (ob56v8 P) .nil .nil))) (.node (ob12v10 P) (.node (ob20v8 P) (.node (ob36v8 P) (.node (ob68v9 P) .nil .nil) .nil) (.node (ob52v8 P) .nil .nil)) (.node (ob28v8 P) (.node (ob44v8 P) (.node (ob76v10 P) .nil .nil) .nil) (.node (ob60v8 P) .nil .nil)))) (.node (boot_o_6 P) (.node (boot_o_10 P) (.node (ob18v8 P) (.node (ob34v8 P) (.node (ob66v9 P) .nil .nil) .nil) (.node (ob50v8 P) .nil .nil)) (.node (ob26v8 P) (.node (ob42v8 P) (.node (ob74v10 P) .nil .nil) .nil) (.node (ob58v8 P) .nil .nil))) (.node (ob14v0 P) (.node (ob22v8 P) (.node (ob38v8 P) (.node (ob70v9 P) .nil .nil) .nil) (.node (ob54v8 P) .nil .nil)) (.node (ob30v8 P) (.node (ob46v8 P) (.node (ob78v10 P) .nil .nil) .nil) (.node (ob62v9 P) .nil .nil))))))
-- state 10: n 79 toks 340 pos ⟨70, 0, 71, 30⟩
noncomputable def st10 (w : World) (os : OsState) : SharedT := ⟨tree10 w.params, 79, lifeN, #[], drawnN, 340, os⟩
noncomputable def ob3v11 (P : Params) : Obj := ⟨(.type "dict"), none, (.dict #[⟨PyData.keyHash P (Str.ofString "__name__"), (.str (Str.ofString "__name__") 165), (.str (Str.ofString "cpy313.stringprep") 271)⟩, ⟨PyData.keyHash P (Str.ofString "__doc__"), (.str (Str.ofString "__doc__") 166), .none⟩, ⟨PyData.keyHash P (Str.ofString "__package__"), (.str (Str.ofString "__package__") 167), .none⟩, ⟨PyData.keyHash P (Str.ofString "__loader__"), (.str (Str.ofString "__loader__") 168), (.builtin "__main__.__loader__#opaque")⟩, ⟨PyData.keyHash P (Str.ofString "__spec__"), (.str (Str.ofString "__spec__") 169), .none⟩, ⟨PyData.keyHash P (Str.ofString "__annotations__"), (.str (Str.ofString "__annotations__") 170), (.ref 6)⟩, ⟨PyData.keyHash P (Str.ofString "__builtins__"), (.str (Str.ofString "__builtins__") 171), (.ref 4)⟩, ⟨PyData.keyHash P (Str.ofString "__file__"), (.str (Str.ofString "__file__") 173), (.str (Str.ofString "/claim/cut.py") 172)⟩, ⟨PyData.keyHash P (Str.ofString "__cached__"), (.str (Str.ofString "__cached__") 174), .none⟩, ⟨PyData.keyHash P (Str.ofString "rgb_to_hls"), (.str (Str.ofString "rgb_to_hls") 207), (.ref 21)⟩, ⟨PyData.keyHash P (Str.ofString "hsv_to_rgb"), (.str (Str.ofString "hsv_to_rgb") 221), (.ref 28)⟩, ⟨PyData.keyHash P (Str.ofString "Error"), (.str (Str.ofString "Error") 243), (.ref 38)⟩, ⟨PyData.keyHash P (Str.ofString "error_reply"), (.str (Str.ofString "error_reply") 259), (.ref 51)⟩, ⟨PyData.keyHash P (Str.ofString "parse257"), (.str (Str.ofString "parse257") 270), (.ref 60)⟩, ⟨PyData.keyHash P (Str.ofString "b1_set"), (.str (Str.ofString "b1_set") 332), (.ref 68)⟩, ⟨PyData.keyHash P (Str.ofString "in_table_b1"), (.str (Str.ofString "in_table_b1") 339), (.ref 78)⟩, ⟨PyData.keyHash P (Str.ofString "b3_exceptions"), (.str (Str.ofString "b3_exceptions") 2290), (.ref 79)⟩] 17), #[]⟩
noncomputable def ob79v11 (P : Params) : Obj := dictO b3E.toArray 650
noncomputable def ob80v11 (P : Params) : Obj := dictO (entsA (340 + 51 * 1) (grp 1)).toArray 17
noncomputable def ob81v11 (P : Params) : Obj := dictO (entsA (340 + 51 * 2) (grp 2)).toArray 17
noncomputable def ob82v11 (P : Params) : Obj := dictO (entsA (340 + 51 * 3) (grp 3)).toArray 17
noncomputable def ob83v11 (P : Params) : Obj := dictO (entsA (340 + 51 * 4) (grp 4)).toArray 17
noncomputable def ob84v11 (P : Params) : Obj := dictO (entsA (340 + 51 * 5) (grp 5)).toArray 17
noncomputable def ob85v11 (P : Params) : Obj := dictO (entsA (340 + 51 * 6) (grp 6)).toArray 17
noncomputable def ob86v11 (P : Params) : Obj := dictO (entsA (340 + 51 * 7) (grp 7)).toArray 17
noncomputable def ob87v11 (P : Params) : Obj := dictO (entsA (340 + 51 * 8) (grp 8)).toArray 17
noncomputable def ob88v11 (P : Params) : Obj := dictO (entsA (340 + 51 * 9) (grp 9)).toArray 17
noncomputable def ob89v11 (P : Params) : Obj := dictO (entsA (340 + 51 * 10) (grp 10)).toArray 17
noncomputable def ob90v11 (P : Params) : Obj := dictO (entsA (340 + 51 * 11) (grp 11)).toArray 17
noncomputable def ob91v11 (P : Params) : Obj := dictO (entsA (340 + 51 * 12) (grp 12)).toArray 17
noncomputable def ob92v11 (P : Params) : Obj := dictO (entsA (340 + 51 * 13) (grp 13)).toArray 17
noncomputable def ob93v11 (P : Params) : Obj := dictO (entsA (340 + 51 * 14) (grp 14)).toArray 17
noncomputable def ob94v11 (P : Params) : Obj := dictO (entsA (340 + 51 * 15) (grp 15)).toArray 17
noncomputable def ob95v11 (P : Params) : Obj := dictO (entsA (340 + 51 * 16) (grp 16)).toArray 17
noncomputable def ob96v11 (P : Params) : Obj := dictO (entsA (340 + 51 * 17) (grp 17)).toArray 17
noncomputable def ob97v11 (P : Params) : Obj := dictO (entsA (340 + 51 * 18) (grp 18)).toArray 17
noncomputable def ob98v11 (P : Params) : Obj := dictO (entsA (340 + 51 * 19) (grp 19)).toArray 17
noncomputable def ob99v11 (P : Params) : Obj := dictO (entsA (340 + 51 * 20) (grp 20)).toArray 17
noncomputable def ob100v11 (P : Params) : Obj := dictO (entsA (340 + 51 * 21) (grp 21)).toArray 17
noncomputable def ob101v11 (P : Params) : Obj := dictO (entsA (340 + 51 * 22) (grp 22)).toArray 17
noncomputable def ob102v11 (P : Params) : Obj := dictO (entsA (340 + 51 * 23) (grp 23)).toArray 17
noncomputable def ob103v11 (P : Params) : Obj := dictO (entsA (340 + 51 * 24) (grp 24)).toArray 17
noncomputable def ob104v11 (P : Params) : Obj := dictO (entsA (340 + 51 * 25) (grp 25)).toArray 17
noncomputable def ob105v11 (P : Params) : Obj := dictO (entsA (340 + 51 * 26) (grp 26)).toArray 17
noncomputable def ob106v11 (P : Params) : Obj := dictO (entsA (340 + 51 * 27) (grp 27)).toArray 17
noncomputable def ob107v11 (P : Params) : Obj := dictO (entsA (340 + 51 * 28) (grp 28)).toArray 17
noncomputable def ob108v11 (P : Params) : Obj := dictO (entsA (340 + 51 * 29) (grp 29)).toArray 17
noncomputable def ob109v11 (P : Params) : Obj := dictO (entsA (340 + 51 * 30) (grp 30)).toArray 17
noncomputable def ob110v11 (P : Params) : Obj := dictO (entsA (340 + 51 * 31) (grp 31)).toArray 17
noncomputable def ob111v11 (P : Params) : Obj := dictO (entsA (340 + 51 * 32) (grp 32)).toArray 17
noncomputable def ob112v11 (P : Params) : Obj := dictO (entsA (340 + 51 * 33) (grp 33)).toArray 17
noncomputable def ob113v11 (P : Params) : Obj := dictO (entsA (340 + 51 * 34) (grp 34)).toArray 17
noncomputable def ob114v11 (P : Params) : Obj := dictO (entsA (340 + 51 * 35) (grp 35)).toArray 17
noncomputable def ob115v11 (P : Params) : Obj := dictO (entsA (340 + 51 * 36) (grp 36)).toArray 17
noncomputable def ob116v11 (P : Params) : Obj := dictO (entsA (340 + 51 * 37) (grp 37)).toArray 17
noncomputable def ob117v11 (P : Params) : Obj := dictO (entsB (340 + 51 * 38) (grp 38)).toArray 4
noncomputable def tree11 (P : Params) : BT := (.node (boot_o_0 P) (.node (boot_o_1 P) (.node (ob3v11 P) (.node (boot_o_7 P) (.node (ob15v8 P) (.node (ob31v8 P) (.node (ob63v9 P) .nil .nil) (.node (ob95v11 P) .nil .nil)) (.node (ob47v8 P) (.node (ob79v11 P) .nil .nil) (.node (ob111v11 P) .nil .nil))) (.node (ob23v8 P) (.node (ob39v8 P) (.node (ob71v9 P) .nil .nil) (.node (ob103v11 P) .nil .nil)) (.node (ob55v8 P) (.node (ob87v11 P) .nil .nil) .nil))) (.node (ob11v0 P) (.node (ob19v8 P) (.node (ob35v8 P) (.node (ob67v9 P) .nil .nil) (.node (ob99v11 P) .nil .nil)) (.node (ob51v8 P) (.node (ob83v11 P) .nil .nil) (.node (ob115v11 P) .nil .nil))) (.node (ob27v8 P) (.node (ob43v8 P) (.node (ob75v10 P) .nil .nil) (.node (ob107v11 P) .nil .nil)) (.node (ob59v8 P) (.node (ob91v11 P) .nil .nil) .nil)))) (.node (boot_o_5 P) (.node (boot_o_9 P) (.node (ob17v8 P) (.node (ob33v8 P) (.node (ob65v9 P) .nil .nil) (.node (ob97v11 P) .nil .nil)) (.node (ob49v8 P) (.node (ob81v11 P) .nil .nil) (.node (ob113v11 P) .nil .nil))) (.node (ob25v8 P) (.node (ob41v8 P) (.node (ob73v10 P) .nil .nil) (.node (ob105v11 P) .nil .nil)) (.node (ob57v8 P) (.node (ob89v11 P) .nil .nil) .nil))) (.node (ob13v0 P) (.node (ob21v8 P) (.node (ob37v8 P) (.node (ob69v9 P) .nil .nil) (.node (ob101v11 P) .nil .nil)) (.node (ob53v8 P) (.node (ob85v11 P) .nil .nil) (.node (ob117v11 P) .nil .nil))) (.node (ob29v8 P) (.node (ob45v8 P) (.node (ob77v10 P) .nil .nil) (.node (ob109v11 P) .nil .nil)) (.node (ob61v9 P) (.node (ob93v11 P) .nil .nil) .nil))))) (.node (ob2v8 P) (.node (boot_o_4 P) (.node (boot_o_8 P) (.node (ob16v8 P) (.node (ob32v8 P) (.node (ob64v9 P) .nil .nil) (.node (ob96v11 P) .nil .nil)) (.node (ob48v8 P) (.node (ob80v11 P) .nil .nil) (.node (ob112v11 P) .nil .nil))) (.node (ob24v8 P) (.node (ob40v8 P) (.node (ob72v10 P) .nil .nil) (.node (ob104v11 P) .nil .nil)) (.node (ob56v8 P) (.node (ob88v11 P) .nil .nil) .nil))) (.node (ob12v10 P) (.node (ob20v8 P) (.node (ob36v8 P) (.node (ob68v9 P) .nil .nil) (.node (ob100v11 P) .nil .nil)) (.node (ob52v8 P) (.node (ob84v11 P) .nil .nil) (.node (ob116v11 P) .nil .nil))) (.node (ob28v8 P) (.node (ob44v8 P) (.node (ob76v10 P) .nil .nil) (.node (ob108v11 P) .nil .nil)) (.node (ob60v8 P) (.node (ob92v11 P) .nil .nil) .nil)))) (.node (boot_o_6 P) (.node (boot_o_10 P) (.node (ob18v8 P) (.node (ob34v8 P) (.node (ob66v9 P) .nil .nil) (.node (ob98v11 P) .nil .nil)) (.node (ob50v8 P) (.node (ob82v11 P) .nil .nil) (.node (ob114v11 P) .nil .nil))) (.node (ob26v8 P) (.node (ob42v8 P) (.node (ob74v10 P) .nil .nil) (.node (ob106v11 P) .nil .nil)) (.node (ob58v8 P) (.node (ob90v11 P) .nil .nil) .nil))) (.node (ob14v0 P) (.node (ob22v8 P) (.node (ob38v8 P) (.node (ob70v9 P) .nil .nil) (.node (ob102v11 P) .nil .nil)) (.node (ob54v8 P) (.node (ob86v11 P) .nil .nil) .nil)) (.node (ob30v8 P) (.node (ob46v8 P) (.node (ob78v10 P) .nil .nil) (.node (ob110v11 P) .nil .nil)) (.node (ob62v9 P) (.node (ob94v11 P) .nil .nil) .nil))))))
-- state 11: n 118 toks 2291 pos ⟨72, 0, 72, 13⟩
noncomputable def st11 (w : World) (os : OsState) : SharedT := ⟨tree11 w.params, 118, lifeN, #[], drawnN, 2291, os⟩
noncomputable def ob3v12 (P : Params) : Obj := ⟨(.type "dict"), none, (.dict #[⟨PyData.keyHash P (Str.ofString "__name__"), (.str (Str.ofString "__name__") 165), (.str (Str.ofString "cpy313.stringprep") 271)⟩, ⟨PyData.keyHash P (Str.ofString "__doc__"), (.str (Str.ofString "__doc__") 166), .none⟩, ⟨PyData.keyHash P (Str.ofString "__package__"), (.str (Str.ofString "__package__") 167), .none⟩, ⟨PyData.keyHash P (Str.ofString "__loader__"), (.str (Str.ofString "__loader__") 168), (.builtin "__main__.__loader__#opaque")⟩, ⟨PyData.keyHash P (Str.ofString "__spec__"), (.str (Str.ofString "__spec__") 169), .none⟩, ⟨PyData.keyHash P (Str.ofString "__annotations__"), (.str (Str.ofString "__annotations__") 170), (.ref 6)⟩, ⟨PyData.keyHash P (Str.ofString "__builtins__"), (.str (Str.ofString "__builtins__") 171), (.ref 4)⟩, ⟨PyData.keyHash P (Str.ofString "__file__"), (.str (Str.ofString "__file__") 173), (.str (Str.ofString "/claim/cut.py") 172)⟩, ⟨PyData.keyHash P (Str.ofString "__cached__"), (.str (Str.ofString "__cached__") 174), .none⟩, ⟨PyData.keyHash P (Str.ofString "rgb_to_hls"), (.str (Str.ofString "rgb_to_hls") 207), (.ref 21)⟩, ⟨PyData.keyHash P (Str.ofString "hsv_to_rgb"), (.str (Str.ofString "hsv_to_rgb") 221), (.ref 28)⟩, ⟨PyData.keyHash P (Str.ofString "Error"), (.str (Str.ofString "Error") 243), (.ref 38)⟩, ⟨PyData.keyHash P (Str.ofString "error_reply"), (.str (Str.ofString "error_reply") 259), (.ref 51)⟩, ⟨PyData.keyHash P (Str.ofString "parse257"), (.str (Str.ofString "parse257") 270), (.ref 60)⟩, ⟨PyData.keyHash P (Str.ofString "b1_set"), (.str (Str.ofString "b1_set") 332), (.ref 68)⟩, ⟨PyData.keyHash P (Str.ofString "in_table_b1"), (.str (Str.ofString "in_table_b1") 339), (.ref 78)⟩, ⟨PyData.keyHash P (Str.ofString "b3_exceptions"), (.str (Str.ofString "b3_exceptions") 2290), (.ref 79)⟩, ⟨PyData.keyHash P (Str.ofString "map_table_b3"), (.str (Str.ofString "map_table_b3") 2298), (.ref 124)⟩] 18), #[]⟩
noncomputable def ob12v12 (P : Params) : Obj := ⟨.none, none, (.fields #[(.int 2 0), (.int 0 0), (.ref 20), (.int 25 0), (.int 0 0), (.ref 27), (.int 47 0), (.int 0 0), (.ref 34), (.int 49 0), (.int 0 0), (.ref 47), (.int 51 0), (.int 0 0), (.ref 59), (.int 70 0), (.int 0 0), (.ref 77), (.int 73 0), (.int 0 0), (.ref 123)]), #[]⟩
noncomputable def ob118v12 (P : Params) : Obj := ⟨(.type "tuple"), none, (.seq #[] 0), #[]⟩
noncomputable def ob119v12 (P : Params) : Obj := ⟨.none, none, (.fields #[]), #[]⟩
noncomputable def ob120v12 (P : Params) : Obj := ⟨(.type "tuple"), none, (.seq #[(.str (Str.ofString "code") 2294), (.str (Str.ofString "r") 2295)] 0), #[]⟩
noncomputable def ob121v12 (P : Params) : Obj := ⟨(.type "tuple"), none, (.seq #[] 0), #[]⟩
noncomputable def ob122v12 (P : Params) : Obj := ⟨.none, none, (.func ⟨(Str.ofString "map_table_b3"), (Str.ofString "map_table_b3"), F11.1, .stmts F11.2.1, F11.2.2, 0, [], .none, .none, .none, .none, none, .none, .none, 0⟩), #[]⟩
noncomputable def ob123v12 (P : Params) : Obj := ⟨(.type "code"), none, (.fields #[(.str (Str.ofString "map_table_b3") 2291), (.str (Str.ofString "map_table_b3") 2292), (.str (Str.ofString "/claim/cut.py") 2293), (.int 73 0), (.int 1 0), (.int 0 0), (.int 0 0), (.int 3 0), (.ref 118), (.bool true), (.int 181 0), (.ref 119), .none, (.ref 120), (.ref 121), (.ref 122), (.int 2296 0), (.int 73 0), (.str (Str.ofString "/claim/cut.py") 2297)]), #[]⟩
noncomputable def ob124v12 (P : Params) : Obj := ⟨(.type "function"), none, (.func ⟨(Str.ofString "map_table_b3"), (Str.ofString "map_table_b3"), F11.1, .stmts F11.2.1, F11.2.2, 3, [], .none, .none, .none, (.str (Str.ofString "cpy313.stringprep") 271), none, (.ref 123), .none, 0⟩), #[]⟩
noncomputable def tree12 (P : Params) : BT := (.node (boot_o_0 P) (.node (boot_o_1 P) (.node (ob3v12 P) (.node (boot_o_7 P) (.node (ob15v8 P) (.node (ob31v8 P) (.node (ob63v9 P) .nil .nil) (.node (ob95v11 P) .nil .nil)) (.node (ob47v8 P) (.node (ob79v11 P) .nil .nil) (.node (ob111v11 P) .nil .nil))) (.node (ob23v8 P) (.node (ob39v8 P) (.node (ob71v9 P) .nil .nil) (.node (ob103v11 P) .nil .nil)) (.node (ob55v8 P) (.node (ob87v11 P) .nil .nil) (.node (ob119v12 P) .nil .nil)))) (.node (ob11v0 P) (.node (ob19v8 P) (.node (ob35v8 P) (.node (ob67v9 P) .nil .nil) (.node (ob99v11 P) .nil .nil)) (.node (ob51v8 P) (.node (ob83v11 P) .nil .nil) (.node (ob115v11 P) .nil .nil))) (.node (ob27v8 P) (.node (ob43v8 P) (.node (ob75v10 P) .nil .nil) (.node (ob107v11 P) .nil .nil)) (.node (ob59v8 P) (.node (ob91v11 P) .nil .nil) (.node (ob123v12 P) .nil .nil))))) (.node (boot_o_5 P) (.node (boot_o_9 P) (.node (ob17v8 P) (.node (ob33v8 P) (.node (ob65v9 P) .nil .nil) (.node (ob97v11 P) .nil .nil)) (.node (ob49v8 P) (.node (ob81v11 P) .nil .nil) (.node (ob113v11 P) .nil .nil))) (.node (ob25v8 P) (.node (ob41v8 P) (.node (ob73v10 P) .nil .nil) (.node (ob105v11 P) .nil .nil)) (.node (ob57v8 P) (.node (ob89v11 P) .nil .nil) (.node (ob121v12 P) .nil .nil)))) (.node (ob13v0 P) (.node (ob21v8 P) (.node (ob37v8 P) (.node (ob69v9 P) .nil .nil) (.node (ob101v11 P) .nil .nil)) (.node (ob53v8 P) (.node (ob85v11 P) .nil .nil) (.node (ob117v11 P) .nil .nil))) (.node (ob29v8 P) (.node (ob45v8 P) (.node (ob77v10 P) .nil .nil) (.node (ob109v11 P) .nil .nil)) (.node (ob61v9 P) (.node (ob93v11 P) .nil .nil) .nil))))) (.node (ob2v8 P) (.node (boot_o_4 P) (.node (boot_o_8 P) (.node (ob16v8 P) (.node (ob32v8 P) (.node (ob64v9 P) .nil .nil) (.node (ob96v11 P) .nil .nil)) (.node (ob48v8 P) (.node (ob80v11 P) .nil .nil) (.node (ob112v11 P) .nil .nil))) (.node (ob24v8 P) (.node (ob40v8 P) (.node (ob72v10 P) .nil .nil) (.node (ob104v11 P) .nil .nil)) (.node (ob56v8 P) (.node (ob88v11 P) .nil .nil) (.node (ob120v12 P) .nil .nil)))) (.node (ob12v12 P) (.node (ob20v8 P) (.node (ob36v8 P) (.node (ob68v9 P) .nil .nil) (.node (ob100v11 P) .nil .nil)) (.node (ob52v8 P) (.node (ob84v11 P) .nil .nil) (.node (ob116v11 P) .nil .nil))) (.node (ob28v8 P) (.node (ob44v8 P) (.node (ob76v10 P) .nil .nil) (.node (ob108v11 P) .nil .nil)) (.node (ob60v8 P) (.node (ob92v11 P) .nil .nil) (.node (ob124v12 P) .nil .nil))))) (.node (boot_o_6 P) (.node (boot_o_10 P) (.node (ob18v8 P) (.node (ob34v8 P) (.node (ob66v9 P) .nil .nil) (.node (ob98v11 P) .nil .nil)) (.node (ob50v8 P) (.node (ob82v11 P) .nil .nil) (.node (ob114v11 P) .nil .nil))) (.node (ob26v8 P) (.node (ob42v8 P) (.node (ob74v10 P) .nil .nil) (.node (ob106v11 P) .nil .nil)) (.node (ob58v8 P) (.node (ob90v11 P) .nil .nil) (.node (ob122v12 P) .nil .nil)))) (.node (ob14v0 P) (.node (ob22v8 P) (.node (ob38v8 P) (.node (ob70v9 P) .nil .nil) (.node (ob102v11 P) .nil .nil)) (.node (ob54v8 P) (.node (ob86v11 P) .nil .nil) (.node (ob118v12 P) .nil .nil))) (.node (ob30v8 P) (.node (ob46v8 P) (.node (ob78v10 P) .nil .nil) (.node (ob110v11 P) .nil .nil)) (.node (ob62v9 P) (.node (ob94v11 P) .nil .nil) .nil))))))
-- state 12: n 125 toks 2299 pos ⟨73, 0, 77, 23⟩
noncomputable def st12 (w : World) (os : OsState) : SharedT := ⟨tree12 w.params, 125, lifeN, #[], drawnN, 2299, os⟩
noncomputable def ob3v13 (P : Params) : Obj := ⟨(.type "dict"), none, (.dict #[⟨PyData.keyHash P (Str.ofString "__name__"), (.str (Str.ofString "__name__") 165), (.str (Str.ofString "cpy313.stringprep") 271)⟩, ⟨PyData.keyHash P (Str.ofString "__doc__"), (.str (Str.ofString "__doc__") 166), .none⟩, ⟨PyData.keyHash P (Str.ofString "__package__"), (.str (Str.ofString "__package__") 167), .none⟩, ⟨PyData.keyHash P (Str.ofString "__loader__"), (.str (Str.ofString "__loader__") 168), (.builtin "__main__.__loader__#opaque")⟩, ⟨PyData.keyHash P (Str.ofString "__spec__"), (.str (Str.ofString "__spec__") 169), .none⟩, ⟨PyData.keyHash P (Str.ofString "__annotations__"), (.str (Str.ofString "__annotations__") 170), (.ref 6)⟩, ⟨PyData.keyHash P (Str.ofString "__builtins__"), (.str (Str.ofString "__builtins__") 171), (.ref 4)⟩, ⟨PyData.keyHash P (Str.ofString "__file__"), (.str (Str.ofString "__file__") 173), (.str (Str.ofString "/claim/cut.py") 172)⟩, ⟨PyData.keyHash P (Str.ofString "__cached__"), (.str (Str.ofString "__cached__") 174), .none⟩, ⟨PyData.keyHash P (Str.ofString "rgb_to_hls"), (.str (Str.ofString "rgb_to_hls") 207), (.ref 21)⟩, ⟨PyData.keyHash P (Str.ofString "hsv_to_rgb"), (.str (Str.ofString "hsv_to_rgb") 221), (.ref 28)⟩, ⟨PyData.keyHash P (Str.ofString "Error"), (.str (Str.ofString "Error") 243), (.ref 38)⟩, ⟨PyData.keyHash P (Str.ofString "error_reply"), (.str (Str.ofString "error_reply") 259), (.ref 51)⟩, ⟨PyData.keyHash P (Str.ofString "parse257"), (.str (Str.ofString "parse257") 270), (.ref 60)⟩, ⟨PyData.keyHash P (Str.ofString "b1_set"), (.str (Str.ofString "b1_set") 332), (.ref 68)⟩, ⟨PyData.keyHash P (Str.ofString "in_table_b1"), (.str (Str.ofString "in_table_b1") 339), (.ref 78)⟩, ⟨PyData.keyHash P (Str.ofString "b3_exceptions"), (.str (Str.ofString "b3_exceptions") 2290), (.ref 79)⟩, ⟨PyData.keyHash P (Str.ofString "map_table_b3"), (.str (Str.ofString "map_table_b3") 2298), (.ref 124)⟩, ⟨PyData.keyHash P (Str.ofString "c6_set"), (.str (Str.ofString "c6_set") 2312), (.ref 126)⟩] 19), #[]⟩
noncomputable def ob125v13 (P : Params) : Obj := ⟨(.type "range"), none, (.fields #[(.int 65529 2299), (.int 65534 2300), (.int 1 2301)]), #[]⟩
noncomputable def ob126v13 (P : Params) : Obj := ⟨(.type "set"), none, (.set #[(65529, (.int 65529 2302)), (65530, (.int 65530 2304)), (65531, (.int 65531 2306)), (65532, (.int 65532 2308)), (65533, (.int 65533 2310))] 6 ⟨31, #[25, 26, 27, 28, 29], #[], 0, !P.followText "set-order", 1, true⟩), #[]⟩
noncomputable def ob127v13 (P : Params) : Obj := ⟨(.type "range_iterator"), none, (.fields #[(.int 65534 0), (.int 0 0), (.int 1 0)]), #[]⟩
noncomputable def ob128v13 (P : Params) : Obj := ⟨(.type "tuple"), none, (.seq #[] 0), #[]⟩
noncomputable def ob129v13 (P : Params) : Obj := ⟨(.type "StopIteration"), none, (.fields #[(.ref 128), .none, .none, .none, (.bool false), .none]), #[]⟩
noncomputable def tree13 (P : Params) : BT := (.node (boot_o_0 P) (.node (boot_o_1 P) (.node (ob3v13 P) (.node (boot_o_7 P) (.node (ob15v8 P) (.node (ob31v8 P) (.node (ob63v9 P) (.node (ob127v13 P) .nil .nil) .nil) (.node (ob95v11 P) .nil .nil)) (.node (ob47v8 P) (.node (ob79v11 P) .nil .nil) (.node (ob111v11 P) .nil .nil))) (.node (ob23v8 P) (.node (ob39v8 P) (.node (ob71v9 P) .nil .nil) (.node (ob103v11 P) .nil .nil)) (.node (ob55v8 P) (.node (ob87v11 P) .nil .nil) (.node (ob119v12 P) .nil .nil)))) (.node (ob11v0 P) (.node (ob19v8 P) (.node (ob35v8 P) (.node (ob67v9 P) .nil .nil) (.node (ob99v11 P) .nil .nil)) (.node (ob51v8 P) (.node (ob83v11 P) .nil .nil) (.node (ob115v11 P) .nil .nil))) (.node (ob27v8 P) (.node (ob43v8 P) (.node (ob75v10 P) .nil .nil) (.node (ob107v11 P) .nil .nil)) (.node (ob59v8 P) (.node (ob91v11 P) .nil .nil) (.node (ob123v12 P) .nil .nil))))) (.node (boot_o_5 P) (.node (boot_o_9 P) (.node (ob17v8 P) (.node (ob33v8 P) (.node (ob65v9 P) (.node (ob129v13 P) .nil .nil) .nil) (.node (ob97v11 P) .nil .nil)) (.node (ob49v8 P) (.node (ob81v11 P) .nil .nil) (.node (ob113v11 P) .nil .nil))) (.node (ob25v8 P) (.node (ob41v8 P) (.node (ob73v10 P) .nil .nil) (.node (ob105v11 P) .nil .nil)) (.node (ob57v8 P) (.node (ob89v11 P) .nil .nil) (.node (ob121v12 P) .nil .nil)))) (.node (ob13v0 P) (.node (ob21v8 P) (.node (ob37v8 P) (.node (ob69v9 P) .nil .nil) (.node (ob101v11 P) .nil .nil)) (.node (ob53v8 P) (.node (ob85v11 P) .nil .nil) (.node (ob117v11 P) .nil .nil))) (.node (ob29v8 P) (.node (ob45v8 P) (.node (ob77v10 P) .nil .nil) (.node (ob109v11 P) .nil .nil)) (.node (ob61v9 P) (.node (ob93v11 P) .nil .nil) (.node (ob125v13 P) .nil .nil)))))) (.node (ob2v8 P) (.node (boot_o_4 P) (.node (boot_o_8 P) (.node (ob16v8 P) (.node (ob32v8 P) (.node (ob64v9 P) (.node (ob128v13 P) .nil .nil) .nil) (.node (ob96v11 P) .nil .nil)) (.node (ob48v8 P) (.node (ob80v11 P) .nil .nil) (.node (ob112v11 P) .nil .nil))) (.node (ob24v8 P) (.node (ob40v8 P) (.node (ob72v10 P) .nil .nil) (.node (ob104v11 P) .nil .nil)) (.node (ob56v8 P) (.node (ob88v11 P) .nil .nil) (.node (ob120v12 P) .nil .nil)))) (.node (ob12v12 P) (.node (ob20v8 P) (.node (ob36v8 P) (.node (ob68v9 P) .nil .nil) (.node (ob100v11 P) .nil .nil)) (.node (ob52v8 P) (.node (ob84v11 P) .nil .nil) (.node (ob116v11 P) .nil .nil))) (.node (ob28v8 P) (.node (ob44v8 P) (.node (ob76v10 P) .nil .nil) (.node (ob108v11 P) .nil .nil)) (.node (ob60v8 P) (.node (ob92v11 P) .nil .nil) (.node (ob124v12 P) .nil .nil))))) (.node (boot_o_6 P) (.node (boot_o_10 P) (.node (ob18v8 P) (.node (ob34v8 P) (.node (ob66v9 P) .nil .nil) (.node (ob98v11 P) .nil .nil)) (.node (ob50v8 P) (.node (ob82v11 P) .nil .nil) (.node (ob114v11 P) .nil .nil))) (.node (ob26v8 P) (.node (ob42v8 P) (.node (ob74v10 P) .nil .nil) (.node (ob106v11 P) .nil .nil)) (.node (ob58v8 P) (.node (ob90v11 P) .nil .nil) (.node (ob122v12 P) .nil .nil)))) (.node (ob14v0 P) (.node (ob22v8 P) (.node (ob38v8 P) (.node (ob70v9 P) .nil .nil) (.node (ob102v11 P) .nil .nil)) (.node (ob54v8 P) (.node (ob86v11 P) .nil .nil) (.node (ob118v12 P) .nil .nil))) (.node (ob30v8 P) (.node (ob46v8 P) (.node (ob78v10 P) .nil .nil) (.node (ob110v11 P) .nil .nil)) (.node (ob62v9 P) (.node (ob94v11 P) .nil .nil) (.node (ob126v13 P) .nil .nil)))))))
-- state 13: n 130 toks 2313 pos ⟨78, 0, 78, 6⟩
noncomputable def st13 (w : World) (os : OsState) : SharedT := ⟨tree13 w.params, 130, lifeN, #[], drawnN, 2313, os⟩
noncomputable def ob3v14 (P : Params) : Obj := ⟨(.type "dict"), none, (.dict #[⟨PyData.keyHash P (Str.ofString "__name__"), (.str (Str.ofString "__name__") 165), (.str (Str.ofString "cpy313.stringprep") 271)⟩, ⟨PyData.keyHash P (Str.ofString "__doc__"), (.str (Str.ofString "__doc__") 166), .none⟩, ⟨PyData.keyHash P (Str.ofString "__package__"), (.str (Str.ofString "__package__") 167), .none⟩, ⟨PyData.keyHash P (Str.ofString "__loader__"), (.str (Str.ofString "__loader__") 168), (.builtin "__main__.__loader__#opaque")⟩, ⟨PyData.keyHash P (Str.ofString "__spec__"), (.str (Str.ofString "__spec__") 169), .none⟩, ⟨PyData.keyHash P (Str.ofString "__annotations__"), (.str (Str.ofString "__annotations__") 170), (.ref 6)⟩, ⟨PyData.keyHash P (Str.ofString "__builtins__"), (.str (Str.ofString "__builtins__") 171), (.ref 4)⟩, ⟨PyData.keyHash P (Str.ofString "__file__"), (.str (Str.ofString "__file__") 173), (.str (Str.ofString "/claim/cut.py") 172)⟩, ⟨PyData.keyHash P (Str.ofString "__cached__"), (.str (Str.ofString "__cached__") 174), .none⟩, ⟨PyData.keyHash P (Str.ofString "rgb_to_hls"), (.str (Str.ofString "rgb_to_hls") 207), (.ref 21)⟩, ⟨PyData.keyHash P (Str.ofString "hsv_to_rgb"), (.str (Str.ofString "hsv_to_rgb") 221), (.ref 28)⟩, ⟨PyData.keyHash P (Str.ofString "Error"), (.str (Str.ofString "Error") 243), (.ref 38)⟩, ⟨PyData.keyHash P (Str.ofString "error_reply"), (.str (Str.ofString "error_reply") 259), (.ref 51)⟩, ⟨PyData.keyHash P (Str.ofString "parse257"), (.str (Str.ofString "parse257") 270), (.ref 60)⟩, ⟨PyData.keyHash P (Str.ofString "b1_set"), (.str (Str.ofString "b1_set") 332), (.ref 68)⟩, ⟨PyData.keyHash P (Str.ofString "in_table_b1"), (.str (Str.ofString "in_table_b1") 339), (.ref 78)⟩, ⟨PyData.keyHash P (Str.ofString "b3_exceptions"), (.str (Str.ofString "b3_exceptions") 2290), (.ref 79)⟩, ⟨PyData.keyHash P (Str.ofString "map_table_b3"), (.str (Str.ofString "map_table_b3") 2298), (.ref 124)⟩, ⟨PyData.keyHash P (Str.ofString "c6_set"), (.str (Str.ofString "c6_set") 2312), (.ref 126)⟩, ⟨PyData.keyHash P (Str.ofString "in_table_c6"), (.str (Str.ofString "in_table_c6") 2319), (.ref 136)⟩] 20), #[]⟩
noncomputable def ob12v14 (P : Params) : Obj := ⟨.none, none, (.fields #[(.int 2 0), (.int 0 0), (.ref 20), (.int 25 0), (.int 0 0), (.ref 27), (.int 47 0), (.int 0 0), (.ref 34), (.int 49 0), (.int 0 0), (.ref 47), (.int 51 0), (.int 0 0), (.ref 59), (.int 70 0), (.int 0 0), (.ref 77), (.int 73 0), (.int 0 0), (.ref 123), (.int 79 0), (.int 0 0), (.ref 135)]), #[]⟩
noncomputable def ob130v14 (P : Params) : Obj := ⟨(.type "tuple"), none, (.seq #[] 0), #[]⟩
noncomputable def ob131v14 (P : Params) : Obj := ⟨.none, none, (.fields #[]), #[]⟩
noncomputable def ob132v14 (P : Params) : Obj := ⟨(.type "tuple"), none, (.seq #[(.str (Str.ofString "code") 2316)] 0), #[]⟩
noncomputable def ob133v14 (P : Params) : Obj := ⟨(.type "tuple"), none, (.seq #[] 0), #[]⟩
noncomputable def ob134v14 (P : Params) : Obj := ⟨.none, none, (.func ⟨(Str.ofString "in_table_c6"), (Str.ofString "in_table_c6"), F13.1, .stmts F13.2.1, F13.2.2, 0, [], .none, .none, .none, .none, none, .none, .none, 0⟩), #[]⟩
noncomputable def ob135v14 (P : Params) : Obj := ⟨(.type "code"), none, (.fields #[(.str (Str.ofString "in_table_c6") 2313), (.str (Str.ofString "in_table_c6") 2314), (.str (Str.ofString "/claim/cut.py") 2315), (.int 79 0), (.int 1 0), (.int 0 0), (.int 0 0), (.int 3 0), (.ref 130), (.bool true), (.int 181 0), (.ref 131), .none, (.ref 132), (.ref 133), (.ref 134), (.int 2317 0), (.int 79 0), (.str (Str.ofString "/claim/cut.py") 2318)]), #[]⟩
noncomputable def ob136v14 (P : Params) : Obj := ⟨(.type "function"), none, (.func ⟨(Str.ofString "in_table_c6"), (Str.ofString "in_table_c6"), F13.1, .stmts F13.2.1, F13.2.2, 3, [], .none, .none, .none, (.str (Str.ofString "cpy313.stringprep") 271), none, (.ref 135), .none, 0⟩), #[]⟩
noncomputable def tree14 (P : Params) : BT := (.node (boot_o_0 P) (.node (boot_o_1 P) (.node (ob3v14 P) (.node (boot_o_7 P) (.node (ob15v8 P) (.node (ob31v8 P) (.node (ob63v9 P) (.node (ob127v13 P) .nil .nil) .nil) (.node (ob95v11 P) .nil .nil)) (.node (ob47v8 P) (.node (ob79v11 P) .nil .nil) (.node (ob111v11 P) .nil .nil))) (.node (ob23v8 P) (.node (ob39v8 P) (.node (ob71v9 P) (.node (ob135v14 P) .nil .nil) .nil) (.node (ob103v11 P) .nil .nil)) (.node (ob55v8 P) (.node (ob87v11 P) .nil .nil) (.node (ob119v12 P) .nil .nil)))) (.node (ob11v0 P) (.node (ob19v8 P) (.node (ob35v8 P) (.node (ob67v9 P) (.node (ob131v14 P) .nil .nil) .nil) (.node (ob99v11 P) .nil .nil)) (.node (ob51v8 P) (.node (ob83v11 P) .nil .nil) (.node (ob115v11 P) .nil .nil))) (.node (ob27v8 P) (.node (ob43v8 P) (.node (ob75v10 P) .nil .nil) (.node (ob107v11 P) .nil .nil)) (.node (ob59v8 P) (.node (ob91v11 P) .nil .nil) (.node (ob123v12 P) .nil .nil))))) (.node (boot_o_5 P) (.node (boot_o_9 P) (.node (ob17v8 P) (.node (ob33v8 P) (.node (ob65v9 P) (.node (ob129v13 P) .nil .nil) .nil) (.node (ob97v11 P) .nil .nil)) (.node (ob49v8 P) (.node (ob81v11 P) .nil .nil) (.node (ob113v11 P) .nil .nil))) (.node (ob25v8 P) (.node (ob41v8 P) (.node (ob73v10 P) .nil .nil) (.node (ob105v11 P) .nil .nil)) (.node (ob57v8 P) (.node (ob89v11 P) .nil .nil) (.node (ob121v12 P) .nil .nil)))) (.node (ob13v0 P) (.node (ob21v8 P) (.node (ob37v8 P) (.node (ob69v9 P) (.node (ob133v14 P) .nil .nil) .nil) (.node (ob101v11 P) .nil .nil)) (.node (ob53v8 P) (.node (ob85v11 P) .nil .nil) (.node (ob117v11 P) .nil .nil))) (.node (ob29v8 P) (.node (ob45v8 P) (.node (ob77v10 P) .nil .nil) (.node (ob109v11 P) .nil .nil)) (.node (ob61v9 P) (.node (ob93v11 P) .nil .nil) (.node (ob125v13 P) .nil .nil)))))) (.node (ob2v8 P) (.node (boot_o_4 P) (.node (boot_o_8 P) (.node (ob16v8 P) (.node (ob32v8 P) (.node (ob64v9 P) (.node (ob128v13 P) .nil .nil) .nil) (.node (ob96v11 P) .nil .nil)) (.node (ob48v8 P) (.node (ob80v11 P) .nil .nil) (.node (ob112v11 P) .nil .nil))) (.node (ob24v8 P) (.node (ob40v8 P) (.node (ob72v10 P) (.node (ob136v14 P) .nil .nil) .nil) (.node (ob104v11 P) .nil .nil)) (.node (ob56v8 P) (.node (ob88v11 P) .nil .nil) (.node (ob120v12 P) .nil .nil)))) (.node (ob12v14 P) (.node (ob20v8 P) (.node (ob36v8 P) (.node (ob68v9 P) (.node (ob132v14 P) .nil .nil) .nil) (.node (ob100v11 P) .nil .nil)) (.node (ob52v8 P) (.node (ob84v11 P) .nil .nil) (.node (ob116v11 P) .nil .nil))) (.node (ob28v8 P) (.node (ob44v8 P) (.node (ob76v10 P) .nil .nil) (.node (ob108v11 P) .nil .nil)) (.node (ob60v8 P) (.node (ob92v11 P) .nil .nil) (.node (ob124v12 P) .nil .nil))))) (.node (boot_o_6 P) (.node (boot_o_10 P) (.node (ob18v8 P) (.node (ob34v8 P) (.node (ob66v9 P) (.node (ob130v14 P) .nil .nil) .nil) (.node (ob98v11 P) .nil .nil)) (.node (ob50v8 P) (.node (ob82v11 P) .nil .nil) (.node (ob114v11 P) .nil .nil))) (.node (ob26v8 P) (.node (ob42v8 P) (.node (ob74v10 P) .nil .nil) (.node (ob106v11 P) .nil .nil)) (.node (ob58v8 P) (.node (ob90v11 P) .nil .nil) (.node (ob122v12 P) .nil .nil)))) (.node (ob14v0 P) (.node (ob22v8 P) (.node (ob38v8 P) (.node (ob70v9 P) (.node (ob134v14 P) .nil .nil) .nil) (.node (ob102v11 P) .nil .nil)) (.node (ob54v8 P) (.node (ob86v11 P) .nil .nil) (.node (ob118v12 P) .nil .nil))) (.node (ob30v8 P) (.node (ob46v8 P) (.node (ob78v10 P) .nil .nil) (.node (ob110v11 P) .nil .nil)) (.node (ob62v9 P) (.node (ob94v11 P) .nil .nil) (.node (ob126v13 P) .nil .nil)))))))
-- state 14: n 137 toks 2320 pos ⟨79, 0, 80, 30⟩
noncomputable def st14 (w : World) (os : OsState) : SharedT := ⟨tree14 w.params, 137, lifeN, #[], drawnN, 2320, os⟩
noncomputable def ob3v15 (P : Params) : Obj := ⟨(.type "dict"), none, (.dict #[⟨PyData.keyHash P (Str.ofString "__name__"), (.str (Str.ofString "__name__") 165), (.str (Str.ofString "cpy313.stringprep") 271)⟩, ⟨PyData.keyHash P (Str.ofString "__doc__"), (.str (Str.ofString "__doc__") 166), .none⟩, ⟨PyData.keyHash P (Str.ofString "__package__"), (.str (Str.ofString "__package__") 167), .none⟩, ⟨PyData.keyHash P (Str.ofString "__loader__"), (.str (Str.ofString "__loader__") 168), (.builtin "__main__.__loader__#opaque")⟩, ⟨PyData.keyHash P (Str.ofString "__spec__"), (.str (Str.ofString "__spec__") 169), .none⟩, ⟨PyData.keyHash P (Str.ofString "__annotations__"), (.str (Str.ofString "__annotations__") 170), (.ref 6)⟩, ⟨PyData.keyHash P (Str.ofString "__builtins__"), (.str (Str.ofString "__builtins__") 171), (.ref 4)⟩, ⟨PyData.keyHash P (Str.ofString "__file__"), (.str (Str.ofString "__file__") 173), (.str (Str.ofString "/claim/cut.py") 172)⟩, ⟨PyData.keyHash P (Str.ofString "__cached__"), (.str (Str.ofString "__cached__") 174), .none⟩, ⟨PyData.keyHash P (Str.ofString "rgb_to_hls"), (.str (Str.ofString "rgb_to_hls") 207), (.ref 21)⟩, ⟨PyData.keyHash P (Str.ofString "hsv_to_rgb"), (.str (Str.ofString "hsv_to_rgb") 221), (.ref 28)⟩, ⟨PyData.keyHash P (Str.ofString "Error"), (.str (Str.ofString "Error") 243), (.ref 38)⟩, ⟨PyData.keyHash P (Str.ofString "error_reply"), (.str (Str.ofString "error_reply") 259), (.ref 51)⟩, ⟨PyData.keyHash P (Str.ofString "parse257"), (.str (Str.ofString "parse257") 270), (.ref 60)⟩, ⟨PyData.keyHash P (Str.ofString "b1_set"), (.str (Str.ofString "b1_set") 332), (.ref 68)⟩, ⟨PyData.keyHash P (Str.ofString "in_table_b1"), (.str (Str.ofString "in_table_b1") 339), (.ref 78)⟩, ⟨PyData.keyHash P (Str.ofString "b3_exceptions"), (.str (Str.ofString "b3_exceptions") 2290), (.ref 79)⟩, ⟨PyData.keyHash P (Str.ofString "map_table_b3"), (.str (Str.ofString "map_table_b3") 2298), (.ref 124)⟩, ⟨PyData.keyHash P (Str.ofString "c6_set"), (.str (Str.ofString "c6_set") 2312), (.ref 126)⟩, ⟨PyData.keyHash P (Str.ofString "in_table_c6"), (.str (Str.ofString "in_table_c6") 2319), (.ref 136)⟩, ⟨PyData.keyHash P (Str.ofString "c8_set"), (.str (Str.ofString "c8_set") 2360), (.ref 150)⟩] 21), #[]⟩
noncomputable def ob137v15 (P : Params) : Obj := ⟨(.type "list"), none, (.seq #[(.int 832 2320), (.int 833 2321), (.int 8206 2322), (.int 8207 2323)] 0), #[]⟩
noncomputable def ob138v15 (P : Params) : Obj := ⟨(.type "range"), none, (.fields #[(.int 8234 2324), (.int 8239 2325), (.int 1 2326)]), #[]⟩
noncomputable def ob139v15 (P : Params) : Obj := ⟨(.type "list"), none, (.seq #[(.int 8234 2329), (.int 8235 2330), (.int 8236 2331), (.int 8237 2332), (.int 8238 2333)] 7), #[]⟩
noncomputable def ob140v15 (P : Params) : Obj := ⟨(.type "range_iterator"), none, (.fields #[(.int 8239 0), (.int 0 0), (.int 1 0)]), #[]⟩
noncomputable def ob141v15 (P : Params) : Obj := ⟨(.type "tuple"), none, (.seq #[] 0), #[]⟩
noncomputable def ob142v15 (P : Params) : Obj := ⟨(.type "StopIteration"), none, (.fields #[(.ref 141), .none, .none, .none, (.bool false), .none]), #[]⟩
noncomputable def ob143v15 (P : Params) : Obj := ⟨(.type "list"), none, (.seq #[(.int 832 2320), (.int 833 2321), (.int 8206 2322), (.int 8207 2323), (.int 8234 2329), (.int 8235 2330), (.int 8236 2331), (.int 8237 2332), (.int 8238 2333)] 0), #[]⟩
noncomputable def ob144v15 (P : Params) : Obj := ⟨(.type "range"), none, (.fields #[(.int 8298 2334), (.int 8304 2335), (.int 1 2336)]), #[]⟩
noncomputable def ob145v15 (P : Params) : Obj := ⟨(.type "list"), none, (.seq #[(.int 8298 2339), (.int 8299 2340), (.int 8300 2341), (.int 8301 2342), (.int 8302 2343), (.int 8303 2344)] 8), #[]⟩
noncomputable def ob146v15 (P : Params) : Obj := ⟨(.type "range_iterator"), none, (.fields #[(.int 8304 0), (.int 0 0), (.int 1 0)]), #[]⟩
noncomputable def ob147v15 (P : Params) : Obj := ⟨(.type "tuple"), none, (.seq #[] 0), #[]⟩
noncomputable def ob148v15 (P : Params) : Obj := ⟨(.type "StopIteration"), none, (.fields #[(.ref 147), .none, .none, .none, (.bool false), .none]), #[]⟩
noncomputable def ob149v15 (P : Params) : Obj := ⟨(.type "list"), none, (.seq #[(.int 832 2320), (.int 833 2321), (.int 8206 2322), (.int 8207 2323), (.int 8234 2329), (.int 8235 2330), (.int 8236 2331), (.int 8237 2332), (.int 8238 2333), (.int 8298 2339), (.int 8299 2340), (.int 8300 2341), (.int 8301 2342), (.int 8302 2343), (.int 8303 2344)] 0), #[]⟩
noncomputable def ob150v15 (P : Params) : Obj := ⟨(.type "set"), none, (.set #[(832, (.int 832 2320)), (833, (.int 833 2321)), (8234, (.int 8234 2329)), (8235, (.int 8235 2330)), (8236, (.int 8236 2331)), (8237, (.int 8237 2332)), (8206, (.int 8206 2322)), (8207, (.int 8207 2323)), (8238, (.int 8238 2333)), (8298, (.int 8298 2339)), (8299, (.int 8299 2340)), (8300, (.int 8300 2341)), (8301, (.int 8301 2342)), (8302, (.int 8302 2343)), (8303, (.int 8303 2344))] 16 ⟨31, #[0, 1, 10, 11, 12, 13, 14, 15, 16, 17, 18, 19, 20, 21, 22], #[], 0, !P.followText "set-order", 1, true⟩), #[]⟩
noncomputable def ob151v15 (P : Params) : Obj := ⟨(.type "list_iterator"), none, (.fields #[.none, (.int 15 0)]), #[]⟩
noncomputable def ob152v15 (P : Params) : Obj := ⟨(.type "tuple"), none, (.seq #[] 0), #[]⟩
noncomputable def ob153v15 (P : Params) : Obj := ⟨(.type "StopIteration"), none, (.fields #[(.ref 152), .none, .none, .none, (.bool false), .none]), #[]⟩
noncomputable def tree15 (P : Params) : BT := (.node (boot_o_0 P) (.node (boot_o_1 P) (.node (ob3v15 P) (.node (boot_o_7 P) (.node (ob15v8 P) (.node (ob31v8 P) (.node (ob63v9 P) (.node (ob127v13 P) .nil .nil) .nil) (.node (ob95v11 P) .nil .nil)) (.node (ob47v8 P) (.node (ob79v11 P) (.node (ob143v15 P) .nil .nil) .nil) (.node (ob111v11 P) .nil .nil))) (.node (ob23v8 P) (.node (ob39v8 P) (.node (ob71v9 P) (.node (ob135v14 P) .nil .nil) .nil) (.node (ob103v11 P) .nil .nil)) (.node (ob55v8 P) (.node (ob87v11 P) (.node (ob151v15 P) .nil .nil) .nil) (.node (ob119v12 P) .nil .nil)))) (.node (ob11v0 P) (.node (ob19v8 P) (.node (ob35v8 P) (.node (ob67v9 P) (.node (ob131v14 P) .nil .nil) .nil) (.node (ob99v11 P) .nil .nil)) (.node (ob51v8 P) (.node (ob83v11 P) (.node (ob147v15 P) .nil .nil) .nil) (.node (ob115v11 P) .nil .nil))) (.node (ob27v8 P) (.node (ob43v8 P) (.node (ob75v10 P) (.node (ob139v15 P) .nil .nil) .nil) (.node (ob107v11 P) .nil .nil)) (.node (ob59v8 P) (.node (ob91v11 P) .nil .nil) (.node (ob123v12 P) .nil .nil))))) (.node (boot_o_5 P) (.node (boot_o_9 P) (.node (ob17v8 P) (.node (ob33v8 P) (.node (ob65v9 P) (.node (ob129v13 P) .nil .nil) .nil) (.node (ob97v11 P) .nil .nil)) (.node (ob49v8 P) (.node (ob81v11 P) (.node (ob145v15 P) .nil .nil) .nil) (.node (ob113v11 P) .nil .nil))) (.node (ob25v8 P) (.node (ob41v8 P) (.node (ob73v10 P) (.node (ob137v15 P) .nil .nil) .nil) (.node (ob105v11 P) .nil .nil)) (.node (ob57v8 P) (.node (ob89v11 P) (.node (ob153v15 P) .nil .nil) .nil) (.node (ob121v12 P) .nil .nil)))) (.node (ob13v0 P) (.node (ob21v8 P) (.node (ob37v8 P) (.node (ob69v9 P) (.node (ob133v14 P) .nil .nil) .nil) (.node (ob101v11 P) .nil .nil)) (.node (ob53v8 P) (.node (ob85v11 P) (.node (ob149v15 P) .nil .nil) .nil) (.node (ob117v11 P) .nil .nil))) (.node (ob29v8 P) (.node (ob45v8 P) (.node (ob77v10 P) (.node (ob141v15 P) .nil .nil) .nil) (.node (ob109v11 P) .nil .nil)) (.node (ob61v9 P) (.node (ob93v11 P) .nil .nil) (.node (ob125v13 P) .nil .nil)))))) (.node (ob2v8 P) (.node (boot_o_4 P) (.node (boot_o_8 P) (.node (ob16v8 P) (.node (ob32v8 P) (.node (ob64v9 P) (.node (ob128v13 P) .nil .nil) .nil) (.node (ob96v11 P) .nil .nil)) (.node (ob48v8 P) (.node (ob80v11 P) (.node (ob144v15 P) .nil .nil) .nil) (.node (ob112v11 P) .nil .nil))) (.node (ob24v8 P) (.node (ob40v8 P) (.node (ob72v10 P) (.node (ob136v14 P) .nil .nil) .nil) (.node (ob104v11 P) .nil .nil)) (.node (ob56v8 P) (.node (ob88v11 P) (.node (ob152v15 P) .nil .nil) .nil) (.node (ob120v12 P) .nil .nil)))) (.node (ob12v14 P) (.node (ob20v8 P) (.node (ob36v8 P) (.node (ob68v9 P) (.node (ob132v14 P) .nil .nil) .nil) (.node (ob100v11 P) .nil .nil)) (.node (ob52v8 P) (.node (ob84v11 P) (.node (ob148v15 P) .nil .nil) .nil) (.node (ob116v11 P) .nil .nil))) (.node (ob28v8 P) (.node (ob44v8 P) (.node (ob76v10 P) (.node (ob140v15 P) .nil .nil) .nil) (.node (ob108v11 P) .nil .nil)) (.node (ob60v8 P) (.node (ob92v11 P) .nil .nil) (.node (ob124v12 P) .nil .nil))))) (.node (boot_o_6 P) (.node (boot_o_10 P) (.node (ob18v8 P) (.node (ob34v8 P) (.node (ob66v9 P) (.node (ob130v14 P) .nil .nil) .nil) (.node (ob98v11 P) .nil .nil)) (.node (ob50v8 P) (.node (ob82v11 P) (.node (ob146v15 P) .nil .nil) .nil) (.node (ob114v11 P) .nil .nil))) (.node (ob26v8 P) (.node (ob42v8 P) (.node (ob74v10 P) (.node (ob138v15 P) .nil .nil) .nil) (.node (ob106v11 P) .nil .nil)) (.node (ob58v8 P) (.node (ob90v11 P) .nil .nil) (.node (ob122v12 P) .nil .nil)))) (.node (ob14v0 P) (.node (ob22v8 P) (.node (ob38v8 P) (.node (ob70v9 P) (.node (ob134v14 P) .nil .nil) .nil) (.node (ob102v11 P) .nil .nil)) (.node (ob54v8 P) (.node (ob86v11 P) (.node (ob150v15 P) .nil .nil) .nil) (.node (ob118v12 P) .nil .nil))) (.node (ob30v8 P) (.node (ob46v8 P) (.node (ob78v10 P) (.node (ob142v15 P) .nil .nil) .nil) (.node (ob110v11 P) .nil .nil)) (.node (ob62v9 P) (.node (ob94v11 P) .nil .nil) (.node (ob126v13 P) .nil .nil)))))))
-- state 15: n 154 toks 2361 pos ⟨81, 0, 81, 6⟩
noncomputable def st15 (w : World) (os : OsState) : SharedT := ⟨tree15 w.params, 154, lifeN, #[], drawnN, 2361, os⟩
noncomputable def ob3v27 (P : Params) : Obj := ⟨(.type "dict"), none, (.dict #[⟨PyData.keyHash P (Str.ofString "__name__"), (.str (Str.ofString "__name__") 165), (.str (Str.ofString "law_tr0058_01") 2368)⟩, ⟨PyData.keyHash P (Str.ofString "__doc__"), (.str (Str.ofString "__doc__") 166), .none⟩, ⟨PyData.keyHash P (Str.ofString "__package__"), (.str (Str.ofString "__package__") 167), .none⟩, ⟨PyData.keyHash P (Str.ofString "__loader__"), (.str (Str.ofString "__loader__") 168), (.builtin "__main__.__loader__#opaque")⟩, ⟨PyData.keyHash P (Str.ofString "__spec__"), (.str (Str.ofString "__spec__") 169), .none⟩, ⟨PyData.keyHash P (Str.ofString "__annotations__"), (.str (Str.ofString "__annotations__") 170), (.ref 6)⟩, ⟨PyData.keyHash P (Str.ofString "__builtins__"), (.str (Str.ofString "__builtins__") 171), (.ref 4)⟩, ⟨PyData.keyHash P (Str.ofString "__file__"), (.str (Str.ofString "__file__") 173), (.str (Str.ofString "/claim/cut.py") 172)⟩, ⟨PyData.keyHash P (Str.ofString "__cached__"), (.str (Str.ofString "__cached__") 174), .none⟩, ⟨PyData.keyHash P (Str.ofString "rgb_to_hls"), (.str (Str.ofString "rgb_to_hls") 207), (.ref 21)⟩, ⟨PyData.keyHash P (Str.ofString "hsv_to_rgb"), (.str (Str.ofString "hsv_to_rgb") 221), (.ref 28)⟩, ⟨PyData.keyHash P (Str.ofString "Error"), (.str (Str.ofString "Error") 243), (.ref 38)⟩, ⟨PyData.keyHash P (Str.ofString "error_reply"), (.str (Str.ofString "error_reply") 259), (.ref 51)⟩, ⟨PyData.keyHash P (Str.ofString "parse257"), (.str (Str.ofString "parse257") 270), (.ref 60)⟩, ⟨PyData.keyHash P (Str.ofString "b1_set"), (.str (Str.ofString "b1_set") 332), (.ref 68)⟩, ⟨PyData.keyHash P (Str.ofString "in_table_b1"), (.str (Str.ofString "in_table_b1") 339), (.ref 78)⟩, ⟨PyData.keyHash P (Str.ofString "b3_exceptions"), (.str (Str.ofString "b3_exceptions") 2290), (.ref 79)⟩, ⟨PyData.keyHash P (Str.ofString "map_table_b3"), (.str (Str.ofString "map_table_b3") 2298), (.ref 124)⟩, ⟨PyData.keyHash P (Str.ofString "c6_set"), (.str (Str.ofString "c6_set") 2312), (.ref 126)⟩, ⟨PyData.keyHash P (Str.ofString "in_table_c6"), (.str (Str.ofString "in_table_c6") 2319), (.ref 136)⟩, ⟨PyData.keyHash P (Str.ofString "c8_set"), (.str (Str.ofString "c8_set") 2360), (.ref 150)⟩, ⟨PyData.keyHash P (Str.ofString "in_table_c8"), (.str (Str.ofString "in_table_c8") 2367), (.ref 160)⟩, ⟨PyData.keyHash P (Str.ofString "_law_numbers"), (.str (Str.ofString "_law_numbers") 2375), (.ref 165)⟩, ⟨PyData.keyHash P (Str.ofString "_law_written"), (.str (Str.ofString "_law_written") 2386), (.ref 172)⟩, ⟨PyData.keyHash P (Str.ofString "_law_read"), (.str (Str.ofString "_law_read") 2395), (.ref 179)⟩, ⟨PyData.keyHash P (Str.ofString "_law_hues"), (.str (Str.ofString "_law_hues") 2404), (.ref 186)⟩, ⟨PyData.keyHash P (Str.ofString "_law_leads"), (.str (Str.ofString "_law_leads") 2410), (.ref 191)⟩, ⟨PyData.keyHash P (Str.ofString "_law_alone"), (.str (Str.ofString "_law_alone") 2422), (.ref 198)⟩, ⟨PyData.keyHash P (Str.ofString "_law_two"), (.str (Str.ofString "_law_two") 2439), (.ref 205)⟩, ⟨PyData.keyHash P (Str.ofString "_law_three"), (.str (Str.ofString "_law_three") 2445), (.ref 210)⟩, ⟨PyData.keyHash P (Str.ofString "_law_agree"), (.str (Str.ofString "_law_agree") 2460), (.ref 217)⟩, ⟨PyData.keyHash P (Str.ofString "law"), (.str (Str.ofString "law") 2466), (.ref 222)⟩] 32), #[]⟩
noncomputable def ob12v27 (P : Params) : Obj := ⟨.none, none, (.fields #[(.int 2 0), (.int 0 0), (.ref 20), (.int 25 0), (.int 0 0), (.ref 27), (.int 47 0), (.int 0 0), (.ref 34), (.int 49 0), (.int 0 0), (.ref 47), (.int 51 0), (.int 0 0), (.ref 59), (.int 70 0), (.int 0 0), (.ref 77), (.int 73 0), (.int 0 0), (.ref 123), (.int 79 0), (.int 0 0), (.ref 135), (.int 82 0), (.int 0 0), (.ref 159), (.int 85 0), (.int 0 0), (.ref 164), (.int 88 0), (.int 0 0), (.ref 171), (.int 94 0), (.int 0 0), (.ref 178), (.int 106 0), (.int 0 0), (.ref 185), (.int 111 0), (.int 0 0), (.ref 190), (.int 119 0), (.int 0 0), (.ref 197), (.int 125 0), (.int 0 0), (.ref 204), (.int 135 0), (.int 0 0), (.ref 209), (.int 145 0), (.int 0 0), (.ref 216), (.int 156 0), (.int 0 0), (.ref 221)]), #[]⟩
noncomputable def ob154v27 (P : Params) : Obj := ⟨(.type "tuple"), none, (.seq #[] 0), #[]⟩
noncomputable def ob155v27 (P : Params) : Obj := ⟨.none, none, (.fields #[]), #[]⟩
noncomputable def ob156v27 (P : Params) : Obj := ⟨(.type "tuple"), none, (.seq #[(.str (Str.ofString "code") 2364)] 0), #[]⟩
noncomputable def ob157v27 (P : Params) : Obj := ⟨(.type "tuple"), none, (.seq #[] 0), #[]⟩
noncomputable def ob158v27 (P : Params) : Obj := ⟨.none, none, (.func ⟨(Str.ofString "in_table_c8"), (Str.ofString "in_table_c8"), F15.1, .stmts F15.2.1, F15.2.2, 0, [], .none, .none, .none, .none, none, .none, .none, 0⟩), #[]⟩
noncomputable def ob159v27 (P : Params) : Obj := ⟨(.type "code"), none, (.fields #[(.str (Str.ofString "in_table_c8") 2361), (.str (Str.ofString "in_table_c8") 2362), (.str (Str.ofString "/claim/cut.py") 2363), (.int 82 0), (.int 1 0), (.int 0 0), (.int 0 0), (.int 3 0), (.ref 154), (.bool true), (.int 181 0), (.ref 155), .none, (.ref 156), (.ref 157), (.ref 158), (.int 2365 0), (.int 82 0), (.str (Str.ofString "/claim/cut.py") 2366)]), #[]⟩
noncomputable def ob160v27 (P : Params) : Obj := ⟨(.type "function"), none, (.func ⟨(Str.ofString "in_table_c8"), (Str.ofString "in_table_c8"), F15.1, .stmts F15.2.1, F15.2.2, 3, [], .none, .none, .none, (.str (Str.ofString "cpy313.stringprep") 271), none, (.ref 159), .none, 0⟩), #[]⟩
noncomputable def ob161v27 (P : Params) : Obj := ⟨(.type "tuple"), none, (.seq #[] 0), #[]⟩
noncomputable def ob162v27 (P : Params) : Obj := ⟨.none, none, (.fields #[]), #[]⟩
noncomputable def ob163v27 (P : Params) : Obj := ⟨.none, none, (.func ⟨(Str.ofString "_law_numbers"), (Str.ofString "_law_numbers"), F17.1, .stmts F17.2.1, F17.2.2, 0, [], .none, .none, .none, .none, none, .none, .none, 0⟩), #[]⟩
noncomputable def ob164v27 (P : Params) : Obj := ⟨(.type "code"), none, (.fields #[(.str (Str.ofString "_law_numbers") 2370), (.str (Str.ofString "_law_numbers") 2371), (.str (Str.ofString "/claim/cut.py") 2372), (.int 85 0), (.int 1 0), (.int 0 0), (.int 0 0), (.int 3 0), (.ref 161), (.bool true), (.int 181 0), (.ref 162), .none, .none, .none, (.ref 163), (.int 2373 0), (.int 85 0), (.str (Str.ofString "/claim/cut.py") 2374)]), #[]⟩
noncomputable def ob165v27 (P : Params) : Obj := ⟨(.type "function"), none, (.func ⟨(Str.ofString "_law_numbers"), (Str.ofString "_law_numbers"), F17.1, .stmts F17.2.1, F17.2.2, 3, [], .none, .none, .none, (.str (Str.ofString "law_tr0058_01") 2368), none, (.ref 164), .none, 0⟩), #[]⟩
noncomputable def ob166v27 (P : Params) : Obj := ⟨(.type "tuple"), none, (.seq #[] 0), #[]⟩
noncomputable def ob167v27 (P : Params) : Obj := ⟨.none, none, (.fields #[]), #[]⟩
noncomputable def ob168v27 (P : Params) : Obj := ⟨(.type "tuple"), none, (.seq #[(.str (Str.ofString "number") 2379), (.str (Str.ofString "fonts") 2380), (.str (Str.ofString "ahead") 2381), (.str (Str.ofString "letter") 2382), (.str (Str.ofString "nth") 2383)] 0), #[]⟩
noncomputable def ob169v27 (P : Params) : Obj := ⟨(.type "tuple"), none, (.seq #[] 0), #[]⟩
noncomputable def ob170v27 (P : Params) : Obj := ⟨.none, none, (.func ⟨(Str.ofString "_law_written"), (Str.ofString "_law_written"), F18.1, .stmts F18.2.1, F18.2.2, 0, [], .none, .none, .none, .none, none, .none, .none, 0⟩), #[]⟩
noncomputable def ob171v27 (P : Params) : Obj := ⟨(.type "code"), none, (.fields #[(.str (Str.ofString "_law_written") 2376), (.str (Str.ofString "_law_written") 2377), (.str (Str.ofString "/claim/cut.py") 2378), (.int 88 0), (.int 1 0), (.int 0 0), (.int 0 0), (.int 3 0), (.ref 166), (.bool true), (.int 181 0), (.ref 167), .none, (.ref 168), (.ref 169), (.ref 170), (.int 2384 0), (.int 88 0), (.str (Str.ofString "/claim/cut.py") 2385)]), #[]⟩
noncomputable def ob172v27 (P : Params) : Obj := ⟨(.type "function"), none, (.func ⟨(Str.ofString "_law_written"), (Str.ofString "_law_written"), F18.1, .stmts F18.2.1, F18.2.2, 3, [], .none, .none, .none, (.str (Str.ofString "law_tr0058_01") 2368), none, (.ref 171), .none, 0⟩), #[]⟩
noncomputable def ob173v27 (P : Params) : Obj := ⟨(.type "tuple"), none, (.seq #[] 0), #[]⟩
noncomputable def ob174v27 (P : Params) : Obj := ⟨.none, none, (.fields #[]), #[]⟩
noncomputable def ob175v27 (P : Params) : Obj := ⟨(.type "tuple"), none, (.seq #[(.str (Str.ofString "text") 2390), (.str (Str.ofString "bridges") 2391), (.str (Str.ofString "sign") 2392)] 0), #[]⟩
noncomputable def ob176v27 (P : Params) : Obj := ⟨(.type "tuple"), none, (.seq #[] 0), #[]⟩
noncomputable def ob177v27 (P : Params) : Obj := ⟨.none, none, (.func ⟨(Str.ofString "_law_read"), (Str.ofString "_law_read"), F19.1, .stmts F19.2.1, F19.2.2, 0, [], .none, .none, .none, .none, none, .none, .none, 0⟩), #[]⟩
noncomputable def ob178v27 (P : Params) : Obj := ⟨(.type "code"), none, (.fields #[(.str (Str.ofString "_law_read") 2387), (.str (Str.ofString "_law_read") 2388), (.str (Str.ofString "/claim/cut.py") 2389), (.int 94 0), (.int 1 0), (.int 0 0), (.int 0 0), (.int 3 0), (.ref 173), (.bool true), (.int 181 0), (.ref 174), .none, (.ref 175), (.ref 176), (.ref 177), (.int 2393 0), (.int 94 0), (.str (Str.ofString "/claim/cut.py") 2394)]), #[]⟩
noncomputable def ob179v27 (P : Params) : Obj := ⟨(.type "function"), none, (.func ⟨(Str.ofString "_law_read"), (Str.ofString "_law_read"), F19.1, .stmts F19.2.1, F19.2.2, 3, [], .none, .none, .none, (.str (Str.ofString "law_tr0058_01") 2368), none, (.ref 178), .none, 0⟩), #[]⟩
noncomputable def ob180v27 (P : Params) : Obj := ⟨(.type "tuple"), none, (.seq #[] 0), #[]⟩
noncomputable def ob181v27 (P : Params) : Obj := ⟨.none, none, (.fields #[]), #[]⟩
noncomputable def ob182v27 (P : Params) : Obj := ⟨(.type "tuple"), none, (.seq #[(.str (Str.ofString "number") 2399), (.str (Str.ofString "hues") 2400), (.str (Str.ofString "k") 2401)] 0), #[]⟩
noncomputable def ob183v27 (P : Params) : Obj := ⟨(.type "tuple"), none, (.seq #[] 0), #[]⟩
noncomputable def ob184v27 (P : Params) : Obj := ⟨.none, none, (.func ⟨(Str.ofString "_law_hues"), (Str.ofString "_law_hues"), F20.1, .stmts F20.2.1, F20.2.2, 0, [], .none, .none, .none, .none, none, .none, .none, 0⟩), #[]⟩
noncomputable def ob185v27 (P : Params) : Obj := ⟨(.type "code"), none, (.fields #[(.str (Str.ofString "_law_hues") 2396), (.str (Str.ofString "_law_hues") 2397), (.str (Str.ofString "/claim/cut.py") 2398), (.int 106 0), (.int 1 0), (.int 0 0), (.int 0 0), (.int 3 0), (.ref 180), (.bool true), (.int 181 0), (.ref 181), .none, (.ref 182), (.ref 183), (.ref 184), (.int 2402 0), (.int 106 0), (.str (Str.ofString "/claim/cut.py") 2403)]), #[]⟩
noncomputable def ob186v27 (P : Params) : Obj := ⟨(.type "function"), none, (.func ⟨(Str.ofString "_law_hues"), (Str.ofString "_law_hues"), F20.1, .stmts F20.2.1, F20.2.2, 3, [], .none, .none, .none, (.str (Str.ofString "law_tr0058_01") 2368), none, (.ref 185), .none, 0⟩), #[]⟩
noncomputable def ob187v27 (P : Params) : Obj := ⟨(.type "tuple"), none, (.seq #[] 0), #[]⟩
noncomputable def ob188v27 (P : Params) : Obj := ⟨.none, none, (.fields #[]), #[]⟩
noncomputable def ob189v27 (P : Params) : Obj := ⟨.none, none, (.func ⟨(Str.ofString "_law_leads"), (Str.ofString "_law_leads"), F21.1, .stmts F21.2.1, F21.2.2, 0, [], .none, .none, .none, .none, none, .none, .none, 0⟩), #[]⟩
noncomputable def ob190v27 (P : Params) : Obj := ⟨(.type "code"), none, (.fields #[(.str (Str.ofString "_law_leads") 2405), (.str (Str.ofString "_law_leads") 2406), (.str (Str.ofString "/claim/cut.py") 2407), (.int 111 0), (.int 2 0), (.int 0 0), (.int 0 0), (.int 3 0), (.ref 187), (.bool true), (.int 181 0), (.ref 188), .none, .none, .none, (.ref 189), (.int 2408 0), (.int 111 0), (.str (Str.ofString "/claim/cut.py") 2409)]), #[]⟩
noncomputable def ob191v27 (P : Params) : Obj := ⟨(.type "function"), none, (.func ⟨(Str.ofString "_law_leads"), (Str.ofString "_law_leads"), F21.1, .stmts F21.2.1, F21.2.2, 3, [], .none, .none, .none, (.str (Str.ofString "law_tr0058_01") 2368), none, (.ref 190), .none, 0⟩), #[]⟩
noncomputable def ob192v27 (P : Params) : Obj := ⟨(.type "tuple"), none, (.seq #[] 0), #[]⟩
noncomputable def ob193v27 (P : Params) : Obj := ⟨.none, none, (.fields #[]), #[]⟩
noncomputable def ob194v27 (P : Params) : Obj := ⟨(.type "tuple"), none, (.seq #[(.str (Str.ofString "start") 2414), (.str (Str.ofString "bridges") 2415), (.str (Str.ofString "leads") 2416), (.str (Str.ofString "ways") 2417), (.str (Str.ofString "place") 2418), (.str (Str.ofString "planks") 2419)] 0), #[]⟩
noncomputable def ob195v27 (P : Params) : Obj := ⟨(.type "tuple"), none, (.seq #[] 0), #[]⟩
noncomputable def ob196v27 (P : Params) : Obj := ⟨.none, none, (.func ⟨(Str.ofString "_law_alone"), (Str.ofString "_law_alone"), F22.1, .stmts F22.2.1, F22.2.2, 0, [], .none, .none, .none, .none, none, .none, .none, 0⟩), #[]⟩
noncomputable def ob197v27 (P : Params) : Obj := ⟨(.type "code"), none, (.fields #[(.str (Str.ofString "_law_alone") 2411), (.str (Str.ofString "_law_alone") 2412), (.str (Str.ofString "/claim/cut.py") 2413), (.int 119 0), (.int 3 0), (.int 0 0), (.int 0 0), (.int 3 0), (.ref 192), (.bool true), (.int 181 0), (.ref 193), .none, (.ref 194), (.ref 195), (.ref 196), (.int 2420 0), (.int 119 0), (.str (Str.ofString "/claim/cut.py") 2421)]), #[]⟩
noncomputable def ob198v27 (P : Params) : Obj := ⟨(.type "function"), none, (.func ⟨(Str.ofString "_law_alone"), (Str.ofString "_law_alone"), F22.1, .stmts F22.2.1, F22.2.2, 3, [], .none, .none, .none, (.str (Str.ofString "law_tr0058_01") 2368), none, (.ref 197), .none, 0⟩), #[]⟩
noncomputable def ob199v27 (P : Params) : Obj := ⟨(.type "tuple"), none, (.seq #[] 0), #[]⟩
noncomputable def ob200v27 (P : Params) : Obj := ⟨.none, none, (.fields #[]), #[]⟩
noncomputable def ob201v27 (P : Params) : Obj := ⟨(.type "tuple"), none, (.seq #[(.str (Str.ofString "one") 2426), (.str (Str.ofString "other") 2427), (.str (Str.ofString "bridges") 2428), (.str (Str.ofString "leads") 2429), (.str (Str.ofString "pairs") 2430), (.str (Str.ofString "place") 2431), (.str (Str.ofString "planks") 2432), (.str (Str.ofString "goal") 2433), (.str (Str.ofString "pair") 2434), (.str (Str.ofString "both") 2435), (.str (Str.ofString "moved") 2436)] 0), #[]⟩
noncomputable def ob202v27 (P : Params) : Obj := ⟨(.type "tuple"), none, (.seq #[] 0), #[]⟩
noncomputable def ob203v27 (P : Params) : Obj := ⟨.none, none, (.func ⟨(Str.ofString "_law_two"), (Str.ofString "_law_two"), F23.1, .stmts F23.2.1, F23.2.2, 0, [], .none, .none, .none, .none, none, .none, .none, 0⟩), #[]⟩
noncomputable def ob204v27 (P : Params) : Obj := ⟨(.type "code"), none, (.fields #[(.str (Str.ofString "_law_two") 2423), (.str (Str.ofString "_law_two") 2424), (.str (Str.ofString "/claim/cut.py") 2425), (.int 125 0), (.int 4 0), (.int 0 0), (.int 0 0), (.int 3 0), (.ref 199), (.bool true), (.int 181 0), (.ref 200), .none, (.ref 201), (.ref 202), (.ref 203), (.int 2437 0), (.int 125 0), (.str (Str.ofString "/claim/cut.py") 2438)]), #[]⟩
noncomputable def ob205v27 (P : Params) : Obj := ⟨(.type "function"), none, (.func ⟨(Str.ofString "_law_two"), (Str.ofString "_law_two"), F23.1, .stmts F23.2.1, F23.2.2, 3, [], .none, .none, .none, (.str (Str.ofString "law_tr0058_01") 2368), none, (.ref 204), .none, 0⟩), #[]⟩
noncomputable def ob206v27 (P : Params) : Obj := ⟨(.type "tuple"), none, (.seq #[] 0), #[]⟩
noncomputable def ob207v27 (P : Params) : Obj := ⟨.none, none, (.fields #[]), #[]⟩
noncomputable def ob208v27 (P : Params) : Obj := ⟨.none, none, (.func ⟨(Str.ofString "_law_three"), (Str.ofString "_law_three"), F24.1, .stmts F24.2.1, F24.2.2, 0, [], .none, .none, .none, .none, none, .none, .none, 0⟩), #[]⟩
noncomputable def ob209v27 (P : Params) : Obj := ⟨(.type "code"), none, (.fields #[(.str (Str.ofString "_law_three") 2440), (.str (Str.ofString "_law_three") 2441), (.str (Str.ofString "/claim/cut.py") 2442), (.int 135 0), (.int 3 0), (.int 0 0), (.int 0 0), (.int 3 0), (.ref 206), (.bool true), (.int 181 0), (.ref 207), .none, .none, .none, (.ref 208), (.int 2443 0), (.int 135 0), (.str (Str.ofString "/claim/cut.py") 2444)]), #[]⟩
noncomputable def ob210v27 (P : Params) : Obj := ⟨(.type "function"), none, (.func ⟨(Str.ofString "_law_three"), (Str.ofString "_law_three"), F24.1, .stmts F24.2.1, F24.2.2, 3, [], .none, .none, .none, (.str (Str.ofString "law_tr0058_01") 2368), none, (.ref 209), .none, 0⟩), #[]⟩
noncomputable def ob211v27 (P : Params) : Obj := ⟨(.type "tuple"), none, (.seq #[] 0), #[]⟩
noncomputable def ob212v27 (P : Params) : Obj := ⟨.none, none, (.fields #[]), #[]⟩
noncomputable def ob213v27 (P : Params) : Obj := ⟨(.type "tuple"), none, (.seq #[(.str (Str.ofString "a") 2449), (.str (Str.ofString "b") 2450), (.str (Str.ofString "c") 2451), (.str (Str.ofString "pairs") 2452), (.str (Str.ofString "threes") 2453), (.str (Str.ofString "x") 2454), (.str (Str.ofString "y") 2455), (.str (Str.ofString "z") 2456), (.str (Str.ofString "volume") 2457)] 0), #[]⟩
noncomputable def ob214v27 (P : Params) : Obj := ⟨(.type "tuple"), none, (.seq #[] 0), #[]⟩
noncomputable def ob215v27 (P : Params) : Obj := ⟨.none, none, (.func ⟨(Str.ofString "_law_agree"), (Str.ofString "_law_agree"), F25.1, .stmts F25.2.1, F25.2.2, 0, [], .none, .none, .none, .none, none, .none, .none, 0⟩), #[]⟩
noncomputable def ob216v27 (P : Params) : Obj := ⟨(.type "code"), none, (.fields #[(.str (Str.ofString "_law_agree") 2446), (.str (Str.ofString "_law_agree") 2447), (.str (Str.ofString "/claim/cut.py") 2448), (.int 145 0), (.int 5 0), (.int 0 0), (.int 0 0), (.int 3 0), (.ref 211), (.bool true), (.int 181 0), (.ref 212), .none, (.ref 213), (.ref 214), (.ref 215), (.int 2458 0), (.int 145 0), (.str (Str.ofString "/claim/cut.py") 2459)]), #[]⟩
noncomputable def ob217v27 (P : Params) : Obj := ⟨(.type "function"), none, (.func ⟨(Str.ofString "_law_agree"), (Str.ofString "_law_agree"), F25.1, .stmts F25.2.1, F25.2.2, 3, [], .none, .none, .none, (.str (Str.ofString "law_tr0058_01") 2368), none, (.ref 216), .none, 0⟩), #[]⟩
noncomputable def ob218v27 (P : Params) : Obj := ⟨(.type "tuple"), none, (.seq #[] 0), #[]⟩
noncomputable def ob219v27 (P : Params) : Obj := ⟨.none, none, (.fields #[]), #[]⟩
noncomputable def ob220v27 (P : Params) : Obj := ⟨.none, none, (.func ⟨(Str.ofString "law"), (Str.ofString "law"), F26.1, .stmts F26.2.1, F26.2.2, 0, [], .none, .none, .none, .none, none, .none, .none, 0⟩), #[]⟩
noncomputable def ob221v27 (P : Params) : Obj := ⟨(.type "code"), none, (.fields #[(.str (Str.ofString "law") 2461), (.str (Str.ofString "law") 2462), (.str (Str.ofString "/claim/cut.py") 2463), (.int 156 0), (.int 1 0), (.int 0 0), (.int 0 0), (.int 3 0), (.ref 218), (.bool true), (.int 181 0), (.ref 219), .none, .none, .none, (.ref 220), (.int 2464 0), (.int 156 0), (.str (Str.ofString "/claim/cut.py") 2465)]), #[]⟩
noncomputable def ob222v27 (P : Params) : Obj := ⟨(.type "function"), none, (.func ⟨(Str.ofString "law"), (Str.ofString "law"), F26.1, .stmts F26.2.1, F26.2.2, 3, [], .none, .none, .none, (.str (Str.ofString "law_tr0058_01") 2368), none, (.ref 221), .none, 0⟩), #[]⟩
noncomputable def tree27 (P : Params) : BT := (.node (boot_o_0 P) (.node (boot_o_1 P) (.node (ob3v27 P) (.node (boot_o_7 P) (.node (ob15v8 P) (.node (ob31v8 P) (.node (ob63v9 P) (.node (ob127v13 P) .nil .nil) (.node (ob191v27 P) .nil .nil)) (.node (ob95v11 P) (.node (ob159v27 P) .nil .nil) .nil)) (.node (ob47v8 P) (.node (ob79v11 P) (.node (ob143v15 P) .nil .nil) (.node (ob207v27 P) .nil .nil)) (.node (ob111v11 P) (.node (ob175v27 P) .nil .nil) .nil))) (.node (ob23v8 P) (.node (ob39v8 P) (.node (ob71v9 P) (.node (ob135v14 P) .nil .nil) (.node (ob199v27 P) .nil .nil)) (.node (ob103v11 P) (.node (ob167v27 P) .nil .nil) .nil)) (.node (ob55v8 P) (.node (ob87v11 P) (.node (ob151v15 P) .nil .nil) (.node (ob215v27 P) .nil .nil)) (.node (ob119v12 P) (.node (ob183v27 P) .nil .nil) .nil)))) (.node (ob11v0 P) (.node (ob19v8 P) (.node (ob35v8 P) (.node (ob67v9 P) (.node (ob131v14 P) .nil .nil) (.node (ob195v27 P) .nil .nil)) (.node (ob99v11 P) (.node (ob163v27 P) .nil .nil) .nil)) (.node (ob51v8 P) (.node (ob83v11 P) (.node (ob147v15 P) .nil .nil) (.node (ob211v27 P) .nil .nil)) (.node (ob115v11 P) (.node (ob179v27 P) .nil .nil) .nil))) (.node (ob27v8 P) (.node (ob43v8 P) (.node (ob75v10 P) (.node (ob139v15 P) .nil .nil) (.node (ob203v27 P) .nil .nil)) (.node (ob107v11 P) (.node (ob171v27 P) .nil .nil) .nil)) (.node (ob59v8 P) (.node (ob91v11 P) (.node (ob155v27 P) .nil .nil) (.node (ob219v27 P) .nil .nil)) (.node (ob123v12 P) (.node (ob187v27 P) .nil .nil) .nil))))) (.node (boot_o_5 P) (.node (boot_o_9 P) (.node (ob17v8 P) (.node (ob33v8 P) (.node (ob65v9 P) (.node (ob129v13 P) .nil .nil) (.node (ob193v27 P) .nil .nil)) (.node (ob97v11 P) (.node (ob161v27 P) .nil .nil) .nil)) (.node (ob49v8 P) (.node (ob81v11 P) (.node (ob145v15 P) .nil .nil) (.node (ob209v27 P) .nil .nil)) (.node (ob113v11 P) (.node (ob177v27 P) .nil .nil) .nil))) (.node (ob25v8 P) (.node (ob41v8 P) (.node (ob73v10 P) (.node (ob137v15 P) .nil .nil) (.node (ob201v27 P) .nil .nil)) (.node (ob105v11 P) (.node (ob169v27 P) .nil .nil) .nil)) (.node (ob57v8 P) (.node (ob89v11 P) (.node (ob153v15 P) .nil .nil) (.node (ob217v27 P) .nil .nil)) (.node (ob121v12 P) (.node (ob185v27 P) .nil .nil) .nil)))) (.node (ob13v0 P) (.node (ob21v8 P) (.node (ob37v8 P) (.node (ob69v9 P) (.node (ob133v14 P) .nil .nil) (.node (ob197v27 P) .nil .nil)) (.node (ob101v11 P) (.node (ob165v27 P) .nil .nil) .nil)) (.node (ob53v8 P) (.node (ob85v11 P) (.node (ob149v15 P) .nil .nil) (.node (ob213v27 P) .nil .nil)) (.node (ob117v11 P) (.node (ob181v27 P) .nil .nil) .nil))) (.node (ob29v8 P) (.node (ob45v8 P) (.node (ob77v10 P) (.node (ob141v15 P) .nil .nil) (.node (ob205v27 P) .nil .nil)) (.node (ob109v11 P) (.node (ob173v27 P) .nil .nil) .nil)) (.node (ob61v9 P) (.node (ob93v11 P) (.node (ob157v27 P) .nil .nil) (.node (ob221v27 P) .nil .nil)) (.node (ob125v13 P) (.node (ob189v27 P) .nil .nil) .nil)))))) (.node (ob2v8 P) (.node (boot_o_4 P) (.node (boot_o_8 P) (.node (ob16v8 P) (.node (ob32v8 P) (.node (ob64v9 P) (.node (ob128v13 P) .nil .nil) (.node (ob192v27 P) .nil .nil)) (.node (ob96v11 P) (.node (ob160v27 P) .nil .nil) .nil)) (.node (ob48v8 P) (.node (ob80v11 P) (.node (ob144v15 P) .nil .nil) (.node (ob208v27 P) .nil .nil)) (.node (ob112v11 P) (.node (ob176v27 P) .nil .nil) .nil))) (.node (ob24v8 P) (.node (ob40v8 P) (.node (ob72v10 P) (.node (ob136v14 P) .nil .nil) (.node (ob200v27 P) .nil .nil)) (.node (ob104v11 P) (.node (ob168v27 P) .nil .nil) .nil)) (.node (ob56v8 P) (.node (ob88v11 P) (.node (ob152v15 P) .nil .nil) (.node (ob216v27 P) .nil .nil)) (.node (ob120v12 P) (.node (ob184v27 P) .nil .nil) .nil)))) (.node (ob12v27 P) (.node (ob20v8 P) (.node (ob36v8 P) (.node (ob68v9 P) (.node (ob132v14 P) .nil .nil) (.node (ob196v27 P) .nil .nil)) (.node (ob100v11 P) (.node (ob164v27 P) .nil .nil) .nil)) (.node (ob52v8 P) (.node (ob84v11 P) (.node (ob148v15 P) .nil .nil) (.node (ob212v27 P) .nil .nil)) (.node (ob116v11 P) (.node (ob180v27 P) .nil .nil) .nil))) (.node (ob28v8 P) (.node (ob44v8 P) (.node (ob76v10 P) (.node (ob140v15 P) .nil .nil) (.node (ob204v27 P) .nil .nil)) (.node (ob108v11 P) (.node (ob172v27 P) .nil .nil) .nil)) (.node (ob60v8 P) (.node (ob92v11 P) (.node (ob156v27 P) .nil .nil) (.node (ob220v27 P) .nil .nil)) (.node (ob124v12 P) (.node (ob188v27 P) .nil .nil) .nil))))) (.node (boot_o_6 P) (.node (boot_o_10 P) (.node (ob18v8 P) (.node (ob34v8 P) (.node (ob66v9 P) (.node (ob130v14 P) .nil .nil) (.node (ob194v27 P) .nil .nil)) (.node (ob98v11 P) (.node (ob162v27 P) .nil .nil) .nil)) (.node (ob50v8 P) (.node (ob82v11 P) (.node (ob146v15 P) .nil .nil) (.node (ob210v27 P) .nil .nil)) (.node (ob114v11 P) (.node (ob178v27 P) .nil .nil) .nil))) (.node (ob26v8 P) (.node (ob42v8 P) (.node (ob74v10 P) (.node (ob138v15 P) .nil .nil) (.node (ob202v27 P) .nil .nil)) (.node (ob106v11 P) (.node (ob170v27 P) .nil .nil) .nil)) (.node (ob58v8 P) (.node (ob90v11 P) (.node (ob154v27 P) .nil .nil) (.node (ob218v27 P) .nil .nil)) (.node (ob122v12 P) (.node (ob186v27 P) .nil .nil) .nil)))) (.node (ob14v0 P) (.node (ob22v8 P) (.node (ob38v8 P) (.node (ob70v9 P) (.node (ob134v14 P) .nil .nil) (.node (ob198v27 P) .nil .nil)) (.node (ob102v11 P) (.node (ob166v27 P) .nil .nil) .nil)) (.node (ob54v8 P) (.node (ob86v11 P) (.node (ob150v15 P) .nil .nil) (.node (ob214v27 P) .nil .nil)) (.node (ob118v12 P) (.node (ob182v27 P) .nil .nil) .nil))) (.node (ob30v8 P) (.node (ob46v8 P) (.node (ob78v10 P) (.node (ob142v15 P) .nil .nil) (.node (ob206v27 P) .nil .nil)) (.node (ob110v11 P) (.node (ob174v27 P) .nil .nil) .nil)) (.node (ob62v9 P) (.node (ob94v11 P) (.node (ob158v27 P) .nil .nil) (.node (ob222v27 P) .nil .nil)) (.node (ob126v13 P) (.node (ob190v27 P) .nil .nil) .nil)))))))
-- state 27: n 223 toks 2467 pos ⟨156, 0, 172, 63⟩
noncomputable def st27 (w : World) (os : OsState) : SharedT := ⟨tree27 w.params, 223, lifeN, #[], drawnN, 2467, os⟩
-- fin toks 2467 n 223 framePos ⟨0, 0, 0, 0⟩ frame 14
noncomputable def KK (P : Params) : Frag := (nat_lit 2, ob2v8 P) :: (nat_lit 3, ob3v27 P) :: (nat_lit 6, boot_o_6 P) :: (nat_lit 15, ob15v8 P) :: (nat_lit 17, ob17v8 P) :: (nat_lit 18, ob18v8 P) :: (nat_lit 20, ob20v8 P) :: (nat_lit 21, ob21v8 P) :: (nat_lit 22, ob22v8 P) :: (nat_lit 24, ob24v8 P) :: (nat_lit 25, ob25v8 P) :: (nat_lit 27, ob27v8 P) :: (nat_lit 28, ob28v8 P) :: (nat_lit 29, ob29v8 P) :: (nat_lit 36, ob36v8 P) :: (nat_lit 37, ob37v8 P) :: (nat_lit 38, ob38v8 P) :: (nat_lit 39, ob39v8 P) :: (nat_lit 42, ob42v8 P) :: (nat_lit 49, ob49v8 P) :: (nat_lit 50, ob50v8 P) :: (nat_lit 51, ob51v8 P) :: (nat_lit 54, ob54v8 P) :: (nat_lit 56, ob56v8 P) :: (nat_lit 57, ob57v8 P) :: (nat_lit 59, ob59v8 P) :: (nat_lit 60, ob60v8 P) :: (nat_lit 68, ob68v9 P) :: (nat_lit 72, ob72v10 P) :: (nat_lit 74, ob74v10 P) :: (nat_lit 75, ob75v10 P) :: (nat_lit 77, ob77v10 P) :: (nat_lit 78, ob78v10 P) :: (nat_lit 79, ob79v11 P) :: (nat_lit 118, ob118v12 P) :: (nat_lit 120, ob120v12 P) :: (nat_lit 121, ob121v12 P) :: (nat_lit 123, ob123v12 P) :: (nat_lit 124, ob124v12 P) :: (nat_lit 126, ob126v13 P) :: (nat_lit 130, ob130v14 P) :: (nat_lit 132, ob132v14 P) :: (nat_lit 133, ob133v14 P) :: (nat_lit 135, ob135v14 P) :: (nat_lit 136, ob136v14 P) :: (nat_lit 150, ob150v15 P) :: (nat_lit 154, ob154v27 P) :: (nat_lit 156, ob156v27 P) :: (nat_lit 157, ob157v27 P) :: (nat_lit 159, ob159v27 P) :: (nat_lit 160, ob160v27 P) :: (nat_lit 161, ob161v27 P) :: (nat_lit 164, ob164v27 P) :: (nat_lit 165, ob165v27 P) :: (nat_lit 166, ob166v27 P) :: (nat_lit 168, ob168v27 P) :: (nat_lit 169, ob169v27 P) :: (nat_lit 171, ob171v27 P) :: (nat_lit 172, ob172v27 P) :: (nat_lit 173, ob173v27 P) :: (nat_lit 175, ob175v27 P) :: (nat_lit 176, ob176v27 P) :: (nat_lit 178, ob178v27 P) :: (nat_lit 179, ob179v27 P) :: (nat_lit 180, ob180v27 P) :: (nat_lit 182, ob182v27 P) :: (nat_lit 183, ob183v27 P) :: (nat_lit 185, ob185v27 P) :: (nat_lit 186, ob186v27 P) :: (nat_lit 187, ob187v27 P) :: (nat_lit 190, ob190v27 P) :: (nat_lit 191, ob191v27 P) :: (nat_lit 192, ob192v27 P) :: (nat_lit 194, ob194v27 P) :: (nat_lit 195, ob195v27 P) :: (nat_lit 197, ob197v27 P) :: (nat_lit 198, ob198v27 P) :: (nat_lit 199, ob199v27 P) :: (nat_lit 201, ob201v27 P) :: (nat_lit 202, ob202v27 P) :: (nat_lit 204, ob204v27 P) :: (nat_lit 205, ob205v27 P) :: (nat_lit 206, ob206v27 P) :: (nat_lit 209, ob209v27 P) :: (nat_lit 210, ob210v27 P) :: (nat_lit 211, ob211v27 P) :: (nat_lit 213, ob213v27 P) :: (nat_lit 214, ob214v27 P) :: (nat_lit 216, ob216v27 P) :: (nat_lit 217, ob217v27 P) :: (nat_lit 218, ob218v27 P) :: (nat_lit 221, ob221v27 P) :: (nat_lit 222, ob222v27 P) :: []
noncomputable def KA : List Addr := nat_lit 2 :: nat_lit 3 :: nat_lit 6 :: nat_lit 15 :: nat_lit 17 :: nat_lit 18 :: nat_lit 20 :: nat_lit 21 :: nat_lit 22 :: nat_lit 24 :: nat_lit 25 :: nat_lit 27 :: nat_lit 28 :: nat_lit 29 :: nat_lit 36 :: nat_lit 37 :: nat_lit 38 :: nat_lit 39 :: nat_lit 42 :: nat_lit 49 :: nat_lit 50 :: nat_lit 51 :: nat_lit 54 :: nat_lit 56 :: nat_lit 57 :: nat_lit 59 :: nat_lit 60 :: nat_lit 68 :: nat_lit 72 :: nat_lit 74 :: nat_lit 75 :: nat_lit 77 :: nat_lit 78 :: nat_lit 79 :: nat_lit 118 :: nat_lit 120 :: nat_lit 121 :: nat_lit 123 :: nat_lit 124 :: nat_lit 126 :: nat_lit 130 :: nat_lit 132 :: nat_lit 133 :: nat_lit 135 :: nat_lit 136 :: nat_lit 150 :: nat_lit 154 :: nat_lit 156 :: nat_lit 157 :: nat_lit 159 :: nat_lit 160 :: nat_lit 161 :: nat_lit 164 :: nat_lit 165 :: nat_lit 166 :: nat_lit 168 :: nat_lit 169 :: nat_lit 171 :: nat_lit 172 :: nat_lit 173 :: nat_lit 175 :: nat_lit 176 :: nat_lit 178 :: nat_lit 179 :: nat_lit 180 :: nat_lit 182 :: nat_lit 183 :: nat_lit 185 :: nat_lit 186 :: nat_lit 187 :: nat_lit 190 :: nat_lit 191 :: nat_lit 192 :: nat_lit 194 :: nat_lit 195 :: nat_lit 197 :: nat_lit 198 :: nat_lit 199 :: nat_lit 201 :: nat_lit 202 :: nat_lit 204 :: nat_lit 205 :: nat_lit 206 :: nat_lit 209 :: nat_lit 210 :: nat_lit 211 :: nat_lit 213 :: nat_lit 214 :: nat_lit 216 :: nat_lit 217 :: nat_lit 218 :: nat_lit 221 :: nat_lit 222 :: []
noncomputable def viewOf (p : Program) : Program := { p with main := { p.main with body := [1, 2, 4, 5, 6, 9, 11, 13, 15, 17, 18, 19, 20, 21, 22, 23, 24, 25, 26].filterMap (fun i => p.main.body[i]?) } }
noncomputable def QQs : { q : Program // viewOf PySem.Challenge.pw_tr0058_01 = q } := ⟨⟨⟨[_, _, _, _, _, _, _, _, _, _, _, _, _, _, _, _, _, _, _], _, _, _, _⟩, _, _, _, _, _⟩, rfl⟩
noncomputable def QQ : Program := QQs.1
end
section
open PySem PySem.W PyProof.Rows PySem.Calls
open PySem.Spec
noncomputable abbrev PM (w : World) : Model := model PySem.Challenge.rw_tr0058_01.row.prog w
/-- what stands around a call of one of the text's defs -/
structure Cx (w : World) (mean : ExcName → Option Value) (mg mb : Str → Option Value) (A A₀ : Around) (env : Env) (outer : List Env) (base h₀ : Heap) (L : Addr) (m : Str → Option Value) (news : List (Addr × Obj)) (s : Shared) : Prop where
  B : Below A₀ base outer h₀
  F : Fr h₀ L s.heap m
  X : (KK w.params).In h₀
  N : News h₀ L s.heap news
  T : Top QQ LL mean mg mb h₀
  hA : A.frames = some (env :: outer)
  hf : env.frame = some L
  hk : env.scope.kind = .function
  hd : A.depth + 8 < recursionLimit
  hu : A.units + 128 < cLine
  hh : A.handled = none
end
section
open PySem PySem.W PyProof.Rows PySem.Calls PySem.Spec
/-- a written set of ints -/
theorem setObj_ints {prog : Program} {w : World} (ks : List Int) (es : Array (Int × Value)) (ep : Nat) (t : SetTable)
    (h1 : (es.toList.all fun e => match e.2 with | .int k _ => e.1 == hashInt k && ks.contains k | _ => false) = true)
    (h2 : (ks.all fun k => es.toList.any fun e => Value.isInt k e.2) = true) (hf : t.fits es.size = true) :
    Obj.SetObjOf (intKind prog w) (⟨.type "set", none, .set es ep t, #[]⟩ : Obj) (fun k => ks.contains k) es.size := by
  refine ⟨⟨rfl, rfl, rfl⟩, es, ep, t, rfl, fun e he => ?_, fun k => ⟨fun h => ?_, fun ⟨e, he, hk⟩ => ?_⟩, rfl, hf⟩
  · have := List.all_eq_true.mp h1 e he
    revert this
    obtain ⟨hh, v⟩ := e
    cases v <;> simp only [Bool.false_eq_true, false_implies]
    rename_i k tk
    intro h
    rw [Bool.and_eq_true, beq_iff_eq] at h
    exact ⟨⟨k, by simp [intKind, Value.isInt], h.1⟩, rfl⟩
  · have hk : k ∈ ks := by simpa using h
    have := List.all_eq_true.mp h2 k hk
    obtain ⟨e, he, hi⟩ := List.any_eq_true.mp this
    exact ⟨e, he, hi⟩
  · have := List.all_eq_true.mp h1 e he
    obtain ⟨tk, ev⟩ := Value.isInt_shape (k := k) hk
    obtain ⟨hh, v⟩ := e
    dsimp only at ev
    subst ev
    simp only [Bool.and_eq_true] at this
    exact this.2
noncomputable def b1L : List Int := [173, 847, 6150, 6155, 6156, 6157, 8203, 8204, 8205, 8288, 65279, 65024, 65025, 65026, 65027, 65028, 65029, 65030, 65031, 65032, 65033, 65034, 65035, 65036, 65037, 65038, 65039]
noncomputable def c6L : List Int := [65529, 65530, 65531, 65532, 65533]
noncomputable def c8L : List Int := [832, 833, 8206, 8207, 8234, 8235, 8236, 8237, 8238, 8298, 8299, 8300, 8301, 8302, 8303]
theorem set_b1 (w : World) : ∃ o : Obj, (KK w.params).lookup 68 = some o ∧ Obj.SetObjOf (intKind PySem.Challenge.rw_tr0058_01.row.prog w) o (fun k => b1L.contains k) 27 :=
  ⟨_, rfl, setObj_ints b1L _ _ _ (by decide +kernel) (by decide +kernel) rfl⟩
theorem set_c6 (w : World) : ∃ o : Obj, (KK w.params).lookup 126 = some o ∧ Obj.SetObjOf (intKind PySem.Challenge.rw_tr0058_01.row.prog w) o (fun k => c6L.contains k) 5 :=
  ⟨_, rfl, setObj_ints c6L _ _ _ (by decide +kernel) (by decide +kernel) rfl⟩
theorem set_c8 (w : World) : ∃ o : Obj, (KK w.params).lookup 150 = some o ∧ Obj.SetObjOf (intKind PySem.Challenge.rw_tr0058_01.row.prog w) o (fun k => c8L.contains k) 15 :=
  ⟨_, rfl, setObj_ints c8L _ _ _ (by decide +kernel) (by decide +kernel) rfl⟩
section
variable {w : World} {A : Around} {E Q : Value → Shared → Prop} {s : Shared} {h₀ : Heap} {L : Addr} {m : Str → Option Value} {k : Int} {t : Tok}
theorem in_b1 (F : Fr h₀ L s.heap m) (X : (KK w.params).In h₀) (h : Q (.bool (b1L.contains k)) { s with toks := s.toks + 1 }) : wpAny (PM w) A (compareOp .In (.int k t) (.ref 68)) Q E s :=
  let ⟨_, ho, hs⟩ := set_b1 w; in_argsetI F hs (X _ _ ho) (by decide) h
theorem in_c6 (F : Fr h₀ L s.heap m) (X : (KK w.params).In h₀) (h : Q (.bool (c6L.contains k)) { s with toks := s.toks + 1 }) : wpAny (PM w) A (compareOp .In (.int k t) (.ref 126)) Q E s :=
  let ⟨_, ho, hs⟩ := set_c6 w; in_argsetI F hs (X _ _ ho) (by decide) h
theorem in_c8 (F : Fr h₀ L s.heap m) (X : (KK w.params).In h₀) (h : Q (.bool (c8L.contains k)) { s with toks := s.toks + 1 }) : wpAny (PM w) A (compareOp .In (.int k t) (.ref 150)) Q E s :=
  let ⟨_, ho, hs⟩ := set_c8 w; in_argsetI F hs (X _ _ ho) (by decide) h
end
local macro_rules | `(tactic| walk_at "compareOp In int ref") => `(tactic| (k_here; (with_reducible show wpAny _ _ (compareOp CmpOp.In (Value.int _ _) (Value.ref _)) _ _ _); k_dflt (first | refine' in_b1 ?F ?X ?_ | refine' in_c6 ?F ?X ?_ | refine' in_c8 ?F ?X ?_); (case F => k_asm); (case X => k_asm)))
set_option maxRecDepth 100000 in
set_option maxHeartbeats 8000000 in
theorem b1_c {w : World} {mean : ExcName → Option Value} {mg mb : Str → Option Value} {A A₀ : Around} {env : Env} {outer : List Env} {base h₀ : Heap} {L : Addr} {m : Str → Option Value} {news : List (Addr × Obj)} {s : Shared} {Q E : Value → Shared → Prop}
    (C : Cx w mean mg mb A A₀ env outer base h₀ L m news s) {c : Nat} {tk : Tok} (hc : c < 1114112)
    (hret : ∀ h' tk', Fr h₀ L h' m → News h₀ L h' news → Q (.bool (b1L.contains (c : Int))) { s with heap := h', toks := tk' }) :
    wpAny (PM w) A (call (.ref 78) [.str ⟨#[c]⟩ tk]) Q E s := by
  obtain ⟨B, F, X, N, T, hA, hf, hk, hd, hu, hh⟩ := C
  refine wpAny_call ?_
  delta PM; revert X; k_fill; intro X
  k_dflt (refine' code_def (binds := [(Str.ofString "code", .str ⟨#[c]⟩ tk)]) ?k1 ?k2 ?k3 ?k4 ?k5 ?kA ?kF ?kK ?k6 ?k7 ?k8 ?k9 ?kB ?_ ?c2 ?c3 ?c4 ?c5; (case kA => exact hA); (case kF => exact hf); (case kK => exact hk); (case k1 => exact B); (case k2 => exact F); (case k3 => exact X); (case k4 => exact N); (case k5 => exact T); (case k6 => k_is); (case k7 => k_is); (case k8 => omega); (case k9 => exact BindsTo.of_eq rfl); (case c5 => decide); (case kB => exact locs rfl); (case c2 => exact rfl); (case c3 => exact rfl); (case c4 => exact rfl); k_whole; intro g' L' h' FG' F' N' B' X' T'; (try dsimp only); (try k_fold))
  clear B F X N T FG'
  k_steps
  exact leaveK_ (by assumption) (by assumption) fun F N => hret _ _ F N
end
section
open PySem PySem.W PyProof.Rows PySem.Calls PySem.Spec
theorem fm_bd (n k : Int) (h : 0 < k) : 0 ≤ n.fmod k ∧ n.fmod k < k := ⟨Int.fmod_nonneg_of_pos n h, Int.fmod_lt_of_pos n h⟩
noncomputable abbrev fontL : List Int := [97, 65, 119808, 119860, 119912, 120016, 120172, 120224, 120276, 120328, 120380, 120432]
theorem chrA (k : Nat) (n : Int) : 0 ≤ [97, 65, 119808, 119860, 119912, 120016, 120172, 120224, 120276, 120328, 120380, 120432].getD k 0 + n.fmod 5 ∧ [97, 65, 119808, 119860, 119912, 120016, 120172, 120224, 120276, 120328, 120380, 120432].getD k 0 + n.fmod 5 ≤ 1114111 := by
  have h1 := kmn_any (l := [97, 65, 119808, 119860, 119912, 120016, 120172, 120224, 120276, 120328, 120380, 120432]) (i := k) (d := 0) (lo := 0) (hi := 120432) (by decide)
  have h2 := fm_bd n 5 (by decide)
  omega
theorem chrB (n : Int) : 0 ≤ 65529 + n.fmod 5 ∧ 65529 + n.fmod 5 ≤ 1114111 := by have := fm_bd n 5 (by decide); omega
theorem chrC (n : Int) : 0 ≤ 8234 + n.fmod 5 ∧ 8234 + n.fmod 5 ≤ 1114111 := by have := fm_bd n 5 (by decide); omega
theorem fm4 (n : Int) : 0 ≤ n.fmod 4 ∧ n.fmod 4 < 4 := fm_bd n 4 (by decide)
noncomputable abbrev letterC (n : Int) : Nat := (fontL.getD ((n.fdiv 20).fmod 12).toNat 0 + n.fmod 5).toNat
noncomputable abbrev aheadS (n : Int) : Str := [Str.ofString "", Str.ofString "​", Str.ofString "‌", Str.ofString "‍"].getD ((n.fdiv 240).fmod 4).toNat Str.empty
noncomputable abbrev tailS (n : Int) : Str := [Str.ofString "", (⟨#[(65529 + (n.fdiv 960).fmod 5).toNat]⟩ : Str), ⟨#[(8234 + (n.fdiv 960).fmod 5).toNat]⟩, Str.ofString "\""].getD ((n.fdiv 5).fmod 4).toNat Str.empty
noncomputable def written (n : Int) : Str := aheadS n ++ ⟨#[letterC n]⟩ ++ tailS n
theorem getD_len {l : List Str} {k b : Nat} (h : l.all (fun x => decide (x.length ≤ b)) = true) : (l.getD k Str.empty).length ≤ b := by
  rw [List.getD_eq_getElem?_getD]
  cases e : l[k]? with
  | none => exact Nat.zero_le _
  | some x => exact of_decide_eq_true (List.all_eq_true.mp h x (List.mem_of_getElem? e))
theorem ahead_len (n : Int) : (aheadS n).length ≤ 1 := getD_len (by decide +kernel)
theorem tail_len (n : Int) : (tailS n).length ≤ 1 := getD_len (by
  rw [List.all_cons, List.all_cons, List.all_cons, List.all_cons, List.all_nil]
  rfl)
theorem one_len (c : Nat) : (⟨#[c]⟩ : Str).length = 1 := rfl
theorem written_len (n : Int) : (written n).length ≤ 3 := by
  unfold written
  rw [Str.length_append, Str.length_append, one_len]
  have := ahead_len n
  have := tail_len n
  omega
section
variable {prog : Program} {w : World} {A : Around} {E : Value → Shared → Prop} {s : Shared} {x y : Str} {t u : Tok} {Q : Value → Shared → Prop}
theorem add_small (hx : x.length ≤ 65536) (hy : y.length ≤ 65536) (h : ∀ t' tk, Q (.str (x ++ y) t') { s with toks := tk }) : wpAny (model prog w) A (binaryOp .Add (.str x t) (.str y u)) Q E s :=
  PyProof.Rows.add_str h (by rw [sizeLine_eq]; omega)
end
theorem wr_len1 (n : Int) : (aheadS n ++ ⟨#[letterC n]⟩).length ≤ 65536 := by
  rw [Str.length_append, one_len]
  have := ahead_len n
  omega
local macro_rules | `(tactic| walk_at "call builtin:chr") => `(tactic| (k_here; (with_reducible show wpAny _ _ (call (Value.builtin "chr") [Value.int _ _]) _ _ _); refine' chr_of_range ?ca ?cb ?_; (case ca => first | exact (chrA _ _).1 | exact (chrB _).1 | exact (chrC _).1); (case cb => first | exact (chrA _ _).2 | exact (chrB _).2 | exact (chrC _).2)))
local macro_rules | `(tactic| walk_at "subscriptTail") => `(tactic| (k_here; (with_reducible show wpAny _ _ (subscriptTail _ _ (Value.ref _) (Value.int (Int.fmod _ 4) _)) _ _ _); k_dflt (refine' KTb.item_list ?ktbl ?ktbw ?ktb0 ?ktb1 ?ktbf ?_; (case ktbl => ktb_isList); (case ktbw => repeat constructor); (case ktb0 => exact (fm4 _).1); (case ktb1 => exact (fm4 _).2); (case ktbf => exact Int.lt_trans (fm4 _).2 (by decide))); intro _ _))
local macro_rules | `(tactic| walk_at "binaryOp Add str str") => `(tactic| (k_here; (with_reducible show wpAny _ _ (binaryOp Operator.Add (Value.str _ _) (Value.str _ _)) _ _ _); refine' add_small ?ca ?cb ?_; (case ca => first | exact Nat.le_trans (ahead_len _) (by decide) | exact wr_len1 _); (case cb => first | exact Nat.le_trans (Nat.le_of_eq (one_len _)) (by decide) | exact Nat.le_trans (tail_len _) (by decide)); intro _ _))
set_option maxRecDepth 100000 in
set_option maxHeartbeats 8000000 in
theorem written_c {w : World} {mean : ExcName → Option Value} {mg mb : Str → Option Value} {A A₀ : Around} {env : Env} {outer : List Env} {base h₀ : Heap} {L : Addr} {m : Str → Option Value} {news : List (Addr × Obj)} {s : Shared} {Q E : Value → Shared → Prop}
    (C : Cx w mean mg mb A A₀ env outer base h₀ L m news s) {n : Int} {tk : Tok} (n0 : 0 ≤ n) (n1 : n < 1000000)
    (hret : ∀ t h' tk', Fr h₀ L h' m → News h₀ L h' news → Q (.str (written n) t) { s with heap := h', toks := tk' }) :
    wpAny (PM w) A (call (.ref 172) [.int n tk]) Q E s := by
  obtain ⟨B, F, X, N, T, hA, hf, hk, hd, hu⟩ := C
  refine wpAny_call ?_
  delta PM; revert X; k_fill; intro X
  k_dflt (refine' code_def (binds := [(Str.ofString "number", .int n tk)]) ?k1 ?k2 ?k3 ?k4 ?k5 ?kA ?kF ?kK ?k6 ?k7 ?k8 ?k9 ?kB ?_ ?c2 ?c3 ?c4 ?c5; (case kA => exact hA); (case kF => exact hf); (case kK => exact hk); (case k1 => exact B); (case k2 => exact F); (case k3 => exact X); (case k4 => exact N); (case k5 => exact T); (case k6 => k_is); (case k7 => k_is); (case k8 => omega); (case k9 => exact BindsTo.of_eq rfl); (case c5 => decide); (case kB => exact locs rfl); (case c2 => exact rfl); (case c3 => exact rfl); (case c4 => exact rfl); k_whole; intro g' L' h' FG' F' N' B' X' T'; (try dsimp only); (try k_fold))
  clear B F X N T FG'
  k_steps
  k_with_none
  exact leaveK_ (by assumption) (by assumption) fun F N => hret _ _ _ F (cb_drop N (by kcj_all))
end
section
open PySem PySem.W PyProof.Rows PySem.Calls PySem.Spec
/-- what a turn of a loop over states leaves behind -/
noncomputable def TurnEnd {σ : Type} (g : Heap) (L : Addr) (Mp : σ → Str → Option Value) (Nw : σ → List (Addr × Obj)) (P : σ → Prop) (s : Shared) (Q : Flow → Shared → Prop) (f : Flow) (s' : Shared) : Prop :=
  match f with
  | .ret v => Q (.ret v) s'
  | .brk => Q .next s'
  | _ => ∃ c h tk, P c ∧ s' = { s with heap := h, toks := tk } ∧ Fr g L h (Mp c) ∧ News g L h (Nw c)
noncomputable abbrev NoE : Value → Shared → Prop := fun _ _ => False
section
variable {w : World} {A : Around} {s : Shared} {env : Env} {g : Heap} {Q : Flow → Shared → Prop}
theorem while_st {σ : Type} {test : Expr} {body : List Stmt} {pos : Pos} (Mp : σ → Str → Option Value) (Nw : σ → List (Addr × Obj)) (P : σ → Prop) (mu : σ → Nat)
    (c₀ : σ) (h0 : P c₀) (F : Fr g env.locals s.heap (Mp c₀)) (N : News g env.locals s.heap (Nw c₀))
    (turn : ∀ c h tk, P c → Fr g env.locals h (Mp c) → News g env.locals h (Nw c) →
      wpAny (PM w) A (isTrue test env (eval test env)) (fun b s₂ => if b then wpAny (PM w) A (execs body env) (TurnEnd g env.locals Mp Nw (fun c' => P c' ∧ mu c' < mu c) s Q) NoE s₂ else Q .next s₂) NoE { s with heap := h, toks := tk }) :
    wpAny (PM w) A (exec (.While test body [] pos) env) Q NoE s := by
  refine wpAny_While ?_
  refine codeAny_whileLoop (fun n s₁ => ∃ c h tk, n = mu c ∧ P c ∧ s₁ = { s with heap := h, toks := tk } ∧ Fr g env.locals h (Mp c) ∧ News g env.locals h (Nw c)) ?_ (mu c₀) ⟨c₀, s.heap, s.toks, rfl, h0, rfl, F, N⟩
  rintro n s₁ ⟨c, h, tk, rfl, hP, rfl, F₁, N₁⟩
  refine wpAny_noRaise (wpAny_mono (turn c h tk hP F₁ N₁) (fun b s₂ hb => ?_) fun _ _ x => x)
  cases b with
  | false =>
    simp only [Bool.false_eq_true, if_false] at hb ⊢
    exact wpAny_execs_nil hb
  | true =>
    simp only [if_true] at hb ⊢
    refine wpAny_noRaise (wpAny_mono hb (fun f s₃ hf => ?_) fun _ _ x => x)
    cases f with
    | next => obtain ⟨c', h', tk', ⟨hP', hm⟩, rfl, F', N'⟩ := hf; exact ⟨mu c', hm, c', h', tk', rfl, hP', rfl, F', N'⟩
    | cont => obtain ⟨c', h', tk', ⟨hP', hm⟩, rfl, F', N'⟩ := hf; exact ⟨mu c', hm, c', h', tk', rfl, hP', rfl, F', N'⟩
    | brk => exact hf
    | ret v => exact hf
end
theorem Fr.re {g h : Heap} {L : Addr} {m m' : Str → Option Value} (F : Fr g L h m) (e : ∀ y, m y = m' y) : Fr g L h m' := by
  have : m = m' := funext e
  exact this ▸ F
/-- a frame's map with some names written over -/
noncomputable def ov (l : List (Str × Option Value)) (m : Str → Option Value) : Str → Option Value := fun y => match l.lookup y with
  | some v => v
  | none => m y
noncomputable def Agr (m : Str → Option Value) (l : List (Str × Option Value)) : Prop := ∀ p ∈ l, m p.1 = p.2
theorem Agr.nil {m : Str → Option Value} : Agr m [] := fun _ h => by cases h
theorem Agr.cons {m : Str → Option Value} {l : List (Str × Option Value)} {a : Str} {v : Option Value} (h : m a = v) (r : Agr m l) : Agr m ((a, v) :: l) := by
  intro p hp
  rcases List.mem_cons.mp hp with rfl | hp
  · exact h
  · exact r p hp
/-- two maps agree but at the names of a list -/
noncomputable def Off (m m' : Str → Option Value) (ns : List Str) : Prop := ∀ y, y ∉ ns → m' y = m y
theorem Off.refl {m : Str → Option Value} {ns : List Str} : Off m m ns := fun _ _ => rfl
theorem Off.upd {m m' : Str → Option Value} {ns : List Str} {a : Str} {v : Option Value} (h : a ∈ ns) (r : Off m m' ns) : Off m (fun y => if y = a then v else m' y) ns := fun y hy => by
  have : y ≠ a := fun e => hy (by rw [e]; exact h)
  show (if y = a then v else m' y) = m y
  rw [if_neg this]
  exact r y hy
theorem Off.ov {m : Str → Option Value} {l : List (Str × Option Value)} {ns : List Str} (h : l.map (·.1) = ns) : Off m (ov l m) ns := fun y hy => by
  unfold Mine.ov
  have : l.lookup y = none := by
    subst h
    induction l with
    | nil => rfl
    | cons q r ih =>
      obtain ⟨k, u⟩ := q
      rw [List.lookup_cons]
      have hk : y ≠ k := fun e => hy (by subst e; exact .head _)
      have : (y == k) = false := by simpa using hk
      rw [this]
      exact ih fun hm => hy (.tail _ hm)
  rw [this]
theorem ov_of {l : List (Str × Option Value)} {m m' : Str → Option Value} (h1 : Agr m' l) (h2 : Off m m' (l.map (·.1))) : ∀ y, m' y = ov l m y := by
  intro y
  unfold ov
  cases e : l.lookup y with
  | some v =>
    show m' y = v
    have : (y, v) ∈ l := by
      clear h1 h2
      induction l with
      | nil => cases e
      | cons p r ih =>
        obtain ⟨k, u⟩ := p
        rw [List.lookup_cons] at e
        by_cases h : y = k
        · subst h; simp at e; subst e; exact .head _
        · have : (y == k) = false := by simpa using h
          rw [this] at e
          exact .tail _ (ih e)
    exact h1 _ this
  | none =>
    show m' y = m y
    refine h2 y fun hm => ?_
    obtain ⟨p, hp, rfl⟩ := List.mem_map.mp hm
    clear h1 h2
    induction l with
    | nil => cases hp
    | cons q r ih =>
      obtain ⟨k, u⟩ := q
      rw [List.lookup_cons] at e
      by_cases h : p.1 = k
      · simp [h] at e
      · have : (p.1 == k) = false := by simpa using h
        rw [this] at e
        rcases List.mem_cons.mp hp with rfl | hp
        · exact h rfl
        · exact ih hp e (List.mem_map_of_mem hp)
section
variable {w : World} {A : Around} {s : Shared} {env : Env} {g : Heap} {Q : Flow → Shared → Prop}
theorem while_ov {σ : Type} {test : Expr} {body : List Stmt} {pos : Pos} {m₀ : Str → Option Value} {news : List (Addr × Obj)} (F : Fr g env.locals s.heap m₀) (N : News g env.locals s.heap news)
    (upd : σ → List (Str × Option Value)) (P : σ → Prop) (mu : σ → Nat) (hu : ∃ c₀, P c₀ ∧ Agr m₀ (upd c₀))
    (turn : ∀ c h tk, P c → Fr g env.locals h (ov (upd c) m₀) → News g env.locals h news →
      wpAny (PM w) A (isTrue test env (eval test env)) (fun b s₂ => if b then wpAny (PM w) A (execs body env) (TurnEnd g env.locals (fun c => ov (upd c) m₀) (fun _ => news) (fun c' => P c' ∧ mu c' < mu c) s Q) NoE s₂ else Q .next s₂) NoE { s with heap := h, toks := tk }) :
    wpAny (PM w) A (exec (.While test body [] pos) env) Q NoE s :=
  let ⟨c₀, h0, ha⟩ := hu; while_st (fun c => ov (upd c) m₀) (fun _ => news) P mu c₀ h0 (Fr.re F (ov_of ha fun _ _ => rfl)) N turn
end
theorem turn_next {σ : Type} {g : Heap} {L : Addr} {m₀ m' : Str → Option Value} {news news' : List (Addr × Obj)} {upd : σ → List (Str × Option Value)} {P : σ → Prop} {s : Shared} {Q : Flow → Shared → Prop} {h : Heap} {tk : Nat}
    (F : Fr g L h m') (N : News g L h news') (hs : ∀ p ∈ news, p ∈ news') (hc : ∃ c, P c ∧ Agr m' (upd c) ∧ Off m₀ m' ((upd c).map (·.1))) :
    TurnEnd g L (fun c => ov (upd c) m₀) (fun _ => news) P s Q .next { s with heap := h, toks := tk } :=
  let ⟨c, hP, h1, h2⟩ := hc
  ⟨c, h, tk, hP, rfl, Fr.re F (ov_of h1 h2), fun p hp => N p (hs p hp)⟩
theorem turn_nx {σ : Type} {g : Heap} {L : Addr} {m₀ m' : Str → Option Value} {Nw : σ → List (Addr × Obj)} {news' : List (Addr × Obj)} {upd : σ → List (Str × Option Value)} {P : σ → Prop} {s : Shared} {Q : Flow → Shared → Prop} {h : Heap} {tk : Nat}
    (F : Fr g L h m') (N : News g L h news') (hc : ∃ c, P c ∧ Agr m' (upd c) ∧ Off m₀ m' ((upd c).map (·.1)) ∧ ∀ p ∈ Nw c, p ∈ news') :
    TurnEnd g L (fun c => ov (upd c) m₀) Nw P s Q .next { s with heap := h, toks := tk } :=
  let ⟨c, hP, h1, h2, hs⟩ := hc
  ⟨c, h, tk, hP, rfl, Fr.re F (ov_of h1 h2), fun p hp => N p (hs p hp)⟩
theorem turn_n2 {σ : Type} {g : Heap} {L : Addr} {m₀ m' : Str → Option Value} {Nw : σ → List (Addr × Obj)} {upd : σ → List (Str × Option Value)} {P : σ → Prop} {s : Shared} {Q : Flow → Shared → Prop} {h : Heap} {tk : Nat}
    (F : Fr g L h m') (hc : ∃ c, P c ∧ Agr m' (upd c) ∧ Off m₀ m' ((upd c).map (·.1)) ∧ News g L h (Nw c)) :
    TurnEnd g L (fun c => ov (upd c) m₀) Nw P s Q .next { s with heap := h, toks := tk } :=
  let ⟨c, hP, h1, h2, hs⟩ := hc
  ⟨c, h, tk, hP, rfl, Fr.re F (ov_of h1 h2), hs⟩
theorem turn_brk {σ : Type} {g : Heap} {L : Addr} {Mp : σ → Str → Option Value} {Nw : σ → List (Addr × Obj)} {P : σ → Prop} {s : Shared} {Q : Flow → Shared → Prop} {s' : Shared} (h : Q .next s') : TurnEnd g L Mp Nw P s Q .brk s' := h
end
section
open PySem PySem.W PyProof.Rows PySem.Calls PySem.Spec
/-! texts as lists of numbers -/
theorem slice_list {x : Str} {a b : Nat} (hab : a ≤ b) (hb : b ≤ x.length) : (Txt.slice x (some (a : Int)) (some (b : Int))).cps.toList = (x.cps.toList.drop a).take (b - a) := by
  unfold Txt.slice
  split
  · rename_i h
    have hl : (Builtin.Str.strSliceIndices (some (a : Int)) (some (b : Int)) 1 x.length).length = x.length := by simpa using h
    rw [StrLaws.strSliceIndices_plain hab hb] at hl
    simp at hl
    have ha : a = 0 := by omega
    have hb' : b = x.cps.toList.length := by simp [Str.length] at hl hb ⊢; omega
    rw [ha, hb']
    simp [List.take_of_length_le]
  · show (List.filterMap _ _).toArray.toList = _
    rw [StrLaws.sliced_plain x hab hb]
theorem str_ext {x y : Str} (h : x.cps.toList = y.cps.toList) : x = y := by
  cases x; cases y
  simpa using h
theorem cps_app (x y : Str) : (x ++ y).cps.toList = x.cps.toList ++ y.cps.toList := by
  show (x.cps ++ y.cps).toList = _
  simp
theorem len_eq (x : Str) : x.length = x.cps.toList.length := by simp [Str.length]
theorem pre_list : (Str.ofString "257 \"").cps.toList = [50, 53, 55, 32, 34] := by decide +kernel
theorem slice_a (y : Str) : Txt.slice (Str.ofString "257 \"" ++ y) none (some 3) = Str.ofString "257" := by
  have e : Txt.slice (Str.ofString "257 \"" ++ y) none (some 3) = Txt.slice (Str.ofString "257 \"" ++ y) (some ((0 : Nat) : Int)) (some ((3 : Nat) : Int)) := by
    unfold Txt.slice
    rw [StrLaws.sliceIdx_none_lo]; rfl
  rw [e]
  refine str_ext ?_
  rw [slice_list (by decide) (by rw [Str.length_append]; have : (Str.ofString "257 \"").length = 5 := by decide +kernel
                                 omega), cps_app, pre_list]
  show [50, 53, 55] = _
  decide +kernel
theorem slice_b (y : Str) : Txt.slice (Str.ofString "257 \"" ++ y) (some 3) (some 5) = Str.ofString " \"" := by
  show Txt.slice (Str.ofString "257 \"" ++ y) (some ((3 : Nat) : Int)) (some ((5 : Nat) : Int)) = _
  refine str_ext ?_
  rw [slice_list (by decide) (by rw [Str.length_append]; have : (Str.ofString "257 \"").length = 5 := by decide +kernel
                                 omega), cps_app, pre_list]
  show [32, 34] = _
  decide +kernel
theorem item_at {x : Str} {i : Int} {c : Nat} (h0 : 0 ≤ i) (h : x.cps.toList[i.toNat]? = some c) : Txt.item x i = ⟨#[c]⟩ := by
  unfold Txt.item Txt.charAt
  have hlt : i.toNat < x.cps.toList.length := (List.getElem?_eq_some_iff.mp h).1
  rw [seqIndex_of h0 (by rw [len_eq]; omega)]
  show (⟨#[((x.cps[i.toNat]?).getD 0)]⟩ : Str) = _
  rw [← Array.getElem?_toList, h]
  rfl
noncomputable def scanL : List Nat → List Nat
  | [] => []
  | [c] => if c = 34 then [] else [c]
  | c :: d :: r => if c = 34 then (if d = 34 then 34 :: scanL r else []) else c :: scanL (d :: r)
theorem scan_ne {c : Nat} {r : List Nat} (h : c ≠ 34) : scanL (c :: r) = c :: scanL r := by
  cases r with
  | nil => simp [scanL, h]
  | cons d r => simp [scanL, h]
theorem scan_two {r : List Nat} : scanL (34 :: 34 :: r) = 34 :: scanL r := by simp [scanL]
theorem scan_end {r : List Nat} (h : r.head? ≠ some 34) : scanL (34 :: r) = [] := by
  cases r with
  | nil => simp [scanL]
  | cons d r => simp [scanL]; intro e; subst e; exact absurd rfl h
theorem q_list : Str.ofString "\"" = ⟨#[34]⟩ := by decide +kernel
theorem one_ne {c d : Nat} : ((⟨#[c]⟩ : Str) == ⟨#[d]⟩) = decide (c = d) := by
  by_cases h : c = d
  · subst h; simp
  · have : (⟨#[c]⟩ : Str) ≠ ⟨#[d]⟩ := by intro e; injection e with e; simp at e; exact h e
    simp [h, this]
theorem pre_len : (Str.ofString "257 \"").length = 5 := by decide +kernel
theorem pre_le (y : Str) : (5 : Int) ≤ ((Str.ofString "257 \"" ++ y).length : Nat) := by
  rw [Str.length_append, pre_len]; omega
theorem pre_scan (y : Str) : Str.empty.cps.toList ++ scanL ((Str.ofString "257 \"" ++ y).cps.toList.drop (5 : Int).toNat) = scanL y.cps.toList := by
  rw [cps_app, pre_list]; rfl
section
variable {prog : Program} {w : World} {A : Around} {E : Value → Shared → Prop} {s : Shared} {value slice : PySem.Expr} {x : PySem.Str} {t u : Tok} {i : Int} {Q : Value → Shared → Prop}
theorem item_chr (h0 : 0 ≤ i) (h1 : i < (x.length : Nat)) (hn : x.length ≤ 16777216) (h : ∀ ch, x.cps.toList[i.toNat]? = some ch → Q (.str ⟨#[ch]⟩ s.toks) { s with toks := s.toks + 1 })
    (hs : subscripted slice false (.str x t) (.int i u) = operate [.str x t, .int i u] (getItem (.str x t) (.int i u)) := by with_unfolding_all rfl)
    (ht : ∀ r, letTemporaryGo value (.str x t) r = pure () := by intro _; with_unfolding_all rfl) :
    wpAny (model prog w) A (subscriptTail value slice (.str x t) (.int i u)) Q E s := by
  have hlt : i.toNat < x.cps.toList.length := by rw [← len_eq]; omega
  have e := List.getElem?_eq_getElem hlt
  refine KXi.item rfl (by omega) h1 hn (fun _ => ?_) hs ht
  rw [item_at h0 e]
  exact h _ e
end
theorem pf_a {i : Int} (h : 5 ≤ i) : 0 ≤ i := by omega
theorem pf_a1 {i : Int} (h : 5 ≤ i) : 0 ≤ i + 1 := by omega
theorem pf_b {i : Int} {x y : Str} (h : i < ((x.length + y.length : Nat) : Int)) : i < ((x ++ y).length : Nat) := by rw [Str.length_append]; exact h
theorem pf_b1 {i : Int} {x y : Str} (h : ¬ i + 1 ≥ ((x.length + y.length : Nat) : Int)) : i + 1 < ((x ++ y).length : Nat) := by rw [Str.length_append]; omega
theorem pf_d {d x : Str} {i : Int} (h : ((d.length : Nat) : Int) ≤ i) (h1 : i ≤ (x.length : Nat)) (h2 : x.length ≤ 65536) : d.length ≤ 65536 := by omega
structure PSt where
  i : Int
  d : Str
  ti : Tok
  td : Tok
  u : Option Value
noncomputable abbrev pUpd (c : PSt) : List (Str × Option Value) := [(Str.ofString "c", c.u), (Str.ofString "i", some (.int c.i c.ti)), (Str.ofString "dirname", some (.str c.d c.td))]
noncomputable def pOk (x : Str) (T : List Nat) (c : PSt) : Prop := 5 ≤ c.i ∧ c.i ≤ (x.length : Nat) ∧ ((c.d.length : Nat) : Int) ≤ c.i ∧ c.d.cps.toList ++ scanL (x.cps.toList.drop c.i.toNat) = T
local macro_rules | `(tactic| walk_at "exec If") => `(tactic| (k_here; refine wpAny_If ?_))
local macro_rules | `(tactic| walk_at "execs nil") => `(tactic| (k_here; refine wpAny_execs_nil ?_))
local macro_rules | `(tactic| walk_at "execs cons") => `(tactic| (k_here; refine wpAny_execs_cons ?_))
theorem q_eq {ch : Nat} : ((⟨#[ch]⟩ : Str) == Str.ofString "\"") = decide (ch = 34) := by rw [q_list, one_ne]
theorem drop_at {l : List Nat} {k ch : Nat} (h : l[k]? = some ch) : l.drop k = ch :: l.drop (k + 1) := by
  obtain ⟨hk, rfl⟩ := List.getElem?_eq_some_iff.mp h
  exact List.drop_eq_getElem_cons hk
theorem toNat1 {i : Int} (h : 5 ≤ i) : (i + 1).toNat = i.toNat + 1 := by omega
theorem toNat2 {i : Int} (h : 5 ≤ i) : (i + 1 + 1).toNat = i.toNat + 1 + 1 := by omega
theorem fin_end {x : Str} {d T : List Nat} {i : Int} (h5 : 5 ≤ i) (h : d ++ scanL (x.cps.toList.drop i.toNat) = T) (hl : ¬ i < (x.length : Nat)) : d = T := by
  rw [len_eq] at hl
  rw [List.drop_eq_nil_of_le (by omega)] at h
  simpa [scanL] using h
theorem fin_brk1 {x : Str} {d T : List Nat} {i : Int} {ch : Nat} (h5 : 5 ≤ i) (h : d ++ scanL (x.cps.toList.drop i.toNat) = T) (hc : x.cps.toList[i.toNat]? = some ch) (e : ((⟨#[ch]⟩ : Str) == Str.ofString "\"") = true) (hl : (x.length : Nat) ≤ i + 1) : d = T := by
  rw [q_eq, decide_eq_true_eq] at e
  subst e
  rw [len_eq] at hl
  rw [drop_at hc, List.drop_eq_nil_of_le (by omega)] at h
  simpa [scanL] using h
theorem fin_brk2 {x : Str} {d T : List Nat} {i : Int} {ch c2 : Nat} (h5 : 5 ≤ i) (h : d ++ scanL (x.cps.toList.drop i.toNat) = T) (hc : x.cps.toList[i.toNat]? = some ch) (e : ((⟨#[ch]⟩ : Str) == Str.ofString "\"") = true) (hc2 : x.cps.toList[(i + 1).toNat]? = some c2) (e2 : ((⟨#[c2]⟩ : Str) != Str.ofString "\"") = true) : d = T := by
  rw [q_eq, decide_eq_true_eq] at e
  subst e
  rw [bne, q_eq] at e2
  rw [toNat1 h5] at hc2
  rw [drop_at hc, drop_at hc2, scan_end (by simpa using e2)] at h
  simpa using h
theorem go_ne {x : Str} {T : List Nat} {c : PSt} {ch : Nat} {t1 t2 : Tok} {u : Option Value} (hP : pOk x T c) (hl : c.i < (x.length : Nat)) (hc : x.cps.toList[c.i.toNat]? = some ch) (e : ((⟨#[ch]⟩ : Str) == Str.ofString "\"") = false) :
    pOk x T ⟨c.i + 1, c.d ++ ⟨#[ch]⟩, t1, t2, u⟩ ∧ (((x.length : Nat) : Int) - (c.i + 1)).toNat < (((x.length : Nat) : Int) - c.i).toNat := by
  obtain ⟨h5, hle, hdl, hT⟩ := hP
  rw [q_eq, decide_eq_false_iff_not] at e
  refine ⟨⟨?_, ?_, ?_, ?_⟩, ?_⟩
  · show 5 ≤ c.i + 1; omega
  · show c.i + 1 ≤ _; omega
  · show (((c.d ++ ⟨#[ch]⟩ : Str).length : Nat) : Int) ≤ c.i + 1
    rw [Str.length_append, one_len]; omega
  · show (c.d ++ ⟨#[ch]⟩ : Str).cps.toList ++ scanL (x.cps.toList.drop (c.i + 1).toNat) = T
    rw [drop_at hc, scan_ne e] at hT
    rw [cps_app, toNat1 h5, ← hT]
    simp
  · omega
theorem go_two {x : Str} {T : List Nat} {c : PSt} {ch c2 : Nat} {t1 t2 : Tok} {u : Option Value} (hP : pOk x T c) (hl : ¬ (x.length : Nat) ≤ c.i + 1) (hc : x.cps.toList[c.i.toNat]? = some ch) (e : ((⟨#[ch]⟩ : Str) == Str.ofString "\"") = true) (hc2 : x.cps.toList[(c.i + 1).toNat]? = some c2) (e2 : ((⟨#[c2]⟩ : Str) != Str.ofString "\"") = false) :
    pOk x T ⟨c.i + 1 + 1, c.d ++ ⟨#[ch]⟩, t1, t2, u⟩ ∧ (((x.length : Nat) : Int) - (c.i + 1 + 1)).toNat < (((x.length : Nat) : Int) - c.i).toNat := by
  obtain ⟨h5, hle, hdl, hT⟩ := hP
  rw [q_eq, decide_eq_true_eq] at e
  rw [bne, q_eq] at e2
  have e3 : c2 = 34 := by simpa using e2
  subst e e3
  refine ⟨⟨?_, ?_, ?_, ?_⟩, ?_⟩
  · show 5 ≤ c.i + 1 + 1; omega
  · show c.i + 1 + 1 ≤ _; omega
  · show (((c.d ++ ⟨#[34]⟩ : Str).length : Nat) : Int) ≤ c.i + 1 + 1
    rw [Str.length_append, one_len]; omega
  · show (c.d ++ ⟨#[34]⟩ : Str).cps.toList ++ scanL (x.cps.toList.drop (c.i + 1 + 1).toNat) = T
    rw [toNat1 h5] at hc2
    rw [drop_at hc, drop_at hc2, scan_two] at hT
    rw [cps_app, toNat2 h5, ← hT]
    simp
  · omega
local macro_rules | `(tactic| walk_at "compareOp NotEq str str") => `(tactic| (k_here; (with_reducible show wpAny _ _ (compareOp _ (Value.str (Txt.slice _ _ _) _) _) _ _ _); first | rw [slice_a] | rw [slice_b]))
local macro_rules | `(tactic| walk_at "subscriptTail Name Name str int") => `(tactic| (k_here; (with_reducible show wpAny _ _ (subscriptTail _ _ (Value.str _ _) (Value.int _ _)) _ _ _); refine item_chr ?ca ?cb ?cc ?_; (case ca => first | exact pf_a (by assumption) | exact pf_a1 (by assumption)); (case cb => first | assumption | exact pf_b (by assumption) | exact Int.not_le.mp (by assumption) | exact pf_b1 (by assumption)); (case cc => assumption); intro ch hch))
local macro_rules | `(tactic| walk_at "binaryOp Add str str") => `(tactic| (k_here; (with_reducible show wpAny _ _ (binaryOp Operator.Add (Value.str _ _) (Value.str _ _)) _ _ _); refine' add_small ?ca ?cb ?_; (case ca => exact pf_d (by assumption) (by assumption) (by assumption)); (case cb => exact Nat.le_trans (Nat.le_of_eq (one_len _)) (by decide)); intro _ _))
local macro_rules | `(tactic| walk_at "S") => `(tactic| repeat' (first | ((fail_if_success (with_reducible show wpAny _ _ (exec (Stmt.While _ _ _ _) _) _ _ _)); walk1) | ((fail_if_success (with_reducible show wpAny _ _ (exec (Stmt.While _ _ _ _) _) _ _ _)); dsimp only; walk1)))
set_option maxRecDepth 100000 in
set_option maxHeartbeats 8000000 in
theorem parse_c {w : World} {mean : ExcName → Option Value} {mg mb : Str → Option Value} {A A₀ : Around} {env : Env} {outer : List Env} {base h₀ : Heap} {L : Addr} {m : Str → Option Value} {news : List (Addr × Obj)} {s : Shared} {Q E : Value → Shared → Prop}
    (C : Cx w mean mg mb A A₀ env outer base h₀ L m news s) {y : Str} {tk : Tok} (hy : y.length ≤ 1000)
    (hret : ∀ d t h' tk', d.cps.toList = scanL y.cps.toList → Fr h₀ L h' m → News h₀ L h' news → Q (.str d t) { s with heap := h', toks := tk' }) :
    wpAny (PM w) A (call (.ref 60) [.str (Str.ofString "257 \"" ++ y) tk]) Q E s := by
  obtain ⟨B, F, X, N, T, hA, hf, hk, hd, hu⟩ := C
  refine wpAny_call ?_
  delta PM; revert X; k_fill; intro X
  k_dflt (refine' code_def (binds := [(Str.ofString "resp", .str (Str.ofString "257 \"" ++ y) tk)]) ?k1 ?k2 ?k3 ?k4 ?k5 ?kA ?kF ?kK ?k6 ?k7 ?k8 ?k9 ?kB ?_ ?c2 ?c3 ?c4 ?c5; (case kA => exact hA); (case kF => exact hf); (case kK => exact hk); (case k1 => exact B); (case k2 => exact F); (case k3 => exact X); (case k4 => exact N); (case k5 => exact T); (case k6 => k_is); (case k7 => k_is); (case k8 => omega); (case k9 => exact BindsTo.of_eq rfl); (case c5 => decide); (case kB => exact locs rfl); (case c2 => exact rfl); (case c3 => exact rfl); (case c4 => exact rfl); k_whole; intro g' L' h' FG' F' N' B' X' T'; (try dsimp only); refine wpAny_noRaise ?_; (try k_fold))
  clear B F X N T FG'
  have hl5 := pre_len
  have hcd : (Str.ofString "257 \"" ++ y).length ≤ 65536 := by rw [Str.length_append]; omega
  have hcc : (Str.ofString "257 \"" ++ y).length ≤ 16777216 := by rw [Str.length_append]; omega
  have hlen : (Str.ofString "257 \"" ++ y).length = (Str.ofString "257 \"").length + y.length := Str.length_append ..
  walk_at "S"
  dsimp only
  k_dflt (refine' while_ov ?wF ?wN pUpd (pOk (Str.ofString "257 \"" ++ y) (scanL y.cps.toList)) (fun c => (((Str.ofString "257 \"" ++ y).length : Int) - c.i).toNat) ?wu ?wt; (case wF => assumption); (case wN => assumption))
  case wu => exact ⟨⟨5, Str.empty, _, _, _⟩, ⟨(by decide : (5 : Int) ≤ 5), pre_le y, (by decide : (0 : Int) ≤ 5), pre_scan y⟩, .cons rfl (.cons rfl (.cons rfl .nil))⟩
  intro c h tk' hP F' N'
  have hP' := hP
  obtain ⟨h5, hle, hdl, hT⟩ := hP
  iterate 70 (all_goals (try (first | walk1 | (dsimp only; walk1))))
  all_goals first
    | (refine turn_next (by assumption) (by assumption) (by kcj_all) ?tnE
       case tnE => exact ⟨⟨_, _, _, _, _⟩, go_ne hP' (by assumption) (by assumption) (by assumption), .cons rfl (.cons rfl (.cons rfl .nil)), by repeat' (first | exact Off.ov rfl | exact Off.refl | (refine Off.upd (by simp) ?_))⟩)
    | (refine turn_next (by assumption) (by assumption) (by kcj_all) ?tnE
       case tnE => exact ⟨⟨_, _, _, _, _⟩, go_two hP' (by assumption) (by assumption) (by assumption) (by assumption) (by assumption), .cons rfl (.cons rfl (.cons rfl .nil)), by repeat' (first | exact Off.ov rfl | exact Off.refl | (refine Off.upd (by simp) ?_))⟩)
    | (first | refine turn_brk ?_ | skip
       dsimp only
       iterate 8 (all_goals (try (first | walk1 | (dsimp only; walk1))))
       exact leaveK_ (by assumption) (by assumption) fun F N => hret _ _ _ _ (by first | exact fin_end h5 hT (by assumption) | exact fin_brk1 h5 hT (by assumption) (by assumption) (by assumption) | exact fin_brk2 h5 hT (by assumption) (by assumption) (by assumption) (by assumption)) F (cb_drop N (by kcj_all)))
    | (refine turn_next (by assumption) (by assumption) (by kcj_all) ?tnE
       case tnE => fail "a goal is left")
end
section
open PySem PySem.W PyProof.Rows PySem.Calls PySem.Spec
local macro_rules | `(tactic| walk_at "compareOp In int ref") => `(tactic| (k_here; (with_reducible show wpAny _ _ (compareOp CmpOp.In (Value.int _ _) (Value.ref _)) _ _ _); k_dflt (first | refine' in_b1 ?F ?X ?_ | refine' in_c6 ?F ?X ?_ | refine' in_c8 ?F ?X ?_); (case F => k_asm); (case X => k_asm)))
set_option maxRecDepth 100000 in
set_option maxHeartbeats 8000000 in
theorem c6_c {w : World} {mean : ExcName → Option Value} {mg mb : Str → Option Value} {A A₀ : Around} {env : Env} {outer : List Env} {base h₀ : Heap} {L : Addr} {m : Str → Option Value} {news : List (Addr × Obj)} {s : Shared} {Q E : Value → Shared → Prop}
    (C : Cx w mean mg mb A A₀ env outer base h₀ L m news s) {c : Nat} {tk : Tok} (hc : c < 1114112)
    (hret : ∀ h' tk', Fr h₀ L h' m → News h₀ L h' news → Q (.bool (c6L.contains (c : Int))) { s with heap := h', toks := tk' }) :
    wpAny (PM w) A (call (.ref 136) [.str ⟨#[c]⟩ tk]) Q E s := by
  obtain ⟨B, F, X, N, T, hA, hf, hk, hd, hu⟩ := C
  refine wpAny_call ?_
  delta PM; revert X; k_fill; intro X
  k_dflt (refine' code_def (binds := [(Str.ofString "code", .str ⟨#[c]⟩ tk)]) ?k1 ?k2 ?k3 ?k4 ?k5 ?kA ?kF ?kK ?k6 ?k7 ?k8 ?k9 ?kB ?_ ?c2 ?c3 ?c4 ?c5; (case kA => exact hA); (case kF => exact hf); (case kK => exact hk); (case k1 => exact B); (case k2 => exact F); (case k3 => exact X); (case k4 => exact N); (case k5 => exact T); (case k6 => k_is); (case k7 => k_is); (case k8 => omega); (case k9 => exact BindsTo.of_eq rfl); (case c5 => decide); (case kB => exact locs rfl); (case c2 => exact rfl); (case c3 => exact rfl); (case c4 => exact rfl); k_whole; intro g' L' h' FG' F' N' B' X' T'; (try dsimp only); refine wpAny_noRaise ?_; (try k_fold))
  clear B F X N T FG'
  k_steps
  exact leaveK_ (by assumption) (by assumption) fun F N => hret _ _ F N
set_option maxRecDepth 100000 in
set_option maxHeartbeats 8000000 in
theorem c8_c {w : World} {mean : ExcName → Option Value} {mg mb : Str → Option Value} {A A₀ : Around} {env : Env} {outer : List Env} {base h₀ : Heap} {L : Addr} {m : Str → Option Value} {news : List (Addr × Obj)} {s : Shared} {Q E : Value → Shared → Prop}
    (C : Cx w mean mg mb A A₀ env outer base h₀ L m news s) {c : Nat} {tk : Tok} (hc : c < 1114112)
    (hret : ∀ h' tk', Fr h₀ L h' m → News h₀ L h' news → Q (.bool (c8L.contains (c : Int))) { s with heap := h', toks := tk' }) :
    wpAny (PM w) A (call (.ref 160) [.str ⟨#[c]⟩ tk]) Q E s := by
  obtain ⟨B, F, X, N, T, hA, hf, hk, hd, hu⟩ := C
  refine wpAny_call ?_
  delta PM; revert X; k_fill; intro X
  k_dflt (refine' code_def (binds := [(Str.ofString "code", .str ⟨#[c]⟩ tk)]) ?k1 ?k2 ?k3 ?k4 ?k5 ?kA ?kF ?kK ?k6 ?k7 ?k8 ?k9 ?kB ?_ ?c2 ?c3 ?c4 ?c5; (case kA => exact hA); (case kF => exact hf); (case kK => exact hk); (case k1 => exact B); (case k2 => exact F); (case k3 => exact X); (case k4 => exact N); (case k5 => exact T); (case k6 => k_is); (case k7 => k_is); (case k8 => omega); (case k9 => exact BindsTo.of_eq rfl); (case c5 => decide); (case kB => exact locs rfl); (case c2 => exact rfl); (case c3 => exact rfl); (case c4 => exact rfl); k_whole; intro g' L' h' FG' F' N' B' X' T'; (try dsimp only); refine wpAny_noRaise ?_; (try k_fold))
  clear B F X N T FG'
  k_steps
  exact leaveK_ (by assumption) (by assumption) fun F N => hret _ _ F N
end
section
open PySem PySem.W PyProof.Rows PySem.Calls PySem.Spec
noncomputable def fontN : List Nat := [97, 65, 119808, 119860, 119912, 120016, 120172, 120224, 120276, 120328, 120380, 120432]
noncomputable def lettersN : List Nat := fontN.flatMap fun f => [f, f + 1, f + 2, f + 3, f + 4]
noncomputable def lowOf (c : Nat) : Nat := 97 + lettersN.idxOf c % 5
noncomputable def findB3 (es : Array DictEntry) (k : Int) : Option Value := findBy Value.isInt es k
noncomputable def okB3 (es : Array DictEntry) (c : Nat) : Bool := match findB3 es (c : Int) with
  | none => decide (c < 128)
  | some (.str x _) => x == ⟨#[lowOf c]⟩ && !decide (c < 128)
  | _ => false
theorem map_of {prog : Program} {w : World} {es : Array DictEntry} {ep : Nat} {h : Heap} {a : Addr} (ho : h.get? a = some (⟨.type "dict", none, .dict es ep, #[]⟩ : Obj))
    (h1 : (es.toList.all fun e => match e.key with | .int k _ => e.hash == hashInt k | _ => false) = true) : h.MapOf (intKind prog w) a (findB3 es) := by
  refine ⟨_, es, ep, ho, ⟨rfl, rfl, rfl⟩, rfl, fun e he => ?_, fun k => rfl⟩
  have := List.all_eq_true.mp h1 e (by simpa using he)
  revert this
  cases e.key <;> simp only [Bool.false_eq_true, false_implies]
  rename_i k tk
  intro h
  exact ⟨k, by simp [intKind, Value.isInt], eq_of_beq h⟩
theorem b3_all (w : World) : ∃ es : Array DictEntry, ∃ ep : Nat, (KK w.params).lookup 79 = some (⟨.type "dict", none, .dict es ep, #[]⟩ : Obj) ∧ (es.toList.all fun e => match e.key with | .int k _ => e.hash == hashInt k | _ => false) = true ∧ (lettersN.all (okB3 es)) = true :=
  ⟨_, _, rfl, by decide +kernel, by decide +kernel⟩
theorem b3_get {w : World} {A : Around} {E Q : Value → Shared → Prop} {s : Shared} {h₀ : Heap} {L : Addr} {m : Str → Option Value} {c : Nat} {t : Tok} (F : Fr h₀ L s.heap m) (X : (KK w.params).In h₀) (hc : c ∈ lettersN)
    (h1 : c < 128 → Q .none { s with toks := s.toks + 1 }) (h2 : ∀ t', Q (.str ⟨#[lowOf c]⟩ t') { s with toks := s.toks + 1 }) :
    wpAny (PM w) A (call (.builtin "dict.get") [.ref 79, .int (c : Int) t]) Q E s := by
  obtain ⟨es, ep, ho, hk, ha⟩ := b3_all w
  have hm := map_of (prog := PySem.Challenge.rw_tr0058_01.row.prog) (w := w) (F.keep _ _ (X _ _ ho)) hk
  refine call_meetsIn PySem.F.slot_dict_get hm.typeIs PySem.F.entry_dict_get (PySem.F.args_dict_get_2 _ _) (meets_dict_get (intKind _ w) 79 (by simp [intKind, Value.isInt] : (intKind _ w).is (c : Int) (.int (c : Int) t) = true) (by decide)) ⟨_, hm, ?_⟩
  have := List.all_eq_true.mp ha c hc
  revert this
  unfold okB3
  cases e : findB3 es (c : Int) with
  | none => intro h; exact h1 (by simpa using h)
  | some v =>
    cases v <;> simp only [Bool.false_eq_true, false_implies]
    rename_i x tx
    intro h
    rw [Bool.and_eq_true, beq_iff_eq] at h
    rw [h.1]
    exact h2 _
theorem b3_meth {w : World} {A : Around} {E : Value → Shared → Prop} {Q : Value × List Value → Shared → Prop} {s : Shared} {h₀ : Heap} {L : Addr} {m : Str → Option Value} {pl : Sem Bool} (F : Fr h₀ L s.heap m) (X : (KK w.params).In h₀)
    (h : Q (.builtin "dict.get", [.ref 79]) s) : wpAny (PM w) A (getMethod (.ref 79) "get" pl) Q E s := by
  obtain ⟨es, ep, ho, hk, ha⟩ := b3_all w
  have hm := map_of (prog := PySem.Challenge.rw_tr0058_01.row.prog) (w := w) (F.keep _ _ (X _ _ ho)) hk
  exact getMethod_builtin hm.typeIs PySem.F.plainAttrs_dict PySem.F.slot_dict_get PySem.F.type_dict_get hm.noDict h
theorem low_all : (lettersN.all fun c => if c < 128 then Txt.lower ⟨#[c]⟩ == ⟨#[lowOf c]⟩ else true) = true := by decide +kernel
theorem low_c {prog : Program} {w : World} {A : Around} {E Q : Value → Shared → Prop} {s : Shared} {c : Nat} {t : Tok} (hc : c ∈ lettersN) (h0 : c < 128) (h : ∀ t' k, Q (.str ⟨#[lowOf c]⟩ t') { s with toks := k }) :
    wpAny (model prog w) A (call (.builtin "str.lower") [.str ⟨#[c]⟩ t]) Q E s := by
  have := List.all_eq_true.mp low_all c hc
  rw [if_pos h0, beq_iff_eq] at this
  exact KXw.lower this (by rw [this]; rfl) h
theorem letters_lt {c : Nat} (h : c ∈ lettersN) : c < 1114112 := by
  have : (lettersN.all fun c => decide (c < 1114112)) = true := by decide +kernel
  simpa using List.all_eq_true.mp this c h
local macro_rules | `(tactic| walk_at "getMethod ref") => `(tactic| (k_here; k_dflt (refine' b3_meth ?F ?X ?_); (case F => k_asm); (case X => k_asm)))
local macro_rules | `(tactic| walk_at "call builtin:dict.get") => `(tactic| (k_here; k_dflt (refine' b3_get ?F ?X ?hc ?_ ?_); (case F => k_asm); (case X => k_asm); (case hc => assumption); all_goals intro _))
local macro_rules | `(tactic| walk_at "call builtin:str.lower") => `(tactic| (k_here; k_dflt (refine' low_c ?hc ?h0 ?_); (case hc => assumption); (case h0 => assumption); intro _ _))
set_option maxRecDepth 100000 in
set_option maxHeartbeats 8000000 in
theorem map_c {w : World} {mean : ExcName → Option Value} {mg mb : Str → Option Value} {A A₀ : Around} {env : Env} {outer : List Env} {base h₀ : Heap} {L : Addr} {m : Str → Option Value} {news : List (Addr × Obj)} {s : Shared} {Q E : Value → Shared → Prop}
    (C : Cx w mean mg mb A A₀ env outer base h₀ L m news s) {c : Nat} {tk : Tok} (hc : c ∈ lettersN)
    (hret : ∀ t h' tk', Fr h₀ L h' m → News h₀ L h' news → Q (.str ⟨#[lowOf c]⟩ t) { s with heap := h', toks := tk' }) :
    wpAny (PM w) A (call (.ref 124) [.str ⟨#[c]⟩ tk]) Q E s := by
  obtain ⟨B, F, X, N, T, hA, hf, hk, hd, hu⟩ := C
  refine wpAny_call ?_
  delta PM; revert X; k_fill; intro X
  k_dflt (refine' code_def (binds := [(Str.ofString "code", .str ⟨#[c]⟩ tk)]) ?k1 ?k2 ?k3 ?k4 ?k5 ?kA ?kF ?kK ?k6 ?k7 ?k8 ?k9 ?kB ?_ ?c2 ?c3 ?c4 ?c5; (case kA => exact hA); (case kF => exact hf); (case kK => exact hk); (case k1 => exact B); (case k2 => exact F); (case k3 => exact X); (case k4 => exact N); (case k5 => exact T); (case k6 => k_is); (case k7 => k_is); (case k8 => omega); (case k9 => exact BindsTo.of_eq rfl); (case c5 => decide); (case kB => exact locs rfl); (case c2 => exact rfl); (case c3 => exact rfl); (case c4 => exact rfl); k_whole; intro g' L' h' FG' F' N' B' X' T'; (try dsimp only); refine wpAny_noRaise ?_; (try k_fold))
  clear B F X N T FG'
  have hlt := letters_lt hc
  k_steps
  all_goals (try k_with_none)
  all_goals first
    | exact leaveK_ (by assumption) (by assumption) fun F N => hret _ _ _ F N
    | exact leaveK_ (by assumption) (by assumption) fun F N => hret _ _ _ F (cb_drop N (by kcj_all))
    | fail "a goal is left"
end
section
open PySem PySem.W PyProof.Rows PySem.Calls PySem.Spec
theorem ne_all {l : List (Addr × Obj)} {d : Addr} (h : ∀ p ∈ l, p.1 < d) : ∀ p ∈ l, p.1 ≠ d := fun p hp => Nat.ne_of_lt (h p hp)
section
variable {prog : Program} {w : World} {A : Around} {s : Shared} {env : Env} {g : Heap} {Q : Flow → Shared → Prop}
theorem Fr.extBut {h h' : Heap} {L I : Addr} {m : Str → Option Value} (F : Fr g L h m) (hI : I ≠ L) (hg : g.get? I = none) (hk : ∀ b o, b ∉ [I] → h.get? b = some o → h'.get? b = some o) : Fr g L h' m := by
  refine ⟨?_, fun b o e => ?_, F.above⟩
  · obtain ⟨oL, a1, a2, hL, a3⟩ := F.ns
    exact ⟨oL, a1, a2, hk _ _ (by simpa using fun e => hI e.symm) hL, a3⟩
  · refine hk b o (fun hm => ?_) (F.keep b o e)
    rw [List.mem_singleton.mp hm, hg] at e
    cases e
theorem News.extBut {h h' : Heap} {L I : Addr} {news : List (Addr × Obj)} (N : News g L h news) (hI : I ∉ news.map (·.1)) (hk : ∀ b o, b ∉ [I] → h.get? b = some o → h'.get? b = some o) : News g L h' news :=
  fun p hp => ⟨hk _ _ (by intro hm; exact hI (List.mem_map.mpr ⟨p, hp, List.mem_singleton.mp hm⟩)) (N p hp).1, (N p hp).2⟩
theorem sub_news {value slice : Expr} {L l : Addr} {vs : Array Value} {n : Nat} {k : Int} {x : Value} {u : Tok} {news : List (Addr × Obj)} {Q E : Value → Shared → Prop} (N : News g L s.heap news) (hm : (l, W.listOf vs n) ∈ news) (h0 : 0 ≤ k) (h1 : k < 2 ^ 63) (hx : vs.toList[k.toNat]? = some x) (h : Q x s)
    (hs : subscripted slice false (.ref l) (.int k u) = operate [.ref l, .int k u] (getItem (.ref l) (.int k u)) := by with_unfolding_all rfl) :
    wpAny (model prog w) A (subscriptTail value slice (.ref l) (.int k u)) Q E s :=
  have hl : s.heap.IsList l vs := ⟨_, (N _ hm).1, rfl, _, rfl⟩
  tail_any hl.typeIs slot_list_getitem.lookup (wpAny_getItem_list hl h0 h1 (by rw [← Array.getElem?_toList]; exact hx) h) hs
/-- a for loop over states: the iterator stands at `I`, `It i` says where it is -/
theorem for_core {σ : Type} {target : Expr} {body : List Stmt} {I : Addr} {fp : List Addr} {n : Nat} {V : Nat → Value → Prop} {It : Nat → Heap → Prop}
    (W : Walks prog w A I fp [I] n V It) (Mp : σ → Str → Option Value) (Nw : σ → List (Addr × Obj)) (P : Nat → σ → Prop)
    (hI1 : I ≠ env.locals) (hI2 : g.get? I = none) (hI3 : ∀ i c, P i c → I ∉ (Nw c).map (·.1))
    (hI4 : ∀ i h, It i h → ∃ o, h.get? I = some o)
    (hrest : ∀ b ∈ fp, b ≠ I → ∃ o, ∀ c h, Fr g env.locals h (Mp c) → News g env.locals h (Nw c) → h.get? b = some o)
    (htgt : ∀ i v (s : Shared) (R : Unit → Shared → Prop) (E : Value → Shared → Prop), It (i + 1) s.heap → R () s → V i v → wpAny (model prog w) A (letOwnedTupleGo target (.ref I) v) R E s)
    (turn : ∀ i c v h tk o, i < n → V i v → P i c → Fr g env.locals h (Mp c) → News g env.locals h ((I, o) :: Nw c) →
      wpAny (model prog w) A (assign target env v) (fun _ s₂ => wpAny (model prog w) A (execs body env) (TurnEnd g env.locals Mp (fun c => (I, o) :: Nw c) (P (i + 1)) s Q) NoE s₂) NoE { s with heap := h, toks := tk })
    (done : ∀ c h tk, P n c → Fr g env.locals h (Mp c) → News g env.locals h (Nw c) → Q .next { s with heap := h, toks := tk })
    (R : Result → Shared → Prop) (hR : ∀ f s', Q f s' → R (.ok f) s')
    (i : Nat) (c : σ) (hi : i ≤ n) (hP : P i c) (F : Fr g env.locals s.heap (Mp c)) (N : News g env.locals s.heap (Nw c)) (hIt : It i s.heap) :
    codeAny (model prog w) A (.forLoop target (.ref I) body [] env) R s := by
  refine codeAny_loop' rfl (fun k s₁ => ∃ i c h tk, i ≤ n ∧ k = n - i ∧ P i c ∧ s₁ = { s with heap := h, toks := tk } ∧ Fr g env.locals h (Mp c) ∧ News g env.locals h (Nw c) ∧ It i h) ?_ (n - i) ⟨i, c, s.heap, s.toks, hi, rfl, hP, rfl, F, N, hIt⟩
  rintro k s₁ ⟨i, c, h, tk, hi, rfl, hP, rfl, F, N, hIt⟩
  show wpAny _ _ ((forTurn target (.ref I) body [] env).onRaise (fun x => do noteFrame x env; theTreesLotGoes x)) _ _ _
  refine wpAny_noted ?_
  simp only [forTurn]
  refine wpAny_bind (wpAny_standAt (wpAny_bind (wpAny_onRaise ?_)))
  by_cases hlt : i < n
  · refine Walks.item W i _ _ _ hlt hIt fun v h' tk' hv hIt' hk => ?_
    have F' := Fr.extBut F hI1 hI2 hk
    have N' := News.extBut N (hI3 _ _ hP) hk
    refine wpAny_bind (htgt i v _ _ _ hIt' ?_ hv)
    obtain ⟨o, ho⟩ := hI4 _ _ hIt'
    have N₂ : News g env.locals h' ((I, o) :: Nw c) := fun p hp => by
      rcases List.mem_cons.mp hp with hp | hp
      · rw [hp]; exact ⟨ho, hI1, hI2⟩
      · exact N' p hp
    refine wpAny_bind (wpAny_noRaise (wpAny_mono (turn i c v h' tk' o hlt hv hP F' N₂) (fun _ s₂ hb => ?_) fun _ _ x => x))
    refine wpAny_bind (wpAny_noRaise (wpAny_mono hb (fun f s₃ hf => ?_) fun _ _ x => x))
    have nx : (∃ c h tk, P (i + 1) c ∧ s₃ = { s with heap := h, toks := tk } ∧ Fr g env.locals h (Mp c) ∧ News g env.locals h ((I, o) :: Nw c)) →
        ∃ m, m < n - i ∧ ∃ i c h tk, i ≤ n ∧ m = n - i ∧ P i c ∧ s₃ = { s with heap := h, toks := tk } ∧ Fr g env.locals h (Mp c) ∧ News g env.locals h (Nw c) ∧ It i h := by
      rintro ⟨c', h₃, tk₃, hP', rfl, F₃, N₃⟩
      refine ⟨n - (i + 1), by omega, i + 1, c', h₃, tk₃, hlt, rfl, hP', rfl, F₃, fun p hp => N₃ p (.tail _ hp), W.frame _ _ _ hIt' fun b hb ob eb => ?_⟩
      by_cases hbI : b = I
      · subst hbI
        rw [ho] at eb
        cases eb
        exact (N₃ (b, _) (.head _)).1
      · obtain ⟨o', hb'⟩ := hrest b hb hbI
        rw [hb' c h' F' N'] at eb
        cases eb
        exact hb' c' h₃ F₃ fun p hp => N₃ p (.tail _ hp)
    cases f with
    | next => exact wpAny_pure (.inl ⟨rfl, nx hf⟩)
    | cont => exact wpAny_pure (.inl ⟨rfl, nx hf⟩)
    | brk => exact wpAny_pure (hR _ _ hf)
    | ret v => exact wpAny_pure (hR _ _ hf)
  · have hin : i = n := by omega
    subst hin
    refine W.done _ _ _ hIt fun h' tk' hk => ?_
    refine wpAny_pure (.inr ⟨rfl, codeAny_block (wpAny_execs_nil (hR _ _ (done c h' tk' hP (Fr.extBut F hI1 hI2 hk) (News.extBut N (hI3 _ _ hP) hk))))⟩)
/-- a list object that stands still -/
noncomputable def LAt {σ : Type} (g : Heap) (Nw : σ → List (Addr × Obj)) (l : Addr) (o : Obj) : Prop := g.get? l = some o ∨ ∀ c, (l, o) ∈ Nw c
theorem LAt.get {σ : Type} {Nw : σ → List (Addr × Obj)} {l : Addr} {o : Obj} {L : Addr} {m : Str → Option Value} {h : Heap} {c : σ} (x : LAt g Nw l o) (F : Fr g L h m) (N : News g L h (Nw c)) : h.get? l = some o :=
  x.elim (fun e => F.keep _ _ e) fun e => (N _ (e c)).1
theorem Fr.lt {L : Addr} {m : Str → Option Value} {h : Heap} (F : Fr g L h m) : h.objs.size ≠ L := fun e => Nat.lt_irrefl _ (e ▸ F.ns.lt)
theorem goName {x : Str} {px : Pos} {it v : Value} : letOwnedTupleGo (.Name x px) it v = pure () := rfl
theorem goTuple {elts : List Expr} {k : Nat} {pos : Pos} {I l : Addr} {i : Nat} {v : Value} {R : Unit → Shared → Prop} {E : Value → Shared → Prop} (hit : s.heap.IsListIter I l i) (h : R () s) :
    wpAny (model prog w) A (letOwnedTupleGo (.Tuple elts k pos) (.ref I) v) R E s := by
  cases v
  case ref a => exact wpAny_letOwnedTupleGo_listiter hit h
  all_goals exact wpAny_pure h
noncomputable def TgtOk (target : Expr) : Bool := match target with
  | .Name .. => true
  | .Tuple .. => true
  | _ => false
theorem iter_list {σ : Type} {target : Expr} {body : List Stmt} {l : Addr} {o : Obj} {vs : Array Value} {m₀ : Str → Option Value} {news : List (Addr × Obj)} {X E : Value → Shared → Prop}
    (F : Fr g env.locals s.heap m₀) (N : News g env.locals s.heap news) (upd : σ → List (Str × Option Value)) (Nw : σ → List (Addr × Obj)) (P : Nat → σ → Prop)
    (hu : ∃ c₀, P 0 c₀ ∧ Agr m₀ (upd c₀) ∧ Nw c₀ = news) (hadr : ∀ c, (Nw c).map (·.1) = news.map (·.1))
    (hl : LAt g Nw l o) (ho : o.cls = .type "list" ∧ ∃ k, o.data = .seq vs k) (hh : A.handled = none) (ht : TgtOk target = true)
    (turn : ∀ i c v I ob h tk, vs[i]? = some v → P i c → (∀ p ∈ news, p.1 < I) → Fr g env.locals h (ov (upd c) m₀) → News g env.locals h ((I, ob) :: Nw c) →
      wpAny (model prog w) A (assign target env v) (fun _ s₂ => wpAny (model prog w) A (execs body env) (TurnEnd g env.locals (fun c => ov (upd c) m₀) (fun c => (I, ob) :: Nw c) (P (i + 1)) s Q) NoE s₂) NoE { s with heap := h, toks := tk })
    (done : ∀ c h tk, P vs.size c → Fr g env.locals h (ov (upd c) m₀) → News g env.locals h (Nw c) → Q .next { s with heap := h, toks := tk }) :
    wpAny (model prog w) A (pyIter (.ref l)) (fun it s₂ => codeAny (model prog w) A (.forLoop target it body [] env) (fun r s' => match r with | .ok f => Q f s' | .error e => X e s') s₂) E s := by
  obtain ⟨c₀, h0, ha, rfl⟩ := hu
  have hls : s.heap.get? l = some o := hl.get F N
  have hIs : s.heap.IsList l vs := ⟨o, hls, ho.1, ho.2⟩
  have hne : l ≠ s.heap.objs.size := Nat.ne_of_lt (Heap.lt_size hls)
  have hlt : ∀ p ∈ Nw c₀, p.1 < s.heap.objs.size := fun p hp => Heap.lt_size (N p hp).1
  refine wpAny_pyIter_list hIs ?_
  refine for_core (Walks.list hh s.heap.objs.size l hne vs) (fun c => ov (upd c) m₀) Nw P (Fr.lt F) (next_is_new F) (fun i c hP hm => ?_) (fun i h hi => ?_) (fun b hb hbI => ?_) (fun i v s R E hi hR hv => ?_) (fun i c v h tk ob hi hv hP F N => ?_) (fun c h tk hP F N => ?_) _ (fun f s' hf => hf) 0 c₀ (Nat.zero_le _) h0 ((Fr.re F (ov_of ha fun _ _ => rfl)).push _) (fun p hp => ⟨Heap.get?_push_of_some _ (N p hp).1, (N p hp).2⟩) ⟨⟨_, Heap.get?_push_size _ rfl, rfl, rfl⟩, hIs.push _⟩
  · rw [hadr c] at hm
    obtain ⟨p, hp, e⟩ := List.mem_map.mp hm
    exact Nat.lt_irrefl _ (e ▸ hlt p hp)
  · obtain ⟨⟨o', ho', _⟩, _⟩ := hi
    exact ⟨o', ho'⟩
  · have : b = l := by
      rcases List.mem_cons.mp hb with h | h
      · exact absurd h hbI
      · exact List.mem_singleton.mp h
    subst this
    exact ⟨o, fun c h F N => hl.get F N⟩
  · cases target
    case Name => exact wpAny_of_eq goName hR
    case Tuple => exact goTuple hi.1 hR
    all_goals cases ht
  · exact turn i c v _ ob h tk hv hP hlt F N
  · exact done c h tk hP F N
theorem iter_range {σ : Type} {target : Expr} {body : List Stmt} {r : Addr} {a b c : Int} {t u v : Tok} {n : Nat} {m₀ : Str → Option Value} {news : List (Addr × Obj)} {X E : Value → Shared → Prop}
    (F : Fr g env.locals s.heap m₀) (N : News g env.locals s.heap news) (upd : σ → List (Str × Option Value)) (Nw : σ → List (Addr × Obj)) (P : Nat → σ → Prop)
    (hu : ∃ c₀, P 0 c₀ ∧ Agr m₀ (upd c₀) ∧ Nw c₀ = news) (hadr : ∀ c, (Nw c).map (·.1) = news.map (·.1))
    (hr : IsRange s.heap r a b c t u v) (hsm : Builtin.Range.small a b c = true) (hn : Builtin.Range.rangeSize a b c = (n : Int)) (hh : A.handled = none) (ht : ∃ x px, target = .Name x px)
    (turn : ∀ i c' k t I ob h tk, i < n → k = a + i * c → P i c' → (∀ p ∈ news, p.1 < I) → Fr g env.locals h (ov (upd c') m₀) → News g env.locals h ((I, ob) :: Nw c') →
      wpAny (model prog w) A (assign target env (.int k t)) (fun _ s₂ => wpAny (model prog w) A (execs body env) (TurnEnd g env.locals (fun c => ov (upd c) m₀) (fun c => (I, ob) :: Nw c) (P (i + 1)) s Q) NoE s₂) NoE { s with heap := h, toks := tk })
    (done : ∀ c h tk, P n c → Fr g env.locals h (ov (upd c) m₀) → News g env.locals h (Nw c) → Q .next { s with heap := h, toks := tk }) :
    wpAny (model prog w) A (pyIter (.ref r)) (fun it s₂ => codeAny (model prog w) A (.forLoop target it body [] env) (fun r s' => match r with | .ok f => Q f s' | .error e => X e s') s₂) E s := by
  obtain ⟨c₀, h0, ha, rfl⟩ := hu
  obtain ⟨x, px, rfl⟩ := ht
  have hlt : ∀ p ∈ Nw c₀, p.1 < s.heap.objs.size := fun p hp => Heap.lt_size (N p hp).1
  refine wpAny_pyIter_range hr hsm ?_
  refine for_core (Walks.range hh s.heap.objs.size a c n) (fun c => ov (upd c) m₀) Nw P (Fr.lt F) (next_is_new F) (fun i c hP hm => ?_) (fun i h hi => ⟨_, hi⟩) (fun b hb hbI => absurd (List.mem_singleton.mp hb) hbI) (fun i v s R E hi hR hv => wpAny_of_eq goName hR) (fun i c' v h tk ob hi hv hP F N => ?_) (fun c h tk hP F N => ?_) _ (fun f s' hf => hf) 0 c₀ (Nat.zero_le _) h0 ((Fr.re F (ov_of ha fun _ _ => rfl)).push _) (fun p hp => ⟨Heap.get?_push_of_some _ (N p hp).1, (N p hp).2⟩) ?_
  · rw [hadr c] at hm
    obtain ⟨p, hp, e⟩ := List.mem_map.mp hm
    exact Nat.lt_irrefl _ (e ▸ hlt p hp)
  · obtain ⟨t', rfl⟩ := hv
    exact turn i c' _ t' _ ob h tk hi rfl hP hlt F N
  · exact done c h tk hP F N
  · show IsRangeIter _ _ _ _ _
    rw [hn]
    simpa using Heap.get?_push_size _ rfl
/-- over the signs of a text, with objects that come on the way -/
theorem iter_strG {σ : Type} {target : Expr} {body : List Stmt} {y : Str} {ty : Tok} {m₀ : Str → Option Value} {news : List (Addr × Obj)} {X E : Value → Shared → Prop}
    (F : Fr g env.locals s.heap m₀) (N : News g env.locals s.heap news) (upd : σ → List (Str × Option Value)) (Nw : σ → List (Addr × Obj)) (P : Addr → Nat → σ → Prop)
    (hu : ∃ c₀, (∀ I, (∀ p ∈ news, p.1 < I) → P I 0 c₀) ∧ Agr m₀ (upd c₀) ∧ Nw c₀ = news) (hoff : ∀ I i c, P I i c → ∀ p ∈ Nw c, p.1 ≠ I) (hh : A.handled = none) (ht : ∃ x px, target = .Name x px)
    (turn : ∀ i c ch t I ob h tk, y.cps[i]? = some ch → P I i c → Fr g env.locals h (ov (upd c) m₀) → News g env.locals h ((I, ob) :: Nw c) →
      wpAny (model prog w) A (assign target env (.str ⟨#[ch]⟩ t)) (fun _ s₂ => wpAny (model prog w) A (execs body env) (TurnEnd g env.locals (fun c => ov (upd c) m₀) (fun c => (I, ob) :: Nw c) (P I (i + 1)) s Q) NoE s₂) NoE { s with heap := h, toks := tk })
    (done : ∀ I c h tk, P I y.cps.size c → Fr g env.locals h (ov (upd c) m₀) → News g env.locals h (Nw c) → Q .next { s with heap := h, toks := tk }) :
    wpAny (model prog w) A (pyIter (.str y ty)) (fun it s₂ => codeAny (model prog w) A (.forLoop target it body [] env) (fun r s' => match r with | .ok f => Q f s' | .error e => X e s') s₂) E s := by
  obtain ⟨c₀, h0, ha, rfl⟩ := hu
  obtain ⟨x, px, rfl⟩ := ht
  have hlt : ∀ p ∈ Nw c₀, p.1 < s.heap.objs.size := fun p hp => Heap.lt_size (N p hp).1
  have key : ∀ (ob : Obj) (It : Nat → Heap → Prop) (Wk : Walks prog w A s.heap.objs.size [s.heap.objs.size] [s.heap.objs.size] y.cps.size (SignAt y) It) (h4 : ∀ i h, It i h → ∃ o, h.get? s.heap.objs.size = some o) (hI : It 0 (s.heap.push ob)),
      codeAny (model prog w) A (.forLoop (.Name x px) (.ref s.heap.objs.size) body [] env) (fun r s' => match r with | .ok f => Q f s' | .error e => X e s') { s with heap := s.heap.push ob } := by
    intro ob It Wk h4 hI
    refine for_core Wk (fun c => ov (upd c) m₀) Nw (P s.heap.objs.size) (Fr.lt F) (next_is_new F) (fun i c hP hm => ?_) h4 (fun b hb hbI => absurd (List.mem_singleton.mp hb) hbI) (fun i v s R E hi hR hv => wpAny_of_eq goName hR) (fun i c' v h tk ob hi hv hP F N => ?_) (fun c h tk hP F N => ?_) _ (fun f s' hf => hf) 0 c₀ (Nat.zero_le _) (h0 _ hlt) ((Fr.re F (ov_of ha fun _ _ => rfl)).push _) (fun p hp => ⟨Heap.get?_push_of_some _ (N p hp).1, (N p hp).2⟩) hI
    · obtain ⟨p, hp, e⟩ := List.mem_map.mp hm
      exact hoff _ _ _ hP p hp e
    · obtain ⟨ch, t', hc, rfl⟩ := hv
      exact turn i c' ch t' _ ob h tk hc hP F N
    · exact done _ c h tk hP F N
  cases ha' : y.cps.all (· < 128)
  · exact wpAny_pyIter_wide ha' (key _ _ (Walks.strWide hh s.heap.objs.size y ty) (fun i h hi => hi.imp fun _ x => x.1) ⟨_, Heap.get?_push_size _ rfl, rfl, rfl⟩)
  · exact wpAny_pyIter_ascii ha' (key _ _ (Walks.strAscii hh s.heap.objs.size y ty) (fun i h hi => hi.imp fun _ x => x.1) ⟨_, Heap.get?_push_size _ rfl, rfl, rfl⟩)
end
end
section
open PySem PySem.W PyProof.Rows PySem.Calls PySem.Spec
section
variable {prog : Program} {w : World} {A : Around} {E : Value → Shared → Prop} {s : Shared} {h₀ : Heap} {L D : Addr} {m : Str → Option Value} {news : List (Addr × Obj)} {its : Array Value} {n : Nat} {k : Int} {t : Tok}
/-- what stands in the heap once one object has changed -/
noncomputable def Now (h₀ : Heap) (L : Addr) (h' : Heap) (D : Addr) (o' : Obj) (news : List (Addr × Obj)) : Prop := ∀ nx : List (Addr × Obj), (∀ p ∈ nx, p = (D, o') ∨ (p ∈ news ∧ p.1 ≠ D)) → News h₀ L h' nx
theorem now_of {h h' : Heap} {o o' : Obj} (N : News h₀ L h news) (hm : (D, o) ∈ news) (hs : Heap.SameBut D h h') (ho : h'.get? D = some o') : Now h₀ L h' D o' news := fun nx hx p hp => by
  rcases hx p hp with rfl | ⟨hq, hne⟩
  · exact ⟨ho, (N _ hm).2⟩
  · exact ⟨(hs.2 _ hne).trans (N _ hq).1, (N _ hq).2⟩
theorem set_list {v : Value} {Q : Unit → Shared → Prop} (F : Fr h₀ L s.heap m) (N : News h₀ L s.heap news) (hm : (D, W.listOf its n) ∈ news) (h0 : 0 ≤ k) (hn : k < its.size) (hfit : k < 2 ^ 63)
    (h : ∀ h', Fr h₀ L h' m → Now h₀ L h' D (W.listOf (its.setIfInBounds k.toNat v) n) news → Q () { s with heap := h' }) : wpAny (model prog w) A (setItem (.ref D) (.int k t) v) Q E s := by
  have z := N _ hm
  refine ki_setAt z.1 h0 hfit hn (h _ (F.change (Heap.SameBut.update ..) z.2.1 z.2.2) (now_of N hm (Heap.SameBut.update ..) ?_))
  have q := PySem.IsL.update z.1 (fun a : Array Value => a.setIfInBounds k.toNat v)
  have e : (if (its.setIfInBounds k.toNat v).size == its.size then n else n + 1) = n := by simp
  rw [e] at q
  exact q
theorem app_list {v : Value} {Q : Value → Shared → Prop} (F : Fr h₀ L s.heap m) (N : News h₀ L s.heap news) (hm : (D, W.listOf its n) ∈ news) (hz : its.size ≤ sizeLine)
    (h : ∀ h', Fr h₀ L h' m → Now h₀ L h' D (W.listOf (its.push v) (n + 1)) news → Q .none { s with heap := h' }) : wpAny (model prog w) A (call (.builtin "list.append") [.ref D, v]) Q E s := by
  have z := N _ hm
  exact append_at (hsz := hz) z.1 fun h' hs ho' => h h' (F.change hs z.2.1 z.2.2) (now_of N hm hs ho')
theorem sub_last {value slice : Expr} {x : Value} {u : Tok} {Q : Value → Shared → Prop} (N : News h₀ L s.heap news) (hm : (D, W.listOf its n) ∈ news) (hx : its.toList.getLast? = some x) (h : Q x s)
    (hs : subscripted slice false (.ref D) (.int (-1) u) = operate [.ref D, .int (-1) u] (getItem (.ref D) (.int (-1) u)) := by with_unfolding_all rfl) :
    wpAny (model prog w) A (subscriptTail value slice (.ref D) (.int (-1) u)) Q E s := by
  have hl : s.heap.IsList D its := ⟨_, (N _ hm).1, rfl, _, rfl⟩
  have hne : 0 < its.size := by
    cases hc : its.toList with
    | nil => rw [hc] at hx; cases hx
    | cons a r => rw [← Array.length_toList, hc]; exact Nat.succ_pos _
  refine tail_any hl.typeIs slot_list_getitem.lookup (wpAny_getItem_list_neg hl (by decide) (by omega) (by decide) ?_ h) hs
  have e : (-1 + (its.size : Int)).toNat = its.size - 1 := by omega
  rw [e, ← hx, List.getLast?_eq_getElem?, Array.getElem?_toList, Array.length_toList]
end
theorem Cx.nest {w : World} {mean : ExcName → Option Value} {mg mb : Str → Option Value} {A : Around} {env env' : Env} {outer : List Env} {base g : Heap} {L : Addr} {m : Str → Option Value} {news : List (Addr × Obj)} {s : Shared}
    (B : Below A base (env :: outer) g) (F : Fr g L s.heap m) (X : (KK w.params).In g) (N : News g L s.heap news) (T : Top QQ LL mean mg mb g) (hA : A.frames = some (env :: outer)) (hf : env'.frame = some L) (hk : env'.scope.kind = .function)
    (hd : A.depth + 16 < recursionLimit) (hu : A.units + 256 < cLine) (hh : A.handled = none) : Cx w mean mg mb (A.deeper env') A env' (env :: outer) base g L m news s where
  B := B
  F := F
  X := X
  N := N
  T := T
  hA := by show A.frames.map (env' :: ·) = _; rw [hA]; rfl
  hf := hf
  hk := hk
  hd := by show A.depth + 1 + 8 < _; omega
  hu := by show A.units + 3 + 128 < _; omega
  hh := hh
theorem ia_set {vs : List Value} {ns : List Int} (h : IntsAre vs ns) (k : Nat) (v : Int) (t : Tok) : IntsAre (vs.set k (.int v t)) (ns.set k v) := by
  induction h generalizing k with
  | nil => exact .nil
  | cons n u r ih =>
    cases k with
    | zero => exact .cons _ _ r
    | succ k => exact .cons _ _ (ih k)
theorem ia_nth {vs : List Value} {ns : List Int} (h : IntsAre vs ns) {k : Nat} (hk : k < ns.length) : ∃ t, vs[k]? = some (.int (ns.getD k 0) t) := by
  induction h generalizing k with
  | nil => exact absurd hk (Nat.not_lt_zero _)
  | cons n u r ih =>
    cases k with
    | zero => exact ⟨u, rfl⟩
    | succ k => exact ih (Nat.lt_of_succ_lt_succ hk)
theorem ia_len {vs : List Value} {ns : List Int} (h : IntsAre vs ns) : vs.length = ns.length := by
  induction h with
  | nil => rfl
  | cons n u r ih => simp [ih]
section
variable {prog : Program} {w : World} {A : Around} {E : Value → Shared → Prop} {s : Shared} {h₀ : Heap} {L D : Addr} {m : Str → Option Value} {news : List (Addr × Obj)} {its : Array Value} {n : Nat} {k v : Int} {t u : Tok} {ns : List Int}
theorem sub_ints {value slice : Expr} {Q : Value → Shared → Prop} (N : News h₀ L s.heap news) (hm : (D, W.listOf its n) ∈ news) (hi : IntsAre its.toList ns) (hl : ns.length = 5) (h0 : 0 ≤ k) (h1 : k < 5) (h : ∀ t', Q (.int (ns.getD k.toNat 0) t') s)
    (hs : subscripted slice false (.ref D) (.int k u) = operate [.ref D, .int k u] (getItem (.ref D) (.int k u)) := by with_unfolding_all rfl) :
    wpAny (model prog w) A (subscriptTail value slice (.ref D) (.int k u)) Q E s := by
  obtain ⟨t', e⟩ := ia_nth hi (k := k.toNat) (by omega)
  exact sub_news N hm h0 (by omega) e (h t') hs
theorem get_ints {Q : Value → Shared → Prop} (N : News h₀ L s.heap news) (hm : (D, W.listOf its n) ∈ news) (hi : IntsAre its.toList ns) (hl : ns.length = 5) (h0 : 0 ≤ k) (h1 : k < 5) (h : ∀ t', Q (.int (ns.getD k.toNat 0) t') s) :
    wpAny (model prog w) A (getItem (.ref D) (.int k u)) Q E s := by
  obtain ⟨t', e⟩ := ia_nth hi (k := k.toNat) (by omega)
  have hl : s.heap.IsList D its := ⟨_, (N _ hm).1, rfl, _, rfl⟩
  exact wpAny_getItem_list hl h0 (by omega) (by rw [← Array.getElem?_toList]; exact e) (h t')
theorem set_ints {Q : Unit → Shared → Prop} (F : Fr h₀ L s.heap m) (N : News h₀ L s.heap news) (hm : (D, W.listOf its n) ∈ news) (hi : IntsAre its.toList ns) (hl : ns.length = 5) (h0 : 0 ≤ k) (h1 : k < 5)
    (h : ∀ h' its', Fr h₀ L h' m → IntsAre its'.toList (ns.set k.toNat v) → Now h₀ L h' D (W.listOf its' n) news → Q () { s with heap := h' }) : wpAny (model prog w) A (setItem (.ref D) (.int k t) (.int v u)) Q E s := by
  have hz : its.size = 5 := by rw [← Array.length_toList, ia_len hi, hl]
  refine set_list F N hm h0 (by omega) (by omega) fun h' F' hN => h h' _ F' ?_ hN
  rw [Array.toList_setIfInBounds]
  exact ia_set hi _ _ _
theorem tuple_list {env : Env} {elts : List Expr} {x1 : Nat} {pos : Pos} {items : Array Value} {Q : Unit → Shared → Prop} (F : Fr h₀ L s.heap m) (N : News h₀ L s.heap news) (hm : (D, W.listOf items n) ∈ news) (hh : A.handled = none) (hn : (assignEach elts env).length = items.size)
    (hstar : (assignEach elts env).findIdx? (·.1) = none) (h : ∀ h', Fr h₀ L h' m → News h₀ L h' news → wpAny (model prog w) A (assignInOrder ((assignEach elts env).map (·.2)) items.toList) Q E { s with heap := h' }) :
    wpAny (model prog w) A (assign (.Tuple elts x1 pos) env (.ref D)) Q E s :=
  kun_list F N ⟨_, (N _ hm).1, rfl, _, rfl⟩ hh hn hstar h
end
/-- the lamp next round -/
noncomputable def nextL : List Int := [1, 2, 3, 4, 0]
noncomputable abbrev goalOf (p : Int) : Int := nextL.getD p.toNat 0
theorem goal_bd {p : Int} (h0 : 0 ≤ p) (h1 : p < 5) : 0 ≤ goalOf p ∧ goalOf p < 5 := by
  have : p = 0 ∨ p = 1 ∨ p = 2 ∨ p = 3 ∨ p = 4 := by omega
  rcases this with rfl | rfl | rfl | rfl | rfl <;> decide
end
section
open PySem PySem.W PyProof.Rows PySem.Calls PySem.Spec
section
variable {prog : Program} {w : World} {A : Around} {E Q : Value → Shared → Prop} {s : Shared} {h₀ : Heap} {L : Addr} {m : Str → Option Value} {news : List (Addr × Obj)} {x y z : UInt64} {t u v : Tok}
theorem Fr.grow {h h' : Heap} (F : Fr h₀ L h m) (k : ∀ d o, h.get? d = some o → h'.get? d = some o) : Fr h₀ L h' m :=
  ⟨Heap.Ns.at' F.ns fun o e => k _ _ e, fun b o e => k _ _ (F.keep b o e), F.above⟩
theorem News.grow {h h' : Heap} (N : News h₀ L h news) (k : ∀ d o, h.get? d = some o → h'.get? d = some o) : News h₀ L h' news := fun p hp => ⟨k _ _ (N p hp).1, (N p hp).2⟩
theorem int_fin (hf : Float64.isFinite x = true) (h : Q (.int (Flt.toInt Float64.truncOf x) s.toks) { s with toks := s.toks + 1 }) : wpAny (model prog w) A (call (.type "int") [.float x t]) Q E s := by
  rcases Flt.three x with ⟨hd, c⟩ | ⟨_, hd, c⟩ | ⟨sg, m, e, hd, c⟩
  · unfold Float64.isFinite at hf; rw [hd] at hf; cases hf
  · unfold Float64.isFinite at hf; rw [hd] at hf; cases hf
  · rw [Flt.toInt_fin hd] at h
    exact call_int_float hd h
theorem sub_fi_ok {n : Int} (hh : A.handled = none) (ho : n.natAbs < 1000000) (h : Q (.float (Float64.sub x (Float64.ofInt n)) s.toks) { s with toks := s.toks + 1 }) : wpAny (model prog w) A (binaryOp .Sub (.float x t) (.int n u)) Q E s :=
  sub_fi_sharp hh (fun c => absurd c (Nat.not_le.mpr (Nat.lt_of_lt_of_le ho (by decide +kernel)))) fun _ => h
theorem div_ok (hh : A.handled = none) (hz : Float64.isZero y = false) (h : Q (.float (Float64.div x y) s.toks) { s with toks := s.toks + 1 }) : wpAny (model prog w) A (binaryOp .Div (.float x t) (.float y u)) Q E s :=
  truediv_float_or hh (fun c => by rw [hz] at c; cases c) fun _ => h
theorem mod_ok (hh : A.handled = none) (hz : Float64.isZero y = false) (h : Q (.float (Float64.divmod x y).2 s.toks) { s with toks := s.toks + 1 }) : wpAny (model prog w) A (binaryOp .Mod (.float x t) (.float y u)) Q E s :=
  Flt.mod_ff hh (fun c => by rw [hz] at c; cases c) fun _ => h
section
variable {env : Env}
theorem sub_fi_okD {n : Int} (hh : A.handled = none) (ho : n.natAbs < 1000000) (h : Q (.float (Float64.sub x (Float64.ofInt n)) s.toks) { s with toks := s.toks + 1 }) : wpAny (model prog w) (A.deeper env) (binaryOp .Sub (.float x t) (.int n u)) Q E s := sub_fi_ok hh ho h
theorem div_okD (hh : A.handled = none) (hz : Float64.isZero y = false) (h : Q (.float (Float64.div x y) s.toks) { s with toks := s.toks + 1 }) : wpAny (model prog w) (A.deeper env) (binaryOp .Div (.float x t) (.float y u)) Q E s := div_ok hh hz h
theorem mod_okD (hh : A.handled = none) (hz : Float64.isZero y = false) (h : Q (.float (Float64.divmod x y).2 s.toks) { s with toks := s.toks + 1 }) : wpAny (model prog w) (A.deeper env) (binaryOp .Mod (.float x t) (.float y u)) Q E s := mod_ok hh hz h
end
noncomputable def ltF (x y : UInt64) : Bool := Float64.cmp x y == some .lt
noncomputable def max3F (x y z : UInt64) : UInt64 :=
  let b := if ltF x y then y else x
  if ltF b z then z else b
noncomputable def min3F (x y z : UInt64) : UInt64 :=
  let b := if ltF y x then y else x
  if ltF z b then z else b
theorem max3 (hh : A.handled = none) (F : Fr h₀ L s.heap m) (N : News h₀ L s.heap news)
    (h : ∀ h' tk t, Fr h₀ L h' m → News h₀ L h' news → Q (.float (max3F x y z) t) { s with heap := h', toks := tk }) : wpAny (model prog w) A (call (.builtin "max") [.float x t, .float y u, .float z v]) Q E s := by
  have hT : (s.heap.push { cls := .type "tuple", data := .seq #[.float x t, .float y u, .float z v] }).IsTuple s.heap.objs.size #[.float x t, .float y u, .float z v] := ⟨_, Heap.get?_push_size _ rfl, rfl, 0, rfl⟩
  refine call_max_three (wpAny_pyIter_tuple hT ?_)
  have hsz : (s.heap.push { cls := .type "tuple", data := .seq #[.float x t, .float y u, .float z v] }).objs.size = s.heap.objs.size + 1 := Heap.size_push ..
  refine ⟨_, [_, s.heap.objs.size], [_], _, _, _, _, rfl, Walks.tuple (A := A.in1) hh _ s.heap.objs.size (by rw [hsz]; exact Nat.ne_of_lt (Nat.lt_succ_self _)) _,
    ⟨⟨_, Heap.get?_push_size _ rfl, rfl, rfl⟩, hT.push _⟩, fun d hd => ?_, by simp, Flt.cmpOf_gt #[.float x t, .float y u, .float z v] (by simp; refine ⟨?_, ?_, ?_⟩ <;> constructor), fun r h' tk hP hk => ?_⟩
  · show d < ((s.heap.push _).push _).objs.size
    rw [Heap.size_push, hsz]
    simp only [List.mem_cons, List.not_mem_nil, or_false] at hd
    rcases hd with rfl | rfl
    · rw [hsz]; exact Nat.lt_succ_self _
    · exact Nat.lt_succ_of_lt (Nat.lt_succ_self _)
  · have hold : ∀ d o, s.heap.get? d = some o → h'.get? d = some o := fun d o e => by
      refine hk d o (fun hm => ?_) (Heap.get?_push_of_some _ (Heap.get?_push_of_some _ e))
      have e1 := List.mem_singleton.mp hm
      have := Heap.lt_size e
      rw [e1, hsz] at this
      exact Nat.lt_irrefl _ (Nat.lt_of_succ_lt this)
    have hh' := fun t' => h h' tk t' (Fr.grow F hold) (News.grow N hold)
    have hr : ∃ t', r = .float (max3F x y z) t' := by
      revert hP
      unfold max3F
      simp only [argBest, List.size_toArray, List.length_cons, List.length_nil]
      show (#[Value.float x t, .float y u, .float z v] : Array Value)[if Flt.ltV (#[Value.float x t, .float y u, .float z v].getD (if ltF x y then 1 else 0) .none) (.float z v) then 2 else if ltF x y then 1 else 0]? = some r → _
      cases h1 : ltF x y
      · show (#[Value.float x t, .float y u, .float z v] : Array Value)[if ltF x z then 2 else 0]? = some r → _
        cases h2 : ltF x z
        · intro e; exact ⟨t, by simpa [h2] using e.symm⟩
        · intro e; exact ⟨v, by simpa [h2] using e.symm⟩
      · show (#[Value.float x t, .float y u, .float z v] : Array Value)[if ltF y z then 2 else 1]? = some r → _
        cases h2 : ltF y z
        · intro e; exact ⟨u, by simpa [h2] using e.symm⟩
        · intro e; exact ⟨v, by simpa [h2] using e.symm⟩
    obtain ⟨t', rfl⟩ := hr
    exact hh' t'
theorem min3 (hh : A.handled = none) (F : Fr h₀ L s.heap m) (N : News h₀ L s.heap news)
    (h : ∀ h' tk t, Fr h₀ L h' m → News h₀ L h' news → Q (.float (min3F x y z) t) { s with heap := h', toks := tk }) : wpAny (model prog w) A (call (.builtin "min") [.float x t, .float y u, .float z v]) Q E s := by
  have hT : (s.heap.push { cls := .type "tuple", data := .seq #[.float x t, .float y u, .float z v] }).IsTuple s.heap.objs.size #[.float x t, .float y u, .float z v] := ⟨_, Heap.get?_push_size _ rfl, rfl, 0, rfl⟩
  refine call_min_three (wpAny_pyIter_tuple hT ?_)
  have hsz : (s.heap.push { cls := .type "tuple", data := .seq #[.float x t, .float y u, .float z v] }).objs.size = s.heap.objs.size + 1 := Heap.size_push ..
  refine ⟨_, [_, s.heap.objs.size], [_], _, _, _, _, rfl, Walks.tuple (A := A.in1) hh _ s.heap.objs.size (by rw [hsz]; exact Nat.ne_of_lt (Nat.lt_succ_self _)) _,
    ⟨⟨_, Heap.get?_push_size _ rfl, rfl, rfl⟩, hT.push _⟩, fun d hd => ?_, by simp, Flt.cmpOf_lt #[.float x t, .float y u, .float z v] (by simp; refine ⟨?_, ?_, ?_⟩ <;> constructor), fun r h' tk hP hk => ?_⟩
  · show d < ((s.heap.push _).push _).objs.size
    rw [Heap.size_push, hsz]
    simp only [List.mem_cons, List.not_mem_nil, or_false] at hd
    rcases hd with rfl | rfl
    · rw [hsz]; exact Nat.lt_succ_self _
    · exact Nat.lt_succ_of_lt (Nat.lt_succ_self _)
  · have hold : ∀ d o, s.heap.get? d = some o → h'.get? d = some o := fun d o e => by
      refine hk d o (fun hm => ?_) (Heap.get?_push_of_some _ (Heap.get?_push_of_some _ e))
      have e1 := List.mem_singleton.mp hm
      have := Heap.lt_size e
      rw [e1, hsz] at this
      exact Nat.lt_irrefl _ (Nat.lt_of_succ_lt this)
    have hh' := fun t' => h h' tk t' (Fr.grow F hold) (News.grow N hold)
    have hr : ∃ t', r = .float (min3F x y z) t' := by
      revert hP
      unfold min3F
      simp only [argBest, List.size_toArray, List.length_cons, List.length_nil]
      show (#[Value.float x t, .float y u, .float z v] : Array Value)[if Flt.ltV (.float z v) (#[Value.float x t, .float y u, .float z v].getD (if ltF y x then 1 else 0) .none) then 2 else if ltF y x then 1 else 0]? = some r → _
      cases h1 : ltF y x
      · show (#[Value.float x t, .float y u, .float z v] : Array Value)[if ltF z x then 2 else 0]? = some r → _
        cases h2 : ltF z x
        · intro e; exact ⟨t, by simpa [h2] using e.symm⟩
        · intro e; exact ⟨v, by simpa [h2] using e.symm⟩
      · show (#[Value.float x t, .float y u, .float z v] : Array Value)[if ltF z y then 2 else 1]? = some r → _
        cases h2 : ltF z y
        · intro e; exact ⟨u, by simpa [h2] using e.symm⟩
        · intro e; exact ⟨v, by simpa [h2] using e.symm⟩
    obtain ⟨t', rfl⟩ := hr
    exact hh' t'
section
variable {env : Env}
theorem max3D (hh : A.handled = none) (F : Fr h₀ L s.heap m) (N : News h₀ L s.heap news)
    (h : ∀ h' tk t, Fr h₀ L h' m → News h₀ L h' news → Q (.float (max3F x y z) t) { s with heap := h', toks := tk }) : wpAny (model prog w) (A.deeper env) (call (.builtin "max") [.float x t, .float y u, .float z v]) Q E s := max3 hh F N h
theorem min3D (hh : A.handled = none) (F : Fr h₀ L s.heap m) (N : News h₀ L s.heap news)
    (h : ∀ h' tk t, Fr h₀ L h' m → News h₀ L h' news → Q (.float (min3F x y z) t) { s with heap := h', toks := tk }) : wpAny (model prog w) (A.deeper env) (call (.builtin "min") [.float x t, .float y u, .float z v]) Q E s := min3 hh F N h
end
end
end
section
open PySem PySem.W PyProof.Rows PySem.Calls PySem.Spec
theorem va_stored {kvs : List (Int × Value)} {k x : Int} {v : Value} : valueAt (stored kvs k v) x = if x = k then some v else valueAt kvs x := by
  unfold stored
  split
  · rename_i hany
    induction kvs with
    | nil => simp at hany
    | cons q r ih =>
      obtain ⟨a, u⟩ := q
      by_cases ha : a = k
      · subst ha
        by_cases hx : x = a
        · subst hx; simp [valueAt]
        · have hx' : ¬ a = x := fun e => hx e.symm
          have key : ∀ l : List (Int × Value), List.find? (fun kv : Int × Value => decide (kv.1 = x)) (l.map fun kv => if kv.1 = a then (kv.1, v) else kv) = List.find? (fun kv : Int × Value => decide (kv.1 = x)) l := by
            intro l
            induction l with
            | nil => rfl
            | cons p l ihl =>
              obtain ⟨b, y⟩ := p
              by_cases hb : b = a
              · subst hb; simp [hx', ihl]
              · by_cases hbx : b = x
                · subst hbx; simp [hx]
                · simp [hb, hbx, ihl]
          simp only [valueAt, List.map_cons, if_true]
          rw [if_neg hx]
          have := key r
          simp [List.find?_cons, hx', this]
      · have hr : (r.any fun kv => decide (kv.1 = k)) = true := by simpa [ha] using hany
        have ih := ih hr
        by_cases hax : a = x
        · subst hax
          simp [valueAt, ha]
        · simp only [valueAt] at ih ⊢
          simp only [List.map_cons, if_neg ha, List.find?_cons, decide_eq_false hax]
          exact ih
  · rename_i hany
    have hno : ∀ q ∈ kvs, q.1 ≠ k := by
      intro q hq e
      exact hany (List.any_eq_true.mpr ⟨q, hq, by simp [e]⟩)
    unfold valueAt
    rw [List.find?_append]
    by_cases hx : x = k
    · subst hx
      have : List.find? (fun kv : Int × Value => decide (kv.1 = x)) kvs = none := List.find?_eq_none.mpr fun q hq => by simpa using hno q hq
      simp [this]
    · have hx' : ¬ k = x := fun e => hx e.symm
      simp [hx, hx']
theorem keys_stored {kvs : List (Int × Value)} {k : Int} {v : Value} : (stored kvs k v).map (·.1) = if k ∈ kvs.map (·.1) then kvs.map (·.1) else kvs.map (·.1) ++ [k] := by
  unfold stored
  by_cases h : k ∈ kvs.map (·.1)
  · rw [if_pos h, if_pos]
    · rw [List.map_map]
      apply List.map_congr_left
      intro q _
      show (if q.1 = k then (q.1, v) else q).1 = q.1
      split <;> rfl
    · obtain ⟨q, hq, e⟩ := List.mem_map.mp h
      exact List.any_eq_true.mpr ⟨q, hq, by simp [e]⟩
  · rw [if_neg h, if_neg]
    · simp
    · intro ha
      obtain ⟨q, hq, e⟩ := List.any_eq_true.mp ha
      exact h (List.mem_map.mpr ⟨q, hq, by simpa using e⟩)
/-- a dict of ints: its keys and what it says, nought elsewhere -/
noncomputable def DictF (prog : Program) (w : World) (o : Obj) (ks : List Int) (f : Int → Int) : Prop :=
  ∃ kvs, o.IsDictOf (intKind prog w) kvs ∧ kvs.map (·.1) = ks ∧ (∀ k ∈ ks, ∃ t, valueAt kvs k = some (.int (f k) t)) ∧ ∀ k, k ∉ ks → f k = 0
section
variable {prog : Program} {w : World} {A : Around} {E : Value → Shared → Prop} {s : Shared} {h₀ : Heap} {L d : Addr} {m : Str → Option Value} {news : List (Addr × Obj)} {o : Obj} {ks : List Int} {f : Int → Int} {k : Int} {t u : Tok}
theorem DictF.at {kvs : List (Int × Value)} (hk : kvs.map (·.1) = ks) (hv : ∀ k ∈ ks, ∃ t, valueAt kvs k = some (.int (f k) t)) (hz : ∀ k, k ∉ ks → f k = 0) (k : Int) : ∃ t', (valueAt kvs k).getD (.int 0 t) = .int (f k) t' := by
  by_cases h : k ∈ ks
  · obtain ⟨t', e⟩ := hv k h
    exact ⟨t', by rw [e]; rfl⟩
  · have : valueAt kvs k = none := by
      unfold valueAt
      rw [List.find?_eq_none.mpr fun q hq => ?_]
      · rfl
      · have : q.1 ∈ ks := by rw [← hk]; exact List.mem_map_of_mem hq
        intro e
        exact h (by rw [← of_decide_eq_true e]; exact this)
    exact ⟨t, by rw [this, hz k h]; rfl⟩
theorem dict_get2 {Q : Value → Shared → Prop} (N : News h₀ L s.heap news) (hm : (d, o) ∈ news) (lo : (d == sysModules) = false) (hd : DictF prog w o ks f) (h : ∀ t', Q (.int (f k) t') { s with toks := s.toks + 1 }) :
    wpAny (model prog w) A (call (.builtin "dict.get") [.ref d, .int k t, .int 0 u]) Q E s := by
  obtain ⟨kvs, hD, hk, hv, hz⟩ := hd
  have hof : s.heap.DictOf (intKind prog w) d kvs := Heap.dictOf_iff.mpr ⟨o, (N _ hm).1, hD⟩
  obtain ⟨t', e⟩ := DictF.at (t := u) hk hv hz k
  refine call_meetsIn PySem.F.slot_dict_get hof.typeIs PySem.F.entry_dict_get (PySem.F.args_dict_get_3 _ _ _) (meets_dict_get_default (intKind prog w) d (k := k) (intKind_is prog w k t) lo _) ⟨_, hof.mapOf, ?_⟩
  rw [e]
  exact h t'
theorem dict_meth {Q : Value × List Value → Shared → Prop} {pl : Sem Bool} (N : News h₀ L s.heap news) (hm : (d, o) ∈ news) (hd : DictF prog w o ks f) (h : Q (.builtin "dict.get", [.ref d]) s) : wpAny (model prog w) A (getMethod (.ref d) "get" pl) Q E s := by
  obtain ⟨kvs, hD, _⟩ := hd
  have hof : s.heap.DictOf (intKind prog w) d kvs := Heap.dictOf_iff.mpr ⟨o, (N _ hm).1, hD⟩
  exact getMethod_builtin hof.typeIs PySem.F.plainAttrs_dict PySem.F.slot_dict_get PySem.F.type_dict_get hof.mapOf.noDict h
theorem dict_set {v : Int} {Q : Unit → Shared → Prop} (F : Fr h₀ L s.heap m) (N : News h₀ L s.heap news) (hm : (d, o) ∈ news) (hd : DictF prog w o ks f) (hz : ks.length ≤ 1000)
    (h : ∀ h' o', Fr h₀ L h' m → Now h₀ L h' d o' news → DictF prog w o' (if k ∈ ks then ks else ks ++ [k]) (fun x => if x = k then v else f x) → Q () { s with heap := h', toks := s.toks + 1 }) :
    wpAny (model prog w) A (setItem (.ref d) (.int k t) (.int v u)) Q E s := by
  obtain ⟨kvs, hD, hk, hv, hz0⟩ := hd
  have hof : s.heap.DictOf (intKind prog w) d kvs := Heap.dictOf_iff.mpr ⟨o, (N _ hm).1, hD⟩
  have hlen : kvs.length = ks.length := by rw [← hk, List.length_map]
  refine wpAny_setItem_pairs (hsz := by rw [sizeLine_eq]; omega) (intKind_is prog w k t) hof fun h' hm' hs => ?_
  obtain ⟨o', ho', hd'⟩ := Heap.dictOf_iff.mp hm'
  refine h h' o' (F.change hs (N _ hm).2.1 (N _ hm).2.2) (now_of N hm hs ho') ⟨_, hd', by rw [keys_stored, hk], fun x hx => ?_, fun x hx => ?_⟩
  · rw [va_stored]
    by_cases e : x = k
    · exact ⟨u, by rw [if_pos e]; simp [e]⟩
    · rw [if_neg e]
      have : x ∈ ks := by
        split at hx
        · exact hx
        · rcases List.mem_append.mp hx with h | h
          · exact h
          · exact absurd (List.mem_singleton.mp h) e
      obtain ⟨t', e'⟩ := hv x this
      exact ⟨t', by rw [e']; simp [e]⟩
  · have hxk : x ≠ k := by
      rintro rfl
      apply hx
      split
      · assumption
      · simp
    have hxs : x ∉ ks := by
      intro hm
      apply hx
      split
      · exact hm
      · exact List.mem_append.mpr (.inl hm)
    show (if x = k then v else f x) = 0
    rw [if_neg hxk, hz0 x hxs]
end
section
variable {prog : Program} {w : World} {A : Around} {E : Value → Shared → Prop} {s : Shared} {h₀ : Heap} {L d : Addr} {m : Str → Option Value} {news : List (Addr × Obj)} {o : Obj} {ks : List Int} {f : Int → Int} {k : Int} {t u : Tok}
theorem dict_item {value slice : Expr} {Q : Value → Shared → Prop} (N : News h₀ L s.heap news) (hm : (d, o) ∈ news) (lo : (d == sysModules) = false) (hd : DictF prog w o ks f) (hk : k ∈ ks) (h : ∀ t', Q (.int (f k) t') { s with toks := s.toks + 1 })
    (hs : subscripted slice false (.ref d) (.int k t) = operate [.ref d, .int k t] (getItem (.ref d) (.int k t)) := by with_unfolding_all rfl) :
    wpAny (model prog w) A (subscriptTail value slice (.ref d) (.int k t)) Q E s := by
  obtain ⟨kvs, hD, hks, hv, _⟩ := hd
  have hof : s.heap.DictOf (intKind prog w) d kvs := Heap.dictOf_iff.mpr ⟨o, (N _ hm).1, hD⟩
  obtain ⟨t', e⟩ := hv k hk
  exact tail_any hof.typeIs slot_dict_getitem.lookup (wpAny_getItem_of (intKind_is prog w k t) hof.mapOf e (h t')) hs
theorem sorted_dict {Q : Value → Shared → Prop} (hh : A.handled = none) (F : Fr h₀ L s.heap m) (N : News h₀ L s.heap news) (hm : (d, o) ∈ news) (lo : (d == sysModules) = false) (hd : DictF prog w o ks f) (hz : ks.length < 64)
    (h : ∀ B h' tk out cnt S, IntsAre out.toList S → S.Perm ks → Fr h₀ L h' m → News h₀ L h' ((B, W.listOf out cnt) :: news) → (∀ q ∈ news, q.1 < B) → Q (.ref B) { s with heap := h', toks := tk }) :
    wpAny (model prog w) A (call (.builtin "sorted") [.ref d]) Q E s := by
  obtain ⟨kvs, hD, hk, hv, hz0⟩ := hd
  have hof : s.heap.DictOf (intKind prog w) d kvs := Heap.dictOf_iff.mpr ⟨o, (N _ hm).1, hD⟩
  have hlen : kvs.length = ks.length := by rw [← hk, List.length_map]
  obtain ⟨ep, hat⟩ := hof.dictAt
  refine kdu_sorted (kdl_dict (knd := intKind prog w) (kvs := kvs) (ep := ep) lo) hh F N hat (by rw [sizeLine_eq]; omega) fun B h' tk vs F' N' l1 hl hvs => ?_
  have hI : IntsAre vs ks := by
    have key : ∀ (vs : List Value) (kvs : List (Int × Value)), vs.length = kvs.length → (∀ (j : Nat) (v : Value), vs[j]? = some v → ∃ k x, kvs[j]? = some (k, x) ∧ (intKind prog w).is k v = true) → IntsAre vs (kvs.map (·.1)) := by
      intro vs
      induction vs with
      | nil => intro kvs hl _; cases kvs with
        | nil => exact .nil
        | cons _ _ => cases hl
      | cons v r ih =>
        intro kvs hl hp
        cases kvs with
        | nil => cases hl
        | cons q kr =>
          obtain ⟨k, x, e, hi⟩ := hp 0 v rfl
          injection e with e
          obtain ⟨t, rfl⟩ := Value.isInt_shape (k := k) hi
          rw [List.map_cons, e]
          exact .cons _ _ (ih kr (by simpa using hl) fun j v hj => hp (j + 1) v hj)
    rw [← hk]
    exact key vs kvs hl hvs
  have z := N' (B, W.listOf vs.toArray 0) (.head _)
  have hsl : vs.length < 64 := by rw [hl, hlen]; exact hz
  refine wpAny_call_entry PyProof.Rows.slot_list_sort ⟨_, z.1, rfl⟩ PyProof.Rows.entry_list_sort (list_sort_tree (n := 0) (vs := vs) z.1 hI hsl fun out ns' hI' hp hP => ⟨.none, rfl, ?_⟩) (PyProof.Rows.args_list_sort _)
  obtain ⟨e, he⟩ := sortedHeap_at (h := h') (a := B) (vs := vs) (n := 0) (out := out) z.1
  have hold : ∀ b ob, b ≠ B → h'.get? b = some ob → (sortedHeap h' B vs out).get? b = some ob := fun b ob hb eb => (sortedHeap_old hb (Heap.lt_size eb)).trans eb
  refine h B _ tk out e ns' hI' hp ?_ ?_ l1
  · refine ⟨?_, fun b ob eb => ?_, F'.above⟩
    · obtain ⟨oL, a1, a2, hL, a3⟩ := F'.ns
      exact ⟨oL, a1, a2, hold _ _ (fun e => z.2.1 e.symm) hL, a3⟩
    · refine hold _ _ (fun e => ?_) (F'.keep _ _ eb)
      subst e
      rw [z.2.2] at eb
      cases eb
  · intro p hp'
    rcases List.mem_cons.mp hp' with rfl | hp'
    · exact ⟨he, z.2⟩
    · have := N' p (.tail _ hp')
      exact ⟨hold _ _ (Nat.ne_of_lt (l1 p hp')) this.1, this.2⟩
end
section
variable {prog : Program} {w : World} {A : Around} {E : Value → Shared → Prop} {s : Shared} {h₀ : Heap} {L : Addr} {m : Str → Option Value} {news : List (Addr × Obj)} {env : Env}
theorem one_dict {ke ve : Expr} {pos : Pos} {k v : Int} {Q : Value → Shared → Prop} (F : Fr h₀ L s.heap m) (N : News h₀ L s.heap news) (hbig : h₀.NoLimit)
    (hke : ∀ (s₁ : Shared) (R : Value → Shared → Prop), Fr h₀ L s₁.heap m → (∀ t tk, R (.int k t) { s₁ with toks := tk }) → wpAny (model prog w) A (eval ke env) R E s₁)
    (hve : ∀ (s₁ : Shared) (R : Value → Shared → Prop), Fr h₀ L s₁.heap m → (∀ t tk, R (.int v t) { s₁ with toks := tk }) → wpAny (model prog w) A (eval ve env) R E s₁)
    (h : ∀ d h' o tk, Fr h₀ L h' m → News h₀ L h' ((d, o) :: news) → (∀ p ∈ news, p.1 < d) → (d == sysModules) = false → DictF prog w o [k] (fun x => if x = k then v else 0) → Q (.ref d) { s with heap := h', toks := tk }) :
    wpAny (model prog w) A (eval (.Dict [some ke] [ve] pos) env) Q E s := by
  have hlt : ∀ p ∈ news, p.1 < s.heap.objs.size := fun p hp => Heap.lt_size (N p hp).1
  have lo := F.notModules (modules_low hbig)
  refine wpAny_Dict_walk (knd := intKind prog w) rfl rfl (by simp) (by simp) ?_
  show wpAny _ A (evalPairs [(eval ke env, do let x ← eval ve env; standAt pos; pure x)]) _ _ _
  refine evalPairs_cons (hke _ _ (F.push _) fun t tk => wpAny_bind (hve _ _ (F.push _) fun t' tk' => wpAny_bind (wpAny_standAt (wpAny_pure (evalPairs_nil ?_)))))
  refine ⟨[(k, .int v t')], ⟨intKind_is prog w k t, rfl, trivial⟩, Heap.DictOf.new (knd := intKind prog w) s.heap, fun h' hd hs => ?_⟩
  obtain ⟨o, ho, hD⟩ := Heap.dictOf_iff.mp hd
  have hpush : ∀ b ob, s.heap.get? b = some ob → h'.get? b = some ob := fun b ob e => (hs.2 b (Nat.ne_of_lt (Heap.lt_size e))).trans (Heap.get?_push_of_some _ e)
  refine h _ h' o _ (Fr.grow F hpush) (fun p hp => ?_) hlt lo ⟨[(k, .int v t')], hD, rfl, fun x hx => ?_, fun x hx => ?_⟩
  · rcases List.mem_cons.mp hp with rfl | hp
    · exact ⟨ho, Fr.lt F, next_is_new F⟩
    · exact ⟨hpush _ _ (N p hp).1, (N p hp).2⟩
  · have e := List.mem_singleton.mp hx
    subst e
    exact ⟨t', by simp [valueAt]⟩
  · show (if x = k then v else 0) = 0
    rw [if_neg (by simpa using hx)]
end
section
variable {prog : Program} {w : World} {A : Around} {E : Value → Shared → Prop} {s : Shared} {h₀ : Heap} {L : Addr} {m : Str → Option Value} {news : List (Addr × Obj)} {env : Env}
/-- the same, where the key is built with help of the heap -/
theorem one_dict2 {ke ve : Expr} {pos : Pos} {k v : Int} {Q : Value → Shared → Prop} (F : Fr h₀ L s.heap m) (N : News h₀ L s.heap news) (hbig : h₀.NoLimit)
    (hke : ∀ (d : Addr) (o : Obj) (s₁ : Shared) (R : Value → Shared → Prop), (∀ p ∈ news, p.1 < d) → s₁.gens = s.gens → Fr h₀ L s₁.heap m → News h₀ L s₁.heap ((d, o) :: news) → (∀ t h' tk, Fr h₀ L h' m → News h₀ L h' ((d, o) :: news) → R (.int k t) { s₁ with heap := h', toks := tk }) → wpAny (model prog w) A (eval ke env) R E s₁)
    (hve : ∀ (s₁ : Shared) (R : Value → Shared → Prop), Fr h₀ L s₁.heap m → (∀ t tk, R (.int v t) { s₁ with toks := tk }) → wpAny (model prog w) A (eval ve env) R E s₁)
    (h : ∀ d h' o tk, Fr h₀ L h' m → News h₀ L h' ((d, o) :: news) → (∀ p ∈ news, p.1 < d) → (d == sysModules) = false → DictF prog w o [k] (fun x => if x = k then v else 0) → Q (.ref d) { s with heap := h', toks := tk }) :
    wpAny (model prog w) A (eval (.Dict [some ke] [ve] pos) env) Q E s := by
  have hlt : ∀ p ∈ news, p.1 < s.heap.objs.size := fun p hp => Heap.lt_size (N p hp).1
  have lo := F.notModules (modules_low hbig)
  have N1 : News h₀ L (s.heap.push { cls := .type "dict", data := .dict #[] }) ((s.heap.objs.size, { cls := .type "dict", data := .dict #[] }) :: news) := fun p hp => by
    rcases List.mem_cons.mp hp with rfl | hp
    · exact ⟨Heap.get?_push_size _ rfl, Fr.lt F, next_is_new F⟩
    · exact ⟨Heap.get?_push_of_some _ (N p hp).1, (N p hp).2⟩
  refine wpAny_Dict_walk (knd := intKind prog w) rfl rfl (by simp) (by simp) ?_
  show wpAny _ A (evalPairs [(eval ke env, do let x ← eval ve env; standAt pos; pure x)]) _ _ _
  refine evalPairs_cons (hke s.heap.objs.size _ _ _ hlt rfl (F.push _) N1 fun t h2 tk F2 N2 => wpAny_bind (hve _ _ F2 fun t' tk' => wpAny_bind (wpAny_standAt (wpAny_pure (evalPairs_nil ?_)))))
  have hd0 : h2.DictOf (intKind prog w) s.heap.objs.size [] := by
    obtain ⟨o, ho, hd⟩ := Heap.dictOf_iff.mp (Heap.DictOf.new (knd := intKind prog w) s.heap)
    rw [Heap.get?_push_size _ rfl] at ho
    exact Heap.dictOf_iff.mpr ⟨_, (N2 _ (.head _)).1, (Option.some.inj ho) ▸ hd⟩
  refine ⟨[(k, .int v t')], ⟨intKind_is prog w k t, rfl, trivial⟩, hd0, fun h' hd hs => ?_⟩
  obtain ⟨o, ho, hD⟩ := Heap.dictOf_iff.mp hd
  refine h _ h' o _ (F2.change hs (Fr.lt F) (next_is_new F)) (fun p hp => ?_) hlt lo ⟨[(k, .int v t')], hD, rfl, fun x hx => ?_, fun x hx => ?_⟩
  · rcases List.mem_cons.mp hp with rfl | hp
    · exact ⟨ho, Fr.lt F, next_is_new F⟩
    · exact ⟨(hs.2 _ (Nat.ne_of_lt (hlt p hp))).trans (N2 p (.tail _ hp)).1, (N p hp).2⟩
  · have e := List.mem_singleton.mp hx
    subst e
    exact ⟨t', by simp [valueAt]⟩
  · show (if x = k then v else 0) = 0
    rw [if_neg (by simpa using hx)]
end
end
section
/-! plain: what a bridge does to the ways of several walkers -/
noncomputable def xfer (mv : Int → Option Int) (k : Int) (f : Int → Int) (S : List Int) (y : Int) : Int := f y + k * ((S.filter fun x => mv x == some y).map f).sum
section
variable {mv : Int → Option Int} {k : Int} {f : Int → Int} {S U : List Int} {x y z : Int}
theorem xfer_nil : xfer mv k f [] y = f y := by simp [xfer]
theorem xfer_none (h : mv x = none) : xfer mv k f (S ++ [x]) y = xfer mv k f S y := by
  simp [xfer, List.filter_append, h]
theorem xfer_some (h : mv x = some z) : xfer mv k f (S ++ [x]) y = if y = z then xfer mv k f S y + k * f x else xfer mv k f S y := by
  unfold xfer
  rw [List.filter_append, List.map_append, List.sum_append]
  by_cases e : y = z
  · subst e
    simp [h, Int.mul_add, Int.add_assoc]
  · have : ¬ z = y := fun h => e h.symm
    simp [h, e, this]
theorem xfer_src (h : ∀ x' ∈ S, mv x' ≠ some x) : xfer mv k f S x = f x := by
  unfold xfer
  have : (S.filter fun x' => mv x' == some x) = [] := List.filter_eq_nil_iff.mpr fun a ha => by simpa using h a ha
  rw [this]
  simp
theorem sum_perm {a b : List Int} (h : a.Perm b) : a.sum = b.sum := by
  induction h with
  | nil => rfl
  | cons x _ ih => simp [ih]
  | swap x y l => simp only [List.sum_cons]; omega
  | trans _ _ h1 h2 => exact h1.trans h2
theorem sum_zero {l : List Int} (h : ∀ x ∈ l, f x = 0) : (l.map f).sum = 0 := by
  induction l with
  | nil => rfl
  | cons a l ih =>
    rw [List.map_cons, List.sum_cons, h a (.head _), ih fun x hx => h x (.tail _ hx)]
    rfl
theorem sum_split (p : Int → Bool) (l : List Int) : (l.map f).sum = ((l.filter p).map f).sum + ((l.filter fun x => !p x).map f).sum := by
  induction l with
  | nil => rfl
  | cons a l ih =>
    rw [List.map_cons, List.sum_cons, ih]
    cases h : p a <;> simp [h] <;> omega
theorem xfer_ext (hS : S.Nodup) (hU : U.Nodup) (hSU : ∀ x ∈ S, x ∈ U) (hz : ∀ x, x ∉ S → f x = 0) : xfer mv k f S y = xfer mv k f U y := by
  unfold xfer
  congr 2
  rw [sum_split (fun x => decide (x ∈ S)) (U.filter fun x => mv x == some y)]
  have h2 : (((U.filter fun x => mv x == some y).filter fun x => !decide (x ∈ S)).map f).sum = 0 := sum_zero fun x hx => by
    have := (List.mem_filter.mp hx).2
    exact hz x (by simpa using this)
  rw [h2, Int.add_zero]
  have hp : (S.filter fun x => mv x == some y).Perm ((U.filter fun x => mv x == some y).filter fun x => decide (x ∈ S)) := by
    refine (List.perm_ext_iff_of_nodup (hS.filter _) ((hU.filter _).filter _)).mpr fun a => ?_
    simp only [List.mem_filter, decide_eq_true_eq]
    exact ⟨fun ⟨h1, h2⟩ => ⟨⟨hSU a h1, h2⟩, h1⟩, fun ⟨⟨_, h2⟩, h1⟩ => ⟨h1, h2⟩⟩
  exact sum_perm (hp.map f)
end
noncomputable def pairsU : List Int := [1, 2, 3, 4, 10, 12, 13, 14, 20, 21, 23, 24, 30, 31, 32, 34, 40, 41, 42, 43]
noncomputable def nextP (p : Int) : Int := [1, 2, 3, 4, 0].getD p.toNat 0
noncomputable def mv2 (p x : Int) : Option Int :=
  if (x.fdiv 10 = p ∨ x.fmod 10 = p) ∧ ¬ (x.fdiv 10 = nextP p ∨ x.fmod 10 = nextP p) then some (x + (nextP p - p) * (if x.fdiv 10 = p then 10 else 1)) else none
noncomputable def mvOk (U : List Int) (mv : Int → Option Int) : Bool := U.all fun x => match mv x with
  | none => true
  | some z => U.contains z && mv z == none
theorem mv2_all : ([0, 1, 2, 3, 4].all fun p => mvOk pairsU (mv2 p)) = true := by decide +kernel
noncomputable def threesU : List Int := [7, 11, 13, 14, 19, 21, 22, 25, 26, 28]
noncomputable def mv3 (p x : Int) : Option Int :=
  if (x.fdiv (2 ^ p.toNat)).fmod 2 = 1 ∧ (x.fdiv (2 ^ (nextP p).toNat)).fmod 2 = 0 then some (x - 2 ^ p.toNat + 2 ^ (nextP p).toNat) else none
theorem mv3_all : ([0, 1, 2, 3, 4].all fun p => mvOk threesU (mv3 p)) = true := by decide +kernel
theorem mv_ok {U : List Int} {mv : Int → Option Int} (h : mvOk U mv = true) {x z : Int} (hx : x ∈ U) (e : mv x = some z) : z ∈ U ∧ mv z = none := by
  have := List.all_eq_true.mp h x hx
  rw [e] at this
  simpa using this
theorem at5 {p : Int} (h0 : 0 ≤ p) (h1 : p < 5) : p ∈ [0, 1, 2, 3, 4] := by
  have : p = 0 ∨ p = 1 ∨ p = 2 ∨ p = 3 ∨ p = 4 := by omega
  rcases this with rfl | rfl | rfl | rfl | rfl <;> decide
section
variable {mv : Int → Option Int} {k : Int} {f : Int → Int} {S : List Int} {x z : Int} {j : Nat}
theorem inner_stay (hx : S[j]? = some x) (h : mv x = none) : xfer mv k f (S.take (j + 1)) = xfer mv k f (S.take j) := by
  funext y
  rw [List.take_add_one, hx]
  exact xfer_none h
theorem inner_move (hx : S[j]? = some x) (h : mv x = some z) (hs : ∀ x' ∈ S.take j, mv x' ≠ some x) : xfer mv k f (S.take (j + 1)) = fun y => if y = z then xfer mv k f (S.take j) z + k * xfer mv k f (S.take j) x else xfer mv k f (S.take j) y := by
  funext y
  rw [List.take_add_one, hx]
  show xfer mv k f (S.take j ++ [x]) y = _
  rw [xfer_some h, xfer_src hs]
  by_cases e : y = z
  · subst e; simp
  · simp [e]
end
structure KsOk (U ks : List Int) : Prop where
  nod : ks.Nodup
  sub : ∀ x ∈ ks, x ∈ U
theorem KsOk.len {U ks : List Int} (h : KsOk U ks) (hU : U.Nodup) : ks.length ≤ U.length := by
  have hp : ks.Perm (U.filter fun x => decide (x ∈ ks)) := (List.perm_ext_iff_of_nodup h.nod (hU.filter _)).mpr fun a => by
    simp only [List.mem_filter, decide_eq_true_eq]
    exact ⟨fun ha => ⟨h.sub a ha, ha⟩, fun ha => ha.2⟩
  rw [hp.length_eq]
  exact List.length_filter_le ..
theorem KsOk.add {U ks : List Int} {z : Int} (h : KsOk U ks) (hz : z ∈ U) : KsOk U (if z ∈ ks then ks else ks ++ [z]) := by
  split
  · exact h
  · rename_i hn
    refine ⟨List.nodup_append.mpr ⟨h.nod, by simp, fun a ha b hb e => ?_⟩, fun x hx => ?_⟩
    · rw [List.mem_singleton.mp hb] at e
      exact hn (e ▸ ha)
    · rcases List.mem_append.mp hx with hx | hx
      · exact h.sub x hx
      · rw [List.mem_singleton.mp hx]; exact hz
theorem mem_add {ks : List Int} {z x : Int} (h : x ∈ ks) : x ∈ (if z ∈ ks then ks else ks ++ [z]) := by
  split
  · exact h
  · exact List.mem_append.mpr (.inl h)
theorem no_src {U S ks : List Int} {mv : Int → Option Int} (hm : mvOk U mv = true) (hk : KsOk U ks) (hS : ∀ x ∈ S, x ∈ ks) {x z : Int} {j : Nat} (h : mv x = some z) : ∀ x' ∈ S.take j, mv x' ≠ some x := fun x' hx' e => by
  have := (mv_ok hm (hk.sub _ (hS _ (List.mem_of_mem_take hx'))) e).2
  rw [h] at this
  cases this
theorem pairs_nodup : pairsU.Nodup := by decide +kernel
theorem threes_nodup : threesU.Nodup := by decide +kernel
theorem mv2_ok {p : Int} (h0 : 0 ≤ p) (h1 : p < 5) : mvOk pairsU (mv2 p) = true := List.all_eq_true.mp mv2_all p (at5 h0 h1)
theorem mv3_ok {p : Int} (h0 : 0 ≤ p) (h1 : p < 5) : mvOk threesU (mv3 p) = true := List.all_eq_true.mp mv3_all p (at5 h0 h1)
section
variable {p x : Int}
theorem any2 {a b c : Int} {v : Bool} (h : ([a, b].any fun x => x == c) = v) : decide (a = c ∨ b = c) = v := by
  rw [← h]
  by_cases h1 : a = c <;> by_cases h2 : b = c <;> simp [h1, h2]
theorem mv2_no1 (h : ([x.fdiv 10, x.fmod 10].any fun x => x == p) = false) : mv2 p x = none := by
  have := of_decide_eq_false (any2 h)
  unfold mv2; rw [if_neg fun hc => this hc.1]
theorem mv2_no2 (h : ([x.fdiv 10, x.fmod 10].any fun x => x == nextP p) = true) : mv2 p x = none := by
  have := of_decide_eq_true (any2 h)
  unfold mv2; rw [if_neg fun hc => hc.2 this]
theorem mv2_a (h : ([x.fdiv 10, x.fmod 10].any fun x => x == p) = true) (h2 : ([x.fdiv 10, x.fmod 10].any fun x => x == nextP p) = false) (h3 : x.fdiv 10 = p) : mv2 p x = some (x + (nextP p - p) * 10) := by
  unfold mv2; rw [if_pos ⟨of_decide_eq_true (any2 h), of_decide_eq_false (any2 h2)⟩, if_pos h3]
theorem mv2_b (h : ([x.fdiv 10, x.fmod 10].any fun x => x == p) = true) (h2 : ([x.fdiv 10, x.fmod 10].any fun x => x == nextP p) = false) (h3 : x.fdiv 10 ≠ p) : mv2 p x = some (x + (nextP p - p) * 1) := by
  unfold mv2; rw [if_pos ⟨of_decide_eq_true (any2 h), of_decide_eq_false (any2 h2)⟩, if_neg h3]
end
end
section
open PySem PySem.W PyProof.Rows PySem.Calls PySem.Spec
section
variable {prog : Program} {w : World} {A : Around} {s : Shared} {g : Heap}
theorem ns_of {h h' : Heap} {C : Addr} {mc : Str → Option Value} {oC : Obj} (hn : h.Ns C mc) (h1 : h.get? C = some oC) (h2 : h'.get? C = some oC) : h'.Ns C mc :=
  hn.at' fun o e => by rw [h1] at e; cases e; exact h2
theorem news_same {h h' : Heap} {L C : Addr} {news : List (Addr × Obj)} (N : News g L h news) (hs : Heap.SameBut C h h') (hC : ∀ p ∈ news, p.1 ≠ C) : News g L h' news := fun p hp => ⟨(hs.2 _ (hC p hp)).trans (N p hp).1, (N p hp).2⟩
/-- how a comprehension's target takes an item -/
noncomputable def TgtStep (prog : Program) (w : World) (A : Around) (g : Heap) (L : Addr) (m : Str → Option Value) (cenv : Env) (I : Addr) (target : Expr) (upd : Nat → Value → (Str → Option Value) → Str → Option Value) (n : Nat) (V : Nat → Value → Prop) (It : Nat → Heap → Prop) (news : List (Addr × Obj)) : Prop :=
  ∀ i v (s : Shared) mc (R : Unit → Shared → Prop), i < n → V i v → It (i + 1) s.heap → Fr g L s.heap m → s.heap.Ns cenv.locals mc → News g L s.heap news →
    (∀ h₂ tk, h₂.Ns cenv.locals (upd i v mc) → (∀ b o, b ≠ cenv.locals → s.heap.get? b = some o → h₂.get? b = some o) → R () { s with heap := h₂, toks := tk }) →
    wpAny (model prog w) A (letOwnedTupleGo target (.ref I) v) (fun _ s₁ => wpAny (model prog w) A (assign target cenv v) R NoE s₁) NoE s
theorem fr_exc {h h' : Heap} {L C : Addr} {m : Str → Option Value} (F : Fr g L h m) (hC : C ≠ L) (hg : g.get? C = none) (hk : ∀ b o, b ≠ C → h.get? b = some o → h'.get? b = some o) : Fr g L h' m :=
  Fr.extBut F hC hg fun b o hb e => hk b o (by simpa using hb) e
theorem news_exc {h h' : Heap} {L C : Addr} {news : List (Addr × Obj)} (N : News g L h news) (hC : ∀ p ∈ news, p.1 ≠ C) (hk : ∀ b o, b ≠ C → h.get? b = some o → h'.get? b = some o) : News g L h' news := fun p hp => ⟨hk _ _ (hC p hp) (N p hp).1, (N p hp).2⟩
/-- a list comprehension over states: iterator at `I`, list at `D`, names at the block's own -/
theorem comp_core {σ : Type} {target elt iter : Expr} {scope : Scope} {pos : Pos} {cenv : Env} {I D L : Addr} {fp : List Addr} {n : Nat} {V : Nat → Value → Prop} {It : Nat → Heap → Prop} {m : Str → Option Value}
    (Wk : Walks prog w A I fp [I] n V It) (upd : Nat → Value → (Str → Option Value) → Str → Option Value) (Nw : σ → List (Addr × Obj)) (T : σ → Nat) (P : Nat → Array Value → σ → Prop)
    (hI : I ≠ L ∧ g.get? I = none) (hD : D ≠ L ∧ g.get? D = none) (hC : cenv.locals ≠ L ∧ g.get? cenv.locals = none) (hID : I ≠ D) (hIC : I ≠ cenv.locals) (hDC : D ≠ cenv.locals) (hgC : g.objs.size ≤ cenv.locals)
    (hasg : ∀ i ys c, P i ys c → TgtStep prog w A g L m cenv I target upd n V It (Nw c))
    (hoff : ∀ i ys c, P i ys c → ∀ p ∈ Nw c, p.1 ≠ I ∧ p.1 ≠ D ∧ p.1 ≠ cenv.locals)
    (hI4 : ∀ i h, It i h → ∃ o, h.get? I = some o)
    (hrest : ∀ b ∈ fp, b ≠ I → b ≠ cenv.locals ∧ b ≠ D ∧ ∃ o, ∀ c h, Fr g L h m → News g L h (Nw c) → h.get? b = some o)
    (turn : ∀ (i : Nat) (ys : Array Value) (cnt : Nat) (c : σ) (v : Value) (h : Heap) (tk : Nat) (oI oC : Obj) (mc : Str → Option Value), i < n → V i v → P i ys c → T c ≤ tk → Fr g L h m → Fr g cenv.locals h (upd i v mc) → News g L h ((D, W.listOf ys cnt) :: (I, oI) :: (cenv.locals, oC) :: Nw c) →
      wpAny (model prog w) A (eval elt cenv) (fun y s₃ => ∃ c' h' tk', P (i + 1) (ys.push y) c' ∧ T c' ≤ tk' ∧ s₃ = { s with heap := h', toks := tk' } ∧ Fr g L h' m ∧ News g L h' ((D, W.listOf ys cnt) :: (I, oI) :: (cenv.locals, oC) :: Nw c')) NoE { s with heap := h, toks := tk })
    (hsz : n ≤ 16777216)
    (R : Result → Shared → Prop)
    (hR : ∀ ys cnt c h tk, P n ys c → T c ≤ tk → Fr g L h m → (∃ mc, h.Ns cenv.locals mc) → News g L h ((D, W.listOf ys cnt) :: Nw c) → R (.ok .next) { s with heap := h, toks := tk })
    (cnt : Nat) (c : σ) (hP : P 0 #[] c) (hT : T c ≤ s.toks) (F : Fr g L s.heap m) (mc : Str → Option Value) (hCn : s.heap.Ns cenv.locals mc) (N : News g L s.heap ((D, W.listOf #[] cnt) :: Nw c)) (hIt : It 0 s.heap) :
    codeAny (model prog w) A (.compLoop (.ListComp elt [⟨target, iter, [], 0⟩] scope pos) 0 (.ref I) (.ref D) cenv) R s := by
  refine codeAny_loop' rfl (fun k s₁ => ∃ i ys cnt c h tk mc, i ≤ n ∧ ys.size = i ∧ k = n - i ∧ P i ys c ∧ T c ≤ tk ∧ s₁ = { s with heap := h, toks := tk } ∧ Fr g L h m ∧ h.Ns cenv.locals mc ∧ News g L h ((D, W.listOf ys cnt) :: Nw c) ∧ It i h) ?_ n ⟨0, #[], cnt, c, s.heap, s.toks, mc, Nat.zero_le _, rfl, rfl, hP, hT, rfl, F, hCn, N, hIt⟩
  rintro k s₁ ⟨i, ys, cnt, c, h, tk, mc, hi, hys, rfl, hP, hT, rfl, F, hCn, N, hIt⟩
  show wpAny _ _ ((compTurn (.ListComp elt [⟨target, iter, [], 0⟩] scope pos) 0 (.ref I) (.ref D) cenv).onRaise (fun x => do noteFrame x cenv; theTreesLotGoes x)) _ _ _
  refine wpAny_noted ?_
  rw [compTurn_list1]
  refine wpAny_bind (wpAny_standAt (wpAny_bind ?_))
  have hoffc := hoff i ys c hP
  have hNI : I ∉ ((D, W.listOf ys cnt) :: Nw c).map (·.1) := by
    intro hm
    rcases List.mem_cons.mp hm with e | hm
    · exact hID e
    · obtain ⟨p, hp, e⟩ := List.mem_map.mp hm
      exact (hoffc p hp).1 e
  by_cases hlt : i < n
  · refine wpAny_with_toks (n := T c) hT (Walks.item Wk i _ _ _ hlt hIt fun v h₁ tk₁ hv hIt₁ hk₁ hT₁ => ?_)
    have F₁ := Fr.extBut F hI.1 hI.2 hk₁
    have N₁ := News.extBut N hNI hk₁
    have hCn₁ : h₁.Ns cenv.locals mc := hCn.at' fun o e => hk₁ _ o (by simpa using fun e => hIC e.symm) e
    refine wpAny_bind (wpAny_with_toks (n := T c) hT₁ (wpAny_noRaise (wpAny_mono (hasg i ys c hP i v _ mc _ hlt hv hIt₁ F₁ hCn₁ (fun p hp => N₁ p (.tail _ hp)) fun h₂ tk₂ hn₂ hs₂ => ?_) (fun _ s₁ hs₁ hT₁ => wpAny_bind (wpAny_with_toks (n := T c) hT₁ (wpAny_noRaise hs₁))) fun _ _ x => x)))
    intro hT₂
    obtain ⟨oI, hoI⟩ := hI4 _ _ hIt₁
    obtain ⟨oC, eC, pC, hoC, -⟩ := id hn₂
    have F₂ : Fr g L h₂ m := fr_exc F₁ hC.1 hC.2 hs₂
    have hkeep₂ : ∀ b o, g.get? b = some o → h₂.get? b = some o := F₂.keep
    have FC : Fr g cenv.locals h₂ (upd i v mc) := ⟨hn₂, hkeep₂, hgC⟩
    have N₂ : News g L h₂ ((D, W.listOf ys cnt) :: (I, oI) :: (cenv.locals, oC) :: Nw c) := by
      have hN₁ := news_exc N₁ (C := cenv.locals) (fun p hp => by
        rcases List.mem_cons.mp hp with rfl | hp
        · exact hDC
        · exact (hoffc p hp).2.2) hs₂
      intro p hp
      rcases List.mem_cons.mp hp with rfl | hp
      · exact hN₁ _ (.head _)
      rcases List.mem_cons.mp hp with rfl | hp
      · exact ⟨hs₂ _ _ hIC hoI, hI⟩
      rcases List.mem_cons.mp hp with rfl | hp
      · exact ⟨hoC, hC⟩
      · exact hN₁ _ (.tail _ hp)
    have hIt₂ : It (i + 1) h₂ := Wk.frame _ _ _ hIt₁ fun b hb o e => hs₂ b o (by
      by_cases hbI : b = I
      · rw [hbI]; exact hIC
      · exact (hrest b hb hbI).1) e
    refine wpAny_bind (wpAny_bind (wpAny_noRaise (wpAny_mono (turn i ys cnt c v h₂ _ oI oC mc hlt hv hP hT₂ F₂ FC N₂) (fun y s₃ hy => ?_) fun _ _ x => x)))
    obtain ⟨c', h₃, tk₃, hP', hT', rfl, F₃, N₃⟩ := hy
    refine wpAny_bind ?_
    have hoff' := hoff _ _ _ hP'
    refine app_list F₃ N₃ (.head _) (by rw [sizeLine_eq]; omega) fun h₄ F₄ hNow => ?_
    have N₄ : News g L h₄ ((D, W.listOf (ys.push y) (cnt + 1)) :: (I, oI) :: (cenv.locals, oC) :: Nw c') := hNow _ fun p hp => by
      rcases List.mem_cons.mp hp with rfl | hp
      · exact .inl rfl
      rcases List.mem_cons.mp hp with rfl | hp
      · exact .inr ⟨.tail _ (.head _), hID⟩
      rcases List.mem_cons.mp hp with rfl | hp
      · exact .inr ⟨.tail _ (.tail _ (.head _)), fun e => hDC e.symm⟩
      · exact .inr ⟨.tail _ (.tail _ (.tail _ hp)), (hoff' p hp).2.1⟩
    refine wpAny_pure (wpAny_pure (.inl ⟨rfl, n - (i + 1), by omega, i + 1, ys.push y, cnt + 1, c', h₄, _, _, hlt, by simp [hys], rfl, hP', hT', rfl, F₄, ns_of hn₂ hoC (N₄ (cenv.locals, oC) (.tail _ (.tail _ (.head _)))).1, fun p hp => ?_, ?_⟩))
    · rcases List.mem_cons.mp hp with rfl | hp
      · exact N₄ _ (.head _)
      · exact N₄ _ (.tail _ (.tail _ (.tail _ hp)))
    · refine Wk.frame _ _ _ hIt₂ fun b hb o e => ?_
      by_cases hbI : b = I
      · subst hbI
        rw [(N₂ (b, oI) (.tail _ (.head _))).1] at e
        cases e
        exact (N₄ (b, oI) (.tail _ (.head _))).1
      · obtain ⟨-, -, o', ho'⟩ := hrest b hb hbI
        rw [ho' c h₂ F₂ fun p hp => N₂ p (.tail _ (.tail _ (.tail _ hp)))] at e
        cases e
        exact ho' c' h₄ F₄ fun p hp => N₄ p (.tail _ (.tail _ (.tail _ hp)))
  · have hin : i = n := by omega
    subst hin
    refine wpAny_with_toks (n := T c) hT (Wk.done _ _ _ hIt fun h₁ tk₁ hk₁ hT₁ => ?_)
    exact wpAny_pure (hR ys cnt c h₁ tk₁ hP hT₁ (Fr.extBut F hI.1 hI.2 hk₁) ⟨mc, hCn.at' fun o e => hk₁ _ o (by simpa using fun e => hIC e.symm) e⟩ (News.extBut N hNI hk₁))
end
section
variable {prog : Program} {w : World} {A : Around} {s : Shared} {g : Heap} {env : Env}
/-- what stands after a comprehension's iterator is made -/
noncomputable def CompAt (prog : Program) (w : World) (A : Around) (env : Env) (scope : Scope) (cl : List (Str × Addr)) (target iter elt : Expr) (pos : Pos) (use : Option (Value → Sem Unit)) (Q E : Value → Shared → Prop) (it : Value) (s₂ : Shared) : Prop :=
  wpAny (model prog w) A (newList []) (fun acc s₃ => wpAny (model prog w) A (newFunctionEnv scope env.globals cl [] env.qual none .none (some env)) (fun cenv s₄ =>
    codeAny (model prog w) A (.compStart (.ListComp elt [⟨target, iter, [], 0⟩] scope pos) 0 it acc { cenv with scope := relabel scope env }) (compPost (model prog w) A E use Q acc cenv.locals) s₄) E s₃) E s₂
theorem eval_comp {target elt iter : Expr} {scope : Scope} {cl : List (Str × Addr)} {pos : Pos} {Q E : Value → Shared → Prop} (hclos : closureFor scope env = pure cl) (hkind : scope.kind = .function)
    (hnames : ∀ y ∈ scope.names, y.2 = .local → scope.names.lookup y.1 = some .local)
    (h : wpAny (model prog w) A (eval iter env) (fun xv s₁ => wpAny (model prog w) A (pyIter xv) (CompAt prog w A env scope cl target iter elt pos none Q E) E s₁) E s)
    (hs : ∀ x, foldedSetIterable iter env x = pure x := by intro _; rfl) : wpAny (model prog w) A (eval (.ListComp elt [⟨target, iter, [], 0⟩] scope pos) env) Q E s := by
  rw [eval_ListComp]
  exact wpAny_comprehension_free (use := none) rfl hs hclos hkind hnames h
theorem assign_comp {target elt iter : Expr} {y : Str} {py : Pos} {scope : Scope} {cl : List (Str × Addr)} {pos spos : Pos} {Q : Flow → Shared → Prop} {E : Value → Shared → Prop}
    (hsw : swapsWith (.ListComp elt [⟨target, iter, [], 0⟩] scope pos) (some (.Name y py)) spos.line env = pure true) (hclos : closureFor scope env = pure cl) (hkind : scope.kind = .function)
    (hnames : ∀ y ∈ scope.names, y.2 = .local → scope.names.lookup y.1 = some .local)
    (h : wpAny (model prog w) A (eval iter env) (fun xv s₁ => wpAny (model prog w) A (pyIter xv) (CompAt prog w A env scope cl target iter elt pos (some (assign (.Name y py) env)) (fun _ s' => Q .next s') E) E s₁) E s)
    (hs : ∀ x, foldedSetIterable iter env x = pure x := by intro _; rfl) : wpAny (model prog w) A (exec (.Assign [.Name y py] (.ListComp elt [⟨target, iter, [], 0⟩] scope pos) spos) env) Q E s := by
  rw [exec_Assign_Name_used _ _ _ _ hsw]
  refine wpAny_bind (wpAny_standAt (wpAny_bind ?_))
  show wpAny _ A (do let _ ← comprehension (.ListComp elt [⟨target, iter, [], 0⟩] scope pos) scope env _ (newList []) false (eval iter env) (some (assign (.Name y py) env))) _ _ s
  exact wpAny_bind (wpAny_mono (wpAny_comprehension_free (use := some (assign (.Name y py) env)) (Q := fun _ s' => Q .next s') rfl hs hclos hkind hnames h) (fun _ s' hq => wpAny_pure (wpAny_pure hq)) fun _ _ e => e)
theorem tgt_name {L I : Addr} {m : Str → Option Value} {cenv : Env} {x : Str} {px : Pos} {n : Nat} {V : Nat → Value → Prop} {It : Nat → Heap → Prop} {news : List (Addr × Obj)} (hx : cenv.kindOf x = some .local)
    (hp : (cenv.scope.kind == .class || (cenv.scope.kind == .module && cenv.locals != cenv.globals)) = false) :
    TgtStep prog w A g L m cenv I (.Name x px) (fun _ v mc y => if y = x then some v else mc y) n V It news := fun i v s mc R _ _ _ _ hn _ h =>
  wpAny_of_eq goName (wpAny_assign_Name (wpAny_storeName_local hx hn (fun h₂ hn₂ hs₂ => h h₂ _ hn₂ fun b o hb e => (hs₂.2 b hb).trans e) hp))
theorem tgt_tup3 {L I : Addr} {m : Str → Option Value} {cenv : Env} {x₁ x₂ x₃ : Str} {p₁ p₂ p₃ tp : Pos} {kk : Nat} {n : Nat} {V : Nat → Value → Prop} {It : Nat → Heap → Prop} {news : List (Addr × Obj)} (f : Nat → Value × Value × Value) (hh : A.handled = none)
    (hx₁ : cenv.kindOf x₁ = some .local) (hx₂ : cenv.kindOf x₂ = some .local) (hx₃ : cenv.kindOf x₃ = some .local)
    (hp : (cenv.scope.kind == .class || (cenv.scope.kind == .module && cenv.locals != cenv.globals)) = false)
    (hIt : ∀ i h, It i h → ∃ l j, h.IsListIter I l j)
    (hv : ∀ i v, i < n → V i v → ∃ t ot nt, v = .ref t ∧ (t, ot) ∈ news ∧ ot.cls = .type "tuple" ∧ ot.data = .seq #[(f i).1, (f i).2.1, (f i).2.2] nt) :
    TgtStep prog w A g L m cenv I (.Tuple [.Name x₁ p₁, .Name x₂ p₂, .Name x₃ p₃] kk tp) (fun i _ mc y => if y = x₃ then some (f i).2.2 else if y = x₂ then some (f i).2.1 else if y = x₁ then some (f i).1 else mc y) n V It news := by
  intro i v s mc R hi hV hI F hn N h
  obtain ⟨t, ot, nt, rfl, hm, hc, hd⟩ := hv i v hi hV
  obtain ⟨l, j, hl⟩ := hIt _ _ hI
  refine goTuple hl ?_
  refine assign_Tuple_tuple hh ⟨ot, (N _ hm).1, hc, nt, hd⟩ rfl rfl fun h₅ he => ?_
  have he' : ∀ b o, s.heap.get? b = some o → h₅.get? b = some o := fun b o e => he b o (Nat.ne_of_lt (Heap.lt_size e)) e
  refine assignInOrder_cons (wpAny_assign_Name (wpAny_storeName_local hx₁ (hn.at' fun o e => he' _ o e) (fun h₆ hn₆ hs₆ => ?_) hp))
  refine assignInOrder_cons (wpAny_assign_Name (wpAny_storeName_local hx₂ hn₆ (fun h₇ hn₇ hs₇ => ?_) hp))
  refine assignInOrder_cons (wpAny_assign_Name (wpAny_storeName_local hx₃ hn₇ (fun h₈ hn₈ hs₈ => ?_) hp))
  refine assignInOrder_nil ?_
  exact h h₈ _ hn₈ fun b o hb e => (hs₈.2 b hb).trans ((hs₇.2 b hb).trans ((hs₆.2 b hb).trans (he' b o e)))
theorem fresh_of {h : Heap} {L : Addr} {m : Str → Option Value} (F : Fr g L h m) {a : Addr} (ha : h.objs.size ≤ a) : a ≠ L ∧ g.get? a = none := by
  refine ⟨fun e => ?_, ?_⟩
  · subst e; exact absurd F.ns.lt (Nat.not_lt.mpr ha)
  · cases e : g.get? a with
    | none => rfl
    | some o => exact absurd (Heap.lt_size (F.keep a o e)) (Nat.not_lt.mpr ha)
theorem ad1 (I : Addr) : I ≠ I + 1 := Nat.ne_of_lt (Nat.lt_succ_self _)
theorem ad2 (I : Addr) : I ≠ I + 2 := Nat.ne_of_lt (Nat.lt_succ_of_lt (Nat.lt_succ_self _))
theorem ad3 {b I : Addr} (h : b < I) : b ≠ I + 1 := Nat.ne_of_lt (Nat.lt_succ_of_lt h)
theorem ad4 {b I : Addr} (h : b < I) : b ≠ I + 2 := Nat.ne_of_lt (Nat.lt_succ_of_lt (Nat.lt_succ_of_lt h))
/-- from the iterator on: the list, the names, the loop -/
theorem comp_mid {σ : Type} {target elt iter : Expr} {scope : Scope} {cl : List (Str × Addr)} {pos : Pos} {use : Option (Value → Sem Unit)} {Q E : Value → Shared → Prop} {I L : Addr} {fp : List Addr} {n : Nat} {V : Nat → Value → Prop} {It : Nat → Heap → Prop} {m : Str → Option Value}
    (Wk : Walks prog w A I fp [I] n V It) (upd : Nat → Value → (Str → Option Value) → Str → Option Value) (Nw : σ → List (Addr × Obj)) (T : σ → Nat) (P : Nat → Array Value → σ → Prop)
    (hcell : ∀ y ∈ scope.names, y.2 ≠ .cell) (hkind : scope.kind = .function)
    (hsI : s.heap.objs.size = I + 1) (hI : I ≠ L ∧ g.get? I = none)
    (hasg : ∀ i ys c, P i ys c → TgtStep prog w A g L m (compEnvC scope cl (I + 2) env) I target upd n V It (Nw c))
    (hoff : ∀ i ys c, P i ys c → ∀ p ∈ Nw c, p.1 ≠ I ∧ p.1 ≠ I + 1 ∧ p.1 ≠ I + 2)
    (hI4 : ∀ i h, It i h → ∃ o, h.get? I = some o)
    (hrest : ∀ b ∈ fp, b ≠ I → b < I ∧ ∃ o, ∀ c h, Fr g L h m → News g L h (Nw c) → h.get? b = some o)
    (turn : ∀ (i : Nat) (ys : Array Value) (cnt : Nat) (c : σ) (v : Value) (h : Heap) (tk : Nat) (oI oC : Obj) (mc : Str → Option Value), i < n → V i v → P i ys c → T c ≤ tk → Fr g L h m → Fr g (I + 2) h (upd i v mc) → News g L h ((I + 1, W.listOf ys cnt) :: (I, oI) :: (I + 2, oC) :: Nw c) →
      wpAny (model prog w) A (eval elt (compEnvC scope cl (I + 2) env)) (fun y s₃ => ∃ c' h' tk', P (i + 1) (ys.push y) c' ∧ T c' ≤ tk' ∧ s₃ = { s with heap := h', toks := tk' } ∧ Fr g L h' m ∧ News g L h' ((I + 1, W.listOf ys cnt) :: (I, oI) :: (I + 2, oC) :: Nw c')) NoE { s with heap := h, toks := tk })
    (hsz : n ≤ 16777216)
    (hR : ∀ ys cnt c h tk, P n ys c → T c ≤ tk → Fr g L h m → (∃ mc, h.Ns (I + 2) mc) → News g L h ((I + 1, W.listOf ys cnt) :: Nw c) → compPost (model prog w) A E use Q (.ref (I + 1)) (I + 2) (.ok .next) { s with heap := h, toks := tk })
    (c : σ) (hP : P 0 #[] c) (hT : T c ≤ s.toks) (F : Fr g L s.heap m) (N : News g L s.heap (Nw c)) (hIt : It 0 s.heap) :
    CompAt prog w A env scope cl target iter elt pos use Q E (.ref I) s := by
  unfold CompAt
  refine wpAny_newObj_type (wpAny_newFunctionEnv hcell (by intro y hy; simp at hy) (fun h₁ hns₁ hsb₁ => ?_) hkind)
  dsimp only at hns₁ hsb₁ ⊢
  generalize hH2 : s.heap.push { cls := .type "list", dict := none, data := .seq ([] : List Value).toArray } = H2 at hns₁ hsb₁ ⊢
  have hC : H2.objs.size = I + 2 := by rw [← hH2, Heap.size_push, hsI]
  rw [hsI]
  rw [hC] at hns₁ hsb₁ ⊢
  have hDf := fresh_of F (a := I + 1) (by omega)
  have hCf := fresh_of F (a := I + 2) (by omega)
  have below : ∀ b o, s.heap.get? b = some o → b ≠ I + 2 := fun b o e => by have := Heap.lt_size e; rw [hsI] at this; exact Nat.ne_of_lt (Nat.lt_succ_of_lt this)
  have old : ∀ b o, s.heap.get? b = some o → h₁.get? b = some o := fun b o e => hsb₁.extBut b o (below b o e) (Heap.get?_push_of_some _ (hH2 ▸ Heap.get?_push_of_some _ e))
  have hacc : h₁.get? (I + 1) = some (W.listOf #[] 0) := hsb₁.extBut _ _ (Nat.ne_of_lt (Nat.lt_succ_self _)) (Heap.get?_push_of_some _ (hH2 ▸ hsI ▸ Heap.get?_push_size _ rfl))
  have hIt₁ : It 0 h₁ := Wk.frame _ _ _ hIt fun b _ o e => old b o e
  have F₁ : Fr g L h₁ m := F.keeps old
  have loop : ∀ s₃ : Shared, s₃ = { s with heap := h₁, toks := s.toks + ([] : List (Str × Value)).length } →
      codeAny (model prog w) A (.compLoop (.ListComp elt [⟨target, iter, [], 0⟩] scope pos) 0 (.ref I) (.ref (I + 1)) (compEnvC scope cl (I + 2) env)) (compPost (model prog w) A E use Q (.ref (I + 1)) (I + 2)) s₃ := by
    rintro s₃ rfl
    refine comp_core (D := I + 1) (cenv := compEnvC scope cl (I + 2) env) Wk upd Nw T P hI hDf hCf (ad1 I) (ad2 I) (ad1 (I + 1)) (show g.objs.size ≤ I + 2 from ?_) hasg hoff hI4 (fun b hb hbI => ?_) ?_ hsz _ ?_ 0 c hP (Nat.le_trans hT (Nat.le_add_right _ _)) F₁ _ hns₁ (fun p hp => ?_) hIt₁
    · exact Nat.le_trans F.above (Nat.le_trans (Nat.le_of_lt F.ns.lt) (by rw [hsI]; exact Nat.le_succ _))
    · obtain ⟨hlt, r⟩ := hrest b hb hbI
      exact ⟨ad4 hlt, ad3 hlt, r⟩
    · exact fun i ys cnt c v h tk oI oC mc hi hv hP hT F FC N => turn i ys cnt c v h tk oI oC mc hi hv hP hT F FC N
    · exact fun ys cnt c h tk hP hT F hn N => hR ys cnt c h tk hP hT F hn N
    · rcases List.mem_cons.mp hp with rfl | hp
      · exact ⟨hacc, hDf⟩
      · exact ⟨old _ _ (N _ hp).1, (N _ hp).2⟩
  exact codeAny_compStart_list (loop _ rfl) (Wk.self 0 _ _ _ hIt₁ (loop _ rfl))
theorem post_none {Q E : Value → Shared → Prop} {L D C : Addr} {m : Str → Option Value} {news : List (Addr × Obj)} {mc : Str → Option Value} (F : Fr g L s.heap m) (hn : s.heap.Ns C mc) (N : News g L s.heap news) (hC : C ≠ L ∧ g.get? C = none) (hoff : ∀ p ∈ news, p.1 ≠ C)
    (h : ∀ h', Fr g L h' m → News g L h' news → Q (.ref D) { s with heap := h' }) : compPost (model prog w) A E none Q (.ref D) C (.ok .next) s :=
  ⟨mc, hn, fun h' hs => h h' (F.change hs hC.1 hC.2) (news_same N hs hoff)⟩
theorem post_assign {Q E : Value → Shared → Prop} {y : Str} {py : Pos} {D C : Addr} {m : Str → Option Value} {news : List (Addr × Obj)} {mc : Str → Option Value} (hy : env.kindOf y = some .local) (hp : (env.scope.kind == .class || (env.scope.kind == .module && env.locals != env.globals)) = false)
    (F : Fr g env.locals s.heap m) (hn : s.heap.Ns C mc) (N : News g env.locals s.heap news) (hC : C ≠ env.locals ∧ g.get? C = none) (hoff : ∀ p ∈ news, p.1 ≠ C)
    (h : ∀ h' tk, s.toks ≤ tk → Fr g env.locals h' (fun z => if z = y then some (.ref D) else m z) → News g env.locals h' news → Q .none { s with heap := h', toks := tk }) : compPost (model prog w) A E (some (assign (.Name y py) env)) Q (.ref D) C (.ok .next) s := by
  show wpAny _ A (assign (.Name y py) env (.ref D)) _ _ _
  refine wpAny_assign_Name (wpAny_storeName_local hy F.ns (fun h₂ hn₂ hs₂ => ?_) hp)
  have F₂ : Fr g env.locals h₂ (fun z => if z = y then some (.ref D) else m z) := ⟨hn₂, fun b o e => hs₂.extBut b o (fun q => by have := Heap.get?_none_of_le F.above; rw [q, this] at e; cases e) (F.keep b o e), F.above⟩
  have N₂ : News g env.locals h₂ news := fun p hp => ⟨(hs₂.2 _ (N p hp).2.1).trans (N p hp).1, (N p hp).2⟩
  exact ⟨mc, hn.sameBut hs₂ hC.1, fun h' hs => h h' _ (Nat.le_succ _) (F₂.change hs hC.1 hC.2) (news_same N₂ hs hoff)⟩
theorem nm_own {C : Addr} {scope : Scope} {cl : List (Str × Addr)} {x : Str} {pos : Pos} {v : Value} {Q E : Value → Shared → Prop} {m₂ : Str → Option Value} (F : Fr g C s.heap m₂) (hx : m₂ x = some v) (h : Q v s)
    (hk : (compEnvC scope cl C env).scope.kind = .function := by rfl) (hl : (compEnvC scope cl C env).kindOf x = some .local := by rfl) (hd : (x == ("__debug__" : Str)) = false := by decide) :
    wpAny (model prog w) A (eval (.Name x pos) (compEnvC scope cl C env)) Q E s := ldVarK F.ns hx h hk hl hd
theorem post_cell {Q E : Value → Shared → Prop} {y : Str} {py : Pos} {D C c : Addr} {o : Obj} {v₀ : Option Value} {m : Str → Option Value} {news : List (Addr × Obj)} {mc : Str → Option Value} (hk : env.scope.kind = .function) (hy : env.kindOf y = some .cell) (hc : env.cells.lookup y = some c)
    (hd : o.data = .cell v₀) (hm : (c, o) ∈ news)
    (F : Fr g env.locals s.heap m) (hn : s.heap.Ns C mc) (N : News g env.locals s.heap news) (hC : C ≠ env.locals ∧ g.get? C = none) (hoff : ∀ p ∈ news, p.1 ≠ C)
    (h : ∀ h' tk o', s.toks ≤ tk → Fr g env.locals h' m → Now g env.locals h' c o' news → o'.data = .cell (some (.ref D)) → Q .none { s with heap := h', toks := tk }) : compPost (model prog w) A E (some (assign (.Name y py) env)) Q (.ref D) C (.ok .next) s := by
  show wpAny _ A (assign (.Name y py) env (.ref D)) _ _ _
  refine wpAny_assign_Name (wpAny_storeName_cell hk hy hc ⟨o, (N _ hm).1, hd⟩ fun h₂ hv hs₂ => ?_)
  obtain ⟨o', ho', hd'⟩ := hv
  have F₂ := F.change hs₂ (N _ hm).2.1 (N _ hm).2.2
  have N₂ := now_of N hm hs₂ ho'
  refine ⟨mc, hn.sameBut hs₂ (fun e => hoff _ hm e.symm), fun h' hs => h h' _ o' (Nat.le_refl _) (F₂.change hs hC.1 hC.2) (fun nx hx => news_same (N₂ nx hx) hs fun p hp => ?_) hd'⟩
  rcases hx p hp with rfl | ⟨hq, -⟩
  · exact hoff (c, o) hm
  · exact hoff _ hq
/-- where a comprehension's list goes -/
inductive CUse
  | none
  | loc (y : Str) (py : Pos)
  | cel (y : Str) (py : Pos) (c : Addr) (o : Obj)
/-- what a comprehension's end asks -/
noncomputable def CompFin (g : Heap) (env : Env) (m : Str → Option Value) (u : CUse) (n : Nat) (Q : Value → Shared → Prop) (s : Shared) (D : Addr) (news : List (Addr × Obj)) : Prop := match u with
  | .none => ∀ h tk, n ≤ tk → Fr g env.locals h m → News g env.locals h news → Q (.ref D) { s with heap := h, toks := tk }
  | .loc y _ => ∀ h tk, n ≤ tk → Fr g env.locals h (fun z => if z = y then some (.ref D) else m z) → News g env.locals h news → Q .none { s with heap := h, toks := tk }
  | .cel _ _ c _ => ∀ h tk o', n ≤ tk → Fr g env.locals h m → Now g env.locals h c o' news → o'.data = .cell (some (.ref D)) → Q .none { s with heap := h, toks := tk }
noncomputable def UseOk {σ : Type} (env : Env) (Nw : σ → List (Addr × Obj)) : CUse → Prop
  | .none => True
  | .loc y _ => env.kindOf y = some .local ∧ (env.scope.kind == .class || (env.scope.kind == .module && env.locals != env.globals)) = false
  | .cel y _ c o => env.scope.kind = .function ∧ env.kindOf y = some .cell ∧ env.cells.lookup y = some c ∧ (∃ v₀, o.data = .cell v₀) ∧ ∀ st, (c, o) ∈ Nw st
noncomputable def useOf (env : Env) : CUse → Option (Value → Sem Unit)
  | .none => Option.none
  | .loc y py => some (assign (.Name y py) env)
  | .cel y py _ _ => some (assign (.Name y py) env)
/-- what a comprehension's turn leaves behind -/
noncomputable def LcEnd {σ : Type} (g : Heap) (L : Addr) (m : Str → Option Value) (Nw : σ → List (Addr × Obj)) (T : σ → Nat) (P : Array Value → σ → Prop) (s : Shared) (I : Addr) (oI oC : Obj) (ys : Array Value) (cnt : Nat) (y : Value) (s₃ : Shared) : Prop :=
  ∃ c' h' tk', P (ys.push y) c' ∧ T c' ≤ tk' ∧ s₃ = { s with heap := h', toks := tk' } ∧ Fr g L h' m ∧ News g L h' ((I + 1, W.listOf ys cnt) :: (I, oI) :: (I + 2, oC) :: Nw c')
theorem comp_list {σ : Type} {target elt iter : Expr} {scope : Scope} {cl : List (Str × Addr)} {pos : Pos} {Q E : Value → Shared → Prop} {l : Addr} {o : Obj} {vs : Array Value} {m : Str → Option Value} {news : List (Addr × Obj)} (use : CUse)
    (F : Fr g env.locals s.heap m) (N : News g env.locals s.heap news) (upd : Nat → Value → (Str → Option Value) → Str → Option Value) (Nw : σ → List (Addr × Obj)) (T : σ → Nat) (P : Addr → Nat → Array Value → σ → Prop)
    (hu : ∃ c₀, (∀ I, (∀ p ∈ news, p.1 < I) → P I 0 #[] c₀) ∧ Nw c₀ = news ∧ T c₀ ≤ s.toks)
    (hoff : ∀ I i ys c, P I i ys c → ∀ p ∈ Nw c, p.1 ≠ I ∧ p.1 ≠ I + 1 ∧ p.1 ≠ I + 2)
    (hl : LAt g Nw l o) (ho : o.cls = .type "list" ∧ ∃ k, o.data = .seq vs k) (hh : A.handled = none) (hsz : vs.size ≤ 16777216)
    (hcell : ∀ y ∈ scope.names, y.2 ≠ .cell) (hkind : scope.kind = .function) (huse : UseOk env Nw use)
    (hasg : ∀ I i ys c It, P I i ys c → (∀ i h, It i h → ∃ l j, h.IsListIter I l j) → TgtStep prog w A g env.locals m (compEnvC scope cl (I + 2) env) I target upd vs.size (fun i v => vs[i]? = some v) It (Nw c))
    (turn : ∀ (I : Addr) (i : Nat) (ys : Array Value) (cnt : Nat) (c : σ) (v : Value) (h : Heap) (tk : Nat) (oI oC : Obj) (mc : Str → Option Value), vs[i]? = some v → P I i ys c → T c ≤ tk → Fr g env.locals h m → Fr g (I + 2) h (upd i v mc) → News g env.locals h ((I + 1, W.listOf ys cnt) :: (I, oI) :: (I + 2, oC) :: Nw c) →
      wpAny (model prog w) A (eval elt (compEnvC scope cl (I + 2) env)) (LcEnd g env.locals m Nw T (P I (i + 1)) s I oI oC ys cnt) NoE { s with heap := h, toks := tk })
    (done : ∀ I ys cnt c, P I vs.size ys c → CompFin g env m use (T c) Q s (I + 1) ((I + 1, W.listOf ys cnt) :: Nw c)) :
    wpAny (model prog w) A (pyIter (.ref l)) (CompAt prog w A env scope cl target iter elt pos (useOf env use) Q E) E s := by
  obtain ⟨c₀, h0, rfl, hT0⟩ := hu
  have hls : s.heap.get? l = some o := hl.get F N
  have hIs : s.heap.IsList l vs := ⟨o, hls, ho.1, ho.2⟩
  have hll := Heap.lt_size hls
  have hne : l ≠ s.heap.objs.size := Nat.ne_of_lt hll
  have hlt : ∀ p ∈ Nw c₀, p.1 < s.heap.objs.size := fun p hp => Heap.lt_size (N p hp).1
  have hfI := fresh_of F (Nat.le_refl _)
  refine wpAny_pyIter_list hIs ?_
  refine comp_mid (Walks.list hh s.heap.objs.size l hne vs) upd Nw T (P s.heap.objs.size) hcell hkind (by show (s.heap.push _).objs.size = _; rw [Heap.size_push]) hfI (fun i ys c hP => hasg _ i ys c _ hP fun i h hi => ⟨_, _, hi.1⟩) (fun i ys c hP => hoff _ i ys c hP) (fun i h hi => ?_) (fun b hb hbI => ?_) (fun i ys cnt c v h tk oI oC mc hi hv hP hT F FC N => turn _ i ys cnt c v h tk oI oC mc hv hP hT F FC N) hsz
    (fun ys cnt c h tk hP hT F hn N => ?_) c₀ (h0 _ hlt) hT0 (F.push _) (fun p hp => ⟨Heap.get?_push_of_some _ (N p hp).1, (N p hp).2⟩) ⟨⟨_, Heap.get?_push_size _ rfl, rfl, rfl⟩, hIs.push _⟩
  · obtain ⟨⟨o', ho', _⟩, _⟩ := hi
    exact ⟨o', ho'⟩
  · have : b = l := by
      rcases List.mem_cons.mp hb with h | h
      · exact absurd h hbI
      · exact List.mem_singleton.mp h
    subst this
    exact ⟨hll, o, fun c h F N => hl.get F N⟩
  · obtain ⟨mc, hn⟩ := hn
    have hCf : s.heap.objs.size + 2 ≠ env.locals ∧ g.get? (s.heap.objs.size + 2) = none := fresh_of (by assumption : Fr g env.locals s.heap m) (by omega)
    have hof : ∀ p ∈ (s.heap.objs.size + 1, W.listOf ys cnt) :: Nw c, p.1 ≠ s.heap.objs.size + 2 := fun p hp => by
      rcases List.mem_cons.mp hp with rfl | hp
      · show s.heap.objs.size + 1 ≠ _; omega
      · exact (hoff _ _ _ _ hP p hp).2.2
    cases use with
    | none => exact post_none F hn N hCf hof fun h' F' N' => done _ ys cnt c hP h' tk hT F' N'
    | loc y py => exact post_assign huse.1 huse.2 F hn N hCf hof fun h' tk' ht F' N' => done _ ys cnt c hP h' tk' (Nat.le_trans hT ht) F' N'
    | cel y py a o =>
      obtain ⟨u1, u2, u3, ⟨v₀, u4⟩, u5⟩ := huse
      exact post_cell u1 u2 u3 u4 (.tail _ (u5 c)) F hn N hCf hof fun h' tk' o' ht F' N' hd => done _ ys cnt c hP h' tk' o' (Nat.le_trans hT ht) F' N' hd
theorem comp_range {σ : Type} {target elt iter : Expr} {scope : Scope} {cl : List (Str × Addr)} {pos : Pos} {Q E : Value → Shared → Prop} {r : Addr} {a b c : Int} {t u v : Tok} {n : Nat} {m : Str → Option Value} {news : List (Addr × Obj)} (use : CUse)
    (F : Fr g env.locals s.heap m) (N : News g env.locals s.heap news) (upd : Nat → Value → (Str → Option Value) → Str → Option Value) (Nw : σ → List (Addr × Obj)) (T : σ → Nat) (P : Addr → Nat → Array Value → σ → Prop)
    (hu : ∃ c₀, (∀ I, (∀ p ∈ news, p.1 < I) → P I 0 #[] c₀) ∧ Nw c₀ = news ∧ T c₀ ≤ s.toks)
    (hoff : ∀ I i ys c, P I i ys c → ∀ p ∈ Nw c, p.1 ≠ I ∧ p.1 ≠ I + 1 ∧ p.1 ≠ I + 2)
    (hr : IsRange s.heap r a b c t u v) (hsm : Builtin.Range.small a b c = true) (hn : Builtin.Range.rangeSize a b c = (n : Int)) (hh : A.handled = none) (hsz : n ≤ 16777216)
    (hcell : ∀ y ∈ scope.names, y.2 ≠ .cell) (hkind : scope.kind = .function) (huse : UseOk env Nw use)
    (hasg : ∀ I i ys c' It, P I i ys c' → TgtStep prog w A g env.locals m (compEnvC scope cl (I + 2) env) I target upd n (fun i v => ∃ t, v = .int (a + i * c) t) It (Nw c'))
    (turn : ∀ (I : Addr) (i : Nat) (ys : Array Value) (cnt : Nat) (c' : σ) (k : Int) (t : Tok) (h : Heap) (tk : Nat) (oI oC : Obj) (mc : Str → Option Value), i < n → k = a + i * c → P I i ys c' → T c' ≤ tk → Fr g env.locals h m → Fr g (I + 2) h (upd i (.int k t) mc) → News g env.locals h ((I + 1, W.listOf ys cnt) :: (I, oI) :: (I + 2, oC) :: Nw c') →
      wpAny (model prog w) A (eval elt (compEnvC scope cl (I + 2) env)) (LcEnd g env.locals m Nw T (P I (i + 1)) s I oI oC ys cnt) NoE { s with heap := h, toks := tk })
    (done : ∀ I ys cnt c, P I n ys c → CompFin g env m use (T c) Q s (I + 1) ((I + 1, W.listOf ys cnt) :: Nw c)) :
    wpAny (model prog w) A (pyIter (.ref r)) (CompAt prog w A env scope cl target iter elt pos (useOf env use) Q E) E s := by
  obtain ⟨c₀, h0, rfl, hT0⟩ := hu
  have hlt : ∀ p ∈ Nw c₀, p.1 < s.heap.objs.size := fun p hp => Heap.lt_size (N p hp).1
  have hfI := fresh_of F (Nat.le_refl _)
  refine wpAny_pyIter_range hr hsm ?_
  refine comp_mid (Walks.range hh s.heap.objs.size a c n) upd Nw T (P s.heap.objs.size) hcell hkind (by show (s.heap.push _).objs.size = _; rw [Heap.size_push]) hfI (fun i ys c hP => hasg _ i ys c _ hP) (fun i ys c hP => hoff _ i ys c hP) (fun i h hi => ⟨_, hi⟩) (fun b hb hbI => absurd (List.mem_singleton.mp hb) hbI) (fun i ys cnt c' v h tk oI oC mc hi hv hP hT F FC N => ?_) hsz
    (fun ys cnt c h tk hP hT F hn N => ?_) c₀ (h0 _ hlt) hT0 (F.push _) (fun p hp => ⟨Heap.get?_push_of_some _ (N p hp).1, (N p hp).2⟩) ?_
  · obtain ⟨t', rfl⟩ := hv
    exact turn _ i ys cnt c' _ t' h tk oI oC mc hi rfl hP hT F FC N
  · obtain ⟨mc, hn⟩ := hn
    have hCf : s.heap.objs.size + 2 ≠ env.locals ∧ g.get? (s.heap.objs.size + 2) = none := fresh_of (by assumption : Fr g env.locals s.heap m) (by omega)
    have hof : ∀ p ∈ (s.heap.objs.size + 1, W.listOf ys cnt) :: Nw c, p.1 ≠ s.heap.objs.size + 2 := fun p hp => by
      rcases List.mem_cons.mp hp with rfl | hp
      · show s.heap.objs.size + 1 ≠ _; omega
      · exact (hoff _ _ _ _ hP p hp).2.2
    cases use with
    | none => exact post_none F hn N hCf hof fun h' F' N' => done _ ys cnt c hP h' tk hT F' N'
    | loc y py => exact post_assign huse.1 huse.2 F hn N hCf hof fun h' tk' ht F' N' => done _ ys cnt c hP h' tk' (Nat.le_trans hT ht) F' N'
    | cel y py a o =>
      obtain ⟨u1, u2, u3, ⟨v₀, u4⟩, u5⟩ := huse
      exact post_cell u1 u2 u3 u4 (.tail _ (u5 c)) F hn N hCf hof fun h' tk' o' ht F' N' hd => done _ ys cnt c hP h' tk' o' (Nat.le_trans hT ht) F' N' hd
  · show IsRangeIter _ _ _ _ _
    rw [hn]
    simpa using Heap.get?_push_size _ rfl
end
end
section
open PySem PySem.W PyProof.Rows PySem.Calls PySem.Spec
section
variable {prog : Program} {w : World} {A₀ A : Around} {s : Shared} {base h₀ : Heap} {outer : List Env} {L : Addr} {m mg mb : Str → Option Value} {env : Env} {news : List (Addr × Obj)} {K : Frag} {p : Program} {loose : List Str} {mean : ExcName → Option Value}
  {R : Result → Shared → Prop} {name qual : Str} {params : Arguments} {body : List Stmt} {scope : Scope} {dV kV doc pm cdv ct oc : Value} {an od : Option Addr} {osl : Array (Option Value)} {f : Addr} {args : Args} {binds : List (Str × Value)}
/-- entering a def with cells, the count of tokens kept in sight -/
theorem enter_cells (B : Below A₀ base outer h₀) (F : Fr h₀ L s.heap m) (X₀ : K.In h₀) (N : News h₀ L s.heap news) (T : Top p loose mean mg mb h₀) (hA : A.frames = some (env :: outer)) (hf : env.frame = some L) (hke : env.scope.kind = .function)
    (ho : K.lookup f = some ⟨oc, od, .func (fnOf name qual params body scope dV kV doc pm an cdv ct), osl⟩) (hcd : codeIn K cdv qual = true) (hroom : A.depth < recursionLimit)
    (hbind : BindsTo s (fnOf name qual params body scope dV kV doc pm an cdv ct) args binds) (hkind : (binds.all fun y => scope.names.lookup y.1 == some .local || scope.names.lookup y.1 == some .cell) = true)
    (hnd : ((cellsFrom 0 scope.names []).map (·.1)).Nodup)
    (h : ∀ g L' h₁ tk cells, s.toks ≤ tk → Fr h₀ L g m → Fr g L' h₁ (bindL (envOfC qual scope L' f cdv).kindOf binds fun _ => none) → News g L' h₁ (cells ++ news) →
      CellsAre (bindC (envOfC qual scope L' f cdv).kindOf binds fun _ => none) (cellsFrom (L' + 1) scope.names []) cells → Below A base (env :: outer) g → K.In g → Top p loose mean mg mb g → (∀ p ∈ news, p.1 < L') →
      wpAny (model prog w) (A.deeper (envOfC qual scope L' f cdv)) (execs body (envOfC qual scope L' f cdv))
        (fun fl s' => LeaveK h₀ L m g R (match fl with | .ret v => v | _ => .none) s')
        (fun e s' => wpAny (model prog w) (A.deeper (envOfC qual scope L' f cdv)) (leaving (envOfC qual scope L' f cdv) e) (fun _ s'' => R (.error e) s'') (fun e' s'' => R (.error e') s'') s')
        { s with heap := h₁, toks := tk })
    (hco : scope.isCoroutine = false) (hgen : scope.isGenerator = false) (hk : scope.kind = .function) : codeAny (model prog w) A (.call (.ref f) args) R s := by
  obtain ⟨FG, BG, st, lv⟩ := groundX (R := R) B F N hA hf hke
  have old := T.nolimit.keeps F.keep
  refine codeAny_call_function hroom ((X₀.keeps F.keep) _ _ ho) rfl hco hgen rfl (codeRec_of (X₀.keeps F.keep) hcd) (hbind _ _ _ _ ?_)
  refine wpAny_with_toks (Nat.le_refl _) ?_
  refine wpAny_newFunctionEnv_cells hk (kindsX hkind _) fun e' he s' x ht => ?_
  subst he
  have up := x.toInCall.keep
  refine ⟨old.keeps up, codeAny_func ?_⟩
  obtain ⟨h₁, tk, rfl, _⟩ := x.done
  obtain ⟨cells, NC, Y⟩ := Cl.news (h₀ := s.heap) (Nat.le_refl _) fun n c hm => ⟨x.cell n c (lookup_of_mem_nodup (cellsFrom_names scope.names 0 (s.heap.objs.size + 1) [] [] rfl ▸ hnd) hm), x.above n c hm⟩
  have F₁ : Fr (hideAll s.heap (news.map (·.1))) s.heap.objs.size h₁ (bindL (envOfC qual scope s.heap.objs.size f cdv).kindOf binds fun _ => none) := ⟨x.toInCall.ns, fun b o e => up b o (of_hideAll _ e), Nat.le_of_eq (hideAll_size _ _)⟩
  have N₁ : News (hideAll s.heap (news.map (·.1))) s.heap.objs.size h₁ (cells ++ news) := fun q hq => by
    rcases List.mem_append.mp hq with hq | hq
    · obtain ⟨a1, a2, a3⟩ := NC q hq
      refine ⟨a1, a2, ?_⟩
      cases e : (hideAll s.heap (news.map (·.1))).get? q.1 with
      | none => rfl
      | some o => rw [of_hideAll _ e] at a3; cases a3
    · exact ⟨up _ _ (N q hq).1, Nat.ne_of_lt (Heap.lt_size (N q hq).1), hideAll_none _ (List.mem_map_of_mem hq)⟩
  exact wpAny_mono (h _ _ h₁ tk cells ht FG F₁ N₁ Y BG (X₀.keeps st) (T.keeps st) fun q hq => Heap.lt_size (N q hq).1) (fun fl s' hl => lv _ _ hl) fun _ _ y => y
end
end
section W
open PySem PySem.W PyProof.Rows PySem.Calls PySem.Spec
local macro_rules | `(tactic| walk_at "execs cons") => `(tactic| (k_here; refine wpAny_execs_cons ?_))
local macro_rules | `(tactic| walk_at "execs nil") => `(tactic| (k_here; refine wpAny_execs_nil ?_))
local macro_rules | `(tactic| walk_at "exec If") => `(tactic| (k_here; refine wpAny_If ?_))
local macro_rules | `(tactic| walk_at "exec For") => `(tactic| (k_here; k_dflt (refine wpAny_For ?_ (fun _ => rfl))))
local macro_rules | `(tactic| walk_at "exec For Name") => `(tactic| (k_here; k_dflt (refine wpAny_For ?_ (fun _ => rfl))))
local macro_rules | `(tactic| walk_at "exec For Name Call") => `(tactic| (k_here; k_dflt (refine wpAny_For ?_ (fun _ => rfl))))
local macro_rules | `(tactic| walk_at "exec For Name Name") => `(tactic| (k_here; k_dflt (refine wpAny_For ?_ (fun _ => rfl))))
local macro_rules | `(tactic| walk_at "exec For Name Call cons nil") => `(tactic| (k_here; k_dflt (refine wpAny_For ?_ (fun _ => rfl))))
local macro_rules | `(tactic| walk_at "S") => `(tactic| repeat' ((fail_if_success (with_reducible show wpAny _ _ (exec (Stmt.While _ _ _ _) _) _ _ _)); (fail_if_success (with_reducible show wpAny _ _ (pyIter _) (fun it s₂ => codeAny _ _ _ _ _) _ _)); first | walk1 | (dsimp only; walk1)))
local macro_rules | `(tactic| walk_at "exec For Tuple") => `(tactic| (k_here; k_dflt (refine wpAny_For ?_ (fun _ => rfl))))
local macro_rules | `(tactic| walk_at "exec For Tuple Name") => `(tactic| (k_here; k_dflt (refine wpAny_For ?_ (fun _ => rfl))))
local macro_rules | `(tactic| walk_at "assign Name") => `(tactic| (k_here; refine wpAny_assign_Name ?_))
local macro_rules | `(tactic| walk_at "call builtin:list.append") => `(tactic| (k_here; (with_reducible show wpAny _ _ (call (Value.builtin _) [Value.ref _, _]) _ _ _); k_dflt (refine' append_K ?apF ?apN ?apU ?_ ?apz; (case apF => assumption); (case apN => assumption); (case apU => walk_at "MYUPD"); (case apz => rw [sizeLine_eq]; first | exact Nat.le_of_ble_eq_true rfl | assumption)); intro _ _ _))
local macro_rules | `(tactic| walk_at "MYUPD") => `(tactic| first | exact .head (ne_all (by assumption)) | exact .tail (Nat.ne_of_gt (by assumption)) (.head (ne_all (by assumption))) | exact .tail (Nat.ne_of_lt (by assumption)) (.head (ne_all (by assumption))) | (refine .tail (Nat.ne_of_gt (by assumption)) ?_; walk_at "MYUPD"))
local macro_rules | `(tactic| walk_at "subscriptTail Name Name ref int") => `(tactic| (k_here; k_dflt (refine' sub_news ?suN ?suM ?su0 ?su1 ?suX ?_; (case suN => assumption); (case suM => k_mem); (case su0 => decide); (case su1 => decide); (case suX => exact rfl))))
local macro_rules | `(tactic| walk_at "subscriptTail Name Constant ref int") => `(tactic| (k_here; k_dflt (refine' sub_news ?suN ?suM ?su0 ?su1 ?suX ?_; (case suN => assumption); (case suM => k_mem); (case su0 => decide); (case su1 => decide); (case suX => exact rfl))))
local macro_rules | `(tactic| walk_at "binaryOp FloorDiv int int") => `(tactic| (k_here; (with_reducible refine floordiv_int (by first | decide | (intro h; cases h)) ?_)))
local macro_rules | `(tactic| walk_at "binaryOp Pow int int") => `(tactic| (k_here; (with_reducible refine pow_int_small (by decide) (by decide) (by decide) ?_)))
local macro_rules | `(tactic| k_all) => `(tactic| exact fun p hp => Nat.ne_of_lt ((by assumption : ∀ p ∈ _, p.1 < _) p hp))
section
open PySem PySem.W PyProof.Rows PySem.Calls PySem.Spec
structure BSub where
  a : Addr
  p : Int
  k : Int
  tp : Tok
  tk : Tok
  c : Nat
noncomputable abbrev BSub.obj (b : BSub) : Obj := W.listOf #[.int b.p b.tp, .int b.k b.tk] b.c
structure Brs where
  subs : List BSub
  cnt : Nat
  u : Option Value
noncomputable abbrev brsObj (c : Brs) : Obj := W.listOf (c.subs.map fun b => Value.ref b.a).toArray c.cnt
noncomputable abbrev brsNw (bl : Addr) (news : List (Addr × Obj)) (c : Brs) : List (Addr × Obj) := (bl, brsObj c) :: (c.subs.map fun b => (b.a, b.obj)) ++ news
noncomputable def putLast (v : Int) : List (Int × Int) → List (Int × Int)
  | [] => []
  | [(p, _)] => [(p, v)]
  | x :: y :: r => x :: putLast v (y :: r)
noncomputable def readStep (bs : List (Int × Int)) (ch : Nat) : List (Int × Int) :=
  if ch = 34 then putLast 0 bs
  else if c6L.contains (ch : Int) then putLast 2 bs
  else if c8L.contains (ch : Int) then putLast 3 bs
  else if b1L.contains (ch : Int) then bs
  else bs ++ [((lowOf ch : Int) - 97, 1)]
noncomputable def readOk (bs : List (Int × Int)) (ch : Nat) : Prop :=
  if ch = 34 ∨ c6L.contains (ch : Int) = true ∨ c8L.contains (ch : Int) = true then bs ≠ [] else if b1L.contains (ch : Int) = true then True else ch ∈ lettersN
noncomputable def foldTo (x : List Nat) (i : Nat) : List (Int × Int) := (x.take i).foldl readStep []
structure brsOk (bl : Addr) (news : List (Addr × Obj)) (c : Brs) (bs : List (Int × Int)) : Prop where
  vals : c.subs.map (fun b => (b.p, b.k)) = bs
  low : ∀ b ∈ c.subs, bl < b.a ∧ ∀ p ∈ news, p.1 < b.a
  nod : (c.subs.map (·.a)).Nodup
  base : ∀ p ∈ news, p.1 < bl
theorem foldTo_succ {x : Array Nat} {i ch : Nat} (h : x[i]? = some ch) : foldTo x.toList (i + 1) = readStep (foldTo x.toList i) ch := by
  have h' : x.toList[i]? = some ch := by rw [Array.getElem?_toList]; exact h
  unfold foldTo
  rw [List.take_add_one, h', List.foldl_append]
  rfl
theorem brs_ne {bl : Addr} {news : List (Addr × Obj)} {c : Brs} {bs : List (Int × Int)} (h : brsOk bl news c bs) (hb : bs ≠ []) : ∃ b, c.subs.getLast? = some b := by
  cases hc : c.subs.getLast? with
  | some b => exact ⟨b, rfl⟩
  | none =>
    exfalso
    have : c.subs = [] := List.getLast?_eq_none_iff.mp hc
    apply hb
    rw [← h.vals, this]
    rfl
theorem ok_q {bs : List (Int × Int)} {ch : Nat} (h : readOk bs ch) (e : ((⟨#[ch]⟩ : Str) == Str.ofString "\"") = true) : bs ≠ [] := by
  rw [q_eq, decide_eq_true_eq] at e
  unfold readOk at h
  rw [if_pos (.inl e)] at h
  exact h
theorem ok_6 {bs : List (Int × Int)} {ch : Nat} (h : readOk bs ch) (e : c6L.contains (ch : Int) = true) : bs ≠ [] := by
  unfold readOk at h
  rw [if_pos (.inr (.inl e))] at h
  exact h
theorem ok_8 {bs : List (Int × Int)} {ch : Nat} (h : readOk bs ch) (e : c8L.contains (ch : Int) = true) : bs ≠ [] := by
  unfold readOk at h
  rw [if_pos (.inr (.inr e))] at h
  exact h
theorem ok_l {bs : List (Int × Int)} {ch : Nat} (h : readOk bs ch) (e : ((⟨#[ch]⟩ : Str) == Str.ofString "\"") = false) (e6 : c6L.contains (ch : Int) = false) (e8 : c8L.contains (ch : Int) = false) (e1 : b1L.contains (ch : Int) = false) : ch ∈ lettersN := by
  rw [q_eq, decide_eq_false_iff_not] at e
  unfold readOk at h
  rw [if_neg (by rintro (h | h | h); exact e h; rw [e6] at h; cases h; rw [e8] at h; cases h), if_neg (by rw [e1]; exact Bool.false_ne_true)] at h
  exact h
theorem st_q {bs : List (Int × Int)} {ch : Nat} (e : ((⟨#[ch]⟩ : Str) == Str.ofString "\"") = true) : readStep bs ch = putLast 0 bs := by
  rw [q_eq, decide_eq_true_eq] at e
  unfold readStep; rw [if_pos e]
theorem st_6 {bs : List (Int × Int)} {ch : Nat} (e : ((⟨#[ch]⟩ : Str) == Str.ofString "\"") = false) (e6 : c6L.contains (ch : Int) = true) : readStep bs ch = putLast 2 bs := by
  rw [q_eq, decide_eq_false_iff_not] at e
  unfold readStep; rw [if_neg e, if_pos e6]
theorem st_8 {bs : List (Int × Int)} {ch : Nat} (e : ((⟨#[ch]⟩ : Str) == Str.ofString "\"") = false) (e6 : c6L.contains (ch : Int) = false) (e8 : c8L.contains (ch : Int) = true) : readStep bs ch = putLast 3 bs := by
  rw [q_eq, decide_eq_false_iff_not] at e
  unfold readStep; rw [if_neg e, if_neg (by rw [e6]; exact Bool.false_ne_true), if_pos e8]
theorem st_b {bs : List (Int × Int)} {ch : Nat} (e : ((⟨#[ch]⟩ : Str) == Str.ofString "\"") = false) (e6 : c6L.contains (ch : Int) = false) (e8 : c8L.contains (ch : Int) = false) (e1 : b1L.contains (ch : Int) = true) : readStep bs ch = bs := by
  rw [q_eq, decide_eq_false_iff_not] at e
  unfold readStep; rw [if_neg e, if_neg (by rw [e6]; exact Bool.false_ne_true), if_neg (by rw [e8]; exact Bool.false_ne_true), if_pos e1]
theorem st_l {bs : List (Int × Int)} {ch : Nat} (e : ((⟨#[ch]⟩ : Str) == Str.ofString "\"") = false) (e6 : c6L.contains (ch : Int) = false) (e8 : c8L.contains (ch : Int) = false) (e1 : b1L.contains (ch : Int) = false) : readStep bs ch = bs ++ [((lowOf ch : Int) - 97, 1)] := by
  rw [q_eq, decide_eq_false_iff_not] at e
  unfold readStep; rw [if_neg e, if_neg (by rw [e6]; exact Bool.false_ne_true), if_neg (by rw [e8]; exact Bool.false_ne_true), if_neg (by rw [e1]; exact Bool.false_ne_true)]
theorem putLast_concat (v : Int) (p q : Int) : ∀ l : List (Int × Int), putLast v (l ++ [(p, q)]) = l ++ [(p, v)]
  | [] => rfl
  | [x] => rfl
  | x :: y :: r => by
    have := putLast_concat v p q (y :: r)
    show x :: putLast v (y :: r ++ [(p, q)]) = _
    rw [this]; rfl
theorem last_eq {α : Type} {l : List α} {b : α} (h : l.getLast? = some b) : l = l.dropLast ++ [b] := by
  have hne : l ≠ [] := by rintro rfl; cases h
  have := List.dropLast_concat_getLast hne
  rw [List.getLast?_eq_some_getLast hne] at h
  injection h with h
  rw [h] at this
  exact this.symm
noncomputable def Brs.put (c : Brs) (b : BSub) (v : Int) (t : Tok) (u : Option Value) : Brs := ⟨c.subs.dropLast ++ [{ b with k := v, tk := t }], c.cnt, u⟩
theorem put_ok {bl : Addr} {news : List (Addr × Obj)} {c : Brs} {bs : List (Int × Int)} {b : BSub} {v : Int} {t : Tok} {u : Option Value} (h : brsOk bl news c bs) (hb : c.subs.getLast? = some b) : brsOk bl news (c.put b v t u) (putLast v bs) := by
  have e : c.subs = c.subs.dropLast ++ [b] := last_eq hb
  have ea : (c.put b v t u).subs.map (·.a) = c.subs.map (·.a) := by
    conv => rhs; rw [e]
    simp [Brs.put]
  refine ⟨?_, ?_, ?_, h.base⟩
  · rw [← h.vals]
    conv => rhs; rw [e]
    rw [List.map_append]
    show _ = putLast v (_ ++ [(b.p, b.k)])
    rw [putLast_concat]
    simp [Brs.put]
  · intro x hx
    have : x.a ∈ c.subs.map (·.a) := by rw [← ea]; exact List.mem_map_of_mem hx
    obtain ⟨y, hy, hya⟩ := List.mem_map.mp this
    rw [← hya]
    exact h.low y hy
  · rw [ea]; exact h.nod
theorem put_len {c : Brs} {b : BSub} {v : Int} {t : Tok} {u : Option Value} (hb : c.subs.getLast? = some b) : (c.put b v t u).subs.length = c.subs.length := by
  have e : c.subs = c.subs.dropLast ++ [b] := last_eq hb
  conv => rhs; rw [e]
  simp [Brs.put]
theorem put_addr {bl : Addr} {news : List (Addr × Obj)} {c : Brs} {b : BSub} {v : Int} {t : Tok} {u : Option Value} (hb : c.subs.getLast? = some b) : (brsNw bl news (c.put b v t u)).map (·.1) = (brsNw bl news c).map (·.1) := by
  have e : c.subs = c.subs.dropLast ++ [b] := last_eq hb
  simp only [brsNw, List.map_cons, List.map_append, List.map_map, List.cons_append]
  congr 2
  conv => rhs; rw [e]
  simp [Brs.put]
theorem off_of {l l' : List (Addr × Obj)} {I : Addr} (e : l'.map (·.1) = l.map (·.1)) (h : ∀ p ∈ l, p.1 ≠ I) : ∀ p ∈ l', p.1 ≠ I := fun p hp => by
  have : p.1 ∈ l'.map (·.1) := List.mem_map_of_mem hp
  rw [e] at this
  obtain ⟨q, hq, hqe⟩ := List.mem_map.mp this
  rw [← hqe]
  exact h q hq
section
variable {w : World} {A : Around} {E : Value → Shared → Prop} {s : Shared} {h₀ : Heap} {L bl I : Addr} {m : Str → Option Value} {news : List (Addr × Obj)} {ob : Obj} {c : Brs} {bs : List (Int × Int)} {t : Tok}
theorem sub_brs {value slice : Expr} {u : Tok} {Q : Value → Shared → Prop} (N : News h₀ L s.heap ((I, ob) :: brsNw bl news c)) (hP : brsOk bl news c bs) (hne : bs ≠ []) (h : ∀ b, c.subs.getLast? = some b → Q (.ref b.a) s)
    (hs : ∀ l, subscripted slice false (.ref l) (.int (-1) u) = operate [.ref l, .int (-1) u] (getItem (.ref l) (.int (-1) u)) := by intro _; with_unfolding_all rfl) :
    wpAny (PM w) A (subscriptTail value slice (.ref bl) (.int (-1) u)) Q E s := by
  obtain ⟨b, hb⟩ := brs_ne hP hne
  refine sub_last N (.tail _ (.head _)) (x := .ref b.a) ?_ (h b hb) (hs bl)
  show (c.subs.map fun b => Value.ref b.a).toArray.toList.getLast? = _
  simp [List.getLast?_map, hb]
theorem set_brs {b : BSub} {v : Int} {k : Tok} {Q : Unit → Shared → Prop} (F : Fr h₀ L s.heap m) (N : News h₀ L s.heap ((I, ob) :: brsNw bl news c)) (hb : c.subs.getLast? = some b) (hP : brsOk bl news c bs ∧ ∀ p ∈ brsNw bl news c, p.1 ≠ I)
    (h : ∀ h', Fr h₀ L h' m → (∀ u, News h₀ L h' ((I, ob) :: brsNw bl news (c.put b v t u))) → Q () { s with heap := h' }) :
    wpAny (PM w) A (setItem (.ref b.a) (.int 1 k) (.int v t)) Q E s := by
  have e : c.subs = c.subs.dropLast ++ [b] := last_eq hb
  have hbm : b ∈ c.subs := by rw [e]; simp
  have hm : (b.a, b.obj) ∈ (I, ob) :: brsNw bl news c := .tail _ (.tail _ (List.mem_append.mpr (.inl (List.mem_map.mpr ⟨b, hbm, rfl⟩))))
  refine set_list F N hm (by decide) (by show (1 : Int) < ((2 : Nat) : Int); decide) (by decide) fun h' F' hN => h h' F' fun u => hN _ fun p hp => ?_
  rcases List.mem_cons.mp hp with rfl | hp
  · exact .inr ⟨.head _, fun e' => hP.2 _ (.tail _ (List.mem_append.mpr (.inl (List.mem_map.mpr ⟨b, hbm, rfl⟩)))) e'.symm⟩
  rcases List.mem_cons.mp hp with rfl | hp
  · refine .inr ⟨.tail _ ?_, Nat.ne_of_lt (hP.1.low b hbm).1⟩
    have : brsObj (c.put b v t u) = brsObj c := by
      have hm : (c.put b v t u).subs.map (fun b => Value.ref b.a) = c.subs.map (fun b => Value.ref b.a) := by
        conv => rhs; rw [e]
        simp [Brs.put]
      unfold brsObj
      rw [hm]
      rfl
    rw [this]
    exact .head _
  rcases List.mem_append.mp hp with hp | hp
  · obtain ⟨x, hx, rfl⟩ := List.mem_map.mp hp
    rcases List.mem_append.mp hx with hx | hx
    · refine .inr ⟨.tail _ (.tail _ (List.mem_append.mpr (.inl (List.mem_map.mpr ⟨x, by rw [e]; exact List.mem_append.mpr (.inl hx), rfl⟩)))), fun e' => ?_⟩
      have hn := hP.1.nod
      rw [e, List.map_append] at hn
      exact (List.nodup_append.mp hn).2.2 x.a (List.mem_map_of_mem hx) b.a (by simp) e'
    · rw [List.mem_singleton.mp hx]
      exact .inl rfl
  · exact .inr ⟨.tail _ (.tail _ (List.mem_append.mpr (.inr hp))), Nat.ne_of_lt ((hP.1.low b hbm).2 p hp)⟩
theorem meth_brs {Q : Value × List Value → Shared → Prop} {pl : Sem Bool} (N : News h₀ L s.heap ((I, ob) :: brsNw bl news c)) (h : Q (.builtin "list.append", [.ref bl]) s) : wpAny (PM w) A (getMethod (.ref bl) "append" pl) Q E s := by
  have hl : s.heap.IsList bl (c.subs.map fun b => Value.ref b.a).toArray := ⟨_, (N (bl, brsObj c) (.tail _ (.head _))).1, rfl, _, rfl⟩
  exact getMethod_builtin hl.typeIs PySem.F.plainAttrs_list PySem.F.slot_list_append PySem.F.type_list_append (fun a e => by cases e; exact ⟨_, (N (bl, brsObj c) (.tail _ (.head _))).1, rfl⟩) h
theorem allLt_mem {d : Addr} : ∀ {l : List (Addr × Obj)}, AllLt d l → ∀ p ∈ l, p.1 < d
  | [], _, p, hp => nomatch hp
  | q :: r, h, p, hp => by
    rcases List.mem_cons.mp hp with rfl | hp
    · exact h.1
    · exact allLt_mem h.2 p hp
theorem lt_of {I l : Addr} {ob : Obj} {r : List (Addr × Obj)} (h : I < l ∧ AllLt l r) : ∀ p ∈ (I, ob) :: r, p.1 < l := allLt_mem (l := (I, ob) :: r) h
noncomputable def Brs.add (c : Brs) (b : BSub) (u : Option Value) : Brs := ⟨c.subs ++ [b], c.cnt + 1, u⟩
theorem app_brs {l : Addr} {o : Obj} {Q : Value → Shared → Prop} (F : Fr h₀ L s.heap m) (N : News h₀ L s.heap ((l, o) :: (I, ob) :: brsNw bl news c)) (hl : ∀ p ∈ (I, ob) :: brsNw bl news c, p.1 < l) (hP : brsOk bl news c bs ∧ ∀ p ∈ brsNw bl news c, p.1 ≠ I) (hz : c.subs.length ≤ 900)
    (h : ∀ h', Fr h₀ L h' m → (∀ (b : BSub) (u : Option Value), (b.a, b.obj) = (l, o) → News h₀ L h' ((I, ob) :: brsNw bl news (c.add b u))) → Q .none { s with heap := h' }) :
    wpAny (PM w) A (call (.builtin "list.append") [.ref bl, .ref l]) Q E s := by
  have hbl : bl < l := hl _ (.tail _ (.head _))
  refine app_list F N (.tail _ (.tail _ (.head _))) (by rw [sizeLine_eq]; simp; omega) fun h' F' hN => h h' F' fun b u hb => hN _ fun p hp => ?_
  rcases List.mem_cons.mp hp with rfl | hp
  · exact .inr ⟨.tail _ (.head _), fun e' => hP.2 _ (.head _) e'.symm⟩
  rcases List.mem_cons.mp hp with rfl | hp
  · refine .inl ?_
    have ha : b.a = l := congrArg Prod.fst hb
    simp [Brs.add, ha]
  rcases List.mem_append.mp hp with hp | hp
  · obtain ⟨x, hx, rfl⟩ := List.mem_map.mp hp
    rcases List.mem_append.mp hx with hx | hx
    · exact .inr ⟨.tail _ (.tail _ (.tail _ (List.mem_append.mpr (.inl (List.mem_map.mpr ⟨x, hx, rfl⟩))))), fun e' => Nat.ne_of_lt (hP.1.low x hx).1 e'.symm⟩
    · rw [List.mem_singleton.mp hx, hb]
      exact .inr ⟨.head _, fun e' => Nat.ne_of_lt hbl e'.symm⟩
  · exact .inr ⟨.tail _ (.tail _ (.tail _ (List.mem_append.mpr (.inr hp)))), Nat.ne_of_lt (hP.1.base p hp)⟩
theorem add_ok {b : BSub} {u : Option Value} (hP : brsOk bl news c bs) (hl : ∀ p ∈ (I, ob) :: brsNw bl news c, p.1 < b.a) : brsOk bl news (c.add b u) (bs ++ [(b.p, b.k)]) := by
  refine ⟨?_, ?_, ?_, hP.base⟩
  · simp [Brs.add, ← hP.vals]
  · intro x hx
    rcases List.mem_append.mp hx with hx | hx
    · exact hP.low x hx
    · rw [List.mem_singleton.mp hx]
      exact ⟨hl _ (.tail _ (.head _)), fun p hp => hl _ (.tail _ (.tail _ (List.mem_append.mpr (.inr hp))))⟩
  · show ((c.subs ++ [b]).map (·.a)).Nodup
    rw [List.map_append, List.nodup_append]
    refine ⟨hP.nod, by simp, fun a ha b' hb' => ?_⟩
    obtain ⟨x, hx, rfl⟩ := List.mem_map.mp ha
    simp at hb'
    subst hb'
    exact Nat.ne_of_lt (hl (x.a, x.obj) (.tail _ (.tail _ (List.mem_append.mpr (.inl (List.mem_map.mpr ⟨x, hx, rfl⟩))))))
theorem add_off {b : BSub} {u : Option Value} (hP : ∀ p ∈ brsNw bl news c, p.1 ≠ I) (hl : ∀ p ∈ (I, ob) :: brsNw bl news c, p.1 < b.a) : ∀ p ∈ brsNw bl news (c.add b u), p.1 ≠ I := by
  intro p hp
  rcases List.mem_cons.mp hp with rfl | hp
  · exact hP (bl, brsObj c) (.head _)
  rcases List.mem_append.mp hp with hp | hp
  · obtain ⟨x, hx, rfl⟩ := List.mem_map.mp hp
    rcases List.mem_append.mp hx with hx | hx
    · exact hP _ (.tail _ (List.mem_append.mpr (.inl (List.mem_map.mpr ⟨x, hx, rfl⟩))))
    · rw [List.mem_singleton.mp hx]
      exact fun e => Nat.ne_of_lt (hl _ (.head _)) e.symm
  · exact hP _ (.tail _ (List.mem_append.mpr (.inr hp)))
end
local macro_rules | `(tactic| walk_at "subscriptTail Name UnaryOp ref int") => `(tactic| (k_here; k_dflt (refine' sub_brs (by assumption) (by assumption) (by first | exact ok_q (by assumption) (by assumption) | exact ok_6 (by assumption) (by assumption) | exact ok_8 (by assumption) (by assumption)) ?_); intro b hb))
local macro_rules | `(tactic| walk_at "setItem") => `(tactic| (k_here; k_dflt (refine' set_brs (by assumption) (by assumption) (by assumption) (by assumption) ?_); intro h' F' N'))
local macro_rules | `(tactic| walk_at "getMethod ref") => `(tactic| (k_here; k_dflt (refine' meth_brs (by assumption) ?_)))
local macro_rules | `(tactic| walk_at "call builtin:list.append") => `(tactic| (k_here; k_dflt (refine' app_brs (by assumption) (by assumption) (lt_of (by assumption)) (by assumption) (by assumption) ?_); intro h' F' N'))
local macro_rules | `(tactic| walk_at "call ref") => `(tactic| (k_here; (with_reducible show wpAny _ _ (call (Value.ref 136) _) _ _ _); k_dflt (refine' c6_c (Cx.nest (by assumption) (by assumption) (by assumption) (by assumption) (by assumption) (by assumption) rfl rfl (by assumption) (by assumption) (by assumption)) ?cAlt ?_; (case cAlt => assumption)); intro _ _ _ _))
local macro_rules | `(tactic| walk_at "call ref") => `(tactic| (k_here; (with_reducible show wpAny _ _ (call (Value.ref 160) _) _ _ _); k_dflt (refine' c8_c (Cx.nest (by assumption) (by assumption) (by assumption) (by assumption) (by assumption) (by assumption) rfl rfl (by assumption) (by assumption) (by assumption)) ?cAlt ?_; (case cAlt => assumption)); intro _ _ _ _))
local macro_rules | `(tactic| walk_at "call ref") => `(tactic| (k_here; (with_reducible show wpAny _ _ (call (Value.ref 78) _) _ _ _); k_dflt (refine' b1_c (Cx.nest (by assumption) (by assumption) (by assumption) (by assumption) (by assumption) (by assumption) rfl rfl (by assumption) (by assumption) (by assumption)) ?cAlt ?_; (case cAlt => assumption)); intro _ _ _ _))
local macro_rules | `(tactic| walk_at "call ref") => `(tactic| (k_here; (with_reducible show wpAny _ _ (call (Value.ref 124) _) _ _ _); k_dflt (refine' map_c (Cx.nest (by assumption) (by assumption) (by assumption) (by assumption) (by assumption) (by assumption) rfl rfl (by assumption) (by assumption) (by assumption)) ?cAlt ?_; (case cAlt => exact ok_l (by assumption) (by assumption) (by assumption) (by assumption) (by assumption))); intro _ _ _ _ _))
set_option maxRecDepth 100000 in
set_option maxHeartbeats 8000000 in
theorem read_c {w : World} {mean : ExcName → Option Value} {mg mb : Str → Option Value} {A A₀ : Around} {env : Env} {outer : List Env} {base h₀ : Heap} {L : Addr} {m : Str → Option Value} {news : List (Addr × Obj)} {s : Shared} {Q E : Value → Shared → Prop}
    (C : Cx w mean mg mb A A₀ env outer base h₀ L m news s) {y : Str} {tk : Tok} (hd2 : A.depth + 16 < recursionLimit) (hu2 : A.units + 256 < cLine) (hlt : ∀ (i : Nat) (ch : Nat), y.cps[i]? = some ch → ch < 1114112) (hok : ∀ (i : Nat) (ch : Nat), y.cps[i]? = some ch → readOk (foldTo y.cps.toList i) ch) (hy : y.cps.size ≤ 900)
    (hret : ∀ bl c h' tk', brsOk bl news c (foldTo y.cps.toList y.cps.size) → Fr h₀ L h' m → News h₀ L h' (brsNw bl news c) → Q (.ref bl) { s with heap := h', toks := tk' }) :
    wpAny (PM w) A (call (.ref 179) [.str y tk]) Q E s := by
  obtain ⟨B, F, X, N, T, hA, hf, hk, hd, hu, hh⟩ := C
  refine wpAny_call ?_
  delta PM; revert X; k_fill; intro X
  k_dflt (refine' code_def (binds := [(Str.ofString "text", .str y tk)]) ?k1 ?k2 ?k3 ?k4 ?k5 ?kA ?kF ?kK ?k6 ?k7 ?k8 ?k9 ?kB ?_ ?c2 ?c3 ?c4 ?c5; (case kA => exact hA); (case kF => exact hf); (case kK => exact hk); (case k1 => exact B); (case k2 => exact F); (case k3 => exact X); (case k4 => exact N); (case k5 => exact T); (case k6 => k_is); (case k7 => k_is); (case k8 => omega); (case k9 => exact BindsTo.of_eq rfl); (case c5 => decide); (case kB => exact locs rfl); (case c2 => exact rfl); (case c3 => exact rfl); (case c4 => exact rfl); k_whole; intro g' L' h' FG' F' N' B' X' T'; (try dsimp only); refine wpAny_noRaise ?_; (try k_fold))
  clear B F X N T FG'
  walk_at "S"
  rename_i bl _ _ _ _ _
  k_dflt (refine' iter_strG ?wF ?wN (fun c : Brs => [(Str.ofString "sign", c.u)]) (brsNw bl news) (fun I i c => (brsOk bl news c (foldTo y.cps.toList i) ∧ c.subs.length ≤ i) ∧ ∀ p ∈ brsNw bl news c, p.1 ≠ I) ?wu ?wo ?wh ?wt ?wturn ?wdone; (case wF => assumption); (case wN => assumption))
  case wu => exact ⟨⟨[], _, _⟩, fun I hI => ⟨⟨⟨rfl, (fun b hb => nomatch hb), .nil, by assumption⟩, Nat.zero_le _⟩, fun p hp => Nat.ne_of_lt (hI p hp)⟩, .cons rfl .nil, rfl⟩
  case wo => intro I i c h; exact h.2
  case wh => exact hh
  case wt => exact ⟨_, _, rfl⟩
  case wdone =>
    rintro I c h tk2 hP F N
    walk_at "S"
    exact leaveK_ (by assumption) (by assumption) fun F N => hret _ c _ _ hP.1.1 F N
  case wturn =>
    rintro i c ch t I ob h tk2 hch hP F N
    have hlt' := hlt _ _ hch
    have hok' := hok _ _ hch
    have hil : i < 900 := Nat.lt_of_lt_of_le (Array.getElem?_eq_some_iff.mp hch).1 hy
    have hP1 := hP.1.1
    have hP2 := And.intro hP.1.1 hP.2
    have hP3 : c.subs.length ≤ 900 := Nat.le_of_lt (Nat.lt_of_le_of_lt hP.1.2 hil)
    have hP4 := hP.1.2
    have hP5 := hP.2
    clear hP
    walk_at "S"
    · rename_i b hb h2 F2 N2
      exact turn_n2 F2 ⟨c.put b 0 _ _, ⟨⟨by rw [foldTo_succ hch, st_q (by assumption)]; exact put_ok hP1 hb, Nat.le_succ_of_le (by rw [put_len hb]; exact hP4)⟩, off_of (put_addr hb) hP5⟩, .cons rfl .nil, by repeat' (first | exact Off.ov rfl | exact Off.refl | (refine Off.upd (by simp) ?_)), N2 _⟩
    · rename_i b hb h2 F2 N2
      exact turn_n2 F2 ⟨c.put b 2 _ _, ⟨⟨by rw [foldTo_succ hch, st_6 (by assumption) (by assumption)]; exact put_ok hP1 hb, Nat.le_succ_of_le (by rw [put_len hb]; exact hP4)⟩, off_of (put_addr hb) hP5⟩, .cons rfl .nil, by repeat' (first | exact Off.ov rfl | exact Off.refl | (refine Off.upd (by simp) ?_)), N2 _⟩
    · rename_i b hb h2 F2 N2
      exact turn_n2 F2 ⟨c.put b 3 _ _, ⟨⟨by rw [foldTo_succ hch, st_8 (by assumption) (by assumption) (by assumption)]; exact put_ok hP1 hb, Nat.le_succ_of_le (by rw [put_len hb]; exact hP4)⟩, off_of (put_addr hb) hP5⟩, .cons rfl .nil, by repeat' (first | exact Off.ov rfl | exact Off.refl | (refine Off.upd (by simp) ?_)), N2 _⟩
    · exact turn_n2 (by assumption) ⟨⟨c.subs, c.cnt, some (.str ⟨#[ch]⟩ t)⟩, ⟨⟨by rw [foldTo_succ hch, st_b (by assumption) (by assumption) (by assumption) (by assumption)]; exact ⟨hP1.vals, hP1.low, hP1.nod, hP1.base⟩, Nat.le_succ_of_le hP4⟩, hP5⟩, .cons rfl .nil, by repeat' (first | exact Off.ov rfl | exact Off.refl | (refine Off.upd (by simp) ?_)), by assumption⟩
    · rename_i l2 h3 F3 N3 hl3 h4 F4 N4
      have hadd := fun (tp tk : Tok) (u : Option Value) => add_ok (b := ⟨l2, (lowOf ch : Int) - 97, 1, tp, tk, 0⟩) (u := u) hP1 (lt_of (ob := ob) hl3)
      have hfs := (foldTo_succ hch).trans (st_l (by assumption) (by assumption) (by assumption) (by assumption))
      exact turn_n2 F4 ⟨c.add ⟨l2, _, _, _, _, 0⟩ _, ⟨⟨by rw [hfs]; exact hadd _ _ _, by show (c.subs ++ [_]).length ≤ i + 1; rw [List.length_append]; exact Nat.succ_le_succ hP4⟩, add_off hP5 (lt_of (ob := ob) hl3)⟩, .cons rfl .nil, by repeat' (first | exact Off.ov rfl | exact Off.refl | (refine Off.upd (by simp) ?_)), N4 ⟨l2, _, _, _, _, 0⟩ _ rfl⟩
end
section
open PySem PySem.W PyProof.Rows PySem.Calls PySem.Spec
structure Ways where
  vs : Array Value
  cnt : Nat
  up : Option Value
  uk : Option Value
noncomputable abbrev waysNw (wl : Addr) (news : List (Addr × Obj)) (c : Ways) : List (Addr × Obj) := (wl, W.listOf c.vs c.cnt) :: news
noncomputable def aloneStep (r : List Int) (b : Int × Int) : List Int := r.set (goalOf b.1).toNat (r.getD (goalOf b.1).toNat 0 + b.2 * r.getD b.1.toNat 0)
noncomputable def unitRow (start : Int) : List Int := [0, 0, 0, 0, 0].set start.toNat 1
noncomputable def aloneTo (start : Int) (bs : List (Int × Int)) (i : Nat) : List Int := (bs.take i).foldl aloneStep (unitRow start)
theorem aloneTo_len (start : Int) (bs : List (Int × Int)) (i : Nat) : (aloneTo start bs i).length = 5 := by
  unfold aloneTo
  generalize bs.take i = l
  have : ∀ (l : List (Int × Int)) (r : List Int), r.length = 5 → (l.foldl aloneStep r).length = 5 := by
    intro l
    induction l with
    | nil => intro r h; exact h
    | cons b l ih => intro r h; exact ih _ (by unfold aloneStep; rw [List.length_set]; exact h)
  exact this l _ (by unfold unitRow; rw [List.length_set]; rfl)
theorem aloneTo_succ {start : Int} {bs : List (Int × Int)} {i : Nat} {b : Int × Int} (h : bs[i]? = some b) : aloneTo start bs (i + 1) = aloneStep (aloneTo start bs i) b := by
  unfold aloneTo
  rw [List.take_add_one, h, List.foldl_append]
  rfl
theorem mulOk_small {a : Int} (h0 : 0 ≤ a) (h1 : a ≤ 3) : ∀ x, IntMulOk a x := fun _ => .of_left (intBits_le_64 (by omega) (by omega))
theorem allOk {a b : Int} (h : ∀ x, IntMulOk a x) : IntMulOk a b := h b
local macro_rules | `(tactic| walk_at "binaryOp Mult int int") => `(tactic| (k_here; refine mul_int ?_ (allOk (by assumption))))
local macro_rules | `(tactic| walk_at "assign Tuple") => `(tactic| (k_here; (with_reducible show wpAny _ _ (assign (Expr.Tuple _ _ _) _ (Value.ref _)) _ _ _); k_dflt (refine' tuple_list ?tuF ?tuN ?tuM ?tuH ?tuA ?tuB ?_; (case tuF => assumption); (case tuN => assumption); (case tuM => exact .tail _ (.tail _ (by assumption))); (case tuH => assumption); (case tuA => rfl); (case tuB => rfl)); intro _ _ _))
local macro_rules | `(tactic| walk_at "subscriptTail Name Name ref int") => `(tactic| (k_here; k_dflt (refine' sub_ints ?suN ?suM ?suI ?suL ?su0 ?su1 ?_; (case suN => assumption); (case suM => first | exact .tail _ (.head _) | exact .tail _ (.tail _ (by assumption))); (case suI => assumption); (case suL => first | rfl | exact aloneTo_len _ _ _); (case su0 => assumption); (case su1 => assumption)); intro _))
local macro_rules | `(tactic| walk_at "getItem ref int") => `(tactic| (k_here; k_dflt (refine' get_ints ?suN ?suM ?suI ?suL ?su0 ?su1 ?_; (case suN => assumption); (case suM => first | exact .tail _ (.head _) | exact .tail _ (.tail _ (by assumption))); (case suI => assumption); (case suL => first | rfl | exact aloneTo_len _ _ _); (case su0 => assumption); (case su1 => assumption)); intro _))
local macro_rules | `(tactic| walk_at "setItem ref int") => `(tactic| (k_here; k_dflt (refine' set_ints ?suF ?suN ?suM ?suI ?suL ?su0 ?su1 ?_; (case suF => assumption); (case suN => assumption); (case suM => first | exact .head _ | exact .tail _ (.head _)); (case suI => first | assumption | exact .cons _ _ (.cons _ _ (.cons _ _ (.cons _ _ (.cons _ _ .nil))))); (case suL => first | rfl | exact aloneTo_len _ _ _); (case su0 => assumption); (case su1 => assumption)); intro _ _ _ _ _))
set_option maxRecDepth 100000 in
set_option maxHeartbeats 8000000 in
theorem alone_c {w : World} {mean : ExcName → Option Value} {mg mb : Str → Option Value} {A A₀ : Around} {env : Env} {outer : List Env} {base h₀ : Heap} {L : Addr} {m : Str → Option Value} {news : List (Addr × Obj)} {s : Shared} {Q E : Value → Shared → Prop}
    (C : Cx w mean mg mb A A₀ env outer base h₀ L m news s) {st : Int} {t1 : Tok} {bl ll : Addr} {c : Brs} {lv : Array Value} {lc : Nat} {bs : List (Int × Int)} (s0 : 0 ≤ st) (s1 : st < 5)
    (hbm : (bl, brsObj c) ∈ news) (hsm : ∀ b ∈ c.subs, (b.a, b.obj) ∈ news) (hlm : (ll, W.listOf lv lc) ∈ news) (hli : IntsAre lv.toList nextL) (hbs : c.subs.map (fun b => (b.p, b.k)) = bs) (hp : ∀ b ∈ c.subs, 0 ≤ b.p ∧ b.p < 5) (hkb : ∀ b ∈ c.subs, 0 ≤ b.k ∧ b.k ≤ 3)
    (hret : ∀ a vs cnt h' tk', (∀ p ∈ news, p.1 < a) → IntsAre vs.toList (aloneTo st bs c.subs.length) → Fr h₀ L h' m → News h₀ L h' ((a, W.listOf vs cnt) :: news) → Q (.ref a) { s with heap := h', toks := tk' }) :
    wpAny (PM w) A (call (.ref 198) [.int st t1, .ref bl, .ref ll]) Q E s := by
  obtain ⟨B, F, X, N, T, hA, hf, hk, hd, hu, hh⟩ := C
  refine wpAny_call ?_
  delta PM; revert X; k_fill; intro X
  k_dflt (refine' code_def (binds := [(Str.ofString "start", .int st t1), (Str.ofString "bridges", .ref bl), (Str.ofString "leads", .ref ll)]) ?k1 ?k2 ?k3 ?k4 ?k5 ?kA ?kF ?kK ?k6 ?k7 ?k8 ?k9 ?kB ?_ ?c2 ?c3 ?c4 ?c5; (case kA => exact hA); (case kF => exact hf); (case kK => exact hk); (case k1 => exact B); (case k2 => exact F); (case k3 => exact X); (case k4 => exact N); (case k5 => exact T); (case k6 => k_is); (case k7 => k_is); (case k8 => omega); (case k9 => exact BindsTo.of_eq rfl); (case c5 => decide); (case kB => exact locs rfl); (case c2 => exact rfl); (case c3 => exact rfl); (case c4 => exact rfl); k_whole; intro g' L' h' FG' F' N' B' X' T'; (try dsimp only); refine wpAny_noRaise ?_; (try k_fold))
  clear B F X N T FG'
  walk_at "S"
  rename_i wl h2 i1 n1 s1 e1 e2 e3 l1 h1 F1 N1 h0 its F0 hi0 hN
  have hwl : ∀ p ∈ news, p.1 < wl := allLt_mem l1.2
  have N2 : News g' L' h0 ((wl, W.listOf its 0) :: news) := hN _ fun p hp => by
    rcases List.mem_cons.mp hp with rfl | hp
    · exact .inl rfl
    · exact .inr ⟨.tail _ (.tail _ hp), Nat.ne_of_lt (hwl p hp)⟩
  clear hN N1 F1 i1 s1 e1 e2 e3 l1
  k_dflt (refine' iter_list (o := brsObj c) (vs := (c.subs.map fun b => Value.ref b.a).toArray) F0 N2 (fun c : Ways => [(Str.ofString "place", c.up), (Str.ofString "planks", c.uk)]) (waysNw wl news) (fun i cw => IntsAre cw.vs.toList (aloneTo st bs i)) ?wu ?wa ?wl ?wo ?wh ?wt ?wturn ?wdone)
  case wu => exact ⟨⟨its, 0, _, _⟩, hi0, .cons rfl (.cons rfl .nil), rfl⟩
  case wa => intro _; rfl
  case wl => exact .inr fun _ => .tail _ hbm
  case wo => exact ⟨rfl, _, rfl⟩
  case wh => exact hh
  case wt => rfl
  case wdone =>
    rintro ⟨vs, cnt, up, uk⟩ h tk2 hP F N
    walk_at "S"
    exact leaveK_ (by assumption) (by assumption) fun F N => hret _ _ _ _ _ hwl (by simpa using hP) F N
  case wturn =>
    rintro i ⟨vs, cnt, up, uk⟩ v I ob h tk2 hv hP hI F N
    have hvb : ∃ b, c.subs[i]? = some b ∧ v = .ref b.a := by
      rw [← Array.getElem?_toList] at hv
      simp only [List.getElem?_map, Option.map_eq_some_iff] at hv
      obtain ⟨b, hb, e⟩ := hv
      exact ⟨b, hb, e.symm⟩
    obtain ⟨b, hb, rfl⟩ := hvb
    have hbmem : b ∈ c.subs := List.mem_of_getElem? hb
    have hbm2 := hsm b hbmem
    obtain ⟨hp0, hp1⟩ := hp b hbmem
    obtain ⟨hg0, hg1⟩ := goal_bd hp0 hp1
    have hmk := mulOk_small (hkb b hbmem).1 (hkb b hbmem).2
    have hbsi : bs[i]? = some (b.p, b.k) := by rw [← hbs, List.getElem?_map, hb]; rfl
    walk_at "S"
    rename_i hiN hNow
    exact turn_n2 (by assumption) ⟨⟨_, _, _, _⟩, by rw [aloneTo_succ hbsi]; exact hiN, .cons rfl (.cons rfl .nil), by repeat' (first | exact Off.ov rfl | exact Off.refl | (refine Off.upd (by simp) ?_)), hNow _ fun p hp => by
      rcases List.mem_cons.mp hp with rfl | hp
      · exact .inr ⟨.head _, fun e => Nat.lt_irrefl _ (e ▸ hI _ (.head _))⟩
      rcases List.mem_cons.mp hp with rfl | hp
      · exact .inl rfl
      · exact .inr ⟨.tail _ (.tail _ hp), Nat.ne_of_lt (hwl p hp)⟩⟩
end
section
open PySem PySem.W PyProof.Rows PySem.Calls PySem.Spec
noncomputable def huesL (n : Int) : List Int :=
  let h0 := n.fmod 16
  let h1 := h0 + 1 + (n.fdiv 16).fmod 3
  let h2 := h1 + 1 + (n.fdiv 48).fmod 3
  let h3 := h2 + 1 + (n.fdiv 144).fmod 3
  [h0, h1, h2, h3, h3 + 1 + (n.fdiv 432).fmod 3]
theorem ints1 {vs : List Value} {a : Int} (h : IntsAre vs [a]) : ∃ t, vs = [.int a t] := by
  cases h with | cons _ t r => cases r; exact ⟨t, rfl⟩
theorem ints2 {vs : List Value} {a b : Int} (h : IntsAre vs [a, b]) : ∃ t u, vs = [.int a t, .int b u] := by
  cases h with | cons _ t r => obtain ⟨u, rfl⟩ := ints1 r; exact ⟨t, u, rfl⟩
theorem ints3 {vs : List Value} {a b c : Int} (h : IntsAre vs [a, b, c]) : ∃ t u v, vs = [.int a t, .int b u, .int c v] := by
  cases h with | cons _ t r => obtain ⟨u, v, rfl⟩ := ints2 r; exact ⟨t, u, v, rfl⟩
theorem ints4 {vs : List Value} {a b c d : Int} (h : IntsAre vs [a, b, c, d]) : ∃ t u v w, vs = [.int a t, .int b u, .int c v, .int d w] := by
  cases h with | cons _ t r => obtain ⟨u, v, w, rfl⟩ := ints3 r; exact ⟨t, u, v, w, rfl⟩
theorem ints5 {vs : List Value} {a b c d e : Int} (h : IntsAre vs [a, b, c, d, e]) : ∃ t u v w x, vs = [.int a t, .int b u, .int c v, .int d w, .int e x] := by
  cases h with | cons _ t r => obtain ⟨u, v, w, x, rfl⟩ := ints4 r; exact ⟨t, u, v, w, x, rfl⟩
structure HSt where
  vs : Array Value
  cnt : Nat
  u : Option Value
set_option maxRecDepth 100000 in
set_option maxHeartbeats 8000000 in
theorem hues_c {w : World} {mean : ExcName → Option Value} {mg mb : Str → Option Value} {A A₀ : Around} {env : Env} {outer : List Env} {base h₀ : Heap} {L : Addr} {m : Str → Option Value} {news : List (Addr × Obj)} {s : Shared} {Q E : Value → Shared → Prop}
    (C : Cx w mean mg mb A A₀ env outer base h₀ L m news s) {n : Int} {tk : Tok} (n0 : 0 ≤ n) (n1 : n < 1000000)
    (hret : ∀ a vs cnt h' tk', IntsAre vs (huesL n) → Fr h₀ L h' m → News h₀ L h' ((a, W.listOf vs.toArray cnt) :: news) → Q (.ref a) { s with heap := h', toks := tk' }) :
    wpAny (PM w) A (call (.ref 186) [.int n tk]) Q E s := by
  obtain ⟨B, F, X, N, T, hA, hf, hk, hd, hu, hh⟩ := C
  refine wpAny_call ?_
  delta PM; revert X; k_fill; intro X
  k_dflt (refine' code_def (binds := [(Str.ofString "number", .int n tk)]) ?k1 ?k2 ?k3 ?k4 ?k5 ?kA ?kF ?kK ?k6 ?k7 ?k8 ?k9 ?kB ?_ ?c2 ?c3 ?c4 ?c5; (case kA => exact hA); (case kF => exact hf); (case kK => exact hk); (case k1 => exact B); (case k2 => exact F); (case k3 => exact X); (case k4 => exact N); (case k5 => exact T); (case k6 => k_is); (case k7 => k_is); (case k8 => omega); (case k9 => exact BindsTo.of_eq rfl); (case c5 => decide); (case kB => exact locs rfl); (case c2 => exact rfl); (case c3 => exact rfl); (case c4 => exact rfl); k_whole; intro g' L' h' FG' F' N' B' X' T'; (try dsimp only); refine wpAny_noRaise ?_; (try k_fold))
  clear B F X N T FG'
  walk_at "S"
  rename_i ll _ _ _ _ _ _ _ _ _ _ _ _ _ _
  k_dflt (refine' iter_range (n := 4) ?wF ?wN (fun c : HSt => [(Str.ofString "k", c.u)]) (fun c => (ll, W.listOf c.vs c.cnt) :: news) (fun i c => IntsAre c.vs.toList ((huesL n).take (i + 1)) ∧ c.cnt = i) ?wu ?wa ?wr ?ws ?wn ?wh ?wt ?wturn ?wdone; (case wF => assumption); (case wN => assumption))
  case wu => exact ⟨⟨_, _, _⟩, ⟨.cons _ _ .nil, rfl⟩, .cons rfl .nil, rfl⟩
  case wa => intro _; rfl
  case wr => assumption
  case ws => decide
  case wn => decide
  case wh => exact hh
  case wt => exact ⟨_, _, rfl⟩
  case wdone =>
    rintro ⟨⟨vs⟩, cnt, u⟩ h tk2 ⟨hP, rfl⟩ F N
    obtain ⟨_, _, _, _, _, rfl⟩ := ints5 hP
    dsimp only
    walk_at "S"
    exact leaveK_ (by assumption) (by assumption) fun F N => hret _ _ _ _ _ hP F N
  case wturn =>
    rintro i ⟨⟨vs⟩, cnt, u⟩ k t I ob h tk2 hi hk ⟨hP, hc⟩ hI F N
    have hlI : ll < I := hI _ (.head _)
    have hnI : ∀ p ∈ news, p.1 < I := fun p hp => hI p (.tail _ hp)
    clear hI
    dsimp only at hP hc F N
    subst hc
    have hcs : cnt = 0 ∨ cnt = 1 ∨ cnt = 2 ∨ cnt = 3 := by omega
    rcases hcs with rfl | rfl | rfl | rfl
    · obtain ⟨_, rfl⟩ := ints1 hP
      have hk0 : k = 0 := hk
      subst hk0
      walk_at "S"
      refine turn_nx (by assumption) (by assumption) ?tnE
      case tnE => exact ⟨⟨_, _, _⟩, ⟨.cons _ _ (.cons _ _ .nil), rfl⟩, .cons rfl .nil, by repeat' (first | exact Off.ov rfl | exact Off.refl | (refine Off.upd (by simp) ?_)), fun _ h => h⟩
    · obtain ⟨_, _, rfl⟩ := ints2 hP
      have hk0 : k = 1 := hk
      subst hk0
      walk_at "S"
      refine turn_nx (by assumption) (by assumption) ?tnE
      case tnE => exact ⟨⟨_, _, _⟩, ⟨.cons _ _ (.cons _ _ (.cons _ _ .nil)), rfl⟩, .cons rfl .nil, by repeat' (first | exact Off.ov rfl | exact Off.refl | (refine Off.upd (by simp) ?_)), fun _ h => h⟩
    · obtain ⟨_, _, _, rfl⟩ := ints3 hP
      have hk0 : k = 2 := hk
      subst hk0
      walk_at "S"
      refine turn_nx (by assumption) (by assumption) ?tnE
      case tnE => exact ⟨⟨_, _, _⟩, ⟨.cons _ _ (.cons _ _ (.cons _ _ (.cons _ _ .nil))), rfl⟩, .cons rfl .nil, by repeat' (first | exact Off.ov rfl | exact Off.refl | (refine Off.upd (by simp) ?_)), fun _ h => h⟩
    · obtain ⟨_, _, _, _, rfl⟩ := ints4 hP
      have hk0 : k = 3 := hk
      subst hk0
      walk_at "S"
      refine turn_nx (by assumption) (by assumption) ?tnE
      case tnE => exact ⟨⟨_, _, _⟩, ⟨.cons _ _ (.cons _ _ (.cons _ _ (.cons _ _ (.cons _ _ .nil)))), rfl⟩, .cons rfl .nil, by repeat' (first | exact Off.ov rfl | exact Off.refl | (refine Off.upd (by simp) ?_)), fun _ h => h⟩
end
section DD
open PySem PySem.W PyProof.Rows PySem.Calls PySem.Spec
theorem off_over {m m' : Str → Option Value} {l : List (Str × Option Value)} {ns : List Str} (h : ∀ a ∈ l.map (·.1), a ∈ ns) (r : Off m m' ns) : Off m (ov l m') ns := fun y hy =>
  ((Off.ov rfl : Off m' (ov l m') (l.map (·.1))) y fun hm => hy (h y hm)).trans (r y hy)
structure TSt where
  o : Obj
  ks : List Int
  u1 : Option Value
  u2 : Option Value
  u3 : Option Value
  u4 : Option Value
  u5 : Option Value
  u6 : Option Value
noncomputable abbrev tUpd (c : TSt) : List (Str × Option Value) := [(Str.ofString "place", c.u1), (Str.ofString "planks", c.u2), (Str.ofString "goal", c.u3), (Str.ofString "pair", c.u4), (Str.ofString "both", c.u5), (Str.ofString "moved", c.u6)]
structure ISt where
  o : Obj
  ks : List Int
  u4 : Option Value
  u5 : Option Value
  u6 : Option Value
noncomputable abbrev iUpd (c : ISt) : List (Str × Option Value) := [(Str.ofString "pair", c.u4), (Str.ofString "both", c.u5), (Str.ofString "moved", c.u6)]
noncomputable def twoTo (x1 x2 : Int) (bs : List (Int × Int)) (i : Nat) : Int → Int := (bs.take i).foldl (fun f b => xfer (mv2 b.1) b.2 f pairsU) (fun x => if x = 10 * x1 + x2 then 1 else 0)
theorem twoTo_succ {x1 x2 : Int} {bs : List (Int × Int)} {i : Nat} {b : Int × Int} (h : bs[i]? = some b) : twoTo x1 x2 bs (i + 1) = xfer (mv2 b.1) b.2 (twoTo x1 x2 bs i) pairsU := by
  unfold twoTo
  rw [List.take_add_one, h, List.foldl_append]
  rfl
theorem start_in {x1 x2 : Int} (s0 : 0 ≤ x1) (s1 : x1 < 5) (s2 : 0 ≤ x2) (s3 : x2 < 5) (s4 : x1 ≠ x2) : 10 * x1 + x2 ∈ pairsU := by
  have h1 : x1 = 0 ∨ x1 = 1 ∨ x1 = 2 ∨ x1 = 3 ∨ x1 = 4 := by omega
  have h2 : x2 = 0 ∨ x2 = 1 ∨ x2 = 2 ∨ x2 = 3 ∨ x2 = 4 := by omega
  rcases h1 with rfl | rfl | rfl | rfl | rfl <;> rcases h2 with rfl | rfl | rfl | rfl | rfl <;> first | exact absurd rfl s4 | decide
local macro_rules | `(tactic| walk_at "assign Tuple") => `(tactic| (k_here; (with_reducible show wpAny _ _ (assign (Expr.Tuple _ _ _) _ (Value.ref _)) _ _ _); k_dflt (refine' tuple_list ?tuF ?tuN ?tuM ?tuH ?tuA ?tuB ?_; (case tuF => assumption); (case tuN => assumption); (case tuM => exact .tail _ (.tail _ (by assumption))); (case tuH => assumption); (case tuA => rfl); (case tuB => rfl)); intro _ _ _))
local macro_rules | `(tactic| walk_at "subscriptTail Name Name ref int") => `(tactic| (k_here; k_dflt (refine' sub_ints ?suN ?suM ?suI ?suL ?su0 ?su1 ?_; (case suN => assumption); (case suM => exact .tail _ (.tail _ (by assumption))); (case suI => assumption); (case suL => rfl); (case su0 => assumption); (case su1 => assumption)); intro _))
local macro_rules | `(tactic| walk_at "subscriptTail Name Name ref int") => `(tactic| (k_here; k_dflt (refine' dict_item ?diN ?diM ?diL ?diD ?diK ?_; (case diN => assumption); (case diM => k_mem); (case diL => assumption); (case diD => assumption); (case diK => assumption)); intro _))
local macro_rules | `(tactic| walk_at "getMethod ref") => `(tactic| (k_here; k_dflt (refine' dict_meth ?dmN ?dmM ?dmD ?_; (case dmN => assumption); (case dmM => k_mem); (case dmD => assumption))))
local macro_rules | `(tactic| walk_at "call builtin:dict.get") => `(tactic| (k_here; k_dflt (refine' dict_get2 ?dgN ?dgM ?dgL ?dgD ?_; (case dgN => assumption); (case dgM => k_mem); (case dgL => assumption); (case dgD => assumption)); intro _))
local macro_rules | `(tactic| walk_at "setItem ref int") => `(tactic| (k_here; k_dflt (refine' dict_set ?dsF ?dsN ?dsM ?dsD ?dsZ ?_; (case dsF => assumption); (case dsN => assumption); (case dsM => k_mem); (case dsD => assumption); (case dsZ => assumption)); intro _ _ _ _ _))
local macro_rules | `(tactic| walk_at "binaryOp Mult int int") => `(tactic| (k_here; refine mul_int ?_ (allOk (by assumption))))
local macro_rules | `(tactic| walk_at "call builtin:sorted") => `(tactic| (k_here; k_dflt (refine' sorted_dict ?soH ?soF ?soN ?soM ?soL ?soD ?soZ ?_; (case soH => assumption); (case soF => assumption); (case soN => assumption); (case soM => first | exact .head _ | exact .tail _ (.head _)); (case soL => assumption); (case soD => assumption); (case soZ => assumption)); intro _ _ _ _ _ _ _ _ _ _ _))
set_option maxRecDepth 100000 in
set_option maxHeartbeats 8000000 in
theorem two_c {w : World} {mean : ExcName → Option Value} {mg mb : Str → Option Value} {A A₀ : Around} {env : Env} {outer : List Env} {base h₀ : Heap} {L : Addr} {m : Str → Option Value} {news : List (Addr × Obj)} {s : Shared} {Q E : Value → Shared → Prop}
    (C : Cx w mean mg mb A A₀ env outer base h₀ L m news s) {x1 x2 : Int} {t1 t2 : Tok} {bl ll : Addr} {c : Brs} {lv : Array Value} {lc : Nat} {bs : List (Int × Int)} (s0 : 0 ≤ x1) (s1 : x1 < 5) (s2 : 0 ≤ x2) (s3 : x2 < 5) (s4 : x1 ≠ x2)
    (hbm : (bl, brsObj c) ∈ news) (hsm : ∀ b ∈ c.subs, (b.a, b.obj) ∈ news) (hlm : (ll, W.listOf lv lc) ∈ news) (hli : IntsAre lv.toList nextL) (hbs : c.subs.map (fun b => (b.p, b.k)) = bs) (hp : ∀ b ∈ c.subs, 0 ≤ b.p ∧ b.p < 5) (hkb : ∀ b ∈ c.subs, 0 ≤ b.k ∧ b.k ≤ 3)
    (hret : ∀ a o ks h' tk', (a == sysModules) = false → DictF PySem.Challenge.rw_tr0058_01.row.prog w o ks (twoTo x1 x2 bs c.subs.length) → Fr h₀ L h' m → News h₀ L h' ((a, o) :: news) → Q (.ref a) { s with heap := h', toks := tk' }) :
    wpAny (PM w) A (call (.ref 205) [.int x1 t1, .int x2 t2, .ref bl, .ref ll]) Q E s := by
  obtain ⟨B, F, X, N, T, hA, hf, hk, hd, hu, hh⟩ := C
  refine wpAny_call ?_
  delta PM; revert X; k_fill; intro X
  k_dflt (refine' code_def (binds := [(Str.ofString "one", .int x1 t1), (Str.ofString "other", .int x2 t2), (Str.ofString "bridges", .ref bl), (Str.ofString "leads", .ref ll)]) ?k1 ?k2 ?k3 ?k4 ?k5 ?kA ?kF ?kK ?k6 ?k7 ?k8 ?k9 ?kB ?_ ?c2 ?c3 ?c4 ?c5; (case kA => exact hA); (case kF => exact hf); (case kK => exact hk); (case k1 => exact B); (case k2 => exact F); (case k3 => exact X); (case k4 => exact N); (case k5 => exact T); (case k6 => k_is); (case k7 => k_is); (case k8 => omega); (case k9 => exact BindsTo.of_eq rfl); (case c5 => decide); (case kB => exact locs rfl); (case c2 => exact rfl); (case c3 => exact rfl); (case c4 => exact rfl); k_whole; intro g' L' h' FG' F' N' B' X' T'; (try dsimp only); refine wpAny_noRaise ?_; (try k_fold))
  clear B F X N T FG'
  iterate 2 walk1
  refine one_dict (k := 10 * x1 + x2) (v := 1) F' N' T'.nolimit ?odK ?odV ?odG
  case odK =>
    intro s₁ R hF hR
    walk_at "S"
    exact hR _ _
  case odV =>
    intro s₁ R hF hR
    walk_at "S"
    exact hR _ _
  intro d h1 o tk1 F1 N1 hd1 lo hD
  walk_at "S"
  rename_i h2 F2 N2
  k_dflt (refine' iter_list (o := brsObj c) (vs := (c.subs.map fun b => Value.ref b.a).toArray) F2 N2 tUpd (fun c : TSt => (d, c.o) :: news) (fun i cw => DictF PySem.Challenge.rw_tr0058_01.row.prog w cw.o cw.ks (twoTo x1 x2 bs i) ∧ KsOk pairsU cw.ks) ?wu ?wa ?wl ?wo ?wh ?wt ?wturn ?wdone)
  case wu => exact ⟨⟨o, _, _, _, _, _, _, _⟩, ⟨hD, by simp, by intro x hx; rw [List.mem_singleton.mp hx]; exact start_in s0 s1 s2 s3 s4⟩, .cons rfl (.cons rfl (.cons rfl (.cons rfl (.cons rfl (.cons rfl .nil))))), rfl⟩
  case wa => intro _; rfl
  case wl => exact .inr fun _ => .tail _ hbm
  case wo => exact ⟨rfl, _, rfl⟩
  case wh => exact hh
  case wt => rfl
  case wdone =>
    rintro ⟨o3, ks, u1, u2, u3, u4, u5, u6⟩ h tk2 hP F N
    walk_at "S"
    exact leaveK_ (by assumption) (by assumption) fun F N => hret _ _ _ _ _ lo (by simpa using hP.1) F N
  case wturn =>
    rintro i ⟨o3, ks, u1, u2, u3, u4, u5, u6⟩ v I ob h tk2 hv ⟨hP1, hP2⟩ hI F N
    have hvb : ∃ b, c.subs[i]? = some b ∧ v = .ref b.a := by
      rw [← Array.getElem?_toList] at hv
      simp only [List.getElem?_map, Option.map_eq_some_iff] at hv
      obtain ⟨b, hb, e⟩ := hv
      exact ⟨b, hb, e.symm⟩
    obtain ⟨b, hb, rfl⟩ := hvb
    have hbmem : b ∈ c.subs := List.mem_of_getElem? hb
    have hbm2 := hsm b hbmem
    obtain ⟨hp0, hp1⟩ := hp b hbmem
    obtain ⟨hg0, hg1⟩ := goal_bd hp0 hp1
    have hmk := mulOk_small (hkb b hbmem).1 (hkb b hbmem).2
    have hbsi : bs[i]? = some (b.p, b.k) := by rw [← hbs, List.getElem?_map, hb]; rfl
    have hks : ks.length < 64 := Nat.lt_of_le_of_lt (hP2.len pairs_nodup) (by decide)
    have hdI : d < I := hI _ (.head _)
    clear hI
    dsimp only at hP1 hP2 F N
    walk_at "S"
    rename_i B h4 tk4 out cnt S hiS hpS F4 N4 hB
    have hx0 : DictF PySem.Challenge.rw_tr0058_01.row.prog w o3 ks (xfer (mv2 b.p) b.k (twoTo x1 x2 bs i) (S.take 0)) := by
      have e : xfer (mv2 b.p) b.k (twoTo x1 x2 bs i) (S.take 0) = twoTo x1 x2 bs i := funext fun _ => xfer_nil
      rw [e]; exact hP1
    k_dflt (refine' iter_list (o := W.listOf out cnt) (vs := out) F4 N4 iUpd (fun c : ISt => (B, W.listOf out cnt) :: (I, ob) :: (d, c.o) :: news) (fun j cw => DictF PySem.Challenge.rw_tr0058_01.row.prog w cw.o cw.ks (xfer (mv2 b.p) b.k (twoTo x1 x2 bs i) (S.take j)) ∧ KsOk pairsU cw.ks ∧ ∀ x ∈ ks, x ∈ cw.ks) ?vu ?va ?vl ?vo ?vh ?vt ?vturn ?vdone)
    case vu => exact ⟨⟨o3, ks, _, _, _⟩, ⟨hx0, hP2, fun _ h => h⟩, .cons rfl (.cons rfl (.cons rfl .nil)), rfl⟩
    case va => intro _; rfl
    case vl => exact .inr fun _ => .head _
    case vo => exact ⟨rfl, _, rfl⟩
    case vh => exact hh
    case vt => rfl
    case vdone =>
      rintro ⟨o5, ks5, v1, v2, v3⟩ h5 tk5 ⟨hQ1, hQ2, hQ3⟩ F5 N5
      have hsz : out.size = S.length := by rw [← ia_len hiS, Array.length_toList]
      have hfin : xfer (mv2 b.p) b.k (twoTo x1 x2 bs i) (S.take out.size) = twoTo x1 x2 bs (i + 1) := by
        funext y
        rw [hsz, List.take_length, twoTo_succ hbsi]
        obtain ⟨kvs, -, -, -, hz⟩ := hP1
        exact xfer_ext (hpS.nodup_iff.mpr hP2.nod) pairs_nodup (fun x hx => hP2.sub x (hpS.mem_iff.mp hx)) fun x hx => hz x fun h => hx (hpS.mem_iff.mpr h)
      walk_at "S"
      exact turn_n2 (by assumption) ⟨⟨o5, ks5, _, _, _, _, _, _⟩, ⟨hfin ▸ hQ1, hQ2⟩, .cons rfl (.cons rfl (.cons rfl (.cons rfl (.cons rfl (.cons rfl .nil))))), by repeat' (first | exact Off.ov rfl | exact Off.refl | (refine Off.upd (by simp) ?_) | (refine off_over (by simp) ?_)), fun p hp => N5 p (.tail _ hp)⟩
    case vturn =>
      rintro j ⟨o5, ks5, v1, v2, v3⟩ v I2 ob2 h5 tk5 hv5 ⟨hQ1, hQ2, hQ3⟩ hI2 F5 N5
      have hvx : ∃ x t, S[j]? = some x ∧ v = .int x t := by
        have hjl : j < out.size := (Array.getElem?_eq_some_iff.mp hv5).1
        have hjS : j < S.length := by rw [← ia_len hiS, Array.length_toList]; exact hjl
        obtain ⟨t, e⟩ := ia_nth hiS hjS
        rw [Array.getElem?_toList, hv5] at e
        exact ⟨_, t, by rw [List.getD_eq_getElem?_getD, List.getElem?_eq_getElem hjS]; rfl, Option.some.inj e⟩
      obtain ⟨x, t, hx, rfl⟩ := hvx
      have hxk : x ∈ ks := hpS.mem_iff.mp (List.mem_of_getElem? hx)
      have hxU := hP2.sub x hxk
      have hxk5 := hQ3 x hxk
      have hSk : ∀ y ∈ S, y ∈ ks := fun y hy => hpS.mem_iff.mp hy
      have hdI2 : d < I2 := hI2 _ (.tail _ (.tail _ (.head _)))
      have hdB : d < B := hB _ (.tail _ (.head _))
      have hmem : ∀ (q : Addr × Obj) (o6 o9 : Obj), ∀ p ∈ (I2, ob2) :: (B, W.listOf out cnt) :: (I, ob) :: (d, o9) :: news, p = (d, o9) ∨ (p ∈ q :: (I2, ob2) :: (B, W.listOf out cnt) :: (I, ob) :: (d, o6) :: news ∧ p.1 ≠ d) := by
        intro q o6 o9 p hp
        rcases List.mem_cons.mp hp with rfl | hp
        · exact .inr ⟨.tail _ (.head _), Nat.ne_of_gt hdI2⟩
        rcases List.mem_cons.mp hp with rfl | hp
        · exact .inr ⟨.tail _ (.tail _ (.head _)), Nat.ne_of_gt hdB⟩
        rcases List.mem_cons.mp hp with rfl | hp
        · exact .inr ⟨.tail _ (.tail _ (.tail _ (.head _))), Nat.ne_of_gt hdI⟩
        rcases List.mem_cons.mp hp with rfl | hp
        · exact .inl rfl
        · exact .inr ⟨.tail _ (.tail _ (.tail _ (.tail _ (.tail _ hp)))), Nat.ne_of_lt (hd1 p hp)⟩
      have hk5 : ks5.length ≤ 1000 := Nat.le_trans (hQ2.len pairs_nodup) (by decide)
      dsimp only at hQ1 hQ2 hQ3 F5 N5
      walk_at "S"
      · exact turn_n2 (by assumption) ⟨⟨o5, ks5, _, _, _⟩, ⟨by rw [inner_stay hx (mv2_no2 (by assumption))]; exact hQ1, hQ2, hQ3⟩, .cons rfl (.cons rfl (.cons rfl .nil)), by repeat' (first | exact Off.ov rfl | exact Off.refl | (refine Off.upd (by simp) ?_)), fun p hp => (by assumption : News g' _ _ ((_, _) :: (I2, ob2) :: _)) p (.tail _ hp)⟩
      · rename_i h9 o9 F9 hNow hD9
        have hmv := mv2_a (by assumption) (by assumption) (by assumption)
        exact turn_n2 F9 ⟨⟨o9, _, _, _, _⟩, ⟨by rw [inner_move hx hmv (no_src (mv2_ok hp0 hp1) hP2 hSk hmv)]; exact hD9, hQ2.add (mv_ok (mv2_ok hp0 hp1) hxU hmv).1, fun y hy => mem_add (hQ3 y hy)⟩, .cons rfl (.cons rfl (.cons rfl .nil)), by repeat' (first | exact Off.ov rfl | exact Off.refl | (refine Off.upd (by simp) ?_)), hNow _ (hmem _ _ _)⟩
      · rename_i h9 o9 F9 hNow hD9
        have hmv := mv2_b (by assumption) (by assumption) (by assumption)
        exact turn_n2 F9 ⟨⟨o9, _, _, _, _⟩, ⟨by rw [inner_move hx hmv (no_src (mv2_ok hp0 hp1) hP2 hSk hmv)]; exact hD9, hQ2.add (mv_ok (mv2_ok hp0 hp1) hxU hmv).1, fun y hy => mem_add (hQ3 y hy)⟩, .cons rfl (.cons rfl (.cons rfl .nil)), by repeat' (first | exact Off.ov rfl | exact Off.refl | (refine Off.upd (by simp) ?_)), hNow _ (hmem _ _ _)⟩
      · exact turn_n2 (by assumption) ⟨⟨o5, ks5, _, _, _⟩, ⟨by rw [inner_stay hx (mv2_no1 (by assumption))]; exact hQ1, hQ2, hQ3⟩, .cons rfl (.cons rfl (.cons rfl .nil)), by repeat' (first | exact Off.ov rfl | exact Off.refl | (refine Off.upd (by simp) ?_)), fun p hp => (by assumption : News g' _ _ ((_, _) :: (I2, ob2) :: _)) p (.tail _ hp)⟩
section B2
local macro_rules | `(tactic| walk_at "S") => `(tactic| repeat' ((fail_if_success (with_reducible show wpAny _ _ (exec (Stmt.While _ _ _ _) _) _ _ _)); (fail_if_success (with_reducible show wpAny _ _ (pyIter _) (fun it s₂ => codeAny _ _ _ _ _) _ _)); (fail_if_success (with_reducible show wpAny _ _ (pyIter _) (CompAt _ _ _ _ _ _ _ _ _ _ _ _ _) _ _)); first | walk1 | (dsimp only; walk1)))
local macro_rules | `(tactic| walk_at "eval ListComp") => `(tactic| (k_here; k_dflt (refine eval_comp (by with_unfolding_all rfl) (by rfl) (by decide) ?_)))
local macro_rules | `(tactic| walk_at "exec Assign cons ListComp") => `(tactic| (k_here; k_dflt (refine assign_comp (by with_unfolding_all rfl) (by with_unfolding_all rfl) (by rfl) (by decide) ?_)))
local macro_rules | `(tactic| walk_at "eval Name") => `(tactic| (k_here; (with_reducible show wpAny _ _ (eval (Expr.Name _ _) (compEnvC _ _ _ _)) _ _ _); k_dflt (first
  | refine nm_own (by assumption) (by rfl) ?_
  | refine LCgL.ld_global (by k_asm) (by k_asm) (by k_asm) (by k_is) ?_
  | refine LCgL.ld_built (by k_asm) (by k_asm) (by k_asm) (by k_is) (by boot_by_name) (by decide) ?_
  | (refine' lcf_free ?N ?c ?m ?d ?_ ?a ?b; (case a => rfl); (case b => rfl); (case N => k_asm); (case c => rfl); (case m => k_mem); (case d => k_asm); k_whole)
  | (refine' lcf_cell ?N ?c ?m ?d ?_ ?a ?b; (case a => rfl); (case b => rfl); (case N => k_asm); (case c => rfl); (case m => k_mem); (case d => k_asm); k_whole))))
section
open PySem PySem.W PyProof.Rows PySem.Calls PySem.Spec
section
variable {prog : Program} {w : World} {A : Around} {E Q : Value → Shared → Prop} {s : Shared} {k x p : Int} {t u : Tok}
theorem pow2_small (h : 0 ≤ k ∧ k < 5) (hQ : Q (.int (2 ^ k.toNat) s.toks) { s with toks := s.toks + 1 }) : wpAny (model prog w) A (binaryOp .Pow (.int 2 t) (.int k u)) Q E s :=
  pow_int_small h.1 (by omega) (by decide) hQ
theorem pw_ne (n : Nat) : (2 : Int) ^ n ≠ 0 := Int.ne_of_gt (Int.pow_pos (by decide))
theorem pw_small (hp : 0 ≤ p ∧ p < 5) : ((2 : Int) ^ p.toNat).natAbs < 1073741824 := by
  have : p = 0 ∨ p = 1 ∨ p = 2 ∨ p = 3 ∨ p = 4 := by omega
  rcases this with rfl | rfl | rfl | rfl | rfl <;> decide
theorem fd_three (hp : 0 ≤ p ∧ p < 5) (hQ : Q (.int (x.fdiv (2 ^ p.toNat)) s.toks) { s with toks := s.toks + 1 }) : wpAny (model prog w) A (binaryOp .FloorDiv (.int x t) (.int (2 ^ p.toNat) u)) Q E s :=
  floordiv_int (pw_ne _) hQ (Or.inl (PyProof.noPylong_small (pw_small hp)))
end
noncomputable def threeTo (x1 x2 x3 : Int) (bs : List (Int × Int)) (i : Nat) : Int → Int := (bs.take i).foldl (fun f b => xfer (mv3 b.1) b.2 f threesU) (fun x => if x = 2 ^ x1.toNat + 2 ^ x2.toNat + 2 ^ x3.toNat then 1 else 0)
theorem threeTo_succ {x1 x2 x3 : Int} {bs : List (Int × Int)} {i : Nat} {b : Int × Int} (h : bs[i]? = some b) : threeTo x1 x2 x3 bs (i + 1) = xfer (mv3 b.1) b.2 (threeTo x1 x2 x3 bs i) threesU := by
  unfold threeTo
  rw [List.take_add_one, h, List.foldl_append]
  rfl
theorem start3_in {x1 x2 x3 : Int} (s1 : 0 ≤ x1 ∧ x1 < 5) (s2 : 0 ≤ x2 ∧ x2 < 5) (s3 : 0 ≤ x3 ∧ x3 < 5) (n1 : x1 ≠ x2) (n2 : x1 ≠ x3) (n3 : x2 ≠ x3) : 2 ^ x1.toNat + 2 ^ x2.toNat + 2 ^ x3.toNat ∈ threesU := by
  have h1 : x1 = 0 ∨ x1 = 1 ∨ x1 = 2 ∨ x1 = 3 ∨ x1 = 4 := by omega
  have h2 : x2 = 0 ∨ x2 = 1 ∨ x2 = 2 ∨ x2 = 3 ∨ x2 = 4 := by omega
  have h3 : x3 = 0 ∨ x3 = 1 ∨ x3 = 2 ∨ x3 = 3 ∨ x3 = 4 := by omega
  rcases h1 with rfl | rfl | rfl | rfl | rfl <;> rcases h2 with rfl | rfl | rfl | rfl | rfl <;> first | exact absurd rfl n1 | (rcases h3 with rfl | rfl | rfl | rfl | rfl <;> first | exact absurd rfl n2 | exact absurd rfl n3 | decide)
structure HSt3 where
  o : Obj
  ks : List Int
  u1 : Option Value
  u2 : Option Value
  u3 : Option Value
  u4 : Option Value
  u5 : Option Value
  u6 : Option Value
noncomputable abbrev hUpd (c : HSt3) : List (Str × Option Value) := [(Str.ofString "place", c.u1), (Str.ofString "planks", c.u2), (Str.ofString "here", c.u3), (Str.ofString "there", c.u4), (Str.ofString "held", c.u5), (Str.ofString "moved", c.u6)]
structure JSt where
  o : Obj
  ks : List Int
  u5 : Option Value
  u6 : Option Value
noncomputable abbrev jUpd (c : JSt) : List (Str × Option Value) := [(Str.ofString "held", c.u5), (Str.ofString "moved", c.u6)]
theorem ia_push {vs : List Value} {ns : List Int} {k : Int} {t : Tok} (h : IntsAre vs ns) : IntsAre (vs ++ [.int k t]) (ns ++ [k]) := by
  induction h with
  | nil => exact .cons _ _ .nil
  | cons n u r ih => exact .cons _ _ ih
theorem ia_at {vs : Array Value} {ns : List Int} (h : IntsAre vs.toList ns) {i : Nat} {v : Value} (e : vs[i]? = some v) : ∃ x t, ns[i]? = some x ∧ v = .int x t := by
  have hj : i < vs.size := (Array.getElem?_eq_some_iff.mp e).1
  have hn : i < ns.length := by rw [← ia_len h, Array.length_toList]; exact hj
  obtain ⟨t, e'⟩ := ia_nth h hn
  rw [Array.getElem?_toList, e] at e'
  exact ⟨_, t, by rw [List.getD_eq_getElem?_getD, List.getElem?_eq_getElem hn]; rfl, Option.some.inj e'⟩
theorem mv3_yes (h1 : (x.fdiv (2 ^ p.toNat)).fmod 2 = 1) (h2 : (x.fdiv (2 ^ (nextL.getD p.toNat 0).toNat)).fmod 2 = 0) : mv3 p x = some (x - 2 ^ p.toNat + 2 ^ (nextL.getD p.toNat 0).toNat) := by
  have e : nextL.getD p.toNat 0 = nextP p := rfl
  rw [e] at h2 ⊢
  unfold mv3; rw [if_pos ⟨h1, h2⟩]
theorem mv3_no1 (h1 : (x.fdiv (2 ^ p.toNat)).fmod 2 ≠ 1) : mv3 p x = none := by unfold mv3; rw [if_neg fun h => h1 h.1]
theorem mv3_no2 (h1 : (x.fdiv (2 ^ (nextL.getD p.toNat 0).toNat)).fmod 2 ≠ 0) : mv3 p x = none := by
  have e : nextL.getD p.toNat 0 = nextP p := rfl
  rw [e] at h1
  unfold mv3; rw [if_neg fun h => h1 h.2]
local macro_rules | `(tactic| walk_at "binaryOp Pow int int") => `(tactic| (k_here; k_dflt (refine pow2_small (by assumption) ?_)))
local macro_rules | `(tactic| walk_at "binaryOp FloorDiv int int") => `(tactic| (k_here; k_dflt (refine fd_three (by assumption) ?_)))
local macro_rules | `(tactic| walk_at "call builtin:sum") => `(tactic| (k_here; k_dflt (refine' LSm.sum_ints ?smF ?smN ?smH ?smL ?smI ?_; (case smF => assumption); (case smN => assumption); (case smH => assumption); (case smL => exact ⟨_, ((by assumption : News _ _ _ ((_, W.listOf _ _) :: _)) _ (.head _)).1, rfl, _, rfl⟩); (case smI => assumption)); intro _ _ _ _ _))
set_option maxRecDepth 100000 in
set_option maxHeartbeats 8000000 in
theorem three_c {w : World} {mean : ExcName → Option Value} {mg mb : Str → Option Value} {A A₀ : Around} {env : Env} {outer : List Env} {base h₀ : Heap} {L : Addr} {m : Str → Option Value} {news : List (Addr × Obj)} {s : Shared} {Q E : Value → Shared → Prop}
    (C : Cx w mean mg mb A A₀ env outer base h₀ L m news s) {x1 x2 x3 : Int} {sl bl ll : Addr} {c : Brs} {sv lv : Array Value} {sc lc : Nat} {bs : List (Int × Int)} (s0 : 0 ≤ x1 ∧ x1 < 5) (s1 : 0 ≤ x2 ∧ x2 < 5) (s2 : 0 ≤ x3 ∧ x3 < 5) (n1 : x1 ≠ x2) (n2 : x1 ≠ x3) (n3 : x2 ≠ x3)
    (hsl : (sl, W.listOf sv sc) ∈ news) (hsi : IntsAre sv.toList [x1, x2, x3]) (hbm : (bl, brsObj c) ∈ news) (hsm : ∀ b ∈ c.subs, (b.a, b.obj) ∈ news) (hlm : (ll, W.listOf lv lc) ∈ news) (hli : IntsAre lv.toList nextL) (hbs : c.subs.map (fun b => (b.p, b.k)) = bs) (hp : ∀ b ∈ c.subs, 0 ≤ b.p ∧ b.p < 5) (hkb : ∀ b ∈ c.subs, 0 ≤ b.k ∧ b.k ≤ 3)
    (hret : ∀ a o ks h' tk', (a == sysModules) = false → DictF PySem.Challenge.rw_tr0058_01.row.prog w o ks (threeTo x1 x2 x3 bs c.subs.length) → Fr h₀ L h' m → News h₀ L h' ((a, o) :: news) → Q (.ref a) { s with heap := h', toks := tk' }) :
    wpAny (PM w) A (call (.ref 210) [.ref sl, .ref bl, .ref ll]) Q E s := by
  obtain ⟨B, F, X, N, T, hA, hf, hk, hd, hu, hh⟩ := C
  refine wpAny_call ?_
  delta PM; revert X; k_fill; intro X
  k_dflt (refine' code_def (binds := [(Str.ofString "starts", .ref sl), (Str.ofString "bridges", .ref bl), (Str.ofString "leads", .ref ll)]) ?k1 ?k2 ?k3 ?k4 ?k5 ?kA ?kF ?kK ?k6 ?k7 ?k8 ?k9 ?kB ?_ ?c2 ?c3 ?c4 ?c5; (case kA => exact hA); (case kF => exact hf); (case kK => exact hk); (case k1 => exact B); (case k2 => exact F); (case k3 => exact X); (case k4 => exact N); (case k5 => exact T); (case k6 => k_is); (case k7 => k_is); (case k8 => omega); (case k9 => exact BindsTo.of_eq rfl); (case c5 => decide); (case kB => exact locs rfl); (case c2 => exact rfl); (case c3 => exact rfl); (case c4 => exact rfl); k_whole; intro g' L' h' FG' F' N' B' X' T'; (try dsimp only); refine wpAny_noRaise ?_; (try k_fold))
  clear B F X N T FG'
  iterate 2 walk1
  refine one_dict2 (k := 2 ^ x1.toNat + 2 ^ x2.toNat + 2 ^ x3.toNat) (v := 1) F' N' T'.nolimit ?odK ?odV ?odG
  case odK =>
    intro d o s₁ R hdlt hgn hF hN hR
    walk_at "S"
    have hz3 : sv.size = 3 := by rw [← Array.length_toList, ia_len hsi]; rfl
    k_dflt (refine' comp_list (vs := sv) (o := W.listOf sv sc) CUse.none hF hN (fun _ v mc y => if y = Str.ofString "start" then some v else mc y) (fun _ : Unit => (d, o) :: news) (fun _ => 0) (fun I i ys _ => IntsAre ys.toList (([x1, x2, x3].map fun x => (2 : Int) ^ x.toNat).take i) ∧ ∀ p ∈ (d, o) :: news, p.1 < I) ?cu ?cO ?cl ?co ?ch ?cz ?cc ?ck ?cU ?cT ?cturn ?cdone)
    case cu => exact ⟨(), fun I hI => ⟨.nil, hI⟩, rfl, Nat.zero_le _⟩
    case cO => exact fun I i ys _ hP p hp => ⟨Nat.ne_of_lt (hP.2 p hp), ad3 (hP.2 p hp), ad4 (hP.2 p hp)⟩
    case cl => exact .inr fun _ => .tail _ hsl
    case co => exact ⟨rfl, _, rfl⟩
    case ch => exact hh
    case cz => rw [hz3]; decide
    case cc => decide
    case ck => rfl
    case cU => trivial
    case cT => exact fun I i ys c It _ _ => tgt_name rfl rfl
    case cturn =>
      rintro I i ys cnt - v h tk oI oC mc hv ⟨hP, hI⟩ _ F N FC
      obtain ⟨x, t, hx, rfl⟩ := ia_at hsi hv
      have hx5 : 0 ≤ x ∧ x < 5 := by
        have := List.mem_of_getElem? hx
        simp only [List.mem_cons, List.not_mem_nil, or_false] at this
        rcases this with rfl | rfl | rfl <;> assumption
      walk_at "S"
      refine ⟨(), _, _, ⟨?_, hI⟩, Nat.zero_le _, rfl, by assumption, by assumption⟩
      rw [Array.toList_push, List.take_add_one, List.getElem?_map, hx]
      exact ia_push hP
    case cdone =>
      rintro I ys cnt - ⟨hP, hI⟩ h tk _ F N
      have hP' : IntsAre ys.toList [2 ^ x1.toNat, 2 ^ x2.toNat, 2 ^ x3.toNat] := by rw [hz3] at hP; exact hP
      walk_at "S"
      rename_i h9 tk9 t9 F9 N9
      have e : (2 : Int) ^ x1.toNat + 2 ^ x2.toNat + 2 ^ x3.toNat = [(2 : Int) ^ x1.toNat, 2 ^ x2.toNat, 2 ^ x3.toNat].sum := by simp [Int.add_assoc]
      rw [← e]
      exact hR _ _ _ F9 fun p hp => N9 p (.tail _ hp)
  case odV =>
    intro s₁ R hF hR
    walk_at "S"
    exact hR _ _
  intro d h1 o tk1 F1 N1 hd1 lo hD
  walk_at "S"
  rename_i h2 F2 N2
  k_dflt (refine' iter_list (o := brsObj c) (vs := (c.subs.map fun b => Value.ref b.a).toArray) F2 N2 hUpd (fun c : HSt3 => (d, c.o) :: news) (fun i cw => DictF PySem.Challenge.rw_tr0058_01.row.prog w cw.o cw.ks (threeTo x1 x2 x3 bs i) ∧ KsOk threesU cw.ks) ?wu ?wa ?wl ?wo ?wh ?wt ?wturn ?wdone)
  case wu => exact ⟨⟨o, _, _, _, _, _, _, _⟩, ⟨hD, by simp, by intro x hx; rw [List.mem_singleton.mp hx]; exact start3_in s0 s1 s2 n1 n2 n3⟩, .cons rfl (.cons rfl (.cons rfl (.cons rfl (.cons rfl (.cons rfl .nil))))), rfl⟩
  case wa => intro _; rfl
  case wl => exact .inr fun _ => .tail _ hbm
  case wo => exact ⟨rfl, _, rfl⟩
  case wh => exact hh
  case wt => rfl
  case wdone =>
    rintro ⟨o3, ks, u1, u2, u3, u4, u5, u6⟩ h tk2 hP F N
    walk_at "S"
    exact leaveK_ (by assumption) (by assumption) fun F N => hret _ _ _ _ _ lo (by simpa using hP.1) F N
  case wturn =>
    rintro i ⟨o3, ks, u1, u2, u3, u4, u5, u6⟩ v I ob h tk2 hv ⟨hP1, hP2⟩ hI F N
    have hvb : ∃ b, c.subs[i]? = some b ∧ v = .ref b.a := by
      rw [← Array.getElem?_toList] at hv
      simp only [List.getElem?_map, Option.map_eq_some_iff] at hv
      obtain ⟨b, hb, e⟩ := hv
      exact ⟨b, hb, e.symm⟩
    obtain ⟨b, hb, rfl⟩ := hvb
    have hbmem : b ∈ c.subs := List.mem_of_getElem? hb
    have hbm2 := hsm b hbmem
    have hpp := hp b hbmem
    obtain ⟨hp0, hp1⟩ := hp b hbmem
    have hgg := goal_bd hp0 hp1
    obtain ⟨hg0, hg1⟩ := goal_bd hp0 hp1
    have hmk := mulOk_small (hkb b hbmem).1 (hkb b hbmem).2
    have hbsi : bs[i]? = some (b.p, b.k) := by rw [← hbs, List.getElem?_map, hb]; rfl
    have hks : ks.length < 64 := Nat.lt_of_le_of_lt (hP2.len threes_nodup) (by decide)
    have hdI : d < I := hI _ (.head _)
    clear hI
    dsimp only at hP1 hP2 F N
    walk_at "S"
    rename_i B h4 tk4 out cnt S hiS hpS F4 N4 hB
    have hx0 : DictF PySem.Challenge.rw_tr0058_01.row.prog w o3 ks (xfer (mv3 b.p) b.k (threeTo x1 x2 x3 bs i) (S.take 0)) := by
      have e : xfer (mv3 b.p) b.k (threeTo x1 x2 x3 bs i) (S.take 0) = threeTo x1 x2 x3 bs i := funext fun _ => xfer_nil
      rw [e]; exact hP1
    k_dflt (refine' iter_list (o := W.listOf out cnt) (vs := out) F4 N4 jUpd (fun c : JSt => (B, W.listOf out cnt) :: (I, ob) :: (d, c.o) :: news) (fun j cw => DictF PySem.Challenge.rw_tr0058_01.row.prog w cw.o cw.ks (xfer (mv3 b.p) b.k (threeTo x1 x2 x3 bs i) (S.take j)) ∧ KsOk threesU cw.ks ∧ ∀ x ∈ ks, x ∈ cw.ks) ?vu ?va ?vl ?vo ?vh ?vt ?vturn ?vdone)
    case vu => exact ⟨⟨o3, ks, _, _⟩, ⟨hx0, hP2, fun _ h => h⟩, .cons rfl (.cons rfl .nil), rfl⟩
    case va => intro _; rfl
    case vl => exact .inr fun _ => .head _
    case vo => exact ⟨rfl, _, rfl⟩
    case vh => exact hh
    case vt => rfl
    case vdone =>
      rintro ⟨o5, ks5, v2, v3⟩ h5 tk5 ⟨hQ1, hQ2, hQ3⟩ F5 N5
      have hsz : out.size = S.length := by rw [← ia_len hiS, Array.length_toList]
      have hfin : xfer (mv3 b.p) b.k (threeTo x1 x2 x3 bs i) (S.take out.size) = threeTo x1 x2 x3 bs (i + 1) := by
        funext y
        rw [hsz, List.take_length, threeTo_succ hbsi]
        obtain ⟨kvs, -, -, -, hz⟩ := hP1
        exact xfer_ext (hpS.nodup_iff.mpr hP2.nod) threes_nodup (fun x hx => hP2.sub x (hpS.mem_iff.mp hx)) fun x hx => hz x fun h => hx (hpS.mem_iff.mpr h)
      walk_at "S"
      exact turn_n2 (by assumption) ⟨⟨o5, ks5, _, _, _, _, _, _⟩, ⟨hfin ▸ hQ1, hQ2⟩, .cons rfl (.cons rfl (.cons rfl (.cons rfl (.cons rfl (.cons rfl .nil))))), by repeat' (first | exact Off.ov rfl | exact Off.refl | (refine Off.upd (by simp) ?_) | (refine off_over (by simp) ?_)), fun p hp => N5 p (.tail _ hp)⟩
    case vturn =>
      rintro j ⟨o5, ks5, v2, v3⟩ v I2 ob2 h5 tk5 hv5 ⟨hQ1, hQ2, hQ3⟩ hI2 F5 N5
      obtain ⟨x, t, hx, rfl⟩ := ia_at hiS hv5
      have hxk : x ∈ ks := hpS.mem_iff.mp (List.mem_of_getElem? hx)
      have hxU := hP2.sub x hxk
      have hxk5 := hQ3 x hxk
      have hSk : ∀ y ∈ S, y ∈ ks := fun y hy => hpS.mem_iff.mp hy
      have hdI2 : d < I2 := hI2 _ (.tail _ (.tail _ (.head _)))
      have hdB : d < B := hB _ (.tail _ (.head _))
      have hmem : ∀ (q : Addr × Obj) (o6 o9 : Obj), ∀ p ∈ (I2, ob2) :: (B, W.listOf out cnt) :: (I, ob) :: (d, o9) :: news, p = (d, o9) ∨ (p ∈ (I2, ob2) :: (B, W.listOf out cnt) :: (I, ob) :: (d, o6) :: news ∧ p.1 ≠ d) := by
        intro q o6 o9 p hp
        rcases List.mem_cons.mp hp with rfl | hp
        · exact .inr ⟨.head _, Nat.ne_of_gt hdI2⟩
        rcases List.mem_cons.mp hp with rfl | hp
        · exact .inr ⟨.tail _ (.head _), Nat.ne_of_gt hdB⟩
        rcases List.mem_cons.mp hp with rfl | hp
        · exact .inr ⟨.tail _ (.tail _ (.head _)), Nat.ne_of_gt hdI⟩
        rcases List.mem_cons.mp hp with rfl | hp
        · exact .inl rfl
        · exact .inr ⟨.tail _ (.tail _ (.tail _ (.tail _ hp))), Nat.ne_of_lt (hd1 p hp)⟩
      have hk5 : ks5.length ≤ 1000 := Nat.le_trans (hQ2.len threes_nodup) (by decide)
      dsimp only at hQ1 hQ2 hQ3 F5 N5
      walk_at "S"
      · rename_i h9 o9 F9 hNow hD9
        have hmv := mv3_yes (p := b.p) (x := x) (by with_reducible assumption) (by with_reducible assumption)
        have hA : DictF PySem.Challenge.rw_tr0058_01.row.prog w o9 (if x - 2 ^ b.p.toNat + 2 ^ (nextL.getD b.p.toNat 0).toNat ∈ ks5 then ks5 else ks5 ++ [x - 2 ^ b.p.toNat + 2 ^ (nextL.getD b.p.toNat 0).toNat]) (xfer (mv3 b.p) b.k (threeTo x1 x2 x3 bs i) (S.take (j + 1))) := by rw [inner_move hx hmv (no_src (mv3_ok hp0 hp1) hP2 hSk hmv)]; exact hD9
        have hK := hQ2.add (mv_ok (mv3_ok hp0 hp1) hxU hmv).1
        have hM : ∀ y ∈ ks, y ∈ (if x - 2 ^ b.p.toNat + 2 ^ (nextL.getD b.p.toNat 0).toNat ∈ ks5 then ks5 else ks5 ++ [x - 2 ^ b.p.toNat + 2 ^ (nextL.getD b.p.toNat 0).toNat]) := fun y hy => mem_add (hQ3 y hy)
        generalize (if x - 2 ^ b.p.toNat + 2 ^ (nextL.getD b.p.toNat 0).toNat ∈ ks5 then ks5 else ks5 ++ [x - 2 ^ b.p.toNat + 2 ^ (nextL.getD b.p.toNat 0).toNat]) = ks9 at hA hK hM
        exact turn_n2 F9 ⟨⟨o9, ks9, _, _⟩, ⟨hA, hK, hM⟩, .cons rfl (.cons rfl .nil), by repeat' (first | exact Off.ov rfl | exact Off.refl | (refine Off.upd (by simp) ?_)), hNow _ (hmem (0, o5) _ _)⟩
      · exact turn_n2 (by assumption) ⟨⟨o5, ks5, _, _⟩, ⟨by rw [inner_stay hx (mv3_no2 (p := b.p) (x := x) (by with_reducible assumption))]; exact hQ1, hQ2, hQ3⟩, .cons rfl (.cons rfl .nil), by repeat' (first | exact Off.ov rfl | exact Off.refl | (refine Off.upd (by simp) ?_)), (by assumption : News g' _ _ ((I2, ob2) :: _))⟩
      · exact turn_n2 (by assumption) ⟨⟨o5, ks5, _, _⟩, ⟨by rw [inner_stay hx (mv3_no1 (p := b.p) (x := x) (by with_reducible assumption))]; exact hQ1, hQ2, hQ3⟩, .cons rfl (.cons rfl .nil), by repeat' (first | exact Off.ov rfl | exact Off.refl | (refine Off.upd (by simp) ?_)), (by assumption : News g' _ _ ((I2, ob2) :: _))⟩
end
end B2
end DD
section
open PySem PySem.W PyProof.Rows PySem.Calls PySem.Spec
structure ASt where
  u1 : Option Value
  u2 : Option Value
  u3 : Option Value
  u4 : Option Value
noncomputable abbrev aUpd (c : ASt) : List (Str × Option Value) := [(Str.ofString "x", c.u1), (Str.ofString "y", c.u2), (Str.ofString "z", c.u3), (Str.ofString "volume", c.u4)]
structure BSt where
  u2 : Option Value
  u3 : Option Value
  u4 : Option Value
noncomputable abbrev bUpd (c : BSt) : List (Str × Option Value) := [(Str.ofString "y", c.u2), (Str.ofString "z", c.u3), (Str.ofString "volume", c.u4)]
structure CSt where
  u3 : Option Value
  u4 : Option Value
noncomputable abbrev cUpd (c : CSt) : List (Str × Option Value) := [(Str.ofString "z", c.u3), (Str.ofString "volume", c.u4)]
theorem range5 {a : Int} (h : 0 ≤ a ∧ a ≤ 5) : Builtin.Range.small a 5 1 = true ∧ Builtin.Range.rangeSize a 5 1 = (((5 - a).toNat : Nat) : Int) := by
  have : a = 0 ∨ a = 1 ∨ a = 2 ∨ a = 3 ∨ a = 4 ∨ a = 5 := by omega
  rcases this with rfl | rfl | rfl | rfl | rfl | rfl <;> decide
noncomputable def vol (la lb lc : List Int) (x y z : Nat) : Int :=
  lc.getD x 0 * (la.getD y 0 * lb.getD z 0 - la.getD z 0 * lb.getD y 0) - lc.getD y 0 * (la.getD x 0 * lb.getD z 0 - la.getD z 0 * lb.getD x 0) + lc.getD z 0 * (la.getD x 0 * lb.getD y 0 - la.getD y 0 * lb.getD x 0)
local macro_rules | `(tactic| walk_at "MYMEM") => `(tactic| first | assumption | exact .tail _ (by assumption) | exact .tail _ (.tail _ (by assumption)) | exact .tail _ (.tail _ (.tail _ (by assumption))))
local macro_rules | `(tactic| walk_at "subscriptTail Name Name ref int") => `(tactic| (k_here; k_dflt (refine' sub_ints ?suN ?suM ?suI ?suL ?su0 ?su1 ?_; (case suN => assumption); (case suM => walk_at "MYMEM"); (case suI => with_reducible assumption); (case suL => with_reducible assumption); (case su0 => with_reducible assumption); (case su1 => with_reducible assumption)); intro _))
local macro_rules | `(tactic| walk_at "binaryOp Mult int int") => `(tactic| (k_here; refine mul_int ?_ (by first | exact (by assumption : ∀ (k : Nat) (x : Int), IntMulOk (List.getD _ k 0) x) _ _ | exact IntMulOk.of_left (by decide))))
local macro_rules | `(tactic| walk_at "binaryOp Pow int int") => `(tactic| (k_here; k_dflt (refine pow2_small (by with_reducible assumption) ?_)))
local macro_rules | `(tactic| walk_at "getMethod ref") => `(tactic| (k_here; k_dflt (refine' dict_meth ?dmN ?dmM ?dmD ?_; (case dmN => assumption); (case dmM => walk_at "MYMEM"); (case dmD => with_reducible assumption))))
local macro_rules | `(tactic| walk_at "call builtin:dict.get") => `(tactic| (k_here; k_dflt (refine' dict_get2 ?dgN ?dgM ?dgL ?dgD ?_; (case dgN => assumption); (case dgM => walk_at "MYMEM"); (case dgL => with_reducible assumption); (case dgD => with_reducible assumption)); intro _))
set_option maxRecDepth 100000 in
set_option maxHeartbeats 8000000 in
theorem agree_c {w : World} {mean : ExcName → Option Value} {mg mb : Str → Option Value} {A A₀ : Around} {env : Env} {outer : List Env} {base h₀ : Heap} {L : Addr} {m : Str → Option Value} {news : List (Addr × Obj)} {s : Shared} {Q E : Value → Shared → Prop}
    (C : Cx w mean mg mb A A₀ env outer base h₀ L m news s) {al bl cl pl tl : Addr} {av bv cv : Array Value} {ac bc cc : Nat} {la lb lc : List Int} {op ot : Obj} {kp kt : List Int} {fp ft : Int → Int}
    (ham : (al, W.listOf av ac) ∈ news) (hai : IntsAre av.toList la) (hal : la.length = 5) (hbm : (bl, W.listOf bv bc) ∈ news) (hbi : IntsAre bv.toList lb) (hbl : lb.length = 5) (hcm : (cl, W.listOf cv cc) ∈ news) (hci : IntsAre cv.toList lc) (hcl : lc.length = 5)
    (hpm : (pl, op) ∈ news) (hpl : (pl == sysModules) = false) (hpd : DictF PySem.Challenge.rw_tr0058_01.row.prog w op kp fp) (htm : (tl, ot) ∈ news) (htl : (tl == sysModules) = false) (htd : DictF PySem.Challenge.rw_tr0058_01.row.prog w ot kt ft)
    (hka : ∀ (k : Nat) (x : Int), IntMulOk (la.getD k 0) x) (hkc : ∀ (k : Nat) (x : Int), IntMulOk (lc.getD k 0) x)
    (hP : ∀ x y : Int, 0 ≤ x → x < y → y < 5 → la.getD x.toNat 0 * lb.getD y.toNat 0 - la.getD y.toNat 0 * lb.getD x.toNat 0 = fp (10 * x + y) - fp (10 * y + x))
    (hV : ∀ x y z : Int, 0 ≤ x → x < y → y < z → z < 5 → vol la lb lc x.toNat y.toNat z.toNat = ft (2 ^ x.toNat + 2 ^ y.toNat + 2 ^ z.toNat))
    (hret : ∀ h' tk', Fr h₀ L h' m → News h₀ L h' news → Q (.bool true) { s with heap := h', toks := tk' }) :
    wpAny (PM w) A (call (.ref 217) [.ref al, .ref bl, .ref cl, .ref pl, .ref tl]) Q E s := by
  obtain ⟨B, F, X, N, T, hA, hf, hk, hd, hu, hh⟩ := C
  refine wpAny_call ?_
  delta PM; revert X; k_fill; intro X
  k_dflt (refine' code_def (binds := [(Str.ofString "a", .ref al), (Str.ofString "b", .ref bl), (Str.ofString "c", .ref cl), (Str.ofString "pairs", .ref pl), (Str.ofString "threes", .ref tl)]) ?k1 ?k2 ?k3 ?k4 ?k5 ?kA ?kF ?kK ?k6 ?k7 ?k8 ?k9 ?kB ?_ ?c2 ?c3 ?c4 ?c5; (case kA => exact hA); (case kF => exact hf); (case kK => exact hk); (case k1 => exact B); (case k2 => exact F); (case k3 => exact X); (case k4 => exact N); (case k5 => exact T); (case k6 => k_is); (case k7 => k_is); (case k8 => omega); (case k9 => exact BindsTo.of_eq rfl); (case c5 => decide); (case kB => exact locs rfl); (case c2 => exact rfl); (case c3 => exact rfl); (case c4 => exact rfl); k_whole; intro g' L' h' FG' F' N' B' X' T'; (try dsimp only); refine wpAny_noRaise ?_; (try k_fold))
  clear B F X N T FG'
  walk_at "S"
  rename_i h1 tk1 _ _ _ R1 F1 N1 _
  k_dflt (refine' iter_range (n := 5) F1 N1 aUpd (fun _ : ASt => news) (fun _ _ => True) ?wu ?wa ?wr ?ws ?wn ?wh ?wt ?wturn ?wdone)
  case wu => exact ⟨⟨_, _, _, _⟩, trivial, .cons rfl (.cons rfl (.cons rfl (.cons rfl .nil))), rfl⟩
  case wa => intro _; rfl
  case wr => assumption
  case ws => decide
  case wn => decide
  case wh => exact hh
  case wt => exact ⟨_, _, rfl⟩
  case wdone =>
    rintro ⟨u1, u2, u3, u4⟩ h tk2 - F N
    walk_at "S"
    exact leaveK_ (by assumption) (by assumption) fun F N => hret _ _ F N
  case wturn =>
    rintro i ⟨u1, u2, u3, u4⟩ x t I ob h tk2 hi hx - hI F N
    have hx0 : 0 ≤ x := by omega
    have hx5 : x < 5 := by omega
    have hxx : 0 ≤ x ∧ x < 5 := ⟨hx0, hx5⟩
    clear hI hx
    (try dsimp only at F N)
    walk_at "S"
    rename_i h3 tk3 _ _ _ R3 F3 N3 _
    have r5 := range5 (a := x + 1) ⟨by omega, by omega⟩
    k_dflt (refine' iter_range (n := (5 - (x + 1)).toNat) F3 N3 bUpd (fun _ : BSt => (I, ob) :: news) (fun _ _ => True) ?vu ?va ?vr ?vs ?vn ?vh ?vt ?vturn ?vdone)
    case vu => exact ⟨⟨_, _, _⟩, trivial, .cons rfl (.cons rfl (.cons rfl .nil)), rfl⟩
    case va => intro _; rfl
    case vr => assumption
    case vs => exact r5.1
    case vn => exact r5.2
    case vh => exact hh
    case vt => exact ⟨_, _, rfl⟩
    case vdone =>
      rintro ⟨v2, v3, v4⟩ h tk2 - F N
      walk_at "S"
      exact turn_n2 (by assumption) ⟨⟨_, _, _, _⟩, trivial, .cons rfl (.cons rfl (.cons rfl (.cons rfl .nil))), by repeat' (first | exact Off.ov rfl | exact Off.refl | (refine Off.upd (by simp) ?_) | (refine off_over (by simp) ?_)), N⟩
    case vturn =>
      rintro i2 ⟨v2, v3, v4⟩ y t I2 ob2 h tk2 hi2 hy - hI2 F N
      have hy0 : 0 ≤ y := by omega
      have hxy : x < y := by omega
      have hy5 : y < 5 := by omega
      have hyy : 0 ≤ y ∧ y < 5 := ⟨hy0, hy5⟩
      clear hI2 hy r5
      (try dsimp only at F N)
      walk_at "S"
      · exact absurd (hP x y hx0 hxy hy5) (by with_reducible assumption)
      rename_i h5 tk5 _ _ _ R5 F5 N5 _
      have r6 := range5 (a := y + 1) ⟨by omega, by omega⟩
      k_dflt (refine' iter_range (n := (5 - (y + 1)).toNat) F5 N5 cUpd (fun _ : CSt => (I2, ob2) :: (I, ob) :: news) (fun _ _ => True) ?xu ?xa ?xr ?xs ?xn ?xh ?xt ?xturn ?xdone)
      case xu => exact ⟨⟨_, _⟩, trivial, .cons rfl (.cons rfl .nil), rfl⟩
      case xa => intro _; rfl
      case xr => assumption
      case xs => exact r6.1
      case xn => exact r6.2
      case xh => exact hh
      case xt => exact ⟨_, _, rfl⟩
      case xdone =>
        rintro ⟨w3, w4⟩ h tk2 - F N
        walk_at "S"
        exact turn_n2 (by assumption) ⟨⟨_, _, _⟩, trivial, .cons rfl (.cons rfl (.cons rfl .nil)), by repeat' (first | exact Off.ov rfl | exact Off.refl | (refine Off.upd (by simp) ?_) | (refine off_over (by simp) ?_)), N⟩
      case xturn =>
        rintro i3 ⟨w3, w4⟩ z t I3 ob3 h tk2 hi3 hz - hI3 F N
        have hz0 : 0 ≤ z := by omega
        have hyz : y < z := by omega
        have hz5 : z < 5 := by omega
        have hzz : 0 ≤ z ∧ z < 5 := ⟨hz0, hz5⟩
        clear hI3 hz r6
        (try dsimp only at F N)
        walk_at "S"
        · have hw := hV x y z hx0 hxy hyz hz5
          unfold vol at hw
          exact absurd hw (by with_reducible assumption)
        exact turn_n2 (by assumption) ⟨⟨_, _⟩, trivial, .cons rfl (.cons rfl .nil), by repeat' (first | exact Off.ov rfl | exact Off.refl | (refine Off.upd (by simp) ?_) | (refine off_over (by simp) ?_)), by assumption⟩
end
section WF
local macro_rules | `(tactic| walk_at "binaryOp Sub float int") => `(tactic| (k_here; (with_reducible refine sub_fi_okD (by assumption) (by assumption) ?_)))
local macro_rules | `(tactic| walk_at "binaryOp Div float float") => `(tactic| (k_here; (with_reducible refine div_okD (by assumption) (by first | assumption | decide +kernel) ?_)))
local macro_rules | `(tactic| walk_at "binaryOp Mod float float") => `(tactic| (k_here; (with_reducible refine mod_okD (by assumption) (by first | assumption | decide +kernel) ?_)))
section
open PySem PySem.W PyProof.Rows PySem.Calls PySem.Spec
local macro_rules | `(tactic| walk_at "call type:int") => `(tactic| (k_here; (with_reducible show wpAny _ _ (call _ [Value.float _ _]) _ _ _); refine int_fin (by assumption) ?_))
noncomputable def hsvI (b1 : UInt64) : Int := Flt.toInt Float64.truncOf (Float64.mul b1 4618441417868443648)
noncomputable def hsvF (b1 b2 b3 : UInt64) : UInt64 × UInt64 × UInt64 :=
  let i := hsvI b1
  let f := Float64.sub (Float64.mul b1 4618441417868443648) (Float64.ofInt i)
  let p := Float64.mul b3 (Float64.sub 4607182418800017408 b2)
  let q := Float64.mul b3 (Float64.sub 4607182418800017408 (Float64.mul b2 f))
  let t := Float64.mul b3 (Float64.sub 4607182418800017408 (Float64.mul b2 (Float64.sub 4607182418800017408 f)))
  if i.fmod 6 = 0 then (b3, t, p) else if i.fmod 6 = 1 then (q, b3, p) else if i.fmod 6 = 2 then (p, b3, t)
  else if i.fmod 6 = 3 then (p, q, b3) else if i.fmod 6 = 4 then (t, p, b3) else (b3, p, q)
theorem six {i : Int} (h0 : i.fmod 6 ≠ 0) (h1 : i.fmod 6 ≠ 1) (h2 : i.fmod 6 ≠ 2) (h3 : i.fmod 6 ≠ 3) (h4 : i.fmod 6 ≠ 4) (h5 : i.fmod 6 ≠ 5) : False := by
  have a := Int.fmod_nonneg_of_pos i (b := 6) (by decide)
  have b := Int.fmod_lt_of_pos i (b := 6) (by decide)
  omega
noncomputable abbrev tup3 (x y z : UInt64) (t u v : Tok) : Obj := { cls := .type "tuple", data := .seq #[.float x t, .float y u, .float z v] }
theorem tup_eq {x y z : UInt64} {p : UInt64 × UInt64 × UInt64} (h : p = (x, y, z)) (t u v : Tok) : tup3 x y z t u v = tup3 p.1 p.2.1 p.2.2 t u v := by subst h; rfl
noncomputable def Made (t0 : Tok) (b0 : UInt64) (lo hi : Nat) (t : Tok) (x : UInt64) : Prop := (t = t0 ∧ x = b0) ∨ (lo < t ∧ t < hi)
theorem hsv_fin {h₀ h' : Heap} {L a : Addr} {m : Str → Option Value} {news : List (Addr × Obj)} {p : UInt64 × UInt64 × UInt64} {x y z b0 : UInt64} {t u v t0 : Tok} {lo hi : Nat} {R : Prop}
    (hret : ∀ t u v, (∀ p ∈ news, p.1 < a) → Made t0 b0 lo hi t p.1 → Made t0 b0 lo hi u p.2.1 → Made t0 b0 lo hi v p.2.2 → Fr h₀ L h' m → News h₀ L h' ((a, tup3 p.1 p.2.1 p.2.2 t u v) :: news) → R)
    (e : p = (x, y, z)) (hf : ∀ p ∈ news, p.1 < a) (c1 : Made t0 b0 lo hi t x) (c2 : Made t0 b0 lo hi u y) (c3 : Made t0 b0 lo hi v z) (F : Fr h₀ L h' m) (N : News h₀ L h' ((a, tup3 x y z t u v) :: news)) : R := by
  subst e
  exact hret t u v hf c1 c2 c3 F N
theorem made_old {t0 : Tok} {b0 : UInt64} {lo hi : Nat} : Made t0 b0 lo hi t0 b0 := .inl ⟨rfl, rfl⟩
theorem lt_up {a b : Nat} (h : a < b) : a < b + 1 := Nat.lt_succ_of_lt h
theorem lt_one {a b : Nat} : a < a + b + 1 := Nat.lt_succ_of_le (Nat.le_add_right _ _)
theorem lt_self {a : Nat} : a < a + 1 := Nat.lt_succ_self _
theorem news_eq {h₀ h : Heap} {L a : Addr} {o o' : Obj} {news : List (Addr × Obj)} (e : o = o') (N : News h₀ L h ((a, o) :: news)) : News h₀ L h ((a, o') :: news) := e ▸ N
set_option maxRecDepth 100000 in
set_option maxHeartbeats 8000000 in
theorem hsv_c {w : World} {mean : ExcName → Option Value} {mg mb : Str → Option Value} {A A₀ : Around} {env : Env} {outer : List Env} {base h₀ : Heap} {L : Addr} {m : Str → Option Value} {news : List (Addr × Obj)} {s : Shared} {Q E : Value → Shared → Prop}
    (C : Cx w mean mg mb A A₀ env outer base h₀ L m news s) {b1 b2 b3 : UInt64} {t1 t2 t3 : Tok} (h1 : (Float64.cmp b2 0 == some Ordering.eq) = false) (h2 : Float64.isFinite (Float64.mul b1 4618441417868443648) = true) (h3 : (Flt.toInt Float64.truncOf (Float64.mul b1 4618441417868443648)).natAbs < 1000000)
    (hret : ∀ a h' tk' t u v, (∀ p ∈ news, p.1 < a) → Made t3 b3 s.toks tk' t (hsvF b1 b2 b3).1 → Made t3 b3 s.toks tk' u (hsvF b1 b2 b3).2.1 → Made t3 b3 s.toks tk' v (hsvF b1 b2 b3).2.2 → Fr h₀ L h' m → News h₀ L h' ((a, tup3 (hsvF b1 b2 b3).1 (hsvF b1 b2 b3).2.1 (hsvF b1 b2 b3).2.2 t u v) :: news) → Q (.ref a) { s with heap := h', toks := tk' }) :
    wpAny (PM w) A (call (.ref 28) [.float b1 t1, .float b2 t2, .float b3 t3]) Q E s := by
  obtain ⟨B, F, X, N, T, hA, hf, hk, hd, hu, hh⟩ := C
  refine wpAny_call ?_
  delta PM; revert X; k_fill; intro X
  k_dflt (refine' code_def (binds := [(Str.ofString "h", .float b1 t1), (Str.ofString "s", .float b2 t2), (Str.ofString "v", .float b3 t3)]) ?k1 ?k2 ?k3 ?k4 ?k5 ?kA ?kF ?kK ?k6 ?k7 ?k8 ?k9 ?kB ?_ ?c2 ?c3 ?c4 ?c5; (case kA => exact hA); (case kF => exact hf); (case kK => exact hk); (case k1 => exact B); (case k2 => exact F); (case k3 => exact X); (case k4 => exact N); (case k5 => exact T); (case k6 => k_is); (case k7 => k_is); (case k8 => omega); (case k9 => exact BindsTo.of_eq rfl); (case c5 => decide); (case kB => exact locs rfl); (case c2 => exact rfl); (case c3 => exact rfl); (case c4 => exact rfl); k_whole; intro g' L' h' FG' F' N' B' X' T'; (try dsimp only); refine wpAny_noRaise ?_; (try k_fold))
  clear B F X N T FG'
  walk_at "S"
  all_goals first
    | exact absurd (six (by assumption) (by assumption) (by assumption) (by assumption) (by assumption) (by assumption)) id
    | refine leaveK_ (by assumption) (by assumption) fun F N => hsv_fin (hret _ _ _) ?_ ?_ ?_ ?_ ?_ F N
  all_goals first
    | exact allLt_mem (by assumption)
    | exact allLt_mem (And.right (by assumption))
    | (with_reducible assumption)
    | (with_reducible exact made_old)
    | (refine Or.inr ⟨?_, ?_⟩ <;> (repeat first | exact lt_one | exact lt_self | refine lt_up ?_))
    | (unfold hsvF hsvI
       first
          | rw [if_pos (by assumption)]
          | rw [if_neg (by assumption), if_pos (by assumption)]
          | rw [if_neg (by assumption), if_neg (by assumption), if_pos (by assumption)]
          | rw [if_neg (by assumption), if_neg (by assumption), if_neg (by assumption), if_pos (by assumption)]
          | rw [if_neg (by assumption), if_neg (by assumption), if_neg (by assumption), if_neg (by assumption), if_pos (by assumption)]
          | rw [if_neg (by assumption), if_neg (by assumption), if_neg (by assumption), if_neg (by assumption), if_neg (by assumption)])
    | fail "a goal is left"
end
section
open PySem PySem.W PyProof.Rows PySem.Calls PySem.Spec
local macro_rules | `(tactic| walk_at "call builtin:max") => `(tactic| (k_here; (with_reducible show wpAny _ _ (call _ [Value.float _ _, Value.float _ _, Value.float _ _]) _ _ _); refine max3D (by assumption) (by assumption) (by assumption) ?_; intro _ _ _ _ _))
local macro_rules | `(tactic| walk_at "call builtin:min") => `(tactic| (k_here; (with_reducible show wpAny _ _ (call _ [Value.float _ _, Value.float _ _, Value.float _ _]) _ _ _); refine min3D (by assumption) (by assumption) (by assumption) ?_; intro _ _ _ _ _))
noncomputable def hlsF (r g b : UInt64) : UInt64 × UInt64 × UInt64 :=
  let maxc := max3F r g b
  let minc := min3F r g b
  let sumc := Float64.add maxc minc
  let rangec := Float64.sub maxc minc
  let l := Float64.div sumc 4611686018427387904
  let s := Float64.div rangec sumc
  let rc := Float64.div (Float64.sub maxc r) rangec
  let gc := Float64.div (Float64.sub maxc g) rangec
  let bc := Float64.div (Float64.sub maxc b) rangec
  let h := if (Float64.cmp r maxc == some Ordering.eq) = true then Float64.sub bc gc else if (Float64.cmp g maxc == some Ordering.eq) = true then Float64.sub (Float64.add 4611686018427387904 rc) bc else Float64.sub (Float64.add 4616189618054758400 gc) rc
  ((Float64.divmod (Float64.div h 4618441417868443648) 4607182418800017408).2, l, s)
theorem ne_tt {b : Bool} (h : b = false) : ¬ (b = true) := by rw [h]; exact Bool.false_ne_true
set_option maxRecDepth 100000 in
set_option maxHeartbeats 8000000 in
theorem hls_c {w : World} {mean : ExcName → Option Value} {mg mb : Str → Option Value} {A A₀ : Around} {env : Env} {outer : List Env} {base h₀ : Heap} {L : Addr} {m : Str → Option Value} {news : List (Addr × Obj)} {s : Shared} {Q E : Value → Shared → Prop}
    (C : Cx w mean mg mb A A₀ env outer base h₀ L m news s) {b1 b2 b3 : UInt64} {t1 t2 t3 : Tok} (z1 : Float64.isZero (Float64.add (max3F b1 b2 b3) (min3F b1 b2 b3)) = false) (z2 : Float64.isZero (Float64.sub (max3F b1 b2 b3) (min3F b1 b2 b3)) = false) (z3 : (Float64.cmp (min3F b1 b2 b3) (max3F b1 b2 b3) == some Ordering.eq) = false) (z4 : (Float64.cmp (Float64.div (Float64.add (max3F b1 b2 b3) (min3F b1 b2 b3)) 4611686018427387904) 4602678819172646912 == some Ordering.lt || Float64.cmp (Float64.div (Float64.add (max3F b1 b2 b3) (min3F b1 b2 b3)) 4611686018427387904) 4602678819172646912 == some Ordering.eq) = true)
    (hret : ∀ a t u v h' tk', (∀ p ∈ news, p.1 < a) → t ≠ 0 ∧ u ≠ 0 ∧ v ≠ 0 → Fr h₀ L h' m → News h₀ L h' ((a, tup3 (hlsF b1 b2 b3).1 (hlsF b1 b2 b3).2.1 (hlsF b1 b2 b3).2.2 t u v) :: news) → Q (.ref a) { s with heap := h', toks := tk' }) :
    wpAny (PM w) A (call (.ref 21) [.float b1 t1, .float b2 t2, .float b3 t3]) Q E s := by
  obtain ⟨B, F, X, N, T, hA, hf, hk, hd, hu, hh⟩ := C
  refine wpAny_call ?_
  delta PM; revert X; k_fill; intro X
  k_dflt (refine' code_def (binds := [(Str.ofString "r", .float b1 t1), (Str.ofString "g", .float b2 t2), (Str.ofString "b", .float b3 t3)]) ?k1 ?k2 ?k3 ?k4 ?k5 ?kA ?kF ?kK ?k6 ?k7 ?k8 ?k9 ?kB ?_ ?c2 ?c3 ?c4 ?c5; (case kA => exact hA); (case kF => exact hf); (case kK => exact hk); (case k1 => exact B); (case k2 => exact F); (case k3 => exact X); (case k4 => exact N); (case k5 => exact T); (case k6 => k_is); (case k7 => k_is); (case k8 => omega); (case k9 => exact BindsTo.of_eq rfl); (case c5 => decide); (case kB => exact locs rfl); (case c2 => exact rfl); (case c3 => exact rfl); (case c4 => exact rfl); k_whole; intro g' L' h' FG' F' N' B' X' T'; (try dsimp only); refine wpAny_noRaise ?_; (try k_fold))
  clear B F X N T FG'
  walk_at "S"
  all_goals first
    | exact leaveK_ (by assumption) (by assumption) fun F N => hret _ _ _ _ _ _ (by first | exact allLt_mem (by assumption) | exact allLt_mem (And.right (by assumption)) | assumption) ⟨Nat.succ_ne_zero _, Nat.succ_ne_zero _, Nat.succ_ne_zero _⟩ F (news_eq (tup_eq (by
        unfold hlsF
        dsimp only
        first
          | rw [if_pos (by assumption)]
          | rw [if_neg (ne_tt (by assumption)), if_pos (by assumption)]
          | rw [if_neg (ne_tt (by assumption)), if_neg (ne_tt (by assumption))]) _ _ _) N)
    | fail "a goal is left"
end
section
open PySem PySem.W PyProof.Rows PySem.Calls PySem.Spec
noncomputable abbrev f1 : UInt64 := 4607182418800017408
noncomputable abbrev brights : List UInt64 := [4607182418800017408, 4602678819172646912, 4598175219545276416]
noncomputable def q16 (x : Int) : UInt64 := Float64.ofFrac (decide (x < 0) != decide ((16 : Int) < 0)) x.natAbs (16 : Int).natAbs
noncomputable def feq (a b : UInt64) : Bool := Float64.cmp a b == some Ordering.eq
noncomputable def ceq (p q : UInt64 × UInt64 × UInt64) : Bool := feq p.1 q.1 && feq p.2.1 q.2.1 && feq p.2.2 q.2.2
noncomputable def colr (x : Int) (bb : UInt64) : UInt64 × UInt64 × UInt64 := hsvF (q16 x) f1 bb
noncomputable def hueL : List Int := (List.range 28).map Int.ofNat
noncomputable def hsvOk (y : UInt64) : Bool := Float64.isFinite (Float64.mul y 4618441417868443648) && decide ((Flt.toInt Float64.truncOf (Float64.mul y 4618441417868443648)).natAbs < 1000000)
noncomputable def hlsOk (p : UInt64 × UInt64 × UInt64) : Bool :=
  (Float64.isZero (Float64.add (max3F p.1 p.2.1 p.2.2) (min3F p.1 p.2.1 p.2.2)) == false) && (Float64.isZero (Float64.sub (max3F p.1 p.2.1 p.2.2) (min3F p.1 p.2.1 p.2.2)) == false) && ((Float64.cmp (min3F p.1 p.2.1 p.2.2) (max3F p.1 p.2.1 p.2.2) == some Ordering.eq) == false) &&
  (Float64.cmp (Float64.div (Float64.add (max3F p.1 p.2.1 p.2.2) (min3F p.1 p.2.1 p.2.2)) 4611686018427387904) 4602678819172646912 == some Ordering.lt || Float64.cmp (Float64.div (Float64.add (max3F p.1 p.2.1 p.2.2) (min3F p.1 p.2.1 p.2.2)) 4611686018427387904) 4602678819172646912 == some Ordering.eq)
noncomputable def toldOf (x : Int) (bb : UInt64) : UInt64 × UInt64 × UInt64 := (q16 (x.fmod 16), Float64.div bb (Float64.ofInt 2), f1)
set_option maxRecDepth 100000
theorem tab1 : (hueL.all fun x => hsvOk (q16 x)) = true := by decide +kernel
theorem tab2 : (brights.all fun bb => hueL.all fun x => hlsOk (colr x bb)) = true := by decide +kernel
theorem tab3 : (brights.all fun bb => hueL.all fun x => hlsF (colr x bb).1 (colr x bb).2.1 (colr x bb).2.2 == toldOf x bb) = true := by decide +kernel
theorem tab4 : ((List.range 16).all fun x => (List.range 12).all fun g => Float64.add (q16 (Int.ofNat x)) (q16 (Int.ofNat (g + 1))) == q16 (Int.ofNat (x + g + 1))) = true := by decide +kernel
theorem tab5 : (brights.all fun bb => hueL.all fun x => colr x bb == colr (x.fmod 16) bb) = true := by decide +kernel
theorem tab6 : (brights.all fun bb => (List.range 16).all fun x => (List.range 16).all fun y => ceq (colr (Int.ofNat x) bb) (colr (Int.ofNat y) bb) == decide (x = y)) = true := by decide +kernel
theorem tab7 : (brights.all fun bb => hueL.all fun x => ceq (toldOf x bb) (toldOf x bb)) = true := by decide +kernel
end
section B2
local macro_rules | `(tactic| walk_at "S") => `(tactic| repeat' ((fail_if_success (with_reducible show wpAny _ _ (exec (Stmt.While _ _ _ _) _) _ _ _)); (fail_if_success (with_reducible show wpAny _ _ (pyIter _) (fun it s₂ => codeAny _ _ _ _ _) _ _)); (fail_if_success (with_reducible show wpAny _ _ (pyIter _) (CompAt _ _ _ _ _ _ _ _ _ _ _ _ _) _ _)); first | walk1 | (dsimp only; walk1)))
local macro_rules | `(tactic| walk_at "eval ListComp") => `(tactic| (k_here; k_dflt (refine eval_comp (by with_unfolding_all rfl) (by rfl) (by decide) ?_)))
local macro_rules | `(tactic| walk_at "exec Assign cons ListComp") => `(tactic| (k_here; k_dflt (refine assign_comp (by with_unfolding_all rfl) (by with_unfolding_all rfl) (by rfl) (by decide) ?_)))
local macro_rules | `(tactic| walk_at "eval Name") => `(tactic| (k_here; (with_reducible show wpAny _ _ (eval (Expr.Name _ _) (compEnvC _ _ _ _)) _ _ _); k_dflt (first
  | refine nm_own (by assumption) (by rfl) ?_
  | refine LCgL.ld_global (by k_asm) (by k_asm) (by k_asm) (by k_is) ?_
  | refine LCgL.ld_built (by k_asm) (by k_asm) (by k_asm) (by k_is) (by boot_by_name) (by decide) ?_
  | (refine' lcf_free ?N ?c ?m ?d ?_ ?a ?b; (case a => rfl); (case b => rfl); (case N => k_asm); (case c => rfl); (case m => k_mem); (case d => k_asm); k_whole)
  | (refine' lcf_cell ?N ?c ?m ?d ?_ ?a ?b; (case a => rfl); (case b => rfl); (case N => k_asm); (case c => rfl); (case m => k_mem); (case d => k_asm); k_whole))))
section
open PySem PySem.W PyProof.Rows PySem.Calls PySem.Spec
open PySem.SeqAt
theorem ns_none_of {K : Frag} {h : Heap} {mg : Str → Option Value} {n : Str} {a : Addr} (X : K.In h) (G : h.Ns a mg) (e : nsIn K a n = some none) : mg n = none := by
  obtain ⟨o, es, ep, ho, hd, _, hf⟩ := G
  unfold nsIn at e
  split at e
  · rename_i q
    have := X _ _ q
    rw [ho] at this
    cases this
    cases hd
    split at e
    · cases e
    · rename_i he
      rw [← hf]
      unfold nsFind findBy
      rw [← Array.find?_toList, he]
      rfl
  · cases e
theorem booked_of {P : Params} {h : Heap} {mean : ExcName → Option Value} {mg mb : Str → Option Value} (X : (KK P).In h) (T : Top QQ LL mean mg mb h) : NoneBooked h := by
  obtain ⟨mc, hn, -⟩ := T.nodigits
  exact ⟨mc, hn, ns_none_of X hn (by kernel_rfl)⟩
theorem booked_keep {g h : Heap} {L : Addr} {m : Str → Option Value} (F : Fr g L h m) (b : NoneBooked g) : NoneBooked h :=
  let ⟨mc, hn, e⟩ := b
  ⟨mc, hn.at' fun o e => F.keep _ o e, e⟩
noncomputable abbrev Col := UInt64 × UInt64 × UInt64
noncomputable abbrev Toks := Tok × Tok × Tok
noncomputable def TupIs (o : Obj) (k : Col) (t : Toks) : Prop := o = tup3 k.1 k.2.1 k.2.2 t.1 t.2.1 t.2.2 ∧ t.1 ≠ 0 ∧ t.2.1 ≠ 0 ∧ t.2.2 ≠ 0
noncomputable def Sep (p q : Col) (t u : Toks) : Prop := (t.1 = u.1 → p.1 = q.1) ∧ (t.2.1 = u.2.1 → p.2.1 = q.2.1) ∧ (t.2.2 = u.2.2 → p.2.2 = q.2.2)
section
variable {A : Around} {s : Shared}
theorem eqAt_float {a b : UInt64} {t u : Tok} (hn : feq a a = true) (ht : t ≠ 0) (hu : u ≠ 0) (hs : t = u → a = b) (hb : NoneBooked s.heap) : EqAt A s (.float a t) (.float b u) (feq a b) := fun prog w E Q h => by
  unfold eqBool
  refine wpAny_holding ?_
  refine wpAny_ite_split (fun hab => ?_) (fun hab => ?_)
  · have e : a = b := by have := eq_of_beq hab; injection this
    subst e
    rw [hn] at h
    exact wpAny_bind (wpAny_rule (wpAny_pure h))
  · have htu : t ≠ u := fun e => by
      have := hs e
      subst this; subst e
      exact hab (beq_self_eq_true _)
    have fin : ∀ b' : Bool, (b' = true → feq a b = true) → wpAny (model prog w) A (if b' = true then pure true else do truthOfDropped (← richCompare CmpOp.Eq (Value.float a t) (Value.float b u))) Q E s := fun b' hb' => by
      cases b' with
      | true =>
        rw [if_pos rfl]
        rw [hb' rfl] at h
        exact wpAny_pure h
      | false =>
        rw [if_neg Bool.false_ne_true]
        exact wpAny_bind (AutoFloatOps.eq_0 (wpAny_truthy_bool h))
    refine wpAny_bind ?_
    show wpAny _ A (isSame.created (a == b && !Float64.isNaN a) t u) _ _ _
    unfold isSame.created
    rw [if_neg (by simp [ht, hu]), if_neg (by simpa using htu)]
    refine wpAny_ite_split (fun _ => wpAny_pure (fin false fun x => nomatch x)) (fun he => ?_)
    have hab2 : a = b := by
      have : (a == b && !Float64.isNaN a) = true := by
        cases hc : (a == b && !Float64.isNaN a) with
        | true => rfl
        | false => rw [hc] at he; exact absurd rfl he
      exact eq_of_beq (Bool.and_eq_true_iff.mp this).1
    subst hab2
    refine wpAny_bind (wpAny_sharingNotTold_none hb ?_)
    simp only [Bool.false_eq_true, if_false]
    refine wpAny_bind (wpAny_sharingNotTold_none hb ?_)
    simp only [Bool.false_eq_true, if_false]
    exact wpAny_bind (wpAny_rule (wpAny_bind (wpAny_askSetting (wpAny_pure (fin _ fun _ => hn)))))
theorem eqAt_tup {l b : Addr} {o₁ o₂ : Obj} {p q : Col} {t u : Toks} (h1 : s.heap.get? l = some o₁) (h2 : s.heap.get? b = some o₂) (k1 : TupIs o₁ p t) (k2 : TupIs o₂ q u) (hs : Sep p q t u) (hn : ceq p p = true) (hb : NoneBooked s.heap) (hu : A.units < cLine) :
    EqAt A s (.ref l) (.ref b) (ceq p q) := by
  obtain ⟨rfl, t1, t2, t3⟩ := k1
  obtain ⟨rfl, u1, u2, u3⟩ := k2
  obtain ⟨s1, s2, s3⟩ := hs
  by_cases e : l = b
  · subst e
    rw [h1] at h2
    injection Option.some.inj h2 with _ _ e3 _
    injection e3 with e3 _
    have e4 : [Value.float p.1 t.1, .float p.2.1 t.2.1, .float p.2.2 t.2.2] = [Value.float q.1 u.1, .float q.2.1 u.2.1, .float q.2.2 u.2.2] := congrArg Array.toList e3
    have ep : p = q := by
      injection e4 with a b
      injection b with b c
      injection c with c _
      injection a with a _
      injection b with b _
      injection c with c _
      exact Prod.ext a (Prod.ext b c)
    subst ep
    rw [hn]
    exact EqAt.same _
  · refine .of_refs e ?_
    unfold ceq at hn
    obtain ⟨hn, n3⟩ := Bool.and_eq_true_iff.mp hn
    obtain ⟨n1, n2⟩ := Bool.and_eq_true_iff.mp hn
    have r := RcAt.tuples (A := A) (s := s) (e := fun j => if j = 0 then feq p.1 q.1 else if j = 1 then feq p.2.1 q.2.1 else feq p.2.2 q.2.2) ⟨_, h1, rfl, _, rfl⟩ ⟨_, h2, rfl, _, rfl⟩ hu (fun j a b => ?_)
    · have e : ((List.range (min (#[Value.float p.1 t.1, Value.float p.2.1 t.2.1, Value.float p.2.2 t.2.2]).size (#[Value.float q.1 u.1, Value.float q.2.1 u.2.1, Value.float q.2.2 u.2.2]).size)).all (fun j => if j = 0 then feq p.1 q.1 else if j = 1 then feq p.2.1 q.2.1 else feq p.2.2 q.2.2) && (#[Value.float p.1 t.1, Value.float p.2.1 t.2.1, Value.float p.2.2 t.2.2]).size == (#[Value.float q.1 u.1, Value.float q.2.1 u.2.1, Value.float q.2.2 u.2.2]).size) = ceq p q := by
        show ((List.range 3).all _ && true) = _
        rw [Bool.and_true]
        show (feq p.1 q.1 && (feq p.2.1 q.2.1 && (feq p.2.2 q.2.2 && true))) = _
        unfold ceq
        rw [Bool.and_true, Bool.and_assoc]
      rw [e] at r
      exact r
    · have hj : j < 3 := a
      match j, hj with
      | 0, _ => exact eqAt_float n1 t1 u1 s1 hb
      | 1, _ => exact eqAt_float n2 t2 u2 s2 hb
      | 2, _ => exact eqAt_float n3 t3 u3 s3 hb
end
/-- a list's items are references to tuples of three floats -/
noncomputable def ColsAre (c : List (Addr × Obj)) (ks : List (Col × Toks)) : Prop := c.length = ks.length ∧ ∀ (j : Nat) (p : Addr × Obj) (k : Col × Toks), c[j]? = some p → ks[j]? = some k → TupIs p.2 k.1 k.2
section
variable {prog : Program} {w : World} {A : Around} {E : Value → Shared → Prop} {s : Shared} {h₀ : Heap} {L D D2 : Addr} {m : Str → Option Value} {news : List (Addr × Obj)} {its its2 : Array Value} {n n2 : Nat} {c c2 : List (Addr × Obj)} {ks ks2 : List (Col × Toks)} {Q : Value → Shared → Prop}
theorem refs_get {i : Nat} (hi : its.toList = c.map fun p => Value.ref p.1) (h : i < its.size) : ∃ p, c[i]? = some p ∧ its[i] = .ref p.1 := by
  have h2 : i < c.length := by
    have := congrArg List.length hi
    rw [List.length_map, Array.length_toList] at this
    omega
  refine ⟨c[i], List.getElem?_eq_getElem h2, ?_⟩
  have e : its.toList[i]'(by rw [Array.length_toList]; exact h) = (c.map fun p => Value.ref p.1)[i]'(by rw [List.length_map]; exact h2) := List.getElem_of_eq hi _
  rw [Array.getElem_toList, List.getElem_map] at e
  exact e
theorem in1_lt (hu : A.units + 64 < cLine) : A.in1.units < cLine := Nat.lt_of_le_of_lt (by show A.units + 1 ≤ A.units + 64; omega) hu
/-- two lists of the same colours are not different -/
theorem ne_cols (N : News h₀ L s.heap news) (hm : (D, W.listOf its n) ∈ news) (hm2 : (D2, W.listOf its2 n2) ∈ news) (hi : its.toList = c.map fun p => Value.ref p.1) (hi2 : its2.toList = c2.map fun p => Value.ref p.1)
    (hc : ∀ p ∈ c, p ∈ news) (hc2 : ∀ p ∈ c2, p ∈ news) (hk : ColsAre c ks) (hk2 : ColsAre c2 ks2) (hl : ks.map (·.1) = ks2.map (·.1)) (hn : ∀ k ∈ ks, ceq k.1 k.1 = true) (hb : NoneBooked s.heap) (hu : A.units + 64 < cLine)
    (h : Q (.bool false) s) : wpAny (model prog w) A (compareOp .NotEq (.ref D) (.ref D2)) Q E s := by
  have hll : ks.length = ks2.length := by have := congrArg List.length hl; simpa using this
  have z1 : its.size = ks.length := by rw [← Array.length_toList, hi, List.length_map, hk.1]
  have z2 : its2.size = ks2.length := by rw [← Array.length_toList, hi2, List.length_map, hk2.1]
  have r := RcNeAt.lists (A := A) (s := s) (e := fun _ => true) (⟨_, (N _ hm).1, rfl, _, rfl⟩ : s.heap.IsList D its) (⟨_, (N _ hm2).1, rfl, _, rfl⟩ : s.heap.IsList D2 its2) (by omega) (by omega) (fun j a b => ?_)
  · have e : (!(List.range its.size).all fun _ => true) = false := by simp
    rw [e] at r
    exact r prog w E Q h
  · obtain ⟨p, hp, e1⟩ := refs_get hi a
    obtain ⟨q, hq, e2⟩ := refs_get hi2 b
    rw [e1, e2]
    have j1 : j < ks.length := by omega
    have j2 : j < ks2.length := by omega
    have e3 : ks[j].1 = ks2[j].1 := by
      have := congrArg (fun l => l[j]?) hl
      simpa [j1, j2] using this
    have hne := hn _ (List.getElem_mem j1)
    have r := eqAt_tup (A := A.in1) (s := s) (N _ (hc _ (List.mem_of_getElem? hp))).1 (N _ (hc2 _ (List.mem_of_getElem? hq))).1 (hk.2 _ _ _ hp (List.getElem?_eq_getElem j1)) (hk2.2 _ _ _ hq (List.getElem?_eq_getElem j2)) (by rw [e3]; exact ⟨fun _ => rfl, fun _ => rfl, fun _ => rfl⟩) hne hb (in1_lt hu)
    rw [← e3, hne] at r
    exact r
theorem index_cols {a : Addr} {o : Obj} {k : Col} {u : Toks} {j : Nat} (N : News h₀ L s.heap news) (hm : (D, W.listOf its n) ∈ news) (ht : (a, o) ∈ news) (hto : TupIs o k u) (hi : its.toList = c.map fun p => Value.ref p.1)
    (hc : ∀ p ∈ c, p ∈ news) (hk : ColsAre c ks) (hn : ∀ k ∈ ks, ceq k.1 k.1 = true) (hsep : ∀ k' ∈ ks, Sep k'.1 k k'.2 u) (hb : NoneBooked s.heap) (hu : A.units + 64 < cLine) (hj : j < ks.length) (hz : ks.length ≤ 100) (hit : ceq ks[j].1 k = true) (hno : ∀ i (h : i < ks.length), i < j → ceq ks[i].1 k = false)
    (h : Q (.int j s.toks) { s with toks := s.toks + 1 }) : wpAny (model prog w) A (call (.builtin "list.index") [.ref D, .ref a]) Q E s := by
  have z1 : its.size = ks.length := by rw [← Array.length_toList, hi, List.length_map, hk.1]
  let e : Value → Bool := fun y => match y with
    | .ref a => match s.heap.get? a with
      | some o => match o.data with
        | .seq vs _ => match vs.toList with
          | [.float x _, .float y _, .float z _] => ceq (x, y, z) k
          | _ => false
        | _ => false
      | none => false
    | _ => false
  have he : ∀ i (hi2 : i < its.size), e its[i] = ceq (ks[i]'(by omega)).1 k := fun i a => by
    obtain ⟨p, hp, e1⟩ := refs_get hi a
    have j1 : i < ks.length := by omega
    have e2 := (N _ (hc _ (List.mem_of_getElem? hp))).1
    obtain ⟨e3, -⟩ := hk.2 _ _ _ hp (List.getElem?_eq_getElem j1)
    rw [e3] at e2
    rw [e1]
    show (match s.heap.get? p.1 with
      | some o => match o.data with
        | .seq vs _ => match vs.toList with
          | [.float x _, .float y _, .float z _] => ceq (x, y, z) k
          | _ => false
        | _ => false
      | none => false) = _
    rw [e2]
  have hat : ∀ i (hi2 : i < its.size), EqAt A.in1 s its[i] (.ref a) (ceq (ks[i]'(by omega)).1 k) := fun i a => by
    obtain ⟨p, hp, e1⟩ := refs_get hi a
    rw [e1]
    have j1 : i < ks.length := by omega
    exact eqAt_tup (N _ (hc _ (List.mem_of_getElem? hp))).1 (N _ ht).1 (hk.2 _ _ _ hp (List.getElem?_eq_getElem j1)) hto (hsep _ (List.getElem_mem j1)) (hn _ (List.getElem_mem j1)) hb (in1_lt hu)
  have hall : ∀ y, y ∈ its → EqAt A.in1 s y (.ref a) (e y) := fun y hy => by
    obtain ⟨i, hi3, rfl⟩ := Array.mem_iff_getElem.mp hy
    rw [he i hi3]
    exact hat i hi3
  obtain ⟨hp, g, d, tk, os⟩ := s
  exact call_meets (PySem.F.slot_list_index) ⟨_, (N _ hm).1, rfl⟩ PySem.F.entry_list_index (PySem.F.args_list_index_2 _ _)
    (list_indexAt D its n none #[] (.ref a) e j (by omega) (by omega) (by rw [he]; exact hit) (fun i h1 h2 => by rw [he]; exact hno i _ h2)) ⟨(N _ hm).1, hall, h⟩
end
end
section
open PySem PySem.W PyProof.Rows PySem.Calls PySem.Spec
section
variable {prog : Program} {w : World} {A : Around} {E Q : Value → Shared → Prop} {s : Shared} {a : Int} {t u : Tok}
theorem div16 (hh : A.handled = none) (ha : 0 ≤ a ∧ a < 1000) (h : Q (.float (q16 a) s.toks) { s with toks := s.toks + 1 }) : wpAny (model prog w) (A.deeper env) (binaryOp .Div (.int a t) (.int 16 u)) Q E s :=
  PySem.Flt.div_ii_fits hh (Nat.lt_of_lt_of_le (show a.natAbs < 2 ^ 10 by omega) (Nat.pow_le_pow_right (by decide) (by decide))) (fun h => absurd h (by decide)) fun _ _ => h
end
section
variable {prog : Program} {w : World} {A : Around} {E Q : Value → Shared → Prop} {s : Shared} {a : UInt64} {t u : Tok}
theorem divf2 (hh : A.handled = none) (h : Q (.float (Float64.div a (Float64.ofInt 2)) s.toks) { s with toks := s.toks + 1 }) : wpAny (model prog w) (A.deeper env) (binaryOp .Div (.float a t) (.int 2 u)) Q E s :=
  PySem.Flt.truediv_fi hh (fun h => absurd h (Nat.not_le.mpr (Nat.lt_of_lt_of_le (show (2 : Int).natAbs < 1000000 by decide) (by decide +kernel)))) (fun h => absurd h (by decide)) fun _ _ => h
end
theorem led_list {g h : Heap} {L a : Addr} {vs : Array Value} {n : Nat} {news : List (Addr × Obj)} (N : News g L h news) (hm : (a, W.listOf vs n) ∈ news) : h.IsList a vs.toList.toArray := ⟨_, (N _ hm).1, rfl, _, rfl⟩
theorem sz_ok {a : Array Value} (h : a.size ≤ 16777216) : a.toList.toArray.size ≤ sizeLine := by rw [sizeLine_eq]; exact h
theorem add5_ok {hs : List Int} {x : Int} (h : hs.length = 5) : (hs.drop (1 : Int).toNat).length + [x].length ≤ sizeLine := by rw [List.length_drop, h, sizeLine_eq]; show 5 - 1 + 1 ≤ 16777216; decide
section
variable {prog : Program} {w : World} {A : Around} {E : Value → Shared → Prop} {s : Shared} {g : Heap} {L a : Addr} {news : List (Addr × Obj)} {u : Tok} {o : Obj} {k : Col} {t : Toks} {Q : Value → Shared → Prop}
theorem tup_item0 {value slice : Expr} (N : News g L s.heap news) (hm : (a, o) ∈ news) (ho : TupIs o k t) (h : Q (.float k.1 t.1) s)
    (hs : subscripted slice false (.ref a) (.int 0 u) = operate [.ref a, .int 0 u] (getItem (.ref a) (.int 0 u)) := by with_unfolding_all rfl) :
    wpAny (model prog w) A (subscriptTail value slice (.ref a) (.int 0 u)) Q E s := by
  obtain ⟨rfl, -⟩ := ho
  exact item_tupleT (l := [.float k.1 t.1, .float k.2.1 t.2.1, .float k.2.2 t.2.2]) (j := 0) ⟨_, (N _ hm).1, rfl, _, rfl⟩ (by decide) (by decide) rfl rfl h hs
end
noncomputable def endsOf (hs : List Int) : List Int := hs.drop 1 ++ [hs.getD 0 0 + 16]
noncomputable def gapOf (hs : List Int) (i : Nat) : Int := (endsOf hs).getD i 0 - hs.getD i 0
noncomputable def TurnedP (hs : List Int) (i : Nat) (ys : Array Value) : Prop := ys.size = i ∧ ∀ (j : Nat) (v : Value), ys[j]? = some v → ∃ t, v = .float (q16 ((hs.getD j 0).fmod 16 + gapOf hs j)) t
theorem turned_push {hs : List Int} {i : Nat} {ys : Array Value} {t : Tok} {b : UInt64} (h : TurnedP hs i ys) (e : b = q16 ((hs.getD i 0).fmod 16 + gapOf hs i)) : TurnedP hs (i + 1) (ys.push (.float b t)) := by
  refine ⟨by rw [Array.size_push, h.1], fun j v hj => ?_⟩
  rw [Array.getElem?_push] at hj
  by_cases hji : j = ys.size
  · rw [if_pos hji] at hj
    cases hj
    rw [hji, h.1]
    exact ⟨t, by rw [e]⟩
  · rw [if_neg hji] at hj
    exact h.2 j v hj
theorem add_q16 {x g : Int} (h1 : 0 ≤ x ∧ x < 16) (h2 : 1 ≤ g ∧ g ≤ 12) : Float64.add (q16 x) (q16 g) = q16 (x + g) := by
  have := List.all_eq_true.mp (List.all_eq_true.mp tab4 x.toNat (List.mem_range.mpr (by omega))) (g - 1).toNat (List.mem_range.mpr (by omega))
  have e := eq_of_beq this
  have e1 : Int.ofNat x.toNat = x := by show ((x.toNat : Nat) : Int) = x; omega
  have e2 : Int.ofNat ((g - 1).toNat + 1) = g := by show (((g - 1).toNat + 1 : Nat) : Int) = g; omega
  have e3 : Int.ofNat (x.toNat + (g - 1).toNat + 1) = x + g := by show ((x.toNat + (g - 1).toNat + 1 : Nat) : Int) = x + g; omega
  rw [e1, e2, e3] at e
  exact e
theorem ends_len {hs : List Int} (h : hs.length = 5) : (endsOf hs).length = 5 := by unfold endsOf; rw [List.length_append, List.length_drop, h]; rfl
theorem ia_get {vs : List Value} {ns : List Int} {i : Nat} (h : IntsAre vs ns) (hi : i < ns.length) : ∃ t, vs[((i : Nat) : Int).toNat]? = some (.int (ns.getD i 0) t) := by
  obtain ⟨t, e⟩ := ia_nth h hi
  exact ⟨t, by rw [Int.toNat_natCast]; exact e⟩
theorem next_at {i : Nat} (h : i < 5) : nextL[i]? = some (((i + 1) % 5 : Nat) : Int) := by
  have : i = 0 ∨ i = 1 ∨ i = 2 ∨ i = 3 ∨ i = 4 := by omega
  rcases this with rfl | rfl | rfl | rfl | rfl <;> rfl
theorem fm16 (x : Int) : 0 ≤ x.fmod 16 ∧ x.fmod 16 < 16 := ⟨Int.fmod_nonneg_of_pos x (by decide), Int.fmod_lt_of_pos x (by decide)⟩
theorem units_ok {A : Around} {env : Env} (h : A.units + 128 < cLine) : (A.deeper env).units + 64 < cLine := by show A.units + 3 + 64 < _; omega
theorem fm_ok {x : Int} : 0 ≤ x.fmod 16 ∧ x.fmod 16 < 1000 := ⟨Int.fmod_nonneg_of_pos x (by decide), Int.lt_trans (Int.fmod_lt_of_pos x (by decide)) (by decide)⟩
noncomputable def TokB (tb : Tok) (bb : UInt64) (lo hi : Nat) (k : Col × Toks) : Prop := Made tb bb lo hi k.2.1 k.1.1 ∧ Made tb bb lo hi k.2.2.1 k.1.2.1 ∧ Made tb bb lo hi k.2.2.2 k.1.2.2
theorem Made.mono {t0 t : Tok} {b0 x : UInt64} {lo hi lo' hi' : Nat} (h : Made t0 b0 lo hi t x) (h1 : lo' ≤ lo) (h2 : hi ≤ hi') : Made t0 b0 lo' hi' t x := h.imp id fun ⟨a, b⟩ => ⟨Nat.lt_of_le_of_lt h1 a, Nat.lt_of_lt_of_le b h2⟩
theorem TokB.mono {tb : Tok} {bb : UInt64} {lo hi lo' hi' : Nat} {k : Col × Toks} (h : TokB tb bb lo hi k) (h1 : lo' ≤ lo) (h2 : hi ≤ hi') : TokB tb bb lo' hi' k := ⟨h.1.mono h1 h2, h.2.1.mono h1 h2, h.2.2.mono h1 h2⟩
theorem Made.nz {t0 t : Tok} {b0 x : UInt64} {lo hi : Nat} (h : Made t0 b0 lo hi t x) (h0 : t0 ≠ 0) : t ≠ 0 := by
  rcases h with ⟨rfl, -⟩ | ⟨h, -⟩
  · exact h0
  · exact Nat.ne_of_gt (Nat.lt_of_le_of_lt (Nat.zero_le _) h)
theorem Made.sep {t0 t u : Tok} {b0 x y : UInt64} {lo mid hi : Nat} (h1 : Made t0 b0 lo mid t x) (h2 : Made t0 b0 mid hi u y) (h0 : t0 ≤ lo) (hm : lo ≤ mid) (e : t = u) : x = y := by
  subst e
  rcases h1 with ⟨rfl, rfl⟩ | ⟨a, b⟩ <;> rcases h2 with ⟨h3, h4⟩ | ⟨c, d⟩
  · exact h4.symm
  · exact absurd c (Nat.not_lt.mpr (Nat.le_trans h0 hm))
  · subst h3; exact absurd a (Nat.not_lt.mpr h0)
  · exact absurd (Nat.lt_trans b c) (Nat.lt_irrefl _)
theorem hueOk {x : Int} (h : 0 ≤ x ∧ x < 28) : x ∈ hueL := by
  refine List.mem_map.mpr ⟨x.toNat, List.mem_range.mpr (by omega), ?_⟩
  show ((x.toNat : Nat) : Int) = x
  omega
theorem col_eq {x y : Int} {bb : UInt64} (hb : bb ∈ brights) (hx : 0 ≤ x ∧ x < 28) (hy : 0 ≤ y ∧ y < 28) : ceq (colr x bb) (colr y bb) = decide (x.fmod 16 = y.fmod 16) := by
  have a := eq_of_beq (List.all_eq_true.mp (List.all_eq_true.mp tab5 bb hb) x (hueOk hx))
  have b := eq_of_beq (List.all_eq_true.mp (List.all_eq_true.mp tab5 bb hb) y (hueOk hy))
  have x0 := Int.fmod_nonneg_of_pos x (b := 16) (by decide)
  have x1 := Int.fmod_lt_of_pos x (b := 16) (by decide)
  have y0 := Int.fmod_nonneg_of_pos y (b := 16) (by decide)
  have y1 := Int.fmod_lt_of_pos y (b := 16) (by decide)
  have t := eq_of_beq (List.all_eq_true.mp (List.all_eq_true.mp (List.all_eq_true.mp tab6 bb hb) (x.fmod 16).toNat (List.mem_range.mpr (by omega))) (y.fmod 16).toNat (List.mem_range.mpr (by omega)))
  have e1 : Int.ofNat (x.fmod 16).toNat = x.fmod 16 := by show (((x.fmod 16).toNat : Nat) : Int) = _; omega
  have e2 : Int.ofNat (y.fmod 16).toNat = y.fmod 16 := by show (((y.fmod 16).toNat : Nat) : Int) = _; omega
  rw [e1, e2] at t
  rw [a, b, t]
  have : ((x.fmod 16).toNat = (y.fmod 16).toNat) ↔ (x.fmod 16 = y.fmod 16) := by omega
  exact decide_eq_decide.mpr this
theorem hsv_fits {x : Int} (h : 0 ≤ x ∧ x < 28) : Float64.isFinite (Float64.mul (q16 x) 4618441417868443648) = true ∧ (Flt.toInt Float64.truncOf (Float64.mul (q16 x) 4618441417868443648)).natAbs < 1000000 := by
  have := List.all_eq_true.mp tab1 x (hueOk h)
  unfold hsvOk at this
  obtain ⟨a, b⟩ := Bool.and_eq_true_iff.mp this
  exact ⟨a, of_decide_eq_true b⟩
theorem hs_small {x : Int} (h : 0 ≤ x ∧ x < 28) : 0 ≤ x ∧ x < 1000 := ⟨h.1, by omega⟩
structure LSt where
  ts : List (Addr × Obj)
  ks : List (Col × Toks)
  T : Nat
noncomputable def RowsP (cs : List Col) (base : List (Addr × Obj)) (I : Addr) (i : Nat) (ys : Array Value) (c : LSt) : Prop :=
  ys.toList = c.ts.map (fun p => Value.ref p.1) ∧ ColsAre c.ts c.ks ∧ c.ks.map (·.1) = cs.take i ∧ (∀ p ∈ c.ts, I + 2 < p.1) ∧ ∀ p ∈ base, p.1 < I
noncomputable def LampsP (tb : Tok) (bb : UInt64) (lo : Nat) (cs : List Col) (base : List (Addr × Obj)) (I : Addr) (i : Nat) (ys : Array Value) (c : LSt) : Prop :=
  RowsP cs base I i ys c ∧ (∀ k ∈ c.ks, TokB tb bb lo c.T k) ∧ lo ≤ c.T
noncomputable def ToldP (T : Nat) (cs : List Col) (base : List (Addr × Obj)) (I : Addr) (i : Nat) (ys : Array Value) (c : LSt) : Prop := RowsP cs base I i ys c ∧ c.T = T
theorem RowsP.off {cs : List Col} {base : List (Addr × Obj)} {I : Addr} {i : Nat} {ys : Array Value} {c : LSt} (h : RowsP cs base I i ys c) : ∀ p ∈ c.ts ++ base, p.1 ≠ I ∧ p.1 ≠ I + 1 ∧ p.1 ≠ I + 2 := fun p hp => by
  rcases List.mem_append.mp hp with hp | hp
  · have := h.2.2.2.1 p hp
    exact ⟨Nat.ne_of_gt (Nat.lt_of_le_of_lt (Nat.le_add_right I 2) this), Nat.ne_of_gt (Nat.lt_of_le_of_lt (Nat.le_succ (I + 1)) this), Nat.ne_of_gt this⟩
  · have := h.2.2.2.2 p hp
    exact ⟨Nat.ne_of_lt this, ad3 this, ad4 this⟩
theorem rows_nil {cs : List Col} {base : List (Addr × Obj)} {I : Addr} {T : Nat} (hI : ∀ p ∈ base, p.1 < I) : RowsP cs base I 0 #[] ⟨[], [], T⟩ :=
  ⟨rfl, ⟨rfl, fun j p k h _ => by simp at h⟩, rfl, (fun k h => nomatch h), hI⟩
theorem cols_push {c : List (Addr × Obj)} {ks : List (Col × Toks)} {p : Addr × Obj} {k : Col × Toks} (h : ColsAre c ks) (hp : TupIs p.2 k.1 k.2) : ColsAre (c ++ [p]) (ks ++ [k]) := by
  refine ⟨by simp [h.1], fun j q l hq hl => ?_⟩
  by_cases hj : j < c.length
  · rw [List.getElem?_append_left hj] at hq
    rw [List.getElem?_append_left (by rw [← h.1]; exact hj)] at hl
    exact h.2 _ _ _ hq hl
  · have e : j = c.length := by
      have := (List.getElem?_eq_some_iff.mp hq).1
      simp at this
      omega
    subst e
    simp at hq
    rw [h.1] at hl
    simp at hl
    subst hq; subst hl
    exact hp
theorem rows_push {cs : List Col} {base : List (Addr × Obj)} {I a : Addr} {i T : Nat} {ys : Array Value} {c : LSt} {k : Col} {t : Toks} {o : Obj} (h : RowsP cs base I i ys c) (hk : cs[i]? = some k) (ho : TupIs o k t) (ha : I + 2 < a) :
    RowsP cs base I (i + 1) (ys.push (.ref a)) ⟨c.ts ++ [(a, o)], c.ks ++ [(k, t)], T⟩ := by
  obtain ⟨h1, h2, h3, h4, h5⟩ := h
  refine ⟨by simp [h1], cols_push h2 ho, by rw [List.map_append, h3, List.take_add_one, hk]; rfl, fun p hp => ?_, h5⟩
  rcases List.mem_append.mp hp with hp | hp
  · exact h4 _ hp
  · rw [List.mem_singleton.mp hp]; exact ha
theorem lamps_push {tb : Tok} {bb : UInt64} {lo hi tk : Nat} {cs : List Col} {base : List (Addr × Obj)} {I a : Addr} {i : Nat} {ys : Array Value} {c : LSt} {k : Col} {t : Toks} (h : LampsP tb bb lo cs base I i ys c) (hk : cs[i]? = some k)
    (hT : c.T ≤ tk) (hT2 : c.T ≤ hi) (h0 : tb ≠ 0) (m1 : Made tb bb tk hi t.1 k.1) (m2 : Made tb bb tk hi t.2.1 k.2.1) (m3 : Made tb bb tk hi t.2.2 k.2.2) (ha : I + 2 < a) :
    LampsP tb bb lo cs base I (i + 1) (ys.push (.ref a)) ⟨c.ts ++ [(a, tup3 k.1 k.2.1 k.2.2 t.1 t.2.1 t.2.2)], c.ks ++ [(k, t)], hi⟩ := by
  obtain ⟨h1, h4, h5⟩ := h
  refine ⟨rows_push h1 hk ⟨rfl, m1.nz h0, m2.nz h0, m3.nz h0⟩ ha, fun k' hk' => ?_, Nat.le_trans h5 hT2⟩
  rcases List.mem_append.mp hk' with hk' | hk'
  · exact (h4 _ hk').mono (Nat.le_refl _) hT2
  · rw [List.mem_singleton.mp hk']
    exact ⟨m1.mono (Nat.le_trans h5 hT) (Nat.le_refl _), m2.mono (Nat.le_trans h5 hT) (Nat.le_refl _), m3.mono (Nat.le_trans h5 hT) (Nat.le_refl _)⟩
theorem lamps_news {g h : Heap} {L a I C D : Addr} {o oI oC oD : Obj} {c base : List (Addr × Obj)} (N : News g L h ((a, o) :: (D, oD) :: (I, oI) :: (C, oC) :: (c ++ base))) : News g L h ((D, oD) :: (I, oI) :: (C, oC) :: ((c ++ [(a, o)]) ++ base)) := fun p hp => by
  rcases List.mem_cons.mp hp with rfl | hp
  · exact N _ (.tail _ (.head _))
  rcases List.mem_cons.mp hp with rfl | hp
  · exact N _ (.tail _ (.tail _ (.head _)))
  rcases List.mem_cons.mp hp with rfl | hp
  · exact N _ (.tail _ (.tail _ (.tail _ (.head _))))
  rcases List.mem_append.mp hp with hp | hp
  · rcases List.mem_append.mp hp with hp | hp
    · exact N _ (.tail _ (.tail _ (.tail _ (.tail _ (List.mem_append_left _ hp)))))
    · rw [List.mem_singleton.mp hp]; exact N _ (.head _)
  · exact N _ (.tail _ (.tail _ (.tail _ (.tail _ (List.mem_append_right _ hp)))))
theorem new_off {a D I C : Addr} {oD oI oC : Obj} {r : List (Addr × Obj)} (h : ∀ p ∈ (D, oD) :: (I, oI) :: (C, oC) :: r, p.1 < a) : C < a := h _ (.tail _ (.tail _ (.head _)))
theorem rows_at {cs : List Col} {base : List (Addr × Obj)} {I : Addr} {n i : Nat} {ys : Array Value} {c : LSt} {v : Value} (h : RowsP cs base I n ys c) (e : ys[i]? = some v) :
    ∃ p k, c.ts[i]? = some p ∧ c.ks[i]? = some k ∧ v = .ref p.1 ∧ TupIs p.2 k.1 k.2 ∧ (cs.take n)[i]? = some k.1 := by
  obtain ⟨h1, h2, h3, -, -⟩ := h
  have e1 : ys.toList[i]? = some v := by rw [Array.getElem?_toList]; exact e
  rw [h1, List.getElem?_map] at e1
  obtain ⟨p, hp, rfl⟩ := Option.map_eq_some_iff.mp e1
  have hi : i < c.ks.length := by rw [← h2.1]; exact (List.getElem?_eq_some_iff.mp hp).1
  refine ⟨p, c.ks[i], hp, List.getElem?_eq_getElem hi, rfl, h2.2 _ _ _ hp (List.getElem?_eq_getElem hi), ?_⟩
  rw [← h3, List.getElem?_map, List.getElem?_eq_getElem hi]
  rfl
noncomputable def triple (ks : List (Col × Toks)) (i : Nat) : Value × Value × Value := match ks[i]? with
  | some k => (.float k.1.1 k.2.1, .float k.1.2.1 k.2.2.1, .float k.1.2.2 k.2.2.2)
  | none => (.none, .none, .none)
theorem triple_at {ks : List (Col × Toks)} {i : Nat} {k : Col × Toks} (h : ks[i]? = some k) : triple ks i = (.float k.1.1 k.2.1, .float k.1.2.1 k.2.2.1, .float k.1.2.2 k.2.2.2) := by unfold triple; rw [h]
theorem hls_fits {x : Int} {bb : UInt64} (h : 0 ≤ x ∧ x < 28) (hb : bb ∈ brights) : hlsOk (colr x bb) = true := List.all_eq_true.mp (List.all_eq_true.mp tab2 bb hb) x (hueOk h)
theorem told_eq {x : Int} {bb : UInt64} (h : 0 ≤ x ∧ x < 28) (hb : bb ∈ brights) : hlsF (colr x bb).1 (colr x bb).2.1 (colr x bb).2.2 = toldOf x bb := eq_of_beq (List.all_eq_true.mp (List.all_eq_true.mp tab3 bb hb) x (hueOk h))
theorem hls_split {p : UInt64 × UInt64 × UInt64} (h : hlsOk p = true) : Float64.isZero (Float64.add (max3F p.1 p.2.1 p.2.2) (min3F p.1 p.2.1 p.2.2)) = false ∧ Float64.isZero (Float64.sub (max3F p.1 p.2.1 p.2.2) (min3F p.1 p.2.1 p.2.2)) = false ∧ (Float64.cmp (min3F p.1 p.2.1 p.2.2) (max3F p.1 p.2.1 p.2.2) == some Ordering.eq) = false ∧
    (Float64.cmp (Float64.div (Float64.add (max3F p.1 p.2.1 p.2.2) (min3F p.1 p.2.1 p.2.2)) 4611686018427387904) 4602678819172646912 == some Ordering.lt || Float64.cmp (Float64.div (Float64.add (max3F p.1 p.2.1 p.2.2) (min3F p.1 p.2.1 p.2.2)) 4611686018427387904) 4602678819172646912 == some Ordering.eq) = true := by
  unfold hlsOk at h
  obtain ⟨h, h4⟩ := Bool.and_eq_true_iff.mp h
  obtain ⟨h, h3⟩ := Bool.and_eq_true_iff.mp h
  obtain ⟨h1, h2⟩ := Bool.and_eq_true_iff.mp h
  exact ⟨eq_of_beq h1, eq_of_beq h2, eq_of_beq h3, h4⟩
theorem tup_told {p q : UInt64 × UInt64 × UInt64} {t u v : Tok} (e : p = q) (nz : t ≠ 0 ∧ u ≠ 0 ∧ v ≠ 0) : TupIs (tup3 p.1 p.2.1 p.2.2 t u v) q (t, u, v) := by subst e; exact ⟨rfl, nz⟩
section
variable {prog : Program} {w : World} {A : Around} {E : Value → Shared → Prop} {s : Shared} {g : Heap} {env : Env}
theorem store_cell {Q : Unit → Shared → Prop} {y : Str} {c L : Addr} {o : Obj} {v : Value} {v₀ : Option Value} {m : Str → Option Value} {news : List (Addr × Obj)} (F : Fr g L s.heap m) (N : News g L s.heap news) (hc : env.cells.lookup y = some c) (hm : (c, o) ∈ news) (hd : o.data = .cell v₀)
    (h : ∀ h' o', Fr g L h' m → Now g L h' c o' news → o'.data = .cell (some v) → Q () { s with heap := h' }) (hk : env.scope.kind = .function := by rfl) (hy : env.kindOf y = some .cell := by rfl) : wpAny (model prog w) A (storeName env y v) Q E s := by
  refine wpAny_storeName_cell hk hy hc ⟨o, (N _ hm).1, hd⟩ fun h₂ hv hs₂ => ?_
  obtain ⟨o', ho', hd'⟩ := hv
  exact h h₂ o' (F.change hs₂ (N _ hm).2.1 (N _ hm).2.2) (now_of N hm hs₂ ho') hd'
end
noncomputable abbrev base5 (L : Addr) (o5 o4 o3 o2 o1 : Obj) (news : List (Addr × Obj)) : List (Addr × Obj) := (L + 1 + 1 + 1 + 1 + 1, o5) :: (L + 1 + 1 + 1 + 1, o4) :: (L + 1 + 1 + 1, o3) :: (L + 1 + 1, o2) :: (L + 1, o1) :: news
section
variable {L : Addr} {o5 o4 o3 o2 o1 o' : Obj} {news : List (Addr × Obj)} (l1 : ∀ p ∈ news, p.1 < L)
theorem nadd (L : Addr) {a b : Nat} (h : a ≠ b) : (L + a : Nat) ≠ L + b := fun e => h (Nat.add_left_cancel e)
include l1
theorem base_3 : ∀ p ∈ base5 L o5 o4 o' o2 o1 news, p = (L + 1 + 1 + 1, o') ∨ (p ∈ base5 L o5 o4 o3 o2 o1 news ∧ p.1 ≠ L + 1 + 1 + 1) := fun p hp => by
  rcases List.mem_cons.mp hp with rfl | hp
  · exact .inr ⟨.head _, nadd L (a := 5) (b := 3) (by decide)⟩
  rcases List.mem_cons.mp hp with rfl | hp
  · exact .inr ⟨.tail _ (.head _), nadd L (a := 4) (b := 3) (by decide)⟩
  rcases List.mem_cons.mp hp with rfl | hp
  · exact .inl rfl
  rcases List.mem_cons.mp hp with rfl | hp
  · exact .inr ⟨.tail _ (.tail _ (.tail _ (.head _))), nadd L (a := 2) (b := 3) (by decide)⟩
  rcases List.mem_cons.mp hp with rfl | hp
  · exact .inr ⟨.tail _ (.tail _ (.tail _ (.tail _ (.head _)))), nadd L (a := 1) (b := 3) (by decide)⟩
  · exact .inr ⟨.tail _ (.tail _ (.tail _ (.tail _ (.tail _ hp)))), Nat.ne_of_lt (Nat.lt_of_lt_of_le (l1 p hp) (Nat.le_add_right L 3))⟩
theorem base_4 : ∀ p ∈ base5 L o5 o' o3 o2 o1 news, p = (L + 1 + 1 + 1 + 1, o') ∨ (p ∈ base5 L o5 o4 o3 o2 o1 news ∧ p.1 ≠ L + 1 + 1 + 1 + 1) := fun p hp => by
  rcases List.mem_cons.mp hp with rfl | hp
  · exact .inr ⟨.head _, nadd L (a := 5) (b := 4) (by decide)⟩
  rcases List.mem_cons.mp hp with rfl | hp
  · exact .inl rfl
  rcases List.mem_cons.mp hp with rfl | hp
  · exact .inr ⟨.tail _ (.tail _ (.head _)), nadd L (a := 3) (b := 4) (by decide)⟩
  rcases List.mem_cons.mp hp with rfl | hp
  · exact .inr ⟨.tail _ (.tail _ (.tail _ (.head _))), nadd L (a := 2) (b := 4) (by decide)⟩
  rcases List.mem_cons.mp hp with rfl | hp
  · exact .inr ⟨.tail _ (.tail _ (.tail _ (.tail _ (.head _)))), nadd L (a := 1) (b := 4) (by decide)⟩
  · exact .inr ⟨.tail _ (.tail _ (.tail _ (.tail _ (.tail _ hp)))), Nat.ne_of_lt (Nat.lt_of_lt_of_le (l1 p hp) (Nat.le_add_right L 4))⟩
theorem base_5 : ∀ p ∈ base5 L o' o4 o3 o2 o1 news, p = (L + 1 + 1 + 1 + 1 + 1, o') ∨ (p ∈ base5 L o5 o4 o3 o2 o1 news ∧ p.1 ≠ L + 1 + 1 + 1 + 1 + 1) := fun p hp => by
  rcases List.mem_cons.mp hp with rfl | hp
  · exact .inl rfl
  rcases List.mem_cons.mp hp with rfl | hp
  · exact .inr ⟨.tail _ (.head _), nadd L (a := 4) (b := 5) (by decide)⟩
  rcases List.mem_cons.mp hp with rfl | hp
  · exact .inr ⟨.tail _ (.tail _ (.head _)), nadd L (a := 3) (b := 5) (by decide)⟩
  rcases List.mem_cons.mp hp with rfl | hp
  · exact .inr ⟨.tail _ (.tail _ (.tail _ (.head _))), nadd L (a := 2) (b := 5) (by decide)⟩
  rcases List.mem_cons.mp hp with rfl | hp
  · exact .inr ⟨.tail _ (.tail _ (.tail _ (.tail _ (.head _)))), nadd L (a := 1) (b := 5) (by decide)⟩
  · exact .inr ⟨.tail _ (.tail _ (.tail _ (.tail _ (.tail _ hp)))), Nat.ne_of_lt (Nat.lt_of_lt_of_le (l1 p hp) (Nat.le_add_right L 5))⟩
end
theorem now_cons {x : Addr} {o' : Obj} {q : Addr × Obj} {B B' : List (Addr × Obj)} (hq : q.1 ≠ x) (hB : ∀ p ∈ B', p = (x, o') ∨ (p ∈ B ∧ p.1 ≠ x)) : ∀ p ∈ q :: B', p = (x, o') ∨ (p ∈ q :: B ∧ p.1 ≠ x) := fun p hp => by
  rcases List.mem_cons.mp hp with rfl | hp
  · exact .inr ⟨.head _, hq⟩
  · exact (hB p hp).imp id fun ⟨a, b⟩ => ⟨.tail _ a, b⟩
/-- one object of a part at the list's end has changed -/
theorem now_app {x : Addr} {o' : Obj} {A B B' : List (Addr × Obj)} (hA : ∀ p ∈ A, p.1 ≠ x) (hB : ∀ p ∈ B', p = (x, o') ∨ (p ∈ B ∧ p.1 ≠ x)) : ∀ p ∈ A ++ B', p = (x, o') ∨ (p ∈ A ++ B ∧ p.1 ≠ x) := fun p hp => by
  rcases List.mem_append.mp hp with hp | hp
  · exact .inr ⟨List.mem_append_left _ hp, hA p hp⟩
  · exact (hB p hp).imp id fun ⟨a, b⟩ => ⟨List.mem_append_right _ a, b⟩
local macro_rules | `(tactic| walk_at "eval Name") => `(tactic| (k_here; (with_reducible show wpAny _ _ (eval (Expr.Name _ _) (compEnvC _ _ _ _)) _ _ _); k_dflt ((refine' lcf_cell ?N ?c ?m ?d ?_ ?a ?b; (case a => rfl); (case b => rfl); (case N => assumption); (case c => rfl); (case m => exact .tail _ (.tail _ (.tail _ (by assumption)))); (case d => with_reducible assumption)))))
local macro_rules | `(tactic| walk_at "eval Name") => `(tactic| (k_here; (with_reducible show wpAny _ _ (eval (Expr.Name _ _) (envOfC _ _ _ _ _)) _ _ _); k_dflt ((refine' nameX_C ?N ?c ?m ?d ?_ ?k ?x ?b; (case k => rfl); (case x => rfl); (case b => decide); (case N => assumption); (case c => rfl); (case m => first | assumption | exact .tail _ (by assumption)); (case d => with_reducible assumption)))))
local macro_rules | `(tactic| walk_at "exec Assign cons ListComp") => `(tactic| (k_here; (first
  | (with_reducible show wpAny _ _ (exec (Stmt.Assign [Expr.Name (Str.ofString "lamps") _] _ _) _) _ _ _)
  | (with_reducible show wpAny _ _ (exec (Stmt.Assign [Expr.Name (Str.ofString "told") _] _ _) _) _ _ _)); k_dflt (refine wpAny_Assign_Name ?_)))
local macro_rules | `(tactic| walk_at "compareOp NotEq ref ref") => `(tactic| (k_here; k_dflt (refine' ne_cols ?nN ?nm ?nm2 ?ni ?ni2 ?nc ?nc2 ?nk ?nk2 ?nl ?nn ?nb ?nu ?_; (case nN => assumption); (case nm => assumption); (case nm2 => assumption); (case ni => assumption); (case ni2 => assumption); (case nc => assumption); (case nc2 => assumption); (case nk => assumption); (case nk2 => assumption); (case nl => assumption); (case nn => assumption); (case nb => assumption); (case nu => exact units_ok (by assumption)))))
local macro_rules | `(tactic| walk_at "MYMEM") => `(tactic| first | assumption | exact .head _ | exact .tail _ (by assumption) | exact .tail _ (.head _) | exact .tail _ (.tail _ (by assumption)))
local macro_rules | `(tactic| walk_at "subscriptTail Name Slice ref ref") => `(tactic| (k_here; k_dflt (refine' kmk_slice_ints (vs := Array.toList _) ?lF ?lN ?ll ?lp ?lq ?li ?lm ?lc ?_ ?ls ?lt ?lz; (case lF => assumption); (case lN => assumption); (case ll => exact led_list (by assumption) (by walk_at "MYMEM")); (case lp => exact IsPart.int _ _); (case lq => exact IsPart.none); (case li => assumption); (case lm => exact kmk_from (by assumption) (by decide)); (case lc => exact rfl); (case ls => with_unfolding_all rfl); (case lt => (intro _; with_unfolding_all rfl)); (case lz => exact sz_ok (by assumption))); intro _ _ _ _ _ _ _ _ _))
local macro_rules | `(tactic| walk_at "subscriptTail Name Constant ref int") => `(tactic| (k_here; k_dflt (refine' sub_ints ?suN ?suM ?suI ?suL ?su0 ?su1 ?_; (case suN => assumption); (case suM => walk_at "MYMEM"); (case suI => assumption); (case suL => assumption); (case su0 => decide); (case su1 => decide)); intro _))
local macro_rules | `(tactic| walk_at "binaryOp Add ref ref") => `(tactic| (k_here; k_dflt (refine' kmk_add_ints ?aF ?aN ?aa ?ab ?ai ?aj ?_ ?az; (case aF => assumption); (case aN => assumption); (case aa => exact led_list (vs := List.toArray _) (by assumption) (by walk_at "MYMEM")); (case ab => exact led_list (vs := List.toArray _) (by assumption) (.head _)); (case ai => assumption); (case aj => exact .cons _ _ .nil); (case az => exact add5_ok (by assumption))); intro _ _ _ _ _ _ _))
local macro_rules | `(tactic| walk_at "S") => `(tactic| repeat' ((fail_if_success (with_reducible show wpAny _ _ (exec (Stmt.While _ _ _ _) _) _ _ _)); (fail_if_success (with_reducible show wpAny _ _ (pyIter _) (fun it s₂ => codeAny _ _ _ _ _) _ _)); (fail_if_success (with_reducible show wpAny _ _ (pyIter _) (CompAt _ _ _ _ _ _ _ _ _ _ _ _ _) _ _)); (fail_if_success (with_reducible show wpAny _ _ (storeName (envOfC _ _ _ _ _) _ _) _ _ _)); first | walk1 | (dsimp only; walk1)))
local macro_rules | `(tactic| walk_at "subscriptTail Name Name ref int") => `(tactic| (k_here; k_dflt (refine' sub_news ?suN ?suM ?su0 ?su1 ?suX ?_; (case suN => assumption); (case suM => exact .tail _ (.tail _ (.tail _ (by assumption)))); (case su0 => with_reducible assumption); (case su1 => with_reducible assumption); (case suX => with_reducible assumption))))
local macro_rules | `(tactic| walk_at "subscriptTail Name Constant ref int") => `(tactic| (k_here; k_dflt (refine' tup_item0 ?suN ?suM ?su0 ?_; (case suN => assumption); (case suM => exact .tail _ (.tail _ (.tail _ (by assumption)))); (case su0 => with_reducible assumption))))
local macro_rules | `(tactic| walk_at "S3") => `(tactic| repeat' ((fail_if_success (with_reducible show wpAny _ _ (call (Value.type "range") _) _ _ _)); first | walk1 | (dsimp only; walk1)))
local macro_rules | `(tactic| walk_at "getMethod ref") => `(tactic| (k_here; (with_reducible show wpAny _ _ (getMethod (Value.ref _) (PySem.Str.ofString "index") _) _ _ _); k_dflt (refine' kf_method ?gN ?gm PySem.F.slot_list_index PySem.F.type_list_index ?_; (case gN => assumption); (case gm => exact .tail _ (.tail _ (.tail _ (by assumption)))))))
local macro_rules | `(tactic| walk_at "S4") => `(tactic| repeat' ((fail_if_success (with_reducible show wpAny _ _ (call (Value.builtin "list.index") _) _ _ _)); first | walk1 | (dsimp only; walk1)))
local macro_rules | `(tactic| walk_at "binaryOp Div float int") => `(tactic| (k_here; k_dflt (refine divf2 (by with_reducible assumption) ?_)))
local macro_rules | `(tactic| walk_at "binaryOp Div int int") => `(tactic| (k_here; k_dflt (refine div16 (by assumption) (by assumption) ?_)))
local macro_rules | `(tactic| walk_at "MYTOK") => `(tactic| first | with_reducible assumption | (refine Nat.le_succ_of_le ?_; walk_at "MYTOK"))
local macro_rules | `(tactic| walk_at "call ref") => `(tactic| (k_here; (with_reducible show wpAny _ _ (call (Value.ref 28) _) _ _ _); k_dflt (refine' wpAny_with_toks (n := LSt.T _) ?hvT (hsv_c (Cx.nest (by assumption) (by assumption) (by assumption) (by assumption) (by assumption) (by assumption) rfl rfl (by assumption) (by assumption) (by assumption)) ?hv1 ?hv2 ?hv3 ?_); (case hvT => walk_at "MYTOK"); (case hv1 => decide +kernel); (case hv2 => with_reducible assumption); (case hv3 => with_reducible assumption)); intro _ _ _ _ _ _ _ _ _ _ _ _ _))
local macro_rules | `(tactic| walk_at "call ref") => `(tactic| (k_here; (with_reducible show wpAny _ _ (call (Value.ref 21) _) _ _ _); k_dflt (refine' wpAny_with_toks (n := LSt.T _) ?hvT (hls_c (Cx.nest (by assumption) (by assumption) (by assumption) (by assumption) (by assumption) (by assumption) rfl rfl (by assumption) (by assumption) (by assumption)) ?hv1 ?hv2 ?hv3 ?hv4 ?_); (case hvT => walk_at "MYTOK"); (case hv1 => with_reducible assumption); (case hv2 => with_reducible assumption); (case hv3 => with_reducible assumption); (case hv4 => with_reducible assumption)); intro _ _ _ _ _ _ _ _ _ _ _))
set_option maxRecDepth 100000 in
set_option maxHeartbeats 8000000 in
theorem leads_c {w : World} {mean : ExcName → Option Value} {mg mb : Str → Option Value} {A A₀ : Around} {env : Env} {outer : List Env} {base h₀ : Heap} {L : Addr} {m : Str → Option Value} {news : List (Addr × Obj)} {s : Shared} {Q E : Value → Shared → Prop}
    (C : Cx w mean mg mb A A₀ env outer base h₀ L m news s) {hl : Addr} {bb : UInt64} {tb : Tok} {hv : Array Value} {hc : Nat} {hs : List Int} (hd2 : A.depth + 16 < recursionLimit) (hu2 : A.units + 256 < cLine) (hbb : bb ∈ brights) (htb : tb ≠ 0) (htl : tb ≤ s.toks) (hhm : (hl, W.listOf hv hc) ∈ news) (hhi : IntsAre hv.toList hs) (hlen : hs.length = 5) (hhs : ∀ x ∈ hs, 0 ≤ x ∧ x < 28) (hgp : ∀ i, i < 5 → 1 ≤ gapOf hs i ∧ gapOf hs i ≤ 12) (hmod : ∀ i k, i < 5 → k < 5 → ((hs.getD i 0).fmod 16 = ((hs.getD k 0).fmod 16 + gapOf hs k).fmod 16 ↔ i = (k + 1) % 5))
    (hret : ∀ a vs cnt h' tk', (∀ p ∈ news, p.1 < a) → IntsAre vs.toList nextL → Fr h₀ L h' m → News h₀ L h' ((a, W.listOf vs cnt) :: news) → Q (.ref a) { s with heap := h', toks := tk' }) :
    wpAny (PM w) A (call (.ref 191) [.ref hl, .float bb tb]) Q E s := by
  obtain ⟨B, F, X, N, T, hA, hf, hk, hd, hu, hh⟩ := C
  refine wpAny_call ?_
  delta PM; revert X; k_fill; intro X
  k_dflt (refine' enter_cells (binds := [(Str.ofString "hues", .ref hl), (Str.ofString "bright", .float bb tb)]) ?k1 ?k2 ?k3 ?k4 ?k5 ?kA ?kF ?kK ?k6 ?k7 ?k8 ?k9 ?kB ?kD ?_ ?c2 ?c3 ?c4; (case kA => exact hA); (case kF => exact hf); (case kK => exact hk); (case k1 => exact B); (case k2 => exact F); (case k3 => exact X); (case k4 => exact N); (case k5 => exact T); (case k6 => k_is); (case k7 => k_is); (case k8 => omega); (case k9 => exact BindsTo.of_eq rfl); (case kB => exact rfl); (case kD => decide +kernel); (case c2 => exact rfl); (case c3 => exact rfl); (case c4 => exact rfl); k_whole; intro g' L' h' tk' cells' ht' FG' F' N' Y' B' X' T' l1; k_cells Y'; (try simp only [List.cons_append, List.nil_append] at N'); (try dsimp only); refine wpAny_noRaise ?_; (try k_fold))
  clear B F X N T FG'
  walk_at "S"
  rename_i o5 o4 o3 o2 o1 d5 d4 d3 d2 d1
  have e1 : o1.data = .cell (some (.ref hl)) := d1
  have e2 : o2.data = .cell (some (.float bb tb)) := d2
  have e3 : o3.data = .cell none := d3
  have e4 : o4.data = .cell none := d4
  have e5 : o5.data = .cell none := d5
  clear d1 d2 d3 d4 d5
  have hz5 : hv.size ≤ 16777216 := by rw [← Array.length_toList, ia_len hhi, hlen]; decide
  k_dflt (refine' comp_list (vs := hv) (o := W.listOf hv hc) CUse.none F' N' (fun _ v mc y => if y = Str.ofString "hue" then some v else mc y) (fun c : LSt => c.ts ++ (base5 L' o5 o4 o3 o2 o1 news)) (fun c => c.T) (LampsP tb bb tk' (hs.map fun x => colr x bb) (base5 L' o5 o4 o3 o2 o1 news)) ?a1u ?a1O ?a1l ?a1o ?a1h ?a1z ?a1c ?a1k ?a1U ?a1T ?a1turn ?a1done)
  case a1u => exact ⟨⟨[], [], tk'⟩, fun I hI => ⟨rows_nil hI, (fun _ h => nomatch h), Nat.le_refl _⟩, rfl, Nat.le_refl _⟩
  case a1O => exact fun I i ys c hP => hP.1.off
  case a1l => exact .inr fun _ => List.mem_append_right _ (.tail _ (.tail _ (.tail _ (.tail _ (.tail _ hhm)))))
  case a1o => exact ⟨rfl, _, rfl⟩
  case a1h => exact hh
  case a1z => exact hz5
  case a1c => decide
  case a1k => rfl
  case a1U => trivial
  case a1T => exact fun I i ys c It _ _ => tgt_name rfl rfl
  case a1turn =>
    rintro I i ys cnt c v h tk oI oC mc hv hP hT F FC N
    obtain ⟨x, t, hx, rfl⟩ := ia_at hhi hv
    have hx28 := hhs x (List.mem_of_getElem? hx)
    have hsm := hs_small hx28
    obtain ⟨hf1, hf2⟩ := hsv_fits hx28
    have m2 : (L' + 1 + 1, o2) ∈ c.ts ++ (base5 L' o5 o4 o3 o2 o1 news) := List.mem_append_right _ (.tail _ (.tail _ (.tail _ (.head _))))
    walk_at "S"
    rename_i a h9 tk9 u1 u2 u3 hfr c1 c2 c3 F9 N9 hT9
    exact ⟨⟨c.ts ++ [_], c.ks ++ [_], tk9⟩, _, _, lamps_push (k := colr x bb) (t := (u1, u2, u3)) hP (by rw [List.getElem?_map, hx]; rfl) hT hT9 htb (c1.mono (Nat.le_add_right tk 3) (Nat.le_refl _)) (c2.mono (Nat.le_add_right tk 3) (Nat.le_refl _)) (c3.mono (Nat.le_add_right tk 3) (Nat.le_refl _)) (new_off hfr), Nat.le_refl _, rfl, F9, lamps_news N9⟩
  case a1done =>
    rintro I ys cnt c hP h tk hT F N
    have hR := hP.1
    have hyz : ys.size ≤ 16777216 := by
      rw [← Array.length_toList, hR.1, List.length_map, hR.2.1.1, ← List.length_map (f := (·.1)), hR.2.2.1]
      exact Nat.le_trans (List.length_take_le _ _) hz5
    walk_at "S"
    have mo3 : (L' + 1 + 1 + 1, o3) ∈ (I + 1, W.listOf ys cnt) :: (c.ts ++ base5 L' o5 o4 o3 o2 o1 news) := .tail _ (List.mem_append_right _ (.tail _ (.tail _ (.head _))))
    k_dflt (refine' store_cell F N ?sc1 mo3 e3 ?_ ?sc2 ?sc3; (case sc1 => rfl); (case sc2 => rfl); (case sc3 => rfl))
    intro h1 o3' F1 N1 e3'
    have hmI : ∀ p ∈ base5 L' o5 o4 o3 o2 o1 news, p.1 < I := hP.1.2.2.2.2
    have hI3 : L' + 1 + 1 + 1 < I := hmI _ (.tail _ (.tail _ (.head _)))
    have N2 : News g' L' h1 ((I + 1, W.listOf ys cnt) :: (c.ts ++ base5 L' o5 o4 o3' o2 o1 news)) := N1 _ (now_cons (Nat.ne_of_gt (Nat.lt_succ_of_lt hI3)) (now_app (fun p hp => Nat.ne_of_gt (Nat.lt_trans hI3 (Nat.lt_of_le_of_lt (Nat.le_add_right I 2) (hP.1.2.2.2.1 p hp)))) (base_3 (o3 := o3) l1)))
    clear N N1 F mo3
    have q3 : (L' + 1 + 1 + 1, o3') ∈ (I + 1, W.listOf ys cnt) :: (c.ts ++ base5 L' o5 o4 o3' o2 o1 news) := .tail _ (List.mem_append_right _ (.tail _ (.tail _ (.head _))))
    dsimp only
    walk_at "S"
    have hTB := hP.2.1
    have hlo : tk' ≤ c.T := hP.2.2
    clear hP
    k_dflt (refine' comp_list (vs := ys) (o := W.listOf ys cnt) CUse.none F1 N2 (fun i _ mc y => if y = Str.ofString "b" then some (triple c.ks i).2.2 else if y = Str.ofString "g" then some (triple c.ks i).2.1 else if y = Str.ofString "r" then some (triple c.ks i).1 else mc y) (fun d : LSt => d.ts ++ ((I + 1, W.listOf ys cnt) :: (c.ts ++ base5 L' o5 o4 o3' o2 o1 news))) (fun d => d.T) (ToldP c.T (hs.map fun x => toldOf x bb) ((I + 1, W.listOf ys cnt) :: (c.ts ++ base5 L' o5 o4 o3' o2 o1 news))) ?a2u ?a2O ?a2l ?a2o ?a2h ?a2z ?a2c ?a2k ?a2U ?a2T ?a2turn ?a2done)
    case a2u => exact ⟨⟨[], [], c.T⟩, fun I hI => ⟨rows_nil hI, rfl⟩, rfl, hT⟩
    case a2O => exact fun I i ys c hP => hP.1.off
    case a2l => exact .inr fun _ => List.mem_append_right _ (.head _)
    case a2o => exact ⟨rfl, _, rfl⟩
    case a2h => exact hh
    case a2z => exact hyz
    case a2c => decide
    case a2k => rfl
    case a2U => trivial
    case a2T =>
      refine fun I2 i ys2 c2 It _ hIt => tgt_tup3 (triple c.ks) hh rfl rfl rfl rfl hIt fun i v hi hv => ?_
      obtain ⟨p, k, hp, hk, rfl, ⟨hpo, -⟩, -⟩ := rows_at hR hv
      refine ⟨p.1, p.2, 0, rfl, List.mem_append_right _ (.tail _ (List.mem_append_left _ (List.mem_of_getElem? hp))), by rw [hpo], by rw [hpo, triple_at hk]⟩
    case a2turn =>
      rintro I2 i ys2 cnt2 c2 v h tk oI oC mc hv hP hT F FC N
      obtain ⟨p, ⟨k, t1, t2, t3⟩, hp, hk, rfl, -, hxk⟩ := rows_at hR hv
      obtain ⟨x, hxs, rfl⟩ : ∃ x, hs[i]? = some x ∧ colr x bb = k := by
        rw [List.take_of_length_le (by rw [List.length_map, hlen, ← Array.length_toList, ia_len hhi, hlen]; exact Nat.le_refl _), List.getElem?_map] at hxk
        exact Option.map_eq_some_iff.mp hxk
      have hx28 := hhs x (List.mem_of_getElem? hxs)
      obtain ⟨z1, z2, z3, z4⟩ := hls_split (hls_fits hx28 hbb)
      simp only [triple_at hk] at FC
      walk_at "S"
      rename_i a u1 u2 u3 h9 tk9 hfr nz F9 N9 hT9
      exact ⟨⟨c2.ts ++ [(a, _)], c2.ks ++ [_], c2.T⟩, _, _, ⟨rows_push (k := toldOf x bb) (t := (u1, u2, u3)) hP.1 (by rw [List.getElem?_map, hxs]; rfl) (tup_told (told_eq hx28 hbb) nz) (new_off hfr), hP.2⟩, hT9, rfl, F9, lamps_news N9⟩
    case a2done =>
      clear N2 q3 F1
      rintro I2 ys2 cnt2 c2 ⟨hR2, hc2⟩ h tk hT2 F N
      have hyz2 : ys2.size ≤ 16777216 := by
        rw [← Array.length_toList, hR2.1, List.length_map, hR2.2.1.1, ← List.length_map (f := (·.1)), hR2.2.2.1]
        exact Nat.le_trans (List.length_take_le _ _) hyz
      have hII : I + 1 < I2 := hR2.2.2.2.2 _ (.head _)
      have hI4 : L' + 1 + 1 + 1 + 1 < I := hmI _ (.tail _ (.head _))
      have hI24 : L' + 1 + 1 + 1 + 1 < I2 := Nat.lt_trans (Nat.lt_succ_of_lt hI4) hII
      walk_at "S"
      have mo4 : (L' + 1 + 1 + 1 + 1, o4) ∈ (I2 + 1, W.listOf ys2 cnt2) :: (c2.ts ++ ((I + 1, W.listOf ys cnt) :: (c.ts ++ base5 L' o5 o4 o3' o2 o1 news))) := .tail _ (List.mem_append_right _ (.tail _ (List.mem_append_right _ (.tail _ (.head _)))))
      k_dflt (refine' store_cell F N ?sd1 mo4 e4 ?_ ?sd2 ?sd3; (case sd1 => rfl); (case sd2 => rfl); (case sd3 => rfl))
      intro h2 o4' F3 N3 e4'
      have N4 : News g' L' h2 ((I2 + 1, W.listOf ys2 cnt2) :: (c2.ts ++ ((I + 1, W.listOf ys cnt) :: (c.ts ++ base5 L' o5 o4' o3' o2 o1 news)))) := N3 _ (now_cons (Nat.ne_of_gt (Nat.lt_succ_of_lt hI24)) (now_app (fun p hp => Nat.ne_of_gt (Nat.lt_trans hI24 (Nat.lt_of_le_of_lt (Nat.le_add_right I2 2) (hR2.2.2.2.1 p hp)))) (now_cons (Nat.ne_of_gt (Nat.lt_succ_of_lt hI4)) (now_app (fun p hp => Nat.ne_of_gt (Nat.lt_trans hI4 (Nat.lt_of_le_of_lt (Nat.le_add_right I 2) (hR.2.2.2.1 p hp)))) (base_4 (o4 := o4) l1)))))
      clear N N3 F mo4
      have q4 : (L' + 1 + 1 + 1 + 1, o4') ∈ (I2 + 1, W.listOf ys2 cnt2) :: (c2.ts ++ ((I + 1, W.listOf ys cnt) :: (c.ts ++ base5 L' o5 o4' o3' o2 o1 news))) := .tail _ (List.mem_append_right _ (.tail _ (List.mem_append_right _ (.tail _ (.head _)))))
      have q1 : (L' + 1, o1) ∈ (I2 + 1, W.listOf ys2 cnt2) :: (c2.ts ++ ((I + 1, W.listOf ys cnt) :: (c.ts ++ base5 L' o5 o4' o3' o2 o1 news))) := .tail _ (List.mem_append_right _ (.tail _ (List.mem_append_right _ (.tail _ (.tail _ (.tail _ (.tail _ (.head _))))))))
      dsimp only
      walk_at "S"
      k_dflt (refine' comp_list (vs := hv) (o := W.listOf hv hc) CUse.none F3 N4 (fun _ v mc y => if y = Str.ofString "hue" then some v else mc y) (fun d : LSt => d.ts ++ ((I2 + 1, W.listOf ys2 cnt2) :: (c2.ts ++ ((I + 1, W.listOf ys cnt) :: (c.ts ++ base5 L' o5 o4' o3' o2 o1 news))))) (fun d => d.T) (ToldP c.T (hs.map fun x => toldOf x bb) ((I2 + 1, W.listOf ys2 cnt2) :: (c2.ts ++ ((I + 1, W.listOf ys cnt) :: (c.ts ++ base5 L' o5 o4' o3' o2 o1 news))))) ?a3u ?a3O ?a3l ?a3o ?a3h ?a3z ?a3c ?a3k ?a3U ?a3T ?a3turn ?a3done)
      case a3u => exact ⟨⟨[], [], c.T⟩, fun I hI => ⟨rows_nil hI, rfl⟩, rfl, hc2 ▸ hT2⟩
      case a3O => exact fun I i ys c hP => hP.1.off
      case a3l => exact .inr fun _ => List.mem_append_right _ (.tail _ (List.mem_append_right _ (.tail _ (List.mem_append_right _ (.tail _ (.tail _ (.tail _ (.tail _ (.tail _ hhm)))))))))
      case a3o => exact ⟨rfl, _, rfl⟩
      case a3h => exact hh
      case a3z => exact hz5
      case a3c => decide
      case a3k => rfl
      case a3U => trivial
      case a3T => exact fun I i ys c It _ _ => tgt_name rfl rfl
      case a3turn =>
        rintro I3 i ys3 cnt3 c3 v h tk oI oC mc hv hP hT F FC N
        obtain ⟨x, t, hx, rfl⟩ := ia_at hhi hv
        have hfm : 0 ≤ x.fmod 16 ∧ x.fmod 16 < 1000 := fm_ok
        have m2 : (L' + 1 + 1, o2) ∈ c3.ts ++ ((I2 + 1, W.listOf ys2 cnt2) :: (c2.ts ++ ((I + 1, W.listOf ys cnt) :: (c.ts ++ base5 L' o5 o4' o3' o2 o1 news)))) := List.mem_append_right _ (.tail _ (List.mem_append_right _ (.tail _ (List.mem_append_right _ (.tail _ (.tail _ (.tail _ (.head _))))))))
        clear q1 q4
        walk_at "S"
        refine newTuple_N F N (fun h9 F9 N9 => ?_)
        exact ⟨⟨c3.ts ++ [(h.objs.size, _)], c3.ks ++ [_], c3.T⟩, _, _, ⟨rows_push (k := toldOf x bb) (t := (tk + 1 + 1 + 1, tk + 1 + 1 + 1 + 1 + 1, tk + 1 + 1 + 1 + 1 + 1 + 1)) hP.1 (by rw [List.getElem?_map, hx]; rfl) ⟨rfl, Nat.succ_ne_zero _, Nat.succ_ne_zero _, Nat.succ_ne_zero _⟩ (new_off fun p hp => Heap.lt_size (N p hp).1), hP.2⟩, (by walk_at "MYTOK"), rfl, F9, lamps_news N9⟩
      case a3done =>
        clear N4 F3 q1 q4
        rintro I3 ys3 cnt3 c3 ⟨hR3, hc3⟩ h tk hT3 F N
        have qD : (I2 + 1, W.listOf ys2 cnt2) ∈ ((I3 + 1, W.listOf ys3 cnt3) :: (c3.ts ++ ((I2 + 1, W.listOf ys2 cnt2) :: (c2.ts ++ ((I + 1, W.listOf ys cnt) :: (c.ts ++ base5 L' o5 o4' o3' o2 o1 news)))))) := .tail _ (List.mem_append_right _ (.head _))
        have qE : (I3 + 1, W.listOf ys3 cnt3) ∈ ((I3 + 1, W.listOf ys3 cnt3) :: (c3.ts ++ ((I2 + 1, W.listOf ys2 cnt2) :: (c2.ts ++ ((I + 1, W.listOf ys cnt) :: (c.ts ++ base5 L' o5 o4' o3' o2 o1 news)))))) := .head _
        have r2 := hR2.1
        have r3 := hR3.1
        have k2 := hR2.2.1
        have k3 := hR3.2.1
        have s2 : ∀ p ∈ c2.ts, p ∈ ((I3 + 1, W.listOf ys3 cnt3) :: (c3.ts ++ ((I2 + 1, W.listOf ys2 cnt2) :: (c2.ts ++ ((I + 1, W.listOf ys cnt) :: (c.ts ++ base5 L' o5 o4' o3' o2 o1 news)))))) := fun p hp => .tail _ (List.mem_append_right _ (.tail _ (List.mem_append_left _ hp)))
        have s3 : ∀ p ∈ c3.ts, p ∈ ((I3 + 1, W.listOf ys3 cnt3) :: (c3.ts ++ ((I2 + 1, W.listOf ys2 cnt2) :: (c2.ts ++ ((I + 1, W.listOf ys cnt) :: (c.ts ++ base5 L' o5 o4' o3' o2 o1 news)))))) := fun p hp => .tail _ (List.mem_append_left _ hp)
        have hv5 : hv.size = 5 := by rw [← Array.length_toList, ia_len hhi, hlen]
        have y5 : ys.size = 5 := by
          rw [← Array.length_toList, hR.1, List.length_map, hR.2.1.1, ← List.length_map (f := (·.1)), hR.2.2.1, List.length_take, List.length_map, hlen, hv5]; rfl
        have l2 : c2.ks.map (·.1) = hs.map fun x => toldOf x bb := by rw [hR2.2.2.1, List.take_of_length_le (by rw [List.length_map, hlen, y5]; exact Nat.le_refl _)]
        have l3 : c3.ks.map (·.1) = hs.map fun x => toldOf x bb := by rw [hR3.2.2.1, List.take_of_length_le (by rw [List.length_map, hlen, hv5]; exact Nat.le_refl _)]
        have l23 : c2.ks.map (·.1) = c3.ks.map (·.1) := l2.trans l3.symm
        have hn2 : ∀ k ∈ c2.ks, ceq k.1 k.1 = true := fun k hk => by
          have : k.1 ∈ hs.map fun x => toldOf x bb := l2 ▸ List.mem_map_of_mem hk
          obtain ⟨x, hx, e⟩ := List.mem_map.mp this
          rw [← e]
          exact List.all_eq_true.mp (List.all_eq_true.mp tab7 bb hbb) x (hueOk (hhs x hx))
        have hb : NoneBooked h := booked_keep F (booked_of X' T')
        have q1 : (L' + 1, o1) ∈ ((I3 + 1, W.listOf ys3 cnt3) :: (c3.ts ++ ((I2 + 1, W.listOf ys2 cnt2) :: (c2.ts ++ ((I + 1, W.listOf ys cnt) :: (c.ts ++ base5 L' o5 o4' o3' o2 o1 news)))))) := .tail _ (List.mem_append_right _ (.tail _ (List.mem_append_right _ (.tail _ (List.mem_append_right _ (.tail _ (.tail _ (.tail _ (.tail _ (.head _)))))))))) 
        have qH : (hl, W.listOf hv hc) ∈ ((I3 + 1, W.listOf ys3 cnt3) :: (c3.ts ++ ((I2 + 1, W.listOf ys2 cnt2) :: (c2.ts ++ ((I + 1, W.listOf ys cnt) :: (c.ts ++ base5 L' o5 o4' o3' o2 o1 news)))))) := .tail _ (List.mem_append_right _ (.tail _ (List.mem_append_right _ (.tail _ (List.mem_append_right _ (.tail _ (.tail _ (.tail _ (.tail _ (.tail _ hhm))))))))))
        walk_at "S"
        rename_i D9 us h9 F9 N9 l9 hI9
        have NB : News g' L' h9 ((D9, W.listOf us.toArray 0) :: ((I3 + 1, W.listOf ys3 cnt3) :: (c3.ts ++ ((I2 + 1, W.listOf ys2 cnt2) :: (c2.ts ++ ((I + 1, W.listOf ys cnt) :: (c.ts ++ base5 L' o5 o4' o3' o2 o1 news))))))) := fun p hp => by
          rcases List.mem_cons.mp hp with rfl | hp
          · exact N9 _ (.head _)
          · exact N9 _ (.tail _ (.tail _ (.tail _ hp)))
        have mo5 : (L' + 1 + 1 + 1 + 1 + 1, o5) ∈ ((D9, W.listOf us.toArray 0) :: ((I3 + 1, W.listOf ys3 cnt3) :: (c3.ts ++ ((I2 + 1, W.listOf ys2 cnt2) :: (c2.ts ++ ((I + 1, W.listOf ys cnt) :: (c.ts ++ base5 L' o5 o4' o3' o2 o1 news))))))) := .tail _ (.tail _ (List.mem_append_right _ (.tail _ (List.mem_append_right _ (.tail _ (List.mem_append_right _ (.head _)))))))
        have hD9 : L' + 1 + 1 + 1 + 1 + 1 < D9 := l9 _ (.tail _ (.tail _ (.tail _ (List.mem_append_right _ (.tail _ (List.mem_append_right _ (.tail _ (List.mem_append_right _ (.head _)))))))))
        have hI5 : L' + 1 + 1 + 1 + 1 + 1 < I := hmI _ (.head _)
        have hI25 : L' + 1 + 1 + 1 + 1 + 1 < I2 := Nat.lt_trans (Nat.lt_succ_of_lt hI5) hII
        have hII2 : I2 + 1 < I3 := hR3.2.2.2.2 _ (.head _)
        have hI35 : L' + 1 + 1 + 1 + 1 + 1 < I3 := Nat.lt_trans (Nat.lt_succ_of_lt hI25) hII2
        clear N9 q1 qE qH
        k_dflt (refine' store_cell F9 NB ?se1 mo5 e5 ?_ ?se2 ?se3; (case se1 => rfl); (case se2 => rfl); (case se3 => rfl))
        intro h10 o5' F10 N10 e5'
        have N11 : News g' L' h10 ((D9, W.listOf us.toArray 0) :: ((I3 + 1, W.listOf ys3 cnt3) :: (c3.ts ++ ((I2 + 1, W.listOf ys2 cnt2) :: (c2.ts ++ ((I + 1, W.listOf ys cnt) :: (c.ts ++ base5 L' o5' o4' o3' o2 o1 news))))))) := N10 _ (now_cons (Nat.ne_of_gt hD9) (now_cons (Nat.ne_of_gt (Nat.lt_succ_of_lt hI35)) (now_app (fun p hp => Nat.ne_of_gt (Nat.lt_trans hI35 (Nat.lt_of_le_of_lt (Nat.le_add_right I3 2) (hR3.2.2.2.1 p hp)))) (now_cons (Nat.ne_of_gt (Nat.lt_succ_of_lt hI25)) (now_app (fun p hp => Nat.ne_of_gt (Nat.lt_trans hI25 (Nat.lt_of_le_of_lt (Nat.le_add_right I2 2) (hR2.2.2.2.1 p hp)))) (now_cons (Nat.ne_of_gt (Nat.lt_succ_of_lt hI5)) (now_app (fun p hp => Nat.ne_of_gt (Nat.lt_trans hI5 (Nat.lt_of_le_of_lt (Nat.le_add_right I 2) (hR.2.2.2.1 p hp)))) (base_5 (o5 := o5) l1))))))))
        clear NB N10 mo5 F9 s2 s3 qD
        dsimp only
        walk_at "S3"
        refine wpAny_with_toks (n := c3.T) (by walk_at "MYTOK") ?_
        walk1
        intro hTr
        have y2 : ys2.size = 5 := by
          rw [← Array.length_toList, hR2.1, List.length_map, hR2.2.1.1, ← List.length_map (f := (·.1)), l2, List.length_map, hlen]
        k_dflt (refine' comp_range (n := 5) (CUse.loc _ _) ?a4F ?a4N (fun _ v mc y => if y = Str.ofString "k" then some v else mc y) (fun _ : Unit => ((D9, W.listOf us.toArray 0) :: ((I3 + 1, W.listOf ys3 cnt3) :: (c3.ts ++ ((I2 + 1, W.listOf ys2 cnt2) :: (c2.ts ++ ((I + 1, W.listOf ys cnt) :: (c.ts ++ base5 L' o5' o4' o3' o2 o1 news)))))))) (fun _ => c3.T) (fun J n zs _ => TurnedP hs n zs ∧ ∀ p ∈ ((D9, W.listOf us.toArray 0) :: ((I3 + 1, W.listOf ys3 cnt3) :: (c3.ts ++ ((I2 + 1, W.listOf ys2 cnt2) :: (c2.ts ++ ((I + 1, W.listOf ys cnt) :: (c.ts ++ base5 L' o5' o4' o3' o2 o1 news))))))), p.1 < J) ?a4u ?a4O ?a4r ?a4s ?a4n ?a4h ?a4z ?a4c ?a4k ?a4U ?a4T ?a4turn ?a4done; (case a4F => assumption); (case a4N => assumption))
        case a4u => exact ⟨(), fun I hI => ⟨⟨rfl, fun j v h => by simp at h⟩, hI⟩, rfl, by walk_at "MYTOK"⟩
        case a4O => exact fun I i ys _ hP p hp => ⟨Nat.ne_of_lt (hP.2 p hp), ad3 (hP.2 p hp), ad4 (hP.2 p hp)⟩
        case a4r => assumption
        case a4s => decide
        case a4n => decide
        case a4h => exact hh
        case a4z => decide
        case a4c => decide
        case a4k => rfl
        case a4U => exact ⟨rfl, rfl⟩
        case a4T => exact fun I i ys c It _ => tgt_name rfl rfl
        case a4turn =>
          rintro I4 i ys4 cnt4 - k t h tk oI oC mc hi hk ⟨hP, hI⟩ hT F FC N
          have hk' : k = (i : Int) := by rw [hk]; omega
          subst hk'
          have i0 : 0 ≤ (i : Int) := Int.natCast_nonneg i
          have i1 : (i : Int) < 2 ^ 63 := by omega
          obtain ⟨p, ⟨kk, tt⟩, hp, hkk, ev, hpo, -⟩ := rows_at hR2 (Array.getElem?_eq_getElem (show i < ys2.size by omega))
          have hkk2 : kk = toldOf (hs.getD i 0) bb := by
            have := congrArg (fun l => l[i]?) l2
            simp only [List.getElem?_map, hkk, Option.map_some, List.getElem?_eq_getElem (show i < hs.length by omega)] at this
            rw [List.getD_eq_getElem?_getD, List.getElem?_eq_getElem (show i < hs.length by omega)]
            exact Option.some.inj this
          subst hkk2
          have x1 : ys2.toList[((i : Nat) : Int).toNat]? = some (.ref p.1) := by rw [Int.toNat_natCast, Array.getElem?_toList, Array.getElem?_eq_getElem (show i < ys2.size by omega), ev]
          obtain ⟨te, x2⟩ := ia_get (show IntsAre us.toArray.toList (endsOf hs) from hI9) (show i < (endsOf hs).length by rw [ends_len hlen]; exact hi)
          obtain ⟨th, x3⟩ := ia_get hhi (show i < hs.length by rw [hlen]; exact hi)
          have hgk : 0 ≤ (endsOf hs).getD i 0 - hs.getD i 0 ∧ (endsOf hs).getD i 0 - hs.getD i 0 < 1000 := by
            have := hgp i hi
            unfold gapOf at this
            omega
          have qT : (L' + 1 + 1 + 1 + 1, o4') ∈ ((D9, W.listOf us.toArray 0) :: ((I3 + 1, W.listOf ys3 cnt3) :: (c3.ts ++ ((I2 + 1, W.listOf ys2 cnt2) :: (c2.ts ++ ((I + 1, W.listOf ys cnt) :: (c.ts ++ base5 L' o5' o4' o3' o2 o1 news))))))) := .tail _ (.tail _ (List.mem_append_right _ (.tail _ (List.mem_append_right _ (.tail _ (List.mem_append_right _ (.tail _ (.head _))))))))
          have qE : (L' + 1 + 1 + 1 + 1 + 1, o5') ∈ ((D9, W.listOf us.toArray 0) :: ((I3 + 1, W.listOf ys3 cnt3) :: (c3.ts ++ ((I2 + 1, W.listOf ys2 cnt2) :: (c2.ts ++ ((I + 1, W.listOf ys cnt) :: (c.ts ++ base5 L' o5' o4' o3' o2 o1 news))))))) := .tail _ (.tail _ (List.mem_append_right _ (.tail _ (List.mem_append_right _ (.tail _ (List.mem_append_right _ (.head _)))))))
          have q1 : (L' + 1, o1) ∈ ((D9, W.listOf us.toArray 0) :: ((I3 + 1, W.listOf ys3 cnt3) :: (c3.ts ++ ((I2 + 1, W.listOf ys2 cnt2) :: (c2.ts ++ ((I + 1, W.listOf ys cnt) :: (c.ts ++ base5 L' o5' o4' o3' o2 o1 news))))))) := .tail _ (.tail _ (List.mem_append_right _ (.tail _ (List.mem_append_right _ (.tail _ (List.mem_append_right _ (.tail _ (.tail _ (.tail _ (.tail _ (.head _)))))))))))
          have qH : (hl, W.listOf hv hc) ∈ ((D9, W.listOf us.toArray 0) :: ((I3 + 1, W.listOf ys3 cnt3) :: (c3.ts ++ ((I2 + 1, W.listOf ys2 cnt2) :: (c2.ts ++ ((I + 1, W.listOf ys cnt) :: (c.ts ++ base5 L' o5' o4' o3' o2 o1 news))))))) := .tail _ (.tail _ (List.mem_append_right _ (.tail _ (List.mem_append_right _ (.tail _ (List.mem_append_right _ (.tail _ (.tail _ (.tail _ (.tail _ (.tail _ hhm)))))))))))
          have qU : (D9, W.listOf us.toArray 0) ∈ ((D9, W.listOf us.toArray 0) :: ((I3 + 1, W.listOf ys3 cnt3) :: (c3.ts ++ ((I2 + 1, W.listOf ys2 cnt2) :: (c2.ts ++ ((I + 1, W.listOf ys cnt) :: (c.ts ++ base5 L' o5' o4' o3' o2 o1 news))))))) := .head _
          have qD : (I2 + 1, W.listOf ys2 cnt2) ∈ ((D9, W.listOf us.toArray 0) :: ((I3 + 1, W.listOf ys3 cnt3) :: (c3.ts ++ ((I2 + 1, W.listOf ys2 cnt2) :: (c2.ts ++ ((I + 1, W.listOf ys cnt) :: (c.ts ++ base5 L' o5' o4' o3' o2 o1 news))))))) := .tail _ (.tail _ (List.mem_append_right _ (.head _)))
          have qp : (p.1, p.2) ∈ ((D9, W.listOf us.toArray 0) :: ((I3 + 1, W.listOf ys3 cnt3) :: (c3.ts ++ ((I2 + 1, W.listOf ys2 cnt2) :: (c2.ts ++ ((I + 1, W.listOf ys cnt) :: (c.ts ++ base5 L' o5' o4' o3' o2 o1 news))))))) := .tail _ (.tail _ (List.mem_append_right _ (.tail _ (List.mem_append_left _ (List.mem_of_getElem? hp)))))
          walk_at "S"
          refine ⟨(), _, _, ⟨turned_push hP ?tpe, hI⟩, (by walk_at "MYTOK"), rfl, by assumption, by assumption⟩
          case tpe => exact add_q16 (fm16 _) (hgp i hi)
        case a4done =>
          rintro I4 ys4 cnt4 - ⟨hP4, hI4⟩ h tk hT4 F N
          walk_at "S"
          have hmJ : ∀ p ∈ news, p.1 < I4 := fun p hp => hI4 p (.tail _ (.tail _ (List.mem_append_right _ (.tail _ (List.mem_append_right _ (.tail _ (List.mem_append_right _ (.tail _ (.tail _ (.tail _ (.tail _ (.tail _ hp))))))))))))
          k_dflt (refine' comp_list (vs := ys4) (o := W.listOf ys4 cnt4) CUse.none ?a5F ?a5N (fun _ v mc y => if y = Str.ofString "hue" then some v else mc y) (fun _ : Unit => ((I4 + 1, W.listOf ys4 cnt4) :: ((D9, W.listOf us.toArray 0) :: ((I3 + 1, W.listOf ys3 cnt3) :: (c3.ts ++ ((I2 + 1, W.listOf ys2 cnt2) :: (c2.ts ++ ((I + 1, W.listOf ys cnt) :: (c.ts ++ base5 L' o5' o4' o3' o2 o1 news))))))))) (fun _ => c3.T) (fun J n zs _ => IntsAre zs.toList (nextL.take n) ∧ ∀ p ∈ ((I4 + 1, W.listOf ys4 cnt4) :: ((D9, W.listOf us.toArray 0) :: ((I3 + 1, W.listOf ys3 cnt3) :: (c3.ts ++ ((I2 + 1, W.listOf ys2 cnt2) :: (c2.ts ++ ((I + 1, W.listOf ys cnt) :: (c.ts ++ base5 L' o5' o4' o3' o2 o1 news)))))))), p.1 < J) ?a5u ?a5O ?a5l ?a5o ?a5h ?a5z ?a5c ?a5k ?a5U ?a5T ?a5turn ?a5done; (case a5F => assumption); (case a5N => assumption))
          case a5u => exact ⟨(), fun I hI => ⟨.nil, hI⟩, rfl, by walk_at "MYTOK"⟩
          case a5O => exact fun I i ys _ hP p hp => ⟨Nat.ne_of_lt (hP.2 p hp), ad3 (hP.2 p hp), ad4 (hP.2 p hp)⟩
          case a5l => exact .inr fun _ => .head _
          case a5o => exact ⟨rfl, _, rfl⟩
          case a5h => exact hh
          case a5z => rw [hP4.1]; decide
          case a5c => decide
          case a5k => rfl
          case a5U => trivial
          case a5T => exact fun I i ys c It _ _ => tgt_name rfl rfl
          case a5turn =>
            rintro I5 i ys5 cnt5 - v h tk oI oC mc hv0 ⟨hP, hI⟩ hT F FC N
            have hi : i < 5 := by rw [← hP4.1]; exact (Array.getElem?_eq_some_iff.mp hv0).1
            obtain ⟨t, rfl⟩ := hP4.2 i v hv0
            have hgg := hgp i hi
            have hy28 : 0 ≤ (hs.getD i 0).fmod 16 + gapOf hs i ∧ (hs.getD i 0).fmod 16 + gapOf hs i < 28 := by
              have := fm16 (hs.getD i 0)
              omega
            obtain ⟨hf1, hf2⟩ := hsv_fits hy28
            have q3 : (L' + 1 + 1 + 1, o3') ∈ ((I4 + 1, W.listOf ys4 cnt4) :: ((D9, W.listOf us.toArray 0) :: ((I3 + 1, W.listOf ys3 cnt3) :: (c3.ts ++ ((I2 + 1, W.listOf ys2 cnt2) :: (c2.ts ++ ((I + 1, W.listOf ys cnt) :: (c.ts ++ base5 L' o5' o4' o3' o2 o1 news)))))))) := .tail _ (.tail _ (.tail _ (List.mem_append_right _ (.tail _ (List.mem_append_right _ (.tail _ (List.mem_append_right _ (.tail _ (.tail _ (.head _))))))))))
            have q2 : (L' + 1 + 1, o2) ∈ ((I4 + 1, W.listOf ys4 cnt4) :: ((D9, W.listOf us.toArray 0) :: ((I3 + 1, W.listOf ys3 cnt3) :: (c3.ts ++ ((I2 + 1, W.listOf ys2 cnt2) :: (c2.ts ++ ((I + 1, W.listOf ys cnt) :: (c.ts ++ base5 L' o5' o4' o3' o2 o1 news)))))))) := .tail _ (.tail _ (.tail _ (List.mem_append_right _ (.tail _ (List.mem_append_right _ (.tail _ (List.mem_append_right _ (.tail _ (.tail _ (.tail _ (.head _)))))))))))
            have qL : (I + 1, W.listOf ys cnt) ∈ ((I4 + 1, W.listOf ys4 cnt4) :: ((D9, W.listOf us.toArray 0) :: ((I3 + 1, W.listOf ys3 cnt3) :: (c3.ts ++ ((I2 + 1, W.listOf ys2 cnt2) :: (c2.ts ++ ((I + 1, W.listOf ys cnt) :: (c.ts ++ base5 L' o5' o4' o3' o2 o1 news)))))))) := .tail _ (.tail _ (.tail _ (List.mem_append_right _ (.tail _ (List.mem_append_right _ (.head _))))))
            have qts : ∀ p ∈ c.ts, p ∈ ((I4 + 1, W.listOf ys4 cnt4) :: ((D9, W.listOf us.toArray 0) :: ((I3 + 1, W.listOf ys3 cnt3) :: (c3.ts ++ ((I2 + 1, W.listOf ys2 cnt2) :: (c2.ts ++ ((I + 1, W.listOf ys cnt) :: (c.ts ++ base5 L' o5' o4' o3' o2 o1 news)))))))) := fun p hp => .tail _ (.tail _ (.tail _ (List.mem_append_right _ (.tail _ (List.mem_append_right _ (.tail _ (List.mem_append_left _ hp)))))))
            walk_at "S4"
            rename_i a h9 tk9 u1 u2 u3 hfr m1 m2 m3 F9 N9 hT9
            have hcT : c.T ≤ tk + 1 := Nat.le_succ_of_le (hc3 ▸ hT)
            have hb9 : NoneBooked h9 := booked_keep F9 (booked_of X' T')
            have ht0 : tb ≤ tk' := Nat.le_trans htl ht'
            have hv5 : hv.size = 5 := by rw [← Array.length_toList, ia_len hhi, hlen]
            have lks : c.ks.map (·.1) = hs.map fun x => colr x bb := by rw [hR.2.2.1, List.take_of_length_le (by rw [List.length_map, hlen, hv5]; exact Nat.le_refl _)]
            have lk : c.ks.length = 5 := by rw [← List.length_map (f := (·.1)), lks, List.length_map, hlen]
            have kcol : ∀ j (h : j < c.ks.length), c.ks[j].1 = colr (hs.getD j 0) bb := fun j h => by
              have := congrArg (fun l => l[j]?) lks
              simp only [List.getElem?_map, List.getElem?_eq_getElem h, Option.map_some, List.getElem?_eq_getElem (show j < hs.length by omega)] at this
              rw [List.getD_eq_getElem?_getD, List.getElem?_eq_getElem (show j < hs.length by omega)]
              exact Option.some.inj this
            have hget : ∀ j, j < 5 → 0 ≤ hs.getD j 0 ∧ hs.getD j 0 < 28 := fun j h => by
              rw [List.getD_eq_getElem?_getD, List.getElem?_eq_getElem (show j < hs.length by omega)]
              exact hhs _ (List.getElem_mem _)
            have hnc : ∀ k ∈ c.ks, ceq k.1 k.1 = true := fun k hk => by
              obtain ⟨j, hj, rfl⟩ := List.getElem_of_mem hk
              rw [kcol j hj, col_eq hbb (hget j (by omega)) (hget j (by omega))]
              exact decide_eq_true rfl
            have hmd : (i + 1) % 5 < 5 := Nat.mod_lt _ (by decide)
            refine index_cols (k := colr ((hs.getD i 0).fmod 16 + gapOf hs i) bb) (u := (u1, u2, u3)) (j := (i + 1) % 5) N9 (.tail _ (.tail _ (.tail _ (.tail _ qL)))) (.head _) ⟨rfl, m1.nz htb, m2.nz htb, m3.nz htb⟩ hR.1 (fun p hp => .tail _ (.tail _ (.tail _ (.tail _ (qts p hp))))) hR.2.1 hnc (fun k' hk' => ⟨(hTB k' hk').1.sep (m1.mono hcT (Nat.le_refl _)) ht0 hlo, (hTB k' hk').2.1.sep (m2.mono hcT (Nat.le_refl _)) ht0 hlo, (hTB k' hk').2.2.sep (m3.mono hcT (Nat.le_refl _)) ht0 hlo⟩) hb9 (units_ok hu) (by omega) (by omega) ?hit1 ?hit2 ?hit3
            case hit1 =>
              rw [kcol _ (by omega), col_eq hbb (hget _ hmd) hy28]
              exact decide_eq_true ((hmod _ _ hmd hi).mpr rfl)
            case hit2 =>
              intro j hj hlt
              rw [kcol j hj, col_eq hbb (hget j (by omega)) hy28]
              exact decide_eq_false fun e => absurd ((hmod j i (by omega) hi).mp e) (Nat.ne_of_lt hlt)
            case hit3 =>
              refine ⟨(), _, _, ⟨?_, hI⟩, Nat.le_succ_of_le hT9, rfl, F9, fun p hp => N9 p (.tail _ hp)⟩
              rw [Array.toList_push, List.take_add_one, next_at hi]
              exact ia_push hP
          case a5done =>
            rintro I5 ys5 cnt5 - ⟨hP5, hI5⟩ h tk hT5 F N
            walk_at "S"
            dsimp only
            have NF : News g' L' h ((I5 + 1, W.listOf ys5 cnt5) :: news) := fun p hp => by
              rcases List.mem_cons.mp hp with rfl | hp
              · exact N _ (.head _)
              · exact N _ (.tail _ (.tail _ (.tail _ (.tail _ (List.mem_append_right _ (.tail _ (List.mem_append_right _ (.tail _ (List.mem_append_right _ (.tail _ (.tail _ (.tail _ (.tail _ (.tail _ hp))))))))))))))
            have hf5 : ∀ p ∈ news, p.1 < I5 + 1 := fun p hp => Nat.lt_succ_of_lt (hI5 p (.tail _ (.tail _ (.tail _ (List.mem_append_right _ (.tail _ (List.mem_append_right _ (.tail _ (List.mem_append_right _ (.tail _ (.tail _ (.tail _ (.tail _ (.tail _ hp))))))))))))))
            have hP6 : IntsAre ys5.toList nextL := by rw [hP4.1] at hP5; exact hP5
            exact leaveK_ F NF fun F N => hret _ _ _ _ _ hf5 hP6 F N
end
section
open PySem PySem.W PyProof.Rows PySem.Calls PySem.Spec
noncomputable def defaultsL : List Int := [190, 18, 2248, 21, 3510, 2, 4069, 776, 183, 107]
noncomputable def givenL (ns : List Int) : List Int := (ns.take 10).map fun x => x.fmod 1000000
noncomputable def numsL (ns : List Int) : List Int := givenL ns ++ defaultsL.drop (givenL ns).length
theorem is_list {g h : Heap} {L a : Addr} {m : Str → Option Value} {vs : List Value} (F : Fr g L h m) (hl : g.IsList a vs.toArray) : h.IsList a vs.toArray := let ⟨o, e, r⟩ := hl; ⟨o, F.keep _ _ e, r⟩
theorem sz63 {vs : List Value} {ns : List Int} (h : IntsAre vs ns) (hn : ns.length ≤ 63) : vs.toArray.size ≤ sizeLine := by rw [List.size_toArray, ia_len h, sizeLine_eq]; omega
local macro_rules | `(tactic| walk_at "subscriptTail Name Slice ref ref") => `(tactic| (k_here; k_dflt (refine' kmk_slice_ints ?lF ?lN ?ll ?lp ?lq ?li ?lm ?lc ?_ ?ls ?lt ?lz; (case lF => assumption); (case lN => assumption); (case ll => exact is_list (by assumption) (by assumption)); (case lp => exact IsPart.none); (case lq => exact IsPart.int _ _); (case li => assumption); (case lm => exact kmk_upto (by assumption) (by decide)); (case lc => exact rfl); (case ls => with_unfolding_all rfl); (case lt => (intro _; with_unfolding_all rfl)); (case lz => exact sz63 (by assumption) (by assumption))); intro _ _ _ _ _ _ _ _ _))
section
variable {prog : Program} {w : World} {A : Around} {E : Value → Shared → Prop} {s : Shared} {g : Heap} {L a : Addr} {news : List (Addr × Obj)} {vs : Array Value} {n k : Nat} {Q : Value → Shared → Prop}
theorem len_led (N : News g L s.heap news) (hm : (a, W.listOf vs n) ∈ news) (hz : vs.size = k) (hk : k ≤ 10) (h : Q (.int k (s.toks + 1)) { s with toks := s.toks + 1 + 1 }) : wpAny (model prog w) A (call (.builtin "len") [.ref a]) Q E s := by
  subst hz
  exact len_list ⟨_, (N _ hm).1, rfl, _, rfl⟩ (by omega) h
end
theorem nums_sz {ns : List Int} (h : (givenL ns).length ≤ 10) : (givenL ns).length + (defaultsL.drop (((givenL ns).length : Nat) : Int).toNat).length ≤ sizeLine := by
  have : (defaultsL.drop (((givenL ns).length : Nat) : Int).toNat).length ≤ 10 := by rw [List.length_drop]; exact Nat.sub_le _ _
  rw [sizeLine_eq]
  omega
local macro_rules | `(tactic| walk_at "call builtin:len") => `(tactic| (k_here; k_dflt (refine' len_led ?eN ?eM ?eZ ?eK ?_; (case eN => assumption); (case eM => exact .tail _ (.head _)); (case eZ => assumption); (case eK => assumption))))
local macro_rules | `(tactic| walk_at "subscriptTail Name Slice ref ref") => `(tactic| (k_here; k_dflt (refine' kmk_slice_ints (ns := defaultsL) (vs := Array.toList _) ?lF ?lN ?ll ?lp ?lq ?li ?lm ?lc ?_ ?ls ?lt ?lz; (case lF => assumption); (case lN => assumption); (case ll => exact led_list (by assumption) (.head _)); (case lp => exact IsPart.int _ _); (case lq => exact IsPart.none); (case li => exact .cons _ _ (.cons _ _ (.cons _ _ (.cons _ _ (.cons _ _ (.cons _ _ (.cons _ _ (.cons _ _ (.cons _ _ (.cons _ _ .nil)))))))))); (case lm => exact kmk_from (.cons _ _ (.cons _ _ (.cons _ _ (.cons _ _ (.cons _ _ (.cons _ _ (.cons _ _ (.cons _ _ (.cons _ _ (.cons _ _ .nil)))))))))) (Int.natCast_nonneg _)); (case lc => exact rfl); (case ls => with_unfolding_all rfl); (case lt => (intro _; with_unfolding_all rfl)); (case lz => exact Nat.le_of_ble_eq_true rfl)); intro _ _ _ _ _ _ _ _ _))
local macro_rules | `(tactic| walk_at "binaryOp Add ref ref") => `(tactic| (k_here; k_dflt (refine' kmk_add_ints (vs := Array.toList _) ?aF ?aN ?aa ?ab ?ai ?aj ?_ ?az; (case aF => assumption); (case aN => assumption); (case aa => exact led_list (by assumption) (.tail _ (.tail _ (.head _)))); (case ab => exact led_list (vs := List.toArray _) (by assumption) (.head _)); (case ai => assumption); (case aj => assumption); (case az => exact nums_sz (by assumption))); intro _ _ _ _ _ _ _))
set_option maxRecDepth 100000 in
set_option maxHeartbeats 8000000 in
theorem numbers_c {w : World} {mean : ExcName → Option Value} {mg mb : Str → Option Value} {A A₀ : Around} {env : Env} {outer : List Env} {base h₀ : Heap} {L : Addr} {m : Str → Option Value} {news : List (Addr × Obj)} {s : Shared} {Q E : Value → Shared → Prop}
    (C : Cx w mean mg mb A A₀ env outer base h₀ L m news s) {sl : Addr} {vs : List Value} {ns : List Int} (hsl : h₀.IsList sl vs.toArray) (hsi : IntsAre vs ns) (hlen : ns.length ≤ 63)
    (hret : ∀ a vs cnt h' tk', (∀ p ∈ news, p.1 < a) → IntsAre vs (numsL ns) → Fr h₀ L h' m → News h₀ L h' ((a, W.listOf vs.toArray cnt) :: news) → Q (.ref a) { s with heap := h', toks := tk' }) :
    wpAny (PM w) A (call (.ref 165) [.ref sl]) Q E s := by
  obtain ⟨B, F, X, N, T, hA, hf, hk, hd, hu, hh⟩ := C
  refine wpAny_call ?_
  delta PM; revert X; k_fill; intro X
  k_dflt (refine' code_def (binds := [(Str.ofString "script", .ref sl)]) ?k1 ?k2 ?k3 ?k4 ?k5 ?kA ?kF ?kK ?k6 ?k7 ?k8 ?k9 ?kB ?_ ?c2 ?c3 ?c4 ?c5; (case kA => exact hA); (case kF => exact hf); (case kK => exact hk); (case k1 => exact B); (case k2 => exact F); (case k3 => exact X); (case k4 => exact N); (case k5 => exact T); (case k6 => k_is); (case k7 => k_is); (case k8 => omega); (case k9 => exact BindsTo.of_eq rfl); (case c5 => decide); (case kB => exact locs rfl); (case c2 => exact rfl); (case c3 => exact rfl); (case c4 => exact rfl); k_whole; intro g' L' h' FG' F' N' B' X' T'; (try dsimp only); refine wpAny_noRaise ?_; (try k_fold))
  have hsg : g'.IsList sl vs.toArray := is_list FG' hsl
  clear B F X N T FG' hsl
  walk_at "S"
  rename_i D ws h1 F1 N1 l1 hw _ hle
  have hw' : IntsAre ws.toArray.toList (ns.take 10) := hw
  have hz : ws.toArray.size = (ns.take 10).length := by rw [List.size_toArray, ia_len hw]; rfl
  have hz10 : (ns.take 10).length ≤ 10 := List.length_take_le ..
  k_dflt (refine' comp_list (vs := ws.toArray) (o := W.listOf ws.toArray 0) (CUse.loc _ _) F1 N1 (fun _ v mc y => if y = Str.ofString "x" then some v else mc y) (fun _ : Unit => (D, W.listOf ws.toArray 0) :: news) (fun _ => 0) (fun I i ys _ => IntsAre ys.toList ((givenL ns).take i) ∧ ∀ p ∈ (D, W.listOf ws.toArray 0) :: news, p.1 < I) ?cu ?cO ?cl ?co ?ch ?cz ?cc ?ck ?cU ?cT ?cturn ?cdone)
  case cu => exact ⟨(), fun I hI => ⟨.nil, hI⟩, rfl, Nat.zero_le _⟩
  case cO => exact fun I i ys _ hP p hp => ⟨Nat.ne_of_lt (hP.2 p hp), ad3 (hP.2 p hp), ad4 (hP.2 p hp)⟩
  case cl => exact .inr fun _ => .head _
  case co => exact ⟨rfl, _, rfl⟩
  case ch => exact hh
  case cz => rw [hz]; exact Nat.le_trans hz10 (by decide)
  case cc => decide
  case ck => rfl
  case cU => exact ⟨rfl, rfl⟩
  case cT => exact fun I i ys c It _ _ => tgt_name rfl rfl
  case cturn =>
    rintro I i ys cnt - v h tk oI oC mc hv ⟨hP, hI⟩ _ F FC N
    obtain ⟨x, t, hx, rfl⟩ := ia_at hw' hv
    walk_at "S"
    refine ⟨(), _, _, ⟨?_, hI⟩, Nat.zero_le _, rfl, by assumption, by assumption⟩
    rw [Array.toList_push, List.take_add_one]
    unfold givenL
    rw [List.getElem?_map, hx]
    exact ia_push hP
  case cdone =>
    rintro I ys cnt - ⟨hP, hI⟩ h tk _ F N
    have hP' : IntsAre ys.toList (givenL ns) := by
      rw [hz] at hP
      have : (givenL ns).length = (ns.take 10).length := by unfold givenL; rw [List.length_map]
      rw [← this, List.take_length] at hP
      exact hP
    have hgz : ys.size = (givenL ns).length := by rw [← Array.length_toList, ia_len hP']
    have hgl : (givenL ns).length ≤ 10 := by unfold givenL; rw [List.length_map]; exact List.length_take_le ..
    have hnI : ∀ p ∈ news, p.1 < I := fun p hp => hI p (.tail _ hp)
    walk_at "S"
    rename_i D9 us h9 F9 N9 l9 hI9
    have hfr : ∀ p ∈ news, p.1 < D9 := fun p hp => l9 _ (.tail _ (.tail _ (.tail _ (.tail _ hp))))
    have NF : News g' L' h9 ((D9, W.listOf us.toArray 0) :: news) := fun p hp => by
      rcases List.mem_cons.mp hp with rfl | hp
      · exact N9 _ (.head _)
      · exact N9 _ (.tail _ (.tail _ (.tail _ (.tail _ (.tail _ hp)))))
    have hI10 : IntsAre us (numsL ns) := by
      rw [Int.toNat_natCast] at hI9
      exact hI9
    exact leaveK_ F9 NF fun F N => hret _ _ _ _ _ hfr hI10 F N
end
section
open PySem PySem.W PyProof.Rows PySem.Calls PySem.Spec
noncomputable def wL (n : Int) : List Nat := (written n).cps.toList
noncomputable def lineL (l : List Int) : List Nat := (l.map wL).flatten
noncomputable def planksOf (n : Int) : Int := [1, 2, 3, 0].getD ((n.fdiv 5).fmod 4).toNat 0
theorem append_cps (x y : Str) : (x ++ y).cps.toList = x.cps.toList ++ y.cps.toList := by
  show (x.cps ++ y.cps).toList = _
  rw [Array.toList_append]
theorem str_ext2 {x y : Str} (h : x.cps.toList = y.cps.toList) : x = y := by
  cases x; cases y
  simp only at h
  rw [Array.toList_inj.mp h]
theorem app_assoc (x y z : Str) : x ++ y ++ z = x ++ (y ++ z) := str_ext2 (by simp only [append_cps, List.append_assoc])
theorem join_cps0 (l : List Str) : (Str.join (Str.ofString "") l).cps.toList = (l.map fun s => s.cps.toList).flatten := by
  have e0 : (Str.ofString "").cps.toList = [] := by decide
  induction l with
  | nil => rfl
  | cons a r ih =>
    cases r with
    | nil => simp [Str.join]
    | cons b r =>
      have e1 : Str.join (Str.ofString "") (a :: b :: r) = a ++ Str.ofString "" ++ Str.join (Str.ofString "") (b :: r) := rfl
      rw [e1, append_cps, append_cps, e0, ih, List.append_nil]
      rfl
theorem join_cps (l : List Str) : (Txt.join (Str.ofString "") l).cps.toList = (l.map fun s => s.cps.toList).flatten := by
  have e : Txt.join (Str.ofString "") l = Str.join (Str.ofString "") l := eq_of_beq (join_plain_closes _ _)
  rw [e]
  exact join_cps0 l
theorem join_line (l : List Int) : (Txt.join (Str.ofString "") (l.map written)).cps.toList = lineL l := by
  rw [join_cps, List.map_map]
  rfl
theorem wL_len (n : Int) : (wL n).length ≤ 3 := by
  have := written_len n
  unfold wL
  rw [Array.length_toList]
  exact this
theorem line_len : ∀ l : List Int, (lineL l).length ≤ 3 * l.length
  | [] => Nat.le_refl _
  | a :: r => by
    have h1 := line_len r
    have h2 := wL_len a
    unfold lineL at h1 ⊢
    rw [List.map_cons, List.flatten_cons, List.length_append, List.length_cons]
    omega
theorem scan_line {x w : List Nat} (hw : w.head? ≠ some 34) : scanL (StrLaws.dbl 34 x ++ 34 :: w) = x := by
  induction x with
  | nil => exact scan_end hw
  | cons c r ih =>
    by_cases h : c = 34
    · subst h
      have e : StrLaws.dbl 34 (34 :: r) = 34 :: 34 :: StrLaws.dbl 34 r := by simp [StrLaws.dbl]
      rw [e]
      show scanL (34 :: 34 :: (StrLaws.dbl 34 r ++ 34 :: w)) = _
      rw [scan_two, ih]
    · have e : StrLaws.dbl 34 (c :: r) = c :: StrLaws.dbl 34 r := by simp [StrLaws.dbl, h]
      rw [e]
      show scanL (c :: (StrLaws.dbl 34 r ++ 34 :: w)) = _
      rw [scan_ne h, ih]
/-! what the reader does with a written line -/
noncomputable abbrev ahL : List (List Nat) := [[], [8203], [8204], [8205]]
theorem ahead_mem (n : Int) : (aheadS n).cps.toList ∈ ahL := by
  have h := fm4 (n.fdiv 240)
  have : (n.fdiv 240).fmod 4 = 0 ∨ (n.fdiv 240).fmod 4 = 1 ∨ (n.fdiv 240).fmod 4 = 2 ∨ (n.fdiv 240).fmod 4 = 3 := by omega
  unfold aheadS
  rcases this with e | e | e | e <;> rw [e] <;> decide +kernel
theorem letter_mem (n : Int) : letterC n ∈ lettersN ∧ ((lowOf (letterC n) : Nat) : Int) - 97 = n.fmod 5 := by
  have h1 := fm_bd n 5 (by decide)
  have h2 := fm_bd (n.fdiv 20) 12 (by decide)
  have t : ((List.range 12).all fun k => (List.range 5).all fun r => lettersN.contains (fontL.getD k 0 + Int.ofNat r).toNat && (((lowOf (fontL.getD k 0 + Int.ofNat r).toNat : Nat) : Int) - 97 == Int.ofNat r)) = true := by decide +kernel
  have := List.all_eq_true.mp (List.all_eq_true.mp t ((n.fdiv 20).fmod 12).toNat (List.mem_range.mpr (by omega))) (n.fmod 5).toNat (List.mem_range.mpr (by omega))
  have e : Int.ofNat (n.fmod 5).toNat = n.fmod 5 := by show (((n.fmod 5).toNat : Nat) : Int) = _; omega
  rw [e] at this
  obtain ⟨a, b⟩ := Bool.and_eq_true_iff.mp this
  exact ⟨List.elem_iff.mp a, eq_of_beq b⟩
/-- a tail and what it says -/
noncomputable def tailOk (p : List Nat × Int) : Bool := match p.1 with
  | [] => p.2 == 1
  | [c] => (c == 34 && p.2 == 0) || (c != 34 && c6L.contains (c : Int) && p.2 == 2) || (c != 34 && !c6L.contains (c : Int) && c8L.contains (c : Int) && p.2 == 3)
  | _ => false
theorem tail_ok (n : Int) : tailOk ((tailS n).cps.toList, planksOf n) = true := by
  have h := fm4 (n.fdiv 5)
  have h5 := fm_bd (n.fdiv 960) 5 (by decide)
  have c5 : (n.fdiv 960).fmod 5 = 0 ∨ (n.fdiv 960).fmod 5 = 1 ∨ (n.fdiv 960).fmod 5 = 2 ∨ (n.fdiv 960).fmod 5 = 3 ∨ (n.fdiv 960).fmod 5 = 4 := by omega
  have : (n.fdiv 5).fmod 4 = 0 ∨ (n.fdiv 5).fmod 4 = 1 ∨ (n.fdiv 5).fmod 4 = 2 ∨ (n.fdiv 5).fmod 4 = 3 := by omega
  unfold tailS planksOf
  rcases this with e | e | e | e <;> rcases c5 with e5 | e5 | e5 | e5 | e5 <;> rw [e, e5] <;> decide +kernel
theorem ah_facts : (ahL.all fun l => l.all fun c => c != 34 && !c6L.contains (c : Int) && !c8L.contains (c : Int) && b1L.contains (c : Int) && decide (c < 1114112)) = true := by decide +kernel
theorem let_facts : (lettersN.all fun c => c != 34 && !c6L.contains (c : Int) && !c8L.contains (c : Int) && !b1L.contains (c : Int) && decide (c < 1114112)) = true := by decide +kernel
theorem wL_eq (n : Int) : wL n = (aheadS n).cps.toList ++ letterC n :: (tailS n).cps.toList := by
  unfold wL written
  rw [append_cps, append_cps]
  simp
/-- reading signs one after the other -/
noncomputable def Reads1 (bs : List (Int × Int)) : List Nat → Prop
  | [] => True
  | c :: r => c < 1114112 ∧ readOk bs c ∧ Reads1 (readStep bs c) r
theorem reads_app {a b : List Nat} : ∀ {bs : List (Int × Int)}, Reads1 bs a → Reads1 (a.foldl readStep bs) b → Reads1 bs (a ++ b) := by
  induction a with
  | nil => exact fun _ h => h
  | cons c r ih => exact fun h1 h2 => ⟨h1.1, h1.2.1, ih h1.2.2 h2⟩
theorem reads_at {a : List Nat} : ∀ {bs : List (Int × Int)}, Reads1 bs a → ∀ i ch, a[i]? = some ch → ch < 1114112 ∧ readOk ((a.take i).foldl readStep bs) ch := by
  induction a with
  | nil => intro bs _ i ch e; simp at e
  | cons c r ih =>
    intro bs h i ch e
    cases i with
    | zero => simp at e; subst e; exact ⟨h.1, h.2.1⟩
    | succ i => exact ih h.2.2 i ch (by simpa using e)
theorem b3 {a b c d e : Bool} (h : (a && b && c && d && e) = true) : a = true ∧ b = true ∧ c = true ∧ d = true ∧ e = true := by
  cases a <;> cases b <;> cases c <;> cases d <;> cases e <;> simp_all
theorem read_ahead {l : List Nat} (hl : l ∈ ahL) (bs : List (Int × Int)) : Reads1 bs l ∧ l.foldl readStep bs = bs := by
  have hf := List.all_eq_true.mp ah_facts l hl
  induction l with
  | nil => exact ⟨trivial, rfl⟩
  | cons c r ih =>
    have : r = [] := by
      simp only [ahL, List.mem_cons, List.not_mem_nil, or_false] at hl
      rcases hl with h | h | h | h <;> injection h
    subst this
    obtain ⟨h1, h2, h3, h4, h5⟩ := b3 (List.all_eq_true.mp hf c (.head _))
    have h1' : c ≠ 34 := by simpa using h1
    have h2' : c6L.contains (c : Int) = false := by simpa using h2
    have h3' : c8L.contains (c : Int) = false := by simpa using h3
    refine ⟨⟨of_decide_eq_true h5, ?_, trivial⟩, ?_⟩
    · unfold readOk
      rw [if_neg (by rintro (h | h | h); exact h1' h; rw [h2'] at h; cases h; rw [h3'] at h; cases h), if_pos h4]
      trivial
    · show readStep bs c = bs
      unfold readStep
      rw [if_neg h1', h2', h3', if_neg Bool.false_ne_true, if_neg Bool.false_ne_true, if_pos h4]
theorem read_letter {c : Nat} (hc : c ∈ lettersN) (bs : List (Int × Int)) : Reads1 bs [c] ∧ readStep bs c = bs ++ [((lowOf c : Int) - 97, 1)] := by
  obtain ⟨h1, h2, h3, h4, h5⟩ := b3 (List.all_eq_true.mp let_facts c hc)
  have h1' : c ≠ 34 := by simpa using h1
  have h2' : c6L.contains (c : Int) = false := by simpa using h2
  have h3' : c8L.contains (c : Int) = false := by simpa using h3
  have h4' : b1L.contains (c : Int) = false := by simpa using h4
  refine ⟨⟨of_decide_eq_true h5, ?_, trivial⟩, ?_⟩
  · unfold readOk
    rw [if_neg (by rintro (h | h | h); exact h1' h; rw [h2'] at h; cases h; rw [h3'] at h; cases h), if_neg (by rw [h4']; exact Bool.false_ne_true)]
    exact hc
  · unfold readStep
    rw [if_neg h1', h2', h3', h4', if_neg Bool.false_ne_true, if_neg Bool.false_ne_true, if_neg Bool.false_ne_true]
theorem put_last (v x y : Int) : ∀ bs : List (Int × Int), putLast v (bs ++ [(x, y)]) = bs ++ [(x, v)]
  | [] => rfl
  | [a] => rfl
  | a :: b :: r => by
    have := put_last v x y (b :: r)
    show a :: putLast v (b :: r ++ [(x, y)]) = _
    rw [this]
    rfl
theorem c_lt {c : Nat} (h : c = 34 ∨ c6L.contains (c : Int) = true ∨ c8L.contains (c : Int) = true) : c < 1114112 := by
  rcases h with h | h | h
  · omega
  · have := List.elem_iff.mp h
    simp only [c6L, List.mem_cons, List.not_mem_nil, or_false] at this
    omega
  · have := List.elem_iff.mp h
    simp only [c8L, List.mem_cons, List.not_mem_nil, or_false] at this
    omega
theorem read_tail {l : List Nat} {k : Int} (h : tailOk (l, k) = true) (bs : List (Int × Int)) (x : Int) : Reads1 (bs ++ [(x, 1)]) l ∧ l.foldl readStep (bs ++ [(x, 1)]) = bs ++ [(x, k)] := by
  match l, h with
  | [], h =>
    have : k = 1 := eq_of_beq h
    subst this
    exact ⟨trivial, rfl⟩
  | [c], h =>
    have hne : bs ++ [(x, 1)] ≠ [] := by simp
    have h' : (c = 34 ∧ k = 0) ∨ (c ≠ 34 ∧ c6L.contains (c : Int) = true ∧ k = 2) ∨ (c ≠ 34 ∧ c6L.contains (c : Int) = false ∧ c8L.contains (c : Int) = true ∧ k = 3) := by
      unfold tailOk at h
      rcases Bool.or_eq_true_iff.mp h with h | h
      · rcases Bool.or_eq_true_iff.mp h with h | h
        · obtain ⟨a, b⟩ := Bool.and_eq_true_iff.mp h
          exact .inl ⟨eq_of_beq a, eq_of_beq b⟩
        · obtain ⟨h, b⟩ := Bool.and_eq_true_iff.mp h
          obtain ⟨a, c'⟩ := Bool.and_eq_true_iff.mp h
          exact .inr (.inl ⟨by simpa using a, c', eq_of_beq b⟩)
      · obtain ⟨h, b⟩ := Bool.and_eq_true_iff.mp h
        obtain ⟨h, d⟩ := Bool.and_eq_true_iff.mp h
        obtain ⟨a, c'⟩ := Bool.and_eq_true_iff.mp h
        exact .inr (.inr ⟨by simpa using a, by simpa using c', d, eq_of_beq b⟩)
    have hor : c = 34 ∨ c6L.contains (c : Int) = true ∨ c8L.contains (c : Int) = true := by
      rcases h' with h | h | h
      · exact .inl h.1
      · exact .inr (.inl h.2.1)
      · exact .inr (.inr h.2.2.1)
    refine ⟨⟨c_lt hor, ?_, trivial⟩, ?_⟩
    · unfold readOk
      rw [if_pos hor]
      exact hne
    · show readStep (bs ++ [(x, 1)]) c = _
      unfold readStep
      rcases h' with ⟨rfl, rfl⟩ | ⟨h1, h2, rfl⟩ | ⟨h1, h2, h3, rfl⟩
      · rw [if_pos rfl, put_last]
      · rw [if_neg h1, if_pos h2, put_last]
      · rw [if_neg h1, h2, if_neg Bool.false_ne_true, if_pos h3, put_last]
  | _ :: _ :: _, h => cases h
theorem read_word (n : Int) (bs : List (Int × Int)) : Reads1 bs (wL n) ∧ (wL n).foldl readStep bs = bs ++ [(n.fmod 5, planksOf n)] := by
  obtain ⟨a1, a2⟩ := read_ahead (ahead_mem n) bs
  obtain ⟨b1, b2⟩ := letter_mem n
  obtain ⟨c1, c2⟩ := read_letter b1 bs
  rw [b2] at c2
  obtain ⟨d1, d2⟩ := read_tail (tail_ok n) bs (n.fmod 5)
  rw [wL_eq]
  refine ⟨reads_app a1 ?_, ?_⟩
  · rw [a2]
    exact ⟨c1.1, c1.2.1, c2 ▸ d1⟩
  · rw [List.foldl_append, a2, List.foldl_cons, c2, d2]
theorem read_line : ∀ (l : List Int) (bs : List (Int × Int)), Reads1 bs (lineL l) ∧ (lineL l).foldl readStep bs = bs ++ l.map fun n => (n.fmod 5, planksOf n)
  | [], bs => ⟨trivial, by simp [lineL]⟩
  | a :: r, bs => by
    obtain ⟨a1, a2⟩ := read_word a bs
    obtain ⟨b1, b2⟩ := read_line r (bs ++ [(a.fmod 5, planksOf a)])
    have e : lineL (a :: r) = wL a ++ lineL r := rfl
    rw [e]
    refine ⟨reads_app a1 (a2 ▸ b1), ?_⟩
    rw [List.foldl_append, a2, b2]
    simp
theorem wL_head (n : Int) : (wL n).head? ≠ some 34 := by
  rw [wL_eq]
  have h1 := ahead_mem n
  generalize (aheadS n).cps.toList = l at h1
  simp only [ahL, List.mem_cons, List.not_mem_nil, or_false] at h1
  rcases h1 with rfl | rfl | rfl | rfl
  · have := List.all_eq_true.mp let_facts _ (letter_mem n).1
    obtain ⟨h1, -⟩ := b3 this
    simpa using h1
  · simp
  · simp
  · simp
end
section
open PySem PySem.W PyProof.Rows PySem.Calls PySem.Spec
theorem fm_em (a : Int) : a.fmod 16 = a % 16 := Int.fmod_eq_emod_of_nonneg a (by decide)
theorem hues_ok (n : Int) : (huesL n).length = 5 ∧ (∀ x ∈ huesL n, 0 ≤ x ∧ x < 28) ∧ (∀ i, i < 5 → 1 ≤ gapOf (huesL n) i ∧ gapOf (huesL n) i ≤ 12) ∧
    ∀ i k, i < 5 → k < 5 → (((huesL n).getD i 0).fmod 16 = (((huesL n).getD k 0).fmod 16 + gapOf (huesL n) k).fmod 16 ↔ i = (k + 1) % 5) := by
  have h0 := fm_bd n 16 (by decide)
  have h1 := fm_bd (n.fdiv 16) 3 (by decide)
  have h2 := fm_bd (n.fdiv 48) 3 (by decide)
  have h3 := fm_bd (n.fdiv 144) 3 (by decide)
  have h4 := fm_bd (n.fdiv 432) 3 (by decide)
  unfold huesL
  dsimp only
  generalize n.fmod 16 = a at *
  generalize (n.fdiv 16).fmod 3 = b at *
  generalize (n.fdiv 48).fmod 3 = c at *
  generalize (n.fdiv 144).fmod 3 = d at *
  generalize (n.fdiv 432).fmod 3 = e at *
  refine ⟨rfl, fun x hx => ?_, fun i hi => ?_, fun i k hi hk => ?_⟩
  · simp only [List.mem_cons, List.not_mem_nil, or_false] at hx
    omega
  · have : i = 0 ∨ i = 1 ∨ i = 2 ∨ i = 3 ∨ i = 4 := by omega
    rcases this with rfl | rfl | rfl | rfl | rfl <;> simp only [gapOf, endsOf, List.drop, List.cons_append, List.nil_append, List.getD_cons_zero, List.getD_cons_succ] <;> omega
  · rw [fm_em, fm_em, fm_em, Int.emod_add_emod]
    have : i = 0 ∨ i = 1 ∨ i = 2 ∨ i = 3 ∨ i = 4 := by omega
    have : k = 0 ∨ k = 1 ∨ k = 2 ∨ k = 3 ∨ k = 4 := by omega
    rcases ‹i = 0 ∨ _› with rfl | rfl | rfl | rfl | rfl <;> rcases ‹k = 0 ∨ _› with rfl | rfl | rfl | rfl | rfl <;> simp only [gapOf, endsOf, List.drop, List.cons_append, List.nil_append, List.getD_cons_zero, List.getD_cons_succ] <;> first | omega | exact ⟨fun _ => trivial, fun _ => congrArg (· % 16) (by omega)⟩ | exact ⟨fun _ => trivial, fun _ => (Int.add_emod_right a 16).symm.trans (congrArg (· % 16) (by omega))⟩
theorem five_of {l : List Int} (h : l.length = 5) : ∃ a b c d e, l = [a, b, c, d, e] := by
  match l, h with
  | [a, b, c, d, e], _ => exact ⟨a, b, c, d, e, rfl⟩
theorem step_bd {r : List Int} {M : Int} (hr : ∀ x ∈ r, 0 ≤ x ∧ x ≤ M) {b : Int × Int} (hl : r.length = 5) (hp : 0 ≤ b.1 ∧ b.1 < 5) (hk : 0 ≤ b.2 ∧ b.2 ≤ 3) : ∀ x ∈ aloneStep r b, 0 ≤ x ∧ x ≤ 4 * M := by
  intro x hx
  unfold aloneStep at hx
  have hM : 0 ≤ M := by
    obtain ⟨a, b, c, d, e, rfl⟩ := five_of hl
    have := hr a (.head _)
    omega
  rcases List.mem_or_eq_of_mem_set hx with h | rfl
  · have := hr x h
    omega
  · have g : ∀ i, 0 ≤ r.getD i 0 ∧ r.getD i 0 ≤ M := fun i => by
      rw [List.getD_eq_getElem?_getD]
      cases e : r[i]? with
      | none => exact ⟨Int.le_refl _, hM⟩
      | some y => exact hr y (List.mem_of_getElem? e)
    have g1 := g (goalOf b.1).toNat
    have g2 := g b.1.toNat
    have k4 : b.2 = 0 ∨ b.2 = 1 ∨ b.2 = 2 ∨ b.2 = 3 := by omega
    generalize r.getD (goalOf b.1).toNat 0 = u at *
    generalize r.getD b.1.toNat 0 = v at *
    rcases k4 with e | e | e | e <;> rw [e] <;> omega
theorem fold_bd : ∀ (bs : List (Int × Int)) (r : List Int) (M : Int), (∀ b ∈ bs, (0 ≤ b.1 ∧ b.1 < 5) ∧ (0 ≤ b.2 ∧ b.2 ≤ 3)) → r.length = 5 → (∀ x ∈ r, 0 ≤ x ∧ x ≤ M) → ∀ x ∈ bs.foldl aloneStep r, 0 ≤ x ∧ x ≤ 4 ^ bs.length * M
  | [], r, M, _, _, h => fun x hx => by simpa using h x hx
  | b :: bs, r, M, hb, hl, h => fun x hx => by
    have := fold_bd bs (aloneStep r b) (4 * M) (fun b' hb' => hb b' (.tail _ hb')) (by unfold aloneStep; rw [List.length_set]; exact hl) (step_bd h hl (hb b (.head _)).1 (hb b (.head _)).2) x hx
    rw [List.length_cons, Int.pow_succ, Int.mul_assoc]
    exact this
theorem alone_mul {st : Int} {bs : List (Int × Int)} (hs : 0 ≤ st ∧ st < 5) (hb : ∀ b ∈ bs, (0 ≤ b.1 ∧ b.1 < 5) ∧ (0 ≤ b.2 ∧ b.2 ≤ 3)) (hl : bs.length = 8) (k : Nat) (x : Int) : IntMulOk ((aloneTo st bs 8).getD k 0) x := by
  have hu : ∀ x ∈ unitRow st, 0 ≤ x ∧ x ≤ 1 := by
    have : st = 0 ∨ st = 1 ∨ st = 2 ∨ st = 3 ∨ st = 4 := by omega
    rcases this with rfl | rfl | rfl | rfl | rfl <;> decide
  have hf := fold_bd bs (unitRow st) 1 hb (by unfold unitRow; rw [List.length_set]; rfl) hu
  rw [hl] at hf
  have ht : aloneTo st bs 8 = bs.foldl aloneStep (unitRow st) := by unfold aloneTo; rw [List.take_of_length_le (by omega)]
  rw [ht]
  have : 0 ≤ (bs.foldl aloneStep (unitRow st)).getD k 0 ∧ (bs.foldl aloneStep (unitRow st)).getD k 0 ≤ 65536 := by
    rw [List.getD_eq_getElem?_getD]
    cases e : (bs.foldl aloneStep (unitRow st))[k]? with
    | none => decide
    | some y => exact hf y (List.mem_of_getElem? e)
  exact .of_left (intBits_le_64 (by omega) (by omega))
end
section
open PySem PySem.W PyProof.Rows PySem.Calls PySem.Spec
noncomputable def src2 (p y : Int) : List Int :=
  if y.fdiv 10 = nextP p ∧ y.fmod 10 ≠ p then [10 * p + y.fmod 10] else if y.fmod 10 = nextP p ∧ y.fdiv 10 ≠ p then [10 * y.fdiv 10 + p] else []
theorem src2_all : ([0, 1, 2, 3, 4].all fun p => pairsU.all fun y => (pairsU.filter fun x => mv2 p x == some y) == src2 p y) = true := by decide +kernel
theorem xv2 {p k y : Int} {f : Int → Int} (hp : p ∈ [(0 : Int), 1, 2, 3, 4]) (hy : y ∈ pairsU) : xfer (mv2 p) k f pairsU y = f y + k * ((src2 p y).map f).sum := by
  have := eq_of_beq (List.all_eq_true.mp (List.all_eq_true.mp src2_all p hp) y hy)
  unfold xfer
  rw [this]
theorem xv2_0 {p k y : Int} {f : Int → Int} (h : ([(0 : Int), 1, 2, 3, 4].contains p && pairsU.contains y && (src2 p y == [])) = true) : xfer (mv2 p) k f pairsU y = f y := by
  rw [Bool.and_eq_true, Bool.and_eq_true] at h
  rw [xv2 (by simpa using h.1.1) (by simpa using h.1.2), eq_of_beq h.2]
  simp
theorem xv2_1 {p k y z : Int} {f : Int → Int} (h : ([(0 : Int), 1, 2, 3, 4].contains p && pairsU.contains y && (src2 p y == [z])) = true) : xfer (mv2 p) k f pairsU y = f y + k * f z := by
  rw [Bool.and_eq_true, Bool.and_eq_true] at h
  rw [xv2 (by simpa using h.1.1) (by simpa using h.1.2), eq_of_beq h.2]
  simp
noncomputable def D2 (ai aj bi bj : Int) : Int := ai * bj - aj * bi
section
variable {ai aj bi bj x y k A B C D : Int}
theorem D2_addi : D2 (ai + k * x) aj (bi + k * y) bj = D2 ai aj bi bj + k * D2 x aj y bj := by
  unfold D2
  simp only [Int.mul_sub, Int.sub_mul, Int.mul_add, Int.add_mul, Int.mul_assoc, Int.mul_comm, Int.mul_left_comm]
  omega
theorem D2_addj : D2 ai (aj + k * x) bi (bj + k * y) = D2 ai aj bi bj + k * D2 ai x bi y := by
  unfold D2
  simp only [Int.mul_sub, Int.sub_mul, Int.mul_add, Int.add_mul, Int.mul_assoc, Int.mul_comm, Int.mul_left_comm]
  omega
theorem D2_z : D2 ai ai bi bi = 0 := by unfold D2; exact Int.sub_self _
theorem D2_sw : D2 x aj y bj = -D2 aj x bj y := by
  unfold D2
  simp only [Int.mul_sub, Int.sub_mul, Int.mul_add, Int.add_mul, Int.mul_assoc, Int.mul_comm, Int.mul_left_comm]
  omega
theorem lin_a : A - B + k * (C - D) = A + k * C - (B + k * D) := by simp only [Int.mul_sub]; omega
theorem lin_b : A - B + k * -(C - D) = A + k * D - (B + k * C) := by simp only [Int.mul_sub, Int.mul_neg]; omega
end
noncomputable def E2 (a0 a1 a2 a3 a4 b0 b1 b2 b3 b4 : Int) (f : Int → Int) : Prop := (D2 a0 a1 b0 b1 = f 1 - f 10) ∧ (D2 a0 a2 b0 b2 = f 2 - f 20) ∧ (D2 a0 a3 b0 b3 = f 3 - f 30) ∧ (D2 a0 a4 b0 b4 = f 4 - f 40) ∧ (D2 a1 a2 b1 b2 = f 12 - f 21) ∧ (D2 a1 a3 b1 b3 = f 13 - f 31) ∧ (D2 a1 a4 b1 b4 = f 14 - f 41) ∧ (D2 a2 a3 b2 b3 = f 23 - f 32) ∧ (D2 a2 a4 b2 b4 = f 24 - f 42) ∧ (D2 a3 a4 b3 b4 = f 34 - f 43)
theorem step2_0 {a0 a1 a2 a3 a4 b0 b1 b2 b3 b4 k : Int} {f : Int → Int} (h : E2 a0 a1 a2 a3 a4 b0 b1 b2 b3 b4 f) : E2 a0 (a1 + k * a0) a2 a3 a4 b0 (b1 + k * b0) b2 b3 b4 (xfer (mv2 0) k f pairsU) := by
  obtain ⟨h01, h02, h03, h04, h12, h13, h14, h23, h24, h34⟩ := h
  have v1 : xfer (mv2 0) k f pairsU 1 = f 1 := xv2_0 (by kernel_rfl)
  have v10 : xfer (mv2 0) k f pairsU 10 = f 10 := xv2_0 (by kernel_rfl)
  have v2 : xfer (mv2 0) k f pairsU 2 = f 2 := xv2_0 (by kernel_rfl)
  have v20 : xfer (mv2 0) k f pairsU 20 = f 20 := xv2_0 (by kernel_rfl)
  have v3 : xfer (mv2 0) k f pairsU 3 = f 3 := xv2_0 (by kernel_rfl)
  have v30 : xfer (mv2 0) k f pairsU 30 = f 30 := xv2_0 (by kernel_rfl)
  have v4 : xfer (mv2 0) k f pairsU 4 = f 4 := xv2_0 (by kernel_rfl)
  have v40 : xfer (mv2 0) k f pairsU 40 = f 40 := xv2_0 (by kernel_rfl)
  have v12 : xfer (mv2 0) k f pairsU 12 = f 12 + k * f 2 := xv2_1 (by kernel_rfl)
  have v21 : xfer (mv2 0) k f pairsU 21 = f 21 + k * f 20 := xv2_1 (by kernel_rfl)
  have v13 : xfer (mv2 0) k f pairsU 13 = f 13 + k * f 3 := xv2_1 (by kernel_rfl)
  have v31 : xfer (mv2 0) k f pairsU 31 = f 31 + k * f 30 := xv2_1 (by kernel_rfl)
  have v14 : xfer (mv2 0) k f pairsU 14 = f 14 + k * f 4 := xv2_1 (by kernel_rfl)
  have v41 : xfer (mv2 0) k f pairsU 41 = f 41 + k * f 40 := xv2_1 (by kernel_rfl)
  have v23 : xfer (mv2 0) k f pairsU 23 = f 23 := xv2_0 (by kernel_rfl)
  have v32 : xfer (mv2 0) k f pairsU 32 = f 32 := xv2_0 (by kernel_rfl)
  have v24 : xfer (mv2 0) k f pairsU 24 = f 24 := xv2_0 (by kernel_rfl)
  have v42 : xfer (mv2 0) k f pairsU 42 = f 42 := xv2_0 (by kernel_rfl)
  have v34 : xfer (mv2 0) k f pairsU 34 = f 34 := xv2_0 (by kernel_rfl)
  have v43 : xfer (mv2 0) k f pairsU 43 = f 43 := xv2_0 (by kernel_rfl)
  refine ⟨?_, ?_, ?_, ?_, ?_, ?_, ?_, ?_, ?_, ?_⟩
  · rw [v1, v10, D2_addj, D2_z, Int.mul_zero, Int.add_zero]; exact h01
  · rw [v2, v20]; exact h02
  · rw [v3, v30]; exact h03
  · rw [v4, v40]; exact h04
  · rw [v12, v21, D2_addi, h12, h02]; exact lin_a
  · rw [v13, v31, D2_addi, h13, h03]; exact lin_a
  · rw [v14, v41, D2_addi, h14, h04]; exact lin_a
  · rw [v23, v32]; exact h23
  · rw [v24, v42]; exact h24
  · rw [v34, v43]; exact h34
theorem step2_1 {a0 a1 a2 a3 a4 b0 b1 b2 b3 b4 k : Int} {f : Int → Int} (h : E2 a0 a1 a2 a3 a4 b0 b1 b2 b3 b4 f) : E2 a0 a1 (a2 + k * a1) a3 a4 b0 b1 (b2 + k * b1) b3 b4 (xfer (mv2 1) k f pairsU) := by
  obtain ⟨h01, h02, h03, h04, h12, h13, h14, h23, h24, h34⟩ := h
  have v1 : xfer (mv2 1) k f pairsU 1 = f 1 := xv2_0 (by kernel_rfl)
  have v10 : xfer (mv2 1) k f pairsU 10 = f 10 := xv2_0 (by kernel_rfl)
  have v2 : xfer (mv2 1) k f pairsU 2 = f 2 + k * f 1 := xv2_1 (by kernel_rfl)
  have v20 : xfer (mv2 1) k f pairsU 20 = f 20 + k * f 10 := xv2_1 (by kernel_rfl)
  have v3 : xfer (mv2 1) k f pairsU 3 = f 3 := xv2_0 (by kernel_rfl)
  have v30 : xfer (mv2 1) k f pairsU 30 = f 30 := xv2_0 (by kernel_rfl)
  have v4 : xfer (mv2 1) k f pairsU 4 = f 4 := xv2_0 (by kernel_rfl)
  have v40 : xfer (mv2 1) k f pairsU 40 = f 40 := xv2_0 (by kernel_rfl)
  have v12 : xfer (mv2 1) k f pairsU 12 = f 12 := xv2_0 (by kernel_rfl)
  have v21 : xfer (mv2 1) k f pairsU 21 = f 21 := xv2_0 (by kernel_rfl)
  have v13 : xfer (mv2 1) k f pairsU 13 = f 13 := xv2_0 (by kernel_rfl)
  have v31 : xfer (mv2 1) k f pairsU 31 = f 31 := xv2_0 (by kernel_rfl)
  have v14 : xfer (mv2 1) k f pairsU 14 = f 14 := xv2_0 (by kernel_rfl)
  have v41 : xfer (mv2 1) k f pairsU 41 = f 41 := xv2_0 (by kernel_rfl)
  have v23 : xfer (mv2 1) k f pairsU 23 = f 23 + k * f 13 := xv2_1 (by kernel_rfl)
  have v32 : xfer (mv2 1) k f pairsU 32 = f 32 + k * f 31 := xv2_1 (by kernel_rfl)
  have v24 : xfer (mv2 1) k f pairsU 24 = f 24 + k * f 14 := xv2_1 (by kernel_rfl)
  have v42 : xfer (mv2 1) k f pairsU 42 = f 42 + k * f 41 := xv2_1 (by kernel_rfl)
  have v34 : xfer (mv2 1) k f pairsU 34 = f 34 := xv2_0 (by kernel_rfl)
  have v43 : xfer (mv2 1) k f pairsU 43 = f 43 := xv2_0 (by kernel_rfl)
  refine ⟨?_, ?_, ?_, ?_, ?_, ?_, ?_, ?_, ?_, ?_⟩
  · rw [v1, v10]; exact h01
  · rw [v2, v20, D2_addj, h02, h01]; exact lin_a
  · rw [v3, v30]; exact h03
  · rw [v4, v40]; exact h04
  · rw [v12, v21, D2_addj, D2_z, Int.mul_zero, Int.add_zero]; exact h12
  · rw [v13, v31]; exact h13
  · rw [v14, v41]; exact h14
  · rw [v23, v32, D2_addi, h23, h13]; exact lin_a
  · rw [v24, v42, D2_addi, h24, h14]; exact lin_a
  · rw [v34, v43]; exact h34
theorem step2_2 {a0 a1 a2 a3 a4 b0 b1 b2 b3 b4 k : Int} {f : Int → Int} (h : E2 a0 a1 a2 a3 a4 b0 b1 b2 b3 b4 f) : E2 a0 a1 a2 (a3 + k * a2) a4 b0 b1 b2 (b3 + k * b2) b4 (xfer (mv2 2) k f pairsU) := by
  obtain ⟨h01, h02, h03, h04, h12, h13, h14, h23, h24, h34⟩ := h
  have v1 : xfer (mv2 2) k f pairsU 1 = f 1 := xv2_0 (by kernel_rfl)
  have v10 : xfer (mv2 2) k f pairsU 10 = f 10 := xv2_0 (by kernel_rfl)
  have v2 : xfer (mv2 2) k f pairsU 2 = f 2 := xv2_0 (by kernel_rfl)
  have v20 : xfer (mv2 2) k f pairsU 20 = f 20 := xv2_0 (by kernel_rfl)
  have v3 : xfer (mv2 2) k f pairsU 3 = f 3 + k * f 2 := xv2_1 (by kernel_rfl)
  have v30 : xfer (mv2 2) k f pairsU 30 = f 30 + k * f 20 := xv2_1 (by kernel_rfl)
  have v4 : xfer (mv2 2) k f pairsU 4 = f 4 := xv2_0 (by kernel_rfl)
  have v40 : xfer (mv2 2) k f pairsU 40 = f 40 := xv2_0 (by kernel_rfl)
  have v12 : xfer (mv2 2) k f pairsU 12 = f 12 := xv2_0 (by kernel_rfl)
  have v21 : xfer (mv2 2) k f pairsU 21 = f 21 := xv2_0 (by kernel_rfl)
  have v13 : xfer (mv2 2) k f pairsU 13 = f 13 + k * f 12 := xv2_1 (by kernel_rfl)
  have v31 : xfer (mv2 2) k f pairsU 31 = f 31 + k * f 21 := xv2_1 (by kernel_rfl)
  have v14 : xfer (mv2 2) k f pairsU 14 = f 14 := xv2_0 (by kernel_rfl)
  have v41 : xfer (mv2 2) k f pairsU 41 = f 41 := xv2_0 (by kernel_rfl)
  have v23 : xfer (mv2 2) k f pairsU 23 = f 23 := xv2_0 (by kernel_rfl)
  have v32 : xfer (mv2 2) k f pairsU 32 = f 32 := xv2_0 (by kernel_rfl)
  have v24 : xfer (mv2 2) k f pairsU 24 = f 24 := xv2_0 (by kernel_rfl)
  have v42 : xfer (mv2 2) k f pairsU 42 = f 42 := xv2_0 (by kernel_rfl)
  have v34 : xfer (mv2 2) k f pairsU 34 = f 34 + k * f 24 := xv2_1 (by kernel_rfl)
  have v43 : xfer (mv2 2) k f pairsU 43 = f 43 + k * f 42 := xv2_1 (by kernel_rfl)
  refine ⟨?_, ?_, ?_, ?_, ?_, ?_, ?_, ?_, ?_, ?_⟩
  · rw [v1, v10]; exact h01
  · rw [v2, v20]; exact h02
  · rw [v3, v30, D2_addj, h03, h02]; exact lin_a
  · rw [v4, v40]; exact h04
  · rw [v12, v21]; exact h12
  · rw [v13, v31, D2_addj, h13, h12]; exact lin_a
  · rw [v14, v41]; exact h14
  · rw [v23, v32, D2_addj, D2_z, Int.mul_zero, Int.add_zero]; exact h23
  · rw [v24, v42]; exact h24
  · rw [v34, v43, D2_addi, h34, h24]; exact lin_a
theorem step2_3 {a0 a1 a2 a3 a4 b0 b1 b2 b3 b4 k : Int} {f : Int → Int} (h : E2 a0 a1 a2 a3 a4 b0 b1 b2 b3 b4 f) : E2 a0 a1 a2 a3 (a4 + k * a3) b0 b1 b2 b3 (b4 + k * b3) (xfer (mv2 3) k f pairsU) := by
  obtain ⟨h01, h02, h03, h04, h12, h13, h14, h23, h24, h34⟩ := h
  have v1 : xfer (mv2 3) k f pairsU 1 = f 1 := xv2_0 (by kernel_rfl)
  have v10 : xfer (mv2 3) k f pairsU 10 = f 10 := xv2_0 (by kernel_rfl)
  have v2 : xfer (mv2 3) k f pairsU 2 = f 2 := xv2_0 (by kernel_rfl)
  have v20 : xfer (mv2 3) k f pairsU 20 = f 20 := xv2_0 (by kernel_rfl)
  have v3 : xfer (mv2 3) k f pairsU 3 = f 3 := xv2_0 (by kernel_rfl)
  have v30 : xfer (mv2 3) k f pairsU 30 = f 30 := xv2_0 (by kernel_rfl)
  have v4 : xfer (mv2 3) k f pairsU 4 = f 4 + k * f 3 := xv2_1 (by kernel_rfl)
  have v40 : xfer (mv2 3) k f pairsU 40 = f 40 + k * f 30 := xv2_1 (by kernel_rfl)
  have v12 : xfer (mv2 3) k f pairsU 12 = f 12 := xv2_0 (by kernel_rfl)
  have v21 : xfer (mv2 3) k f pairsU 21 = f 21 := xv2_0 (by kernel_rfl)
  have v13 : xfer (mv2 3) k f pairsU 13 = f 13 := xv2_0 (by kernel_rfl)
  have v31 : xfer (mv2 3) k f pairsU 31 = f 31 := xv2_0 (by kernel_rfl)
  have v14 : xfer (mv2 3) k f pairsU 14 = f 14 + k * f 13 := xv2_1 (by kernel_rfl)
  have v41 : xfer (mv2 3) k f pairsU 41 = f 41 + k * f 31 := xv2_1 (by kernel_rfl)
  have v23 : xfer (mv2 3) k f pairsU 23 = f 23 := xv2_0 (by kernel_rfl)
  have v32 : xfer (mv2 3) k f pairsU 32 = f 32 := xv2_0 (by kernel_rfl)
  have v24 : xfer (mv2 3) k f pairsU 24 = f 24 + k * f 23 := xv2_1 (by kernel_rfl)
  have v42 : xfer (mv2 3) k f pairsU 42 = f 42 + k * f 32 := xv2_1 (by kernel_rfl)
  have v34 : xfer (mv2 3) k f pairsU 34 = f 34 := xv2_0 (by kernel_rfl)
  have v43 : xfer (mv2 3) k f pairsU 43 = f 43 := xv2_0 (by kernel_rfl)
  refine ⟨?_, ?_, ?_, ?_, ?_, ?_, ?_, ?_, ?_, ?_⟩
  · rw [v1, v10]; exact h01
  · rw [v2, v20]; exact h02
  · rw [v3, v30]; exact h03
  · rw [v4, v40, D2_addj, h04, h03]; exact lin_a
  · rw [v12, v21]; exact h12
  · rw [v13, v31]; exact h13
  · rw [v14, v41, D2_addj, h14, h13]; exact lin_a
  · rw [v23, v32]; exact h23
  · rw [v24, v42, D2_addj, h24, h23]; exact lin_a
  · rw [v34, v43, D2_addj, D2_z, Int.mul_zero, Int.add_zero]; exact h34
theorem step2_4 {a0 a1 a2 a3 a4 b0 b1 b2 b3 b4 k : Int} {f : Int → Int} (h : E2 a0 a1 a2 a3 a4 b0 b1 b2 b3 b4 f) : E2 (a0 + k * a4) a1 a2 a3 a4 (b0 + k * b4) b1 b2 b3 b4 (xfer (mv2 4) k f pairsU) := by
  obtain ⟨h01, h02, h03, h04, h12, h13, h14, h23, h24, h34⟩ := h
  have v1 : xfer (mv2 4) k f pairsU 1 = f 1 + k * f 41 := xv2_1 (by kernel_rfl)
  have v10 : xfer (mv2 4) k f pairsU 10 = f 10 + k * f 14 := xv2_1 (by kernel_rfl)
  have v2 : xfer (mv2 4) k f pairsU 2 = f 2 + k * f 42 := xv2_1 (by kernel_rfl)
  have v20 : xfer (mv2 4) k f pairsU 20 = f 20 + k * f 24 := xv2_1 (by kernel_rfl)
  have v3 : xfer (mv2 4) k f pairsU 3 = f 3 + k * f 43 := xv2_1 (by kernel_rfl)
  have v30 : xfer (mv2 4) k f pairsU 30 = f 30 + k * f 34 := xv2_1 (by kernel_rfl)
  have v4 : xfer (mv2 4) k f pairsU 4 = f 4 := xv2_0 (by kernel_rfl)
  have v40 : xfer (mv2 4) k f pairsU 40 = f 40 := xv2_0 (by kernel_rfl)
  have v12 : xfer (mv2 4) k f pairsU 12 = f 12 := xv2_0 (by kernel_rfl)
  have v21 : xfer (mv2 4) k f pairsU 21 = f 21 := xv2_0 (by kernel_rfl)
  have v13 : xfer (mv2 4) k f pairsU 13 = f 13 := xv2_0 (by kernel_rfl)
  have v31 : xfer (mv2 4) k f pairsU 31 = f 31 := xv2_0 (by kernel_rfl)
  have v14 : xfer (mv2 4) k f pairsU 14 = f 14 := xv2_0 (by kernel_rfl)
  have v41 : xfer (mv2 4) k f pairsU 41 = f 41 := xv2_0 (by kernel_rfl)
  have v23 : xfer (mv2 4) k f pairsU 23 = f 23 := xv2_0 (by kernel_rfl)
  have v32 : xfer (mv2 4) k f pairsU 32 = f 32 := xv2_0 (by kernel_rfl)
  have v24 : xfer (mv2 4) k f pairsU 24 = f 24 := xv2_0 (by kernel_rfl)
  have v42 : xfer (mv2 4) k f pairsU 42 = f 42 := xv2_0 (by kernel_rfl)
  have v34 : xfer (mv2 4) k f pairsU 34 = f 34 := xv2_0 (by kernel_rfl)
  have v43 : xfer (mv2 4) k f pairsU 43 = f 43 := xv2_0 (by kernel_rfl)
  refine ⟨?_, ?_, ?_, ?_, ?_, ?_, ?_, ?_, ?_, ?_⟩
  · rw [v1, v10, D2_addi, h01, D2_sw, h14]; exact lin_b
  · rw [v2, v20, D2_addi, h02, D2_sw, h24]; exact lin_b
  · rw [v3, v30, D2_addi, h03, D2_sw, h34]; exact lin_b
  · rw [v4, v40, D2_addi, D2_z, Int.mul_zero, Int.add_zero]; exact h04
  · rw [v12, v21]; exact h12
  · rw [v13, v31]; exact h13
  · rw [v14, v41]; exact h14
  · rw [v23, v32]; exact h23
  · rw [v24, v42]; exact h24
  · rw [v34, v43]; exact h34
noncomputable def L2 (a b : List Int) (f : Int → Int) : Prop := ∃ a0 a1 a2 a3 a4 b0 b1 b2 b3 b4, a = [a0, a1, a2, a3, a4] ∧ b = [b0, b1, b2, b3, b4] ∧ E2 a0 a1 a2 a3 a4 b0 b1 b2 b3 b4 f
theorem step2 {a b : List Int} {f : Int → Int} {q : Int × Int} (hp : 0 ≤ q.1 ∧ q.1 < 5) (h : L2 a b f) : L2 (aloneStep a q) (aloneStep b q) (xfer (mv2 q.1) q.2 f pairsU) := by
  obtain ⟨a0, a1, a2, a3, a4, b0, b1, b2, b3, b4, rfl, rfl, h⟩ := h
  obtain ⟨p, k⟩ := q
  dsimp only at hp
  have : p = 0 ∨ p = 1 ∨ p = 2 ∨ p = 3 ∨ p = 4 := by omega
  rcases this with rfl | rfl | rfl | rfl | rfl
  · exact ⟨_, _, _, _, _, _, _, _, _, _, rfl, rfl, step2_0 h⟩
  · exact ⟨_, _, _, _, _, _, _, _, _, _, rfl, rfl, step2_1 h⟩
  · exact ⟨_, _, _, _, _, _, _, _, _, _, rfl, rfl, step2_2 h⟩
  · exact ⟨_, _, _, _, _, _, _, _, _, _, rfl, rfl, step2_3 h⟩
  · exact ⟨_, _, _, _, _, _, _, _, _, _, rfl, rfl, step2_4 h⟩
theorem fold2 : ∀ (l : List (Int × Int)) {a b : List Int} {f : Int → Int}, (∀ q ∈ l, 0 ≤ q.1 ∧ q.1 < 5) → L2 a b f → L2 (l.foldl aloneStep a) (l.foldl aloneStep b) (l.foldl (fun f b => xfer (mv2 b.1) b.2 f pairsU) f)
  | [], _, _, _, _, h => h
  | q :: l, _, _, _, hl, h => fold2 l (fun q' hq => hl q' (.tail _ hq)) (step2 (hl q (.head _)) h)
theorem five_cells {a : List Int} (h : a.length = 5) : ∃ a0 a1 a2 a3 a4, a = [a0, a1, a2, a3, a4] := by
  match a, h with
  | [a0, a1, a2, a3, a4], _ => exact ⟨a0, a1, a2, a3, a4, rfl⟩
noncomputable def e2B (a b : List Int) (f : Int → Int) : Bool := (D2 (a.getD 0 0) (a.getD 1 0) (b.getD 0 0) (b.getD 1 0) == f 1 - f 10) && (D2 (a.getD 0 0) (a.getD 2 0) (b.getD 0 0) (b.getD 2 0) == f 2 - f 20) && (D2 (a.getD 0 0) (a.getD 3 0) (b.getD 0 0) (b.getD 3 0) == f 3 - f 30) && (D2 (a.getD 0 0) (a.getD 4 0) (b.getD 0 0) (b.getD 4 0) == f 4 - f 40) && (D2 (a.getD 1 0) (a.getD 2 0) (b.getD 1 0) (b.getD 2 0) == f 12 - f 21) && (D2 (a.getD 1 0) (a.getD 3 0) (b.getD 1 0) (b.getD 3 0) == f 13 - f 31) && (D2 (a.getD 1 0) (a.getD 4 0) (b.getD 1 0) (b.getD 4 0) == f 14 - f 41) && (D2 (a.getD 2 0) (a.getD 3 0) (b.getD 2 0) (b.getD 3 0) == f 23 - f 32) && (D2 (a.getD 2 0) (a.getD 4 0) (b.getD 2 0) (b.getD 4 0) == f 24 - f 42) && (D2 (a.getD 3 0) (a.getD 4 0) (b.getD 3 0) (b.getD 4 0) == f 34 - f 43)
theorem L2_mk {a b : List Int} {f : Int → Int} (ha : a.length = 5) (hb : b.length = 5) (h : e2B a b f = true) : L2 a b f := by
  obtain ⟨a0, a1, a2, a3, a4, rfl⟩ := five_cells ha
  obtain ⟨b0, b1, b2, b3, b4, rfl⟩ := five_cells hb
  unfold e2B at h
  simp only [Bool.and_eq_true, beq_iff_eq] at h
  obtain ⟨⟨⟨⟨⟨⟨⟨⟨⟨h1, h2⟩, h3⟩, h4⟩, h5⟩, h6⟩, h7⟩, h8⟩, h9⟩, h10⟩ := h
  exact ⟨_, _, _, _, _, _, _, _, _, _, rfl, rfl, h1, h2, h3, h4, h5, h6, h7, h8, h9, h10⟩
theorem start2B : ([(0 : Int), 1, 2, 3, 4].all fun x1 => [(0 : Int), 1, 2, 3, 4].all fun x2 => x1 == x2 || e2B (unitRow x1) (unitRow x2) (fun x => if x = 10 * x1 + x2 then 1 else 0)) = true := by decide +kernel
theorem mem_five {x : Int} (h : 0 ≤ x ∧ x < 5) : x ∈ [(0 : Int), 1, 2, 3, 4] := by
  have e : x = 0 ∨ x = 1 ∨ x = 2 ∨ x = 3 ∨ x = 4 := by omega
  simpa using e
theorem unit_len5 (x : Int) : (unitRow x).length = 5 := by unfold unitRow; rw [List.length_set]; rfl
theorem start2 {x1 x2 : Int} (h1 : 0 ≤ x1 ∧ x1 < 5) (h2 : 0 ≤ x2 ∧ x2 < 5) (h12 : x1 ≠ x2) : L2 (unitRow x1) (unitRow x2) (fun x => if x = 10 * x1 + x2 then 1 else 0) := by
  have h := List.all_eq_true.mp (List.all_eq_true.mp start2B x1 (mem_five h1)) x2 (mem_five h2)
  rw [Bool.or_eq_true] at h
  rcases h with h | h
  · exact absurd (eq_of_beq h) h12
  · exact L2_mk (unit_len5 _) (unit_len5 _) h
theorem two_cases {x y : Int} (hx : 0 ≤ x) (hxy : x < y) (hy : y < 5) : (x = 0 ∧ y = 1) ∨ (x = 0 ∧ y = 2) ∨ (x = 0 ∧ y = 3) ∨ (x = 0 ∧ y = 4) ∨ (x = 1 ∧ y = 2) ∨ (x = 1 ∧ y = 3) ∨ (x = 1 ∧ y = 4) ∨ (x = 2 ∧ y = 3) ∨ (x = 2 ∧ y = 4) ∨ (x = 3 ∧ y = 4) := by
  have e1 : x = 0 ∨ x = 1 ∨ x = 2 ∨ x = 3 := by omega
  have e2 : y = 1 ∨ y = 2 ∨ y = 3 ∨ y = 4 := by omega
  rcases e1 with rfl | rfl | rfl | rfl <;> rcases e2 with rfl | rfl | rfl | rfl <;> first | exact absurd hxy (by decide) | decide
theorem lgv2g {x1 x2 : Int} {bs : List (Int × Int)} {n : Nat} (hb : ∀ q ∈ bs, 0 ≤ q.1 ∧ q.1 < 5) (h1 : 0 ≤ x1 ∧ x1 < 5) (h2 : 0 ≤ x2 ∧ x2 < 5) (h12 : x1 ≠ x2) (x y : Int) (hx : 0 ≤ x) (hxy : x < y) (hy : y < 5) :
    (aloneTo x1 bs n).getD x.toNat 0 * (aloneTo x2 bs n).getD y.toNat 0 - (aloneTo x1 bs n).getD y.toNat 0 * (aloneTo x2 bs n).getD x.toNat 0 = twoTo x1 x2 bs n (10 * x + y) - twoTo x1 x2 bs n (10 * y + x) := by
  obtain ⟨a0, a1, a2, a3, a4, b0, b1, b2, b3, b4, ea, eb, h⟩ := fold2 (bs.take n) (fun q hq => hb q (List.mem_of_mem_take hq)) (start2 h1 h2 h12)
  unfold aloneTo twoTo
  rw [ea, eb]
  obtain ⟨h01, h02, h03, h04, h12', h13, h14, h23, h24, h34⟩ := h
  have := two_cases hx hxy hy
  rcases this with ⟨rfl, rfl⟩ | ⟨rfl, rfl⟩ | ⟨rfl, rfl⟩ | ⟨rfl, rfl⟩ | ⟨rfl, rfl⟩ | ⟨rfl, rfl⟩ | ⟨rfl, rfl⟩ | ⟨rfl, rfl⟩ | ⟨rfl, rfl⟩ | ⟨rfl, rfl⟩ <;> assumption
end
section
open PySem PySem.W PyProof.Rows PySem.Calls PySem.Spec
noncomputable def src3 (p y : Int) : List Int :=
  if (y.fdiv (2 ^ (nextP p).toNat)).fmod 2 = 1 ∧ (y.fdiv (2 ^ p.toNat)).fmod 2 = 0 then [y - 2 ^ (nextP p).toNat + 2 ^ p.toNat] else []
theorem src3_all : ([0, 1, 2, 3, 4].all fun p => threesU.all fun y => (threesU.filter fun x => mv3 p x == some y) == src3 p y) = true := by decide +kernel
theorem xv3 {p k y : Int} {f : Int → Int} (hp : p ∈ [(0 : Int), 1, 2, 3, 4]) (hy : y ∈ threesU) : xfer (mv3 p) k f threesU y = f y + k * ((src3 p y).map f).sum := by
  have := eq_of_beq (List.all_eq_true.mp (List.all_eq_true.mp src3_all p hp) y hy)
  unfold xfer
  rw [this]
theorem xv3_0 {p k y : Int} {f : Int → Int} (h : ([(0 : Int), 1, 2, 3, 4].contains p && threesU.contains y && (src3 p y == [])) = true) : xfer (mv3 p) k f threesU y = f y := by
  rw [Bool.and_eq_true, Bool.and_eq_true] at h
  rw [xv3 (by simpa using h.1.1) (by simpa using h.1.2), eq_of_beq h.2]
  simp
theorem xv3_1 {p k y z : Int} {f : Int → Int} (h : ([(0 : Int), 1, 2, 3, 4].contains p && threesU.contains y && (src3 p y == [z])) = true) : xfer (mv3 p) k f threesU y = f y + k * f z := by
  rw [Bool.and_eq_true, Bool.and_eq_true] at h
  rw [xv3 (by simpa using h.1.1) (by simpa using h.1.2), eq_of_beq h.2]
  simp
noncomputable def D3 (ai aj al bi bj bl ci cj cl : Int) : Int := ci * (aj * bl - al * bj) - cj * (ai * bl - al * bi) + cl * (ai * bj - aj * bi)
section
variable {ai aj al bi bj bl ci cj cl x y z k : Int}
theorem D3_addi : D3 (ai + k * x) aj al (bi + k * y) bj bl (ci + k * z) cj cl = D3 ai aj al bi bj bl ci cj cl + k * D3 x aj al y bj bl z cj cl := by
  unfold D3
  simp only [Int.mul_sub, Int.sub_mul, Int.mul_add, Int.add_mul, Int.mul_assoc, Int.mul_comm, Int.mul_left_comm]
  omega
theorem D3_addj : D3 ai (aj + k * x) al bi (bj + k * y) bl ci (cj + k * z) cl = D3 ai aj al bi bj bl ci cj cl + k * D3 ai x al bi y bl ci z cl := by
  unfold D3
  simp only [Int.mul_sub, Int.sub_mul, Int.mul_add, Int.add_mul, Int.mul_assoc, Int.mul_comm, Int.mul_left_comm]
  omega
theorem D3_addl : D3 ai aj (al + k * x) bi bj (bl + k * y) ci cj (cl + k * z) = D3 ai aj al bi bj bl ci cj cl + k * D3 ai aj x bi bj y ci cj z := by
  unfold D3
  simp only [Int.mul_sub, Int.sub_mul, Int.mul_add, Int.add_mul, Int.mul_assoc, Int.mul_comm, Int.mul_left_comm]
  omega
theorem D3_zij : D3 ai ai al bi bi bl ci ci cl = 0 := by
  unfold D3
  simp only [Int.mul_sub, Int.sub_mul, Int.mul_add, Int.add_mul, Int.mul_assoc, Int.mul_comm, Int.mul_left_comm]
  omega
theorem D3_zil : D3 ai aj ai bi bj bi ci cj ci = 0 := by
  unfold D3
  simp only [Int.mul_sub, Int.sub_mul, Int.mul_add, Int.add_mul, Int.mul_assoc, Int.mul_comm, Int.mul_left_comm]
  omega
theorem D3_zjl : D3 ai aj aj bi bj bj ci cj cj = 0 := by
  unfold D3
  simp only [Int.mul_sub, Int.sub_mul, Int.mul_add, Int.add_mul, Int.mul_assoc, Int.mul_comm, Int.mul_left_comm]
  omega
theorem D3_cyc : D3 x aj al y bj bl z cj cl = D3 aj al x bj bl y cj cl z := by
  unfold D3
  simp only [Int.mul_sub, Int.sub_mul, Int.mul_add, Int.add_mul, Int.mul_assoc, Int.mul_comm, Int.mul_left_comm]
  omega
end
noncomputable def E3 (a0 a1 a2 a3 a4 b0 b1 b2 b3 b4 c0 c1 c2 c3 c4 : Int) (f : Int → Int) : Prop := (D3 a0 a1 a2 b0 b1 b2 c0 c1 c2 = f 7) ∧ (D3 a0 a1 a3 b0 b1 b3 c0 c1 c3 = f 11) ∧ (D3 a0 a1 a4 b0 b1 b4 c0 c1 c4 = f 19) ∧ (D3 a0 a2 a3 b0 b2 b3 c0 c2 c3 = f 13) ∧ (D3 a0 a2 a4 b0 b2 b4 c0 c2 c4 = f 21) ∧ (D3 a0 a3 a4 b0 b3 b4 c0 c3 c4 = f 25) ∧ (D3 a1 a2 a3 b1 b2 b3 c1 c2 c3 = f 14) ∧ (D3 a1 a2 a4 b1 b2 b4 c1 c2 c4 = f 22) ∧ (D3 a1 a3 a4 b1 b3 b4 c1 c3 c4 = f 26) ∧ (D3 a2 a3 a4 b2 b3 b4 c2 c3 c4 = f 28)
theorem step3_0 {a0 a1 a2 a3 a4 b0 b1 b2 b3 b4 c0 c1 c2 c3 c4 k : Int} {f : Int → Int} (h : E3 a0 a1 a2 a3 a4 b0 b1 b2 b3 b4 c0 c1 c2 c3 c4 f) : E3 a0 (a1 + k * a0) a2 a3 a4 b0 (b1 + k * b0) b2 b3 b4 c0 (c1 + k * c0) c2 c3 c4 (xfer (mv3 0) k f threesU) := by
  obtain ⟨h7, h11, h19, h13, h21, h25, h14, h22, h26, h28⟩ := h
  have v7 : xfer (mv3 0) k f threesU 7 = f 7 := xv3_0 (by kernel_rfl)
  have v11 : xfer (mv3 0) k f threesU 11 = f 11 := xv3_0 (by kernel_rfl)
  have v19 : xfer (mv3 0) k f threesU 19 = f 19 := xv3_0 (by kernel_rfl)
  have v13 : xfer (mv3 0) k f threesU 13 = f 13 := xv3_0 (by kernel_rfl)
  have v21 : xfer (mv3 0) k f threesU 21 = f 21 := xv3_0 (by kernel_rfl)
  have v25 : xfer (mv3 0) k f threesU 25 = f 25 := xv3_0 (by kernel_rfl)
  have v14 : xfer (mv3 0) k f threesU 14 = f 14 + k * f 13 := xv3_1 (by kernel_rfl)
  have v22 : xfer (mv3 0) k f threesU 22 = f 22 + k * f 21 := xv3_1 (by kernel_rfl)
  have v26 : xfer (mv3 0) k f threesU 26 = f 26 + k * f 25 := xv3_1 (by kernel_rfl)
  have v28 : xfer (mv3 0) k f threesU 28 = f 28 := xv3_0 (by kernel_rfl)
  refine ⟨?_, ?_, ?_, ?_, ?_, ?_, ?_, ?_, ?_, ?_⟩
  · rw [D3_addj, D3_zij, Int.mul_zero, Int.add_zero]; exact h7.trans v7.symm
  · rw [D3_addj, D3_zij, Int.mul_zero, Int.add_zero]; exact h11.trans v11.symm
  · rw [D3_addj, D3_zij, Int.mul_zero, Int.add_zero]; exact h19.trans v19.symm
  · exact h13.trans v13.symm
  · exact h21.trans v21.symm
  · exact h25.trans v25.symm
  · rw [D3_addi, h14, h13]; exact v14.symm
  · rw [D3_addi, h22, h21]; exact v22.symm
  · rw [D3_addi, h26, h25]; exact v26.symm
  · exact h28.trans v28.symm
theorem step3_1 {a0 a1 a2 a3 a4 b0 b1 b2 b3 b4 c0 c1 c2 c3 c4 k : Int} {f : Int → Int} (h : E3 a0 a1 a2 a3 a4 b0 b1 b2 b3 b4 c0 c1 c2 c3 c4 f) : E3 a0 a1 (a2 + k * a1) a3 a4 b0 b1 (b2 + k * b1) b3 b4 c0 c1 (c2 + k * c1) c3 c4 (xfer (mv3 1) k f threesU) := by
  obtain ⟨h7, h11, h19, h13, h21, h25, h14, h22, h26, h28⟩ := h
  have v7 : xfer (mv3 1) k f threesU 7 = f 7 := xv3_0 (by kernel_rfl)
  have v11 : xfer (mv3 1) k f threesU 11 = f 11 := xv3_0 (by kernel_rfl)
  have v19 : xfer (mv3 1) k f threesU 19 = f 19 := xv3_0 (by kernel_rfl)
  have v13 : xfer (mv3 1) k f threesU 13 = f 13 + k * f 11 := xv3_1 (by kernel_rfl)
  have v21 : xfer (mv3 1) k f threesU 21 = f 21 + k * f 19 := xv3_1 (by kernel_rfl)
  have v25 : xfer (mv3 1) k f threesU 25 = f 25 := xv3_0 (by kernel_rfl)
  have v14 : xfer (mv3 1) k f threesU 14 = f 14 := xv3_0 (by kernel_rfl)
  have v22 : xfer (mv3 1) k f threesU 22 = f 22 := xv3_0 (by kernel_rfl)
  have v26 : xfer (mv3 1) k f threesU 26 = f 26 := xv3_0 (by kernel_rfl)
  have v28 : xfer (mv3 1) k f threesU 28 = f 28 + k * f 26 := xv3_1 (by kernel_rfl)
  refine ⟨?_, ?_, ?_, ?_, ?_, ?_, ?_, ?_, ?_, ?_⟩
  · rw [D3_addl, D3_zjl, Int.mul_zero, Int.add_zero]; exact h7.trans v7.symm
  · exact h11.trans v11.symm
  · exact h19.trans v19.symm
  · rw [D3_addj, h13, h11]; exact v13.symm
  · rw [D3_addj, h21, h19]; exact v21.symm
  · exact h25.trans v25.symm
  · rw [D3_addj, D3_zij, Int.mul_zero, Int.add_zero]; exact h14.trans v14.symm
  · rw [D3_addj, D3_zij, Int.mul_zero, Int.add_zero]; exact h22.trans v22.symm
  · exact h26.trans v26.symm
  · rw [D3_addi, h28, h26]; exact v28.symm
theorem step3_2 {a0 a1 a2 a3 a4 b0 b1 b2 b3 b4 c0 c1 c2 c3 c4 k : Int} {f : Int → Int} (h : E3 a0 a1 a2 a3 a4 b0 b1 b2 b3 b4 c0 c1 c2 c3 c4 f) : E3 a0 a1 a2 (a3 + k * a2) a4 b0 b1 b2 (b3 + k * b2) b4 c0 c1 c2 (c3 + k * c2) c4 (xfer (mv3 2) k f threesU) := by
  obtain ⟨h7, h11, h19, h13, h21, h25, h14, h22, h26, h28⟩ := h
  have v7 : xfer (mv3 2) k f threesU 7 = f 7 := xv3_0 (by kernel_rfl)
  have v11 : xfer (mv3 2) k f threesU 11 = f 11 + k * f 7 := xv3_1 (by kernel_rfl)
  have v19 : xfer (mv3 2) k f threesU 19 = f 19 := xv3_0 (by kernel_rfl)
  have v13 : xfer (mv3 2) k f threesU 13 = f 13 := xv3_0 (by kernel_rfl)
  have v21 : xfer (mv3 2) k f threesU 21 = f 21 := xv3_0 (by kernel_rfl)
  have v25 : xfer (mv3 2) k f threesU 25 = f 25 + k * f 21 := xv3_1 (by kernel_rfl)
  have v14 : xfer (mv3 2) k f threesU 14 = f 14 := xv3_0 (by kernel_rfl)
  have v22 : xfer (mv3 2) k f threesU 22 = f 22 := xv3_0 (by kernel_rfl)
  have v26 : xfer (mv3 2) k f threesU 26 = f 26 + k * f 22 := xv3_1 (by kernel_rfl)
  have v28 : xfer (mv3 2) k f threesU 28 = f 28 := xv3_0 (by kernel_rfl)
  refine ⟨?_, ?_, ?_, ?_, ?_, ?_, ?_, ?_, ?_, ?_⟩
  · exact h7.trans v7.symm
  · rw [D3_addl, h11, h7]; exact v11.symm
  · exact h19.trans v19.symm
  · rw [D3_addl, D3_zjl, Int.mul_zero, Int.add_zero]; exact h13.trans v13.symm
  · exact h21.trans v21.symm
  · rw [D3_addj, h25, h21]; exact v25.symm
  · rw [D3_addl, D3_zjl, Int.mul_zero, Int.add_zero]; exact h14.trans v14.symm
  · exact h22.trans v22.symm
  · rw [D3_addj, h26, h22]; exact v26.symm
  · rw [D3_addj, D3_zij, Int.mul_zero, Int.add_zero]; exact h28.trans v28.symm
theorem step3_3 {a0 a1 a2 a3 a4 b0 b1 b2 b3 b4 c0 c1 c2 c3 c4 k : Int} {f : Int → Int} (h : E3 a0 a1 a2 a3 a4 b0 b1 b2 b3 b4 c0 c1 c2 c3 c4 f) : E3 a0 a1 a2 a3 (a4 + k * a3) b0 b1 b2 b3 (b4 + k * b3) c0 c1 c2 c3 (c4 + k * c3) (xfer (mv3 3) k f threesU) := by
  obtain ⟨h7, h11, h19, h13, h21, h25, h14, h22, h26, h28⟩ := h
  have v7 : xfer (mv3 3) k f threesU 7 = f 7 := xv3_0 (by kernel_rfl)
  have v11 : xfer (mv3 3) k f threesU 11 = f 11 := xv3_0 (by kernel_rfl)
  have v19 : xfer (mv3 3) k f threesU 19 = f 19 + k * f 11 := xv3_1 (by kernel_rfl)
  have v13 : xfer (mv3 3) k f threesU 13 = f 13 := xv3_0 (by kernel_rfl)
  have v21 : xfer (mv3 3) k f threesU 21 = f 21 + k * f 13 := xv3_1 (by kernel_rfl)
  have v25 : xfer (mv3 3) k f threesU 25 = f 25 := xv3_0 (by kernel_rfl)
  have v14 : xfer (mv3 3) k f threesU 14 = f 14 := xv3_0 (by kernel_rfl)
  have v22 : xfer (mv3 3) k f threesU 22 = f 22 + k * f 14 := xv3_1 (by kernel_rfl)
  have v26 : xfer (mv3 3) k f threesU 26 = f 26 := xv3_0 (by kernel_rfl)
  have v28 : xfer (mv3 3) k f threesU 28 = f 28 := xv3_0 (by kernel_rfl)
  refine ⟨?_, ?_, ?_, ?_, ?_, ?_, ?_, ?_, ?_, ?_⟩
  · exact h7.trans v7.symm
  · exact h11.trans v11.symm
  · rw [D3_addl, h19, h11]; exact v19.symm
  · exact h13.trans v13.symm
  · rw [D3_addl, h21, h13]; exact v21.symm
  · rw [D3_addl, D3_zjl, Int.mul_zero, Int.add_zero]; exact h25.trans v25.symm
  · exact h14.trans v14.symm
  · rw [D3_addl, h22, h14]; exact v22.symm
  · rw [D3_addl, D3_zjl, Int.mul_zero, Int.add_zero]; exact h26.trans v26.symm
  · rw [D3_addl, D3_zjl, Int.mul_zero, Int.add_zero]; exact h28.trans v28.symm
theorem step3_4 {a0 a1 a2 a3 a4 b0 b1 b2 b3 b4 c0 c1 c2 c3 c4 k : Int} {f : Int → Int} (h : E3 a0 a1 a2 a3 a4 b0 b1 b2 b3 b4 c0 c1 c2 c3 c4 f) : E3 (a0 + k * a4) a1 a2 a3 a4 (b0 + k * b4) b1 b2 b3 b4 (c0 + k * c4) c1 c2 c3 c4 (xfer (mv3 4) k f threesU) := by
  obtain ⟨h7, h11, h19, h13, h21, h25, h14, h22, h26, h28⟩ := h
  have v7 : xfer (mv3 4) k f threesU 7 = f 7 + k * f 22 := xv3_1 (by kernel_rfl)
  have v11 : xfer (mv3 4) k f threesU 11 = f 11 + k * f 26 := xv3_1 (by kernel_rfl)
  have v19 : xfer (mv3 4) k f threesU 19 = f 19 := xv3_0 (by kernel_rfl)
  have v13 : xfer (mv3 4) k f threesU 13 = f 13 + k * f 28 := xv3_1 (by kernel_rfl)
  have v21 : xfer (mv3 4) k f threesU 21 = f 21 := xv3_0 (by kernel_rfl)
  have v25 : xfer (mv3 4) k f threesU 25 = f 25 := xv3_0 (by kernel_rfl)
  have v14 : xfer (mv3 4) k f threesU 14 = f 14 := xv3_0 (by kernel_rfl)
  have v22 : xfer (mv3 4) k f threesU 22 = f 22 := xv3_0 (by kernel_rfl)
  have v26 : xfer (mv3 4) k f threesU 26 = f 26 := xv3_0 (by kernel_rfl)
  have v28 : xfer (mv3 4) k f threesU 28 = f 28 := xv3_0 (by kernel_rfl)
  refine ⟨?_, ?_, ?_, ?_, ?_, ?_, ?_, ?_, ?_, ?_⟩
  · rw [D3_addi, h7, D3_cyc, h22]; exact v7.symm
  · rw [D3_addi, h11, D3_cyc, h26]; exact v11.symm
  · rw [D3_addi, D3_zil, Int.mul_zero, Int.add_zero]; exact h19.trans v19.symm
  · rw [D3_addi, h13, D3_cyc, h28]; exact v13.symm
  · rw [D3_addi, D3_zil, Int.mul_zero, Int.add_zero]; exact h21.trans v21.symm
  · rw [D3_addi, D3_zil, Int.mul_zero, Int.add_zero]; exact h25.trans v25.symm
  · exact h14.trans v14.symm
  · exact h22.trans v22.symm
  · exact h26.trans v26.symm
  · exact h28.trans v28.symm
noncomputable def L3 (a b c : List Int) (f : Int → Int) : Prop := ∃ a0 a1 a2 a3 a4 b0 b1 b2 b3 b4 c0 c1 c2 c3 c4, a = [a0, a1, a2, a3, a4] ∧ b = [b0, b1, b2, b3, b4] ∧ c = [c0, c1, c2, c3, c4] ∧ E3 a0 a1 a2 a3 a4 b0 b1 b2 b3 b4 c0 c1 c2 c3 c4 f
theorem step3 {a b c : List Int} {f : Int → Int} {q : Int × Int} (hp : 0 ≤ q.1 ∧ q.1 < 5) (h : L3 a b c f) : L3 (aloneStep a q) (aloneStep b q) (aloneStep c q) (xfer (mv3 q.1) q.2 f threesU) := by
  obtain ⟨a0, a1, a2, a3, a4, b0, b1, b2, b3, b4, c0, c1, c2, c3, c4, rfl, rfl, rfl, h⟩ := h
  obtain ⟨p, k⟩ := q
  dsimp only at hp
  have : p = 0 ∨ p = 1 ∨ p = 2 ∨ p = 3 ∨ p = 4 := by omega
  rcases this with rfl | rfl | rfl | rfl | rfl
  · exact ⟨_, _, _, _, _, _, _, _, _, _, _, _, _, _, _, rfl, rfl, rfl, step3_0 h⟩
  · exact ⟨_, _, _, _, _, _, _, _, _, _, _, _, _, _, _, rfl, rfl, rfl, step3_1 h⟩
  · exact ⟨_, _, _, _, _, _, _, _, _, _, _, _, _, _, _, rfl, rfl, rfl, step3_2 h⟩
  · exact ⟨_, _, _, _, _, _, _, _, _, _, _, _, _, _, _, rfl, rfl, rfl, step3_3 h⟩
  · exact ⟨_, _, _, _, _, _, _, _, _, _, _, _, _, _, _, rfl, rfl, rfl, step3_4 h⟩
theorem fold3 : ∀ (l : List (Int × Int)) {a b c : List Int} {f : Int → Int}, (∀ q ∈ l, 0 ≤ q.1 ∧ q.1 < 5) → L3 a b c f → L3 (l.foldl aloneStep a) (l.foldl aloneStep b) (l.foldl aloneStep c) (l.foldl (fun f b => xfer (mv3 b.1) b.2 f threesU) f)
  | [], _, _, _, _, _, h => h
  | q :: l, _, _, _, _, hl, h => fold3 l (fun q' hq => hl q' (.tail _ hq)) (step3 (hl q (.head _)) h)
noncomputable def Cyc (x1 x2 x3 : Int) : Prop := (x1 < x2 ∧ x2 < x3) ∨ (x2 < x3 ∧ x3 < x1) ∨ (x3 < x1 ∧ x1 < x2)
noncomputable def e3B (a b c : List Int) (f : Int → Int) : Bool := (D3 (a.getD 0 0) (a.getD 1 0) (a.getD 2 0) (b.getD 0 0) (b.getD 1 0) (b.getD 2 0) (c.getD 0 0) (c.getD 1 0) (c.getD 2 0) == f 7) && (D3 (a.getD 0 0) (a.getD 1 0) (a.getD 3 0) (b.getD 0 0) (b.getD 1 0) (b.getD 3 0) (c.getD 0 0) (c.getD 1 0) (c.getD 3 0) == f 11) && (D3 (a.getD 0 0) (a.getD 1 0) (a.getD 4 0) (b.getD 0 0) (b.getD 1 0) (b.getD 4 0) (c.getD 0 0) (c.getD 1 0) (c.getD 4 0) == f 19) && (D3 (a.getD 0 0) (a.getD 2 0) (a.getD 3 0) (b.getD 0 0) (b.getD 2 0) (b.getD 3 0) (c.getD 0 0) (c.getD 2 0) (c.getD 3 0) == f 13) && (D3 (a.getD 0 0) (a.getD 2 0) (a.getD 4 0) (b.getD 0 0) (b.getD 2 0) (b.getD 4 0) (c.getD 0 0) (c.getD 2 0) (c.getD 4 0) == f 21) && (D3 (a.getD 0 0) (a.getD 3 0) (a.getD 4 0) (b.getD 0 0) (b.getD 3 0) (b.getD 4 0) (c.getD 0 0) (c.getD 3 0) (c.getD 4 0) == f 25) && (D3 (a.getD 1 0) (a.getD 2 0) (a.getD 3 0) (b.getD 1 0) (b.getD 2 0) (b.getD 3 0) (c.getD 1 0) (c.getD 2 0) (c.getD 3 0) == f 14) && (D3 (a.getD 1 0) (a.getD 2 0) (a.getD 4 0) (b.getD 1 0) (b.getD 2 0) (b.getD 4 0) (c.getD 1 0) (c.getD 2 0) (c.getD 4 0) == f 22) && (D3 (a.getD 1 0) (a.getD 3 0) (a.getD 4 0) (b.getD 1 0) (b.getD 3 0) (b.getD 4 0) (c.getD 1 0) (c.getD 3 0) (c.getD 4 0) == f 26) && (D3 (a.getD 2 0) (a.getD 3 0) (a.getD 4 0) (b.getD 2 0) (b.getD 3 0) (b.getD 4 0) (c.getD 2 0) (c.getD 3 0) (c.getD 4 0) == f 28)
theorem L3_mk {a b c : List Int} {f : Int → Int} (ha : a.length = 5) (hb : b.length = 5) (hc : c.length = 5) (h : e3B a b c f = true) : L3 a b c f := by
  obtain ⟨a0, a1, a2, a3, a4, rfl⟩ := five_cells ha
  obtain ⟨b0, b1, b2, b3, b4, rfl⟩ := five_cells hb
  obtain ⟨c0, c1, c2, c3, c4, rfl⟩ := five_cells hc
  unfold e3B at h
  simp only [Bool.and_eq_true, beq_iff_eq] at h
  obtain ⟨⟨⟨⟨⟨⟨⟨⟨⟨h1, h2⟩, h3⟩, h4⟩, h5⟩, h6⟩, h7⟩, h8⟩, h9⟩, h10⟩ := h
  exact ⟨_, _, _, _, _, _, _, _, _, _, _, _, _, _, _, rfl, rfl, rfl, h1, h2, h3, h4, h5, h6, h7, h8, h9, h10⟩
theorem start3B : ([(0 : Int), 1, 2, 3, 4].all fun x1 => [(0 : Int), 1, 2, 3, 4].all fun x2 => [(0 : Int), 1, 2, 3, 4].all fun x3 => !(decide (x1 < x2 ∧ x2 < x3) || decide (x2 < x3 ∧ x3 < x1) || decide (x3 < x1 ∧ x1 < x2)) || e3B (unitRow x1) (unitRow x2) (unitRow x3) (fun x => if x = 2 ^ x1.toNat + 2 ^ x2.toNat + 2 ^ x3.toNat then 1 else 0)) = true := by decide +kernel
theorem start3 {x1 x2 x3 : Int} (h1 : 0 ≤ x1 ∧ x1 < 5) (h2 : 0 ≤ x2 ∧ x2 < 5) (h3 : 0 ≤ x3 ∧ x3 < 5) (hc : Cyc x1 x2 x3) : L3 (unitRow x1) (unitRow x2) (unitRow x3) (fun x => if x = 2 ^ x1.toNat + 2 ^ x2.toNat + 2 ^ x3.toNat then 1 else 0) := by
  have h := List.all_eq_true.mp (List.all_eq_true.mp (List.all_eq_true.mp start3B x1 (mem_five h1)) x2 (mem_five h2)) x3 (mem_five h3)
  rw [Bool.or_eq_true] at h
  rcases h with h | h
  · exfalso
    rw [Bool.not_eq_true', Bool.or_eq_false_iff, Bool.or_eq_false_iff] at h
    rcases hc with c | c | c
    · exact of_decide_eq_false h.1.1 c
    · exact of_decide_eq_false h.1.2 c
    · exact of_decide_eq_false h.2 c
  · exact L3_mk (unit_len5 _) (unit_len5 _) (unit_len5 _) h
theorem three_cases {x y z : Int} (hx : 0 ≤ x) (hxy : x < y) (hyz : y < z) (hz : z < 5) : (x = 0 ∧ y = 1 ∧ z = 2) ∨ (x = 0 ∧ y = 1 ∧ z = 3) ∨ (x = 0 ∧ y = 1 ∧ z = 4) ∨ (x = 0 ∧ y = 2 ∧ z = 3) ∨ (x = 0 ∧ y = 2 ∧ z = 4) ∨ (x = 0 ∧ y = 3 ∧ z = 4) ∨ (x = 1 ∧ y = 2 ∧ z = 3) ∨ (x = 1 ∧ y = 2 ∧ z = 4) ∨ (x = 1 ∧ y = 3 ∧ z = 4) ∨ (x = 2 ∧ y = 3 ∧ z = 4) := by
  have e1 : x = 0 ∨ x = 1 ∨ x = 2 := by omega
  have e2 : y = 1 ∨ y = 2 ∨ y = 3 := by omega
  have e3 : z = 2 ∨ z = 3 ∨ z = 4 := by omega
  rcases e1 with rfl | rfl | rfl <;> rcases e2 with rfl | rfl | rfl <;> rcases e3 with rfl | rfl | rfl <;> first | exact absurd hxy (by decide) | exact absurd hyz (by decide) | decide
set_option maxHeartbeats 4000000 in
theorem lgv3g {x1 x2 x3 : Int} {bs : List (Int × Int)} {n : Nat} (hb : ∀ q ∈ bs, 0 ≤ q.1 ∧ q.1 < 5) (h1 : 0 ≤ x1 ∧ x1 < 5) (h2 : 0 ≤ x2 ∧ x2 < 5) (h3 : 0 ≤ x3 ∧ x3 < 5) (hc : Cyc x1 x2 x3) (x y z : Int) (hx : 0 ≤ x) (hxy : x < y) (hyz : y < z) (hz : z < 5) :
    vol (aloneTo x1 bs n) (aloneTo x2 bs n) (aloneTo x3 bs n) x.toNat y.toNat z.toNat = threeTo x1 x2 x3 bs n (2 ^ x.toNat + 2 ^ y.toNat + 2 ^ z.toNat) := by
  obtain ⟨a0, a1, a2, a3, a4, b0, b1, b2, b3, b4, c0, c1, c2, c3, c4, ea, eb, ec, h⟩ := fold3 (bs.take n) (fun q hq => hb q (List.mem_of_mem_take hq)) (start3 h1 h2 h3 hc)
  unfold aloneTo threeTo
  rw [ea, eb, ec]
  obtain ⟨h7, h11, h19, h13, h21, h25, h14, h22, h26, h28⟩ := h
  have := three_cases hx hxy hyz hz
  rcases this with ⟨rfl, rfl, rfl⟩ | ⟨rfl, rfl, rfl⟩ | ⟨rfl, rfl, rfl⟩ | ⟨rfl, rfl, rfl⟩ | ⟨rfl, rfl, rfl⟩ | ⟨rfl, rfl, rfl⟩ | ⟨rfl, rfl, rfl⟩ | ⟨rfl, rfl, rfl⟩ | ⟨rfl, rfl, rfl⟩ | ⟨rfl, rfl, rfl⟩ <;> assumption
end
section
open PySem PySem.W PyProof.Rows PySem.Calls PySem.Spec
section
variable {prog : Program} {w : World} {A : Around} {s : Shared} {base : Heap} {ol : List Env} {mg mb : Str → Option Value} {K : Frag} {p : Program} {loose : List Str} {mean : ExcName → Option Value}
  {R : Result → Shared → Prop} {name qual : Str} {params : Arguments} {body : List Stmt} {scope : Scope} {dV kV doc pm cdv ct oc : Value} {an od : Option Addr} {osl : Array (Option Value)} {f : Addr} {args : Args} {binds : List (Str × Value)}
/-- entering a def with cells, from the top -/
theorem enter_top (B : Below A base ol s.heap) (X : K.In s.heap) (T : Top p loose mean mg mb s.heap)
    (ho : K.lookup f = some ⟨oc, od, .func (fnOf name qual params body scope dV kV doc pm an cdv ct), osl⟩) (hcd : codeIn K cdv qual = true) (hroom : A.depth < recursionLimit)
    (hbind : BindsTo s (fnOf name qual params body scope dV kV doc pm an cdv ct) args binds) (hkind : (binds.all fun y => scope.names.lookup y.1 == some .local || scope.names.lookup y.1 == some .cell) = true)
    (hnd : ((cellsFrom 0 scope.names []).map (·.1)).Nodup)
    (h : ∀ L' h₁ tk cells, s.toks ≤ tk → Fr s.heap L' h₁ (bindL (envOfC qual scope L' f cdv).kindOf binds fun _ => none) → News s.heap L' h₁ cells →
      CellsAre (bindC (envOfC qual scope L' f cdv).kindOf binds fun _ => none) (cellsFrom (L' + 1) scope.names []) cells →
      wpAny (model prog w) (A.deeper (envOfC qual scope L' f cdv)) (execs body (envOfC qual scope L' f cdv))
        (fun fl s' => R (.ok (.ret (match fl with | .ret v => v | _ => .none))) s')
        (fun e s' => wpAny (model prog w) (A.deeper (envOfC qual scope L' f cdv)) (leaving (envOfC qual scope L' f cdv) e) (fun _ s'' => R (.error e) s'') (fun e' s'' => R (.error e') s'') s')
        { s with heap := h₁, toks := tk })
    (hco : scope.isCoroutine = false) (hgen : scope.isGenerator = false) (hk : scope.kind = .function) : codeAny (model prog w) A (.call (.ref f) args) R s := by
  refine codeAny_call_function hroom (X _ _ ho) rfl hco hgen rfl (codeRec_of X hcd) (hbind _ _ _ _ ?_)
  refine wpAny_with_toks (Nat.le_refl _) ?_
  refine wpAny_newFunctionEnv_cells hk (kindsX hkind _) fun e' he s' x ht => ?_
  subst he
  have up := x.toInCall.keep
  refine ⟨T.nolimit.keeps up, codeAny_func ?_⟩
  obtain ⟨h₁, tk, rfl, _⟩ := x.done
  obtain ⟨cells, NC, Y⟩ := Cl.news (h₀ := s.heap) (Nat.le_refl _) fun n c hm => ⟨x.cell n c (lookup_of_mem_nodup (cellsFrom_names scope.names 0 (s.heap.objs.size + 1) [] [] rfl ▸ hnd) hm), x.above n c hm⟩
  exact wpAny_mono (h _ h₁ tk cells ht ⟨x.toInCall.ns, up, Nat.le_refl _⟩ NC Y) (fun fl s' hl => hl) fun _ _ y => y
end
theorem Cx.nest0 {w : World} {mean : ExcName → Option Value} {mg mb : Str → Option Value} {A : Around} {env' : Env} {ol : List Env} {base g : Heap} {L : Addr} {m : Str → Option Value} {news : List (Addr × Obj)} {s : Shared}
    (B : Below A base ol g) (F : Fr g L s.heap m) (X : (KK w.params).In g) (N : News g L s.heap news) (T : Top QQ LL mean mg mb g) (hA : A.frames = some ol) (hf : env'.frame = some L) (hk : env'.scope.kind = .function)
    (hd : A.depth + 64 < recursionLimit) (hu : A.units + 1024 < cLine) (hh : A.handled = none) : Cx w mean mg mb (A.deeper env') A env' ol base g L m news s where
  B := B
  F := F
  X := X
  N := N
  T := T
  hA := by show A.frames.map (env' :: ·) = _; rw [hA]; rfl
  hf := hf
  hk := hk
  hd := by show A.depth + 1 + 8 < _; omega
  hu := by show A.units + 3 + 128 < _; omega
  hh := hh
theorem nums_len {ns : List Int} : (numsL ns).length = 10 := by
  have : (givenL ns).length ≤ 10 := by unfold givenL; rw [List.length_map]; exact List.length_take_le ..
  unfold numsL
  rw [List.length_append, List.length_drop]
  show _ + (10 - _) = 10
  omega
theorem nums_bd {ns : List Int} {x : Int} (h : x ∈ numsL ns) : 0 ≤ x ∧ x < 1000000 := by
  unfold numsL at h
  rcases List.mem_append.mp h with h | h
  · unfold givenL at h
    obtain ⟨y, -, rfl⟩ := List.mem_map.mp h
    exact ⟨Int.fmod_nonneg_of_pos y (by decide), Int.fmod_lt_of_pos y (by decide)⟩
  · have := List.mem_of_mem_drop h
    have hd : (defaultsL.all fun x => decide (0 ≤ x ∧ x < 1000000)) = true := by decide
    exact of_decide_eq_true (List.all_eq_true.mp hd x this)
theorem nums_at {ns : List Int} {i : Nat} (h : i < 10) : 0 ≤ (numsL ns).getD i 0 ∧ (numsL ns).getD i 0 < 1000000 := by
  rw [List.getD_eq_getElem?_getD, List.getElem?_eq_getElem (by rw [nums_len]; exact h)]
  exact nums_bd (List.getElem_mem _)
noncomputable def tailL (ns : List Int) : List Int := (numsL ns).drop 2
theorem tail_len8 {ns : List Int} : (tailL ns).length = 8 := by unfold tailL; rw [List.length_drop, nums_len]
theorem sa_push {vs : List Value} {ys : List Str} {y : Str} {t : Tok} (h : StrsAre vs ys) : StrsAre (vs ++ [.str y t]) (ys ++ [y]) := by
  induction h with
  | nil => exact .cons _ _ .nil
  | cons y t r ih => exact .cons _ _ ih
theorem written_sum (l : List Int) : ((l.map written).map (·.length)).sum ≤ 3 * l.length := by
  induction l with
  | nil => exact Nat.le_refl _
  | cons a l ih =>
    have := written_len a
    simp only [List.map_cons, List.sum_cons, List.length_cons]
    omega
theorem joined_len {ns : List Int} : (Txt.join (Str.ofString "") ((tailL ns).map written)).length ≤ 24 := by
  have h := line_len (tailL ns)
  rw [← join_line, Array.length_toList, tail_len8] at h
  exact h
noncomputable abbrev repS (ns : List Int) : Str := Txt.replace (Txt.join (Str.ofString "") ((tailL ns).map written)) (Str.ofString "\"") (Str.ofString "\"\"")
theorem rep_cps {ns : List Int} : (repS ns).cps.toList = StrLaws.dbl 34 (lineL (tailL ns)) := by
  have e1 : Str.ofString "\"" = ⟨#[34]⟩ := by decide
  have e2 : Str.ofString "\"\"" = ⟨#[34, 34]⟩ := by decide
  unfold repS
  rw [e1, e2, StrLaws.replace_double, join_line]
theorem dbl_len : ∀ l : List Nat, (StrLaws.dbl 34 l).length ≤ 2 * l.length
  | [] => Nat.le_refl _
  | c :: r => by
    have := dbl_len r
    unfold StrLaws.dbl
    split <;> simp only [List.length_cons] <;> omega
theorem rep_len {ns : List Int} : (repS ns).length ≤ 48 := by
  have h1 := line_len (tailL ns)
  rw [tail_len8] at h1
  have h2 := dbl_len (lineL (tailL ns))
  rw [← rep_cps, Array.length_toList] at h2
  show (repS ns).cps.size ≤ 48
  omega
theorem q_len : (Str.ofString "\"").length = 1 := by decide
theorem fit1 {ns : List Int} : (Str.ofString "257 \"").length + (repS ns).length ≤ sizeLine := by
  have := rep_len (ns := ns); rw [sizeLine_eq, pre_len]; omega
theorem fit2 {ns : List Int} : (Str.ofString "257 \"" ++ repS ns).length + (Str.ofString "\"").length ≤ sizeLine := by
  have := rep_len (ns := ns); rw [sizeLine_eq, Str.length_append, pre_len, q_len]; omega
theorem fit3 {ns : List Int} {n : Int} : (Str.ofString "257 \"" ++ repS ns ++ Str.ofString "\"").length + (written n).length ≤ sizeLine := by
  have := rep_len (ns := ns); have := written_len n; rw [sizeLine_eq, Str.length_append, Str.length_append, pre_len, q_len]; omega
theorem reply_eq {ns : List Int} {n : Int} : Str.ofString "257 \"" ++ repS ns ++ Str.ofString "\"" ++ written n = Str.ofString "257 \"" ++ (repS ns ++ Str.ofString "\"" ++ written n) := by rw [app_assoc, app_assoc, app_assoc]
theorem reply_len {ns : List Int} {n : Int} : (repS ns ++ Str.ofString "\"" ++ written n).length ≤ 1000 := by
  have := rep_len (ns := ns); have := written_len n; rw [Str.length_append, Str.length_append, q_len]; omega
theorem reply_scan {ns : List Int} {n : Int} : scanL (repS ns ++ Str.ofString "\"" ++ written n).cps.toList = lineL (tailL ns) := by
  have e1 : (Str.ofString "\"").cps.toList = [34] := by decide
  rw [append_cps, append_cps, rep_cps, e1, List.append_assoc]
  exact scan_line (wL_head n)
theorem d_fold {d : Str} {l : List Int} (h : d.cps.toList = lineL l) : foldTo d.cps.toList d.cps.size = l.map fun n => (n.fmod 5, planksOf n) := by
  unfold foldTo
  rw [← Array.length_toList, List.take_length, h, (read_line l []).2, List.nil_append]
theorem d_at {d : Str} {l : List Int} (h : d.cps.toList = lineL l) (i ch : Nat) (e : d.cps[i]? = some ch) : ch < 1114112 ∧ readOk (foldTo d.cps.toList i) ch := by
  unfold foldTo
  rw [← Array.getElem?_toList] at e
  rw [h] at e ⊢
  exact reads_at (read_line l []).1 i ch e
theorem d_size {d : Str} {ns : List Int} (h : d.cps.toList = lineL (tailL ns)) : d.cps.size ≤ 900 := by
  have := line_len (tailL ns)
  rw [tail_len8, ← h, Array.length_toList] at this
  omega
section
variable {prog : Program} {w : World} {A : Around} {E : Value → Shared → Prop} {s : Shared} {h₀ : Heap} {L D : Addr} {news : List (Addr × Obj)} {its : Array Value} {n : Nat} {k : Int} {t u : Tok} {ns : List Int}
theorem sub_intsN {value slice : Expr} {Q : Value → Shared → Prop} (N : News h₀ L s.heap news) (hm : (D, W.listOf its n) ∈ news) (hi : IntsAre its.toList ns) (h0 : 0 ≤ k) (h1 : k.toNat < ns.length) (hz : ns.length ≤ 1000) (h : ∀ t', Q (.int (ns.getD k.toNat 0) t') s)
    (hs : subscripted slice false (.ref D) (.int k u) = operate [.ref D, .int k u] (getItem (.ref D) (.int k u)) := by with_unfolding_all rfl) :
    wpAny (model prog w) A (subscriptTail value slice (.ref D) (.int k u)) Q E s := by
  obtain ⟨t', e⟩ := ia_nth hi h1
  exact sub_news N hm h0 (by omega) e (h t') hs
end
open PySem.SeqAt in
theorem eqAt_pair {A : Around} {s : Shared} {l b : Addr} {p k : Int} {t u t' u' : Tok} {n n' : Nat} (h1 : s.heap.get? l = some (W.listOf #[.int p t, .int k u] n)) (h2 : s.heap.get? b = some (W.listOf #[.int p t', .int k u'] n')) (hu : A.units < cLine) : EqAt A s (.ref l) (.ref b) true := by
  by_cases e : l = b
  · subst e; exact EqAt.same _
  · refine .of_refs e ?_
    have r := RcAt.lists (A := A) (s := s) (e := fun _ => true) (⟨_, h1, rfl, _, rfl⟩ : s.heap.IsList l #[.int p t, .int k u]) (⟨_, h2, rfl, _, rfl⟩ : s.heap.IsList b #[.int p t', .int k u']) rfl hu (fun j a b => ?_)
    · exact r
    · have hj : j < 2 := a
      match j, hj with
      | 0, _ => have := EqAt.int_int (A := A.in1) (s := s) p t p t'; rw [beq_self_eq_true] at this; exact this
      | 1, _ => have := EqAt.int_int (A := A.in1) (s := s) k u k u'; rw [beq_self_eq_true] at this; exact this
open PySem.SeqAt in
theorem ne_same {prog : Program} {w : World} {A : Around} {E Q : Value → Shared → Prop} {s : Shared} {l b : Addr} {i1 i2 : Array Value} (h1 : s.heap.IsList l i1) (h2 : s.heap.IsList b i2) (hz : i1.size = i2.size) (hu : A.units < cLine)
    (he : ∀ j (a : j < i1.size) (b : j < i2.size), EqAt A.in1 s i1[j] i2[j] true) (h : Q (.bool false) s) : wpAny (model prog w) A (compareOp .NotEq (.ref l) (.ref b)) Q E s := by
  have r := RcNeAt.lists (A := A) (s := s) (e := fun _ => true) h1 h2 hz hu he
  have e : (!(List.range i1.size).all fun _ => true) = false := by simp
  rw [e] at r
  exact r prog w E Q h
/-- a list of references to new objects, in turn -/
noncomputable def ObjsP (Spec : Nat → Obj → Prop) (base : List (Addr × Obj)) (I : Addr) (i : Nat) (ys : Array Value) (c : List (Addr × Obj)) : Prop :=
  ys.toList = c.map (fun p => Value.ref p.1) ∧ c.length = i ∧ (∀ (j : Nat) (p : Addr × Obj), c[j]? = some p → Spec j p.2) ∧ (∀ p ∈ c, I + 2 < p.1) ∧ ∀ p ∈ base, p.1 < I
theorem objs_nil {Spec : Nat → Obj → Prop} {base : List (Addr × Obj)} {I : Addr} (hI : ∀ p ∈ base, p.1 < I) : ObjsP Spec base I 0 #[] [] := ⟨rfl, rfl, fun j p h => by simp at h, (fun k h => nomatch h), hI⟩
theorem objs_push {Spec : Nat → Obj → Prop} {base c : List (Addr × Obj)} {I a : Addr} {i : Nat} {ys : Array Value} {o : Obj} (h : ObjsP Spec base I i ys c) (ho : Spec i o) (ha : I + 2 < a) : ObjsP Spec base I (i + 1) (ys.push (.ref a)) (c ++ [(a, o)]) := by
  obtain ⟨h1, h2, h3, h4, h5⟩ := h
  refine ⟨by simp [h1], by simp [h2], fun j p hp => ?_, fun p hp => ?_, h5⟩
  · by_cases hj : j < c.length
    · rw [List.getElem?_append_left hj] at hp
      exact h3 j p hp
    · have e : j = c.length := by
        have := (List.getElem?_eq_some_iff.mp hp).1
        simp at this
        omega
      subst e
      simp at hp
      subst hp
      rw [h2]
      exact ho
  · rcases List.mem_append.mp hp with hp | hp
    · exact h4 _ hp
    · rw [List.mem_singleton.mp hp]; exact ha
theorem ObjsP.off {Spec : Nat → Obj → Prop} {base c : List (Addr × Obj)} {I : Addr} {i : Nat} {ys : Array Value} (h : ObjsP Spec base I i ys c) : ∀ p ∈ c ++ base, p.1 ≠ I ∧ p.1 ≠ I + 1 ∧ p.1 ≠ I + 2 := fun p hp => by
  rcases List.mem_append.mp hp with hp | hp
  · have := h.2.2.2.1 p hp
    exact ⟨Nat.ne_of_gt (Nat.lt_of_le_of_lt (Nat.le_add_right I 2) this), Nat.ne_of_gt (Nat.lt_of_le_of_lt (Nat.le_succ (I + 1)) this), Nat.ne_of_gt this⟩
  · have := h.2.2.2.2 p hp
    exact ⟨Nat.ne_of_lt this, ad3 this, ad4 this⟩
theorem fm4n (n : Int) : (n.fmod 4).toNat < [(1 : Int), 2, 3, 0].length := by have := fm4 n; show _ < 4; omega
noncomputable def PairSp (l : List Int) (j : Nat) (o : Obj) : Prop := ∃ t u n, o = W.listOf #[.int ((l.getD j 0).fmod 5) t, .int (planksOf (l.getD j 0)) u] n
section
variable {prog : Program} {w : World} {A : Around} {E Q : Value → Shared → Prop} {s : Shared} {h₀ : Heap} {L C : Addr} {m m₂ : Str → Option Value} {news : List (Addr × Obj)}
theorem newList_FC {vs : List Value} (N : News h₀ L s.heap news) (F : Fr h₀ L s.heap m) (FC : Fr h₀ C s.heap m₂)
    (h : ∀ h', Fr h₀ L h' m → News h₀ L h' ((s.heap.objs.size, W.listOf vs.toArray 0) :: news) → Fr h₀ C h' m₂ → (∀ p ∈ news, p.1 < s.heap.objs.size) → Q (.ref s.heap.objs.size) { s with heap := h' }) (hsz : vs.length ≤ sizeLine) :
    wpAny (model prog w) A (newList vs) Q E s := wpAny_newObj_type (h _ (F.push _) (N.push F _) (FC.push _) fun p hp => Heap.lt_size (N p hp).1) (by show vs.toArray.size ≤ sizeLine; rw [List.size_toArray]; exact hsz)
end
theorem pick_news {g h : Heap} {L a a0 I C D : Addr} {o o0 oI oC oD : Obj} {c base : List (Addr × Obj)} (N : News g L h ((a, o) :: (a0, o0) :: (D, oD) :: (I, oI) :: (C, oC) :: (c ++ base))) : News g L h ((a, o) :: (D, oD) :: (I, oI) :: (C, oC) :: (c ++ base)) := fun p hp => by
  rcases List.mem_cons.mp hp with rfl | hp
  · exact N _ (.head _)
  · exact N _ (.tail _ (.tail _ hp))
theorem getD_at {l : List Int} {i : Nat} {x : Int} (h : l[i]? = some x) : l.getD i 0 = x := by rw [List.getD_eq_getElem?_getD, h]; rfl
section
variable {prog : Program} {w : World} {A : Around} {E : Value → Shared → Prop} {s : Shared} {h₀ : Heap} {L D : Addr} {news : List (Addr × Obj)} {n : Nat} {k : Int} {t1 t2 t3 u : Tok}
theorem sub_brights {value slice : Expr} {Q : Value → Shared → Prop} (N : News h₀ L s.heap news) (hm : (D, W.listOf #[.float 4607182418800017408 t1, .float 4602678819172646912 t2, .float 4598175219545276416 t3] n) ∈ news) (h0 : 0 ≤ k ∧ k < 3)
    (h : ∀ bb tb, bb ∈ brights → (tb = t1 ∨ tb = t2 ∨ tb = t3) → Q (.float bb tb) s)
    (hs : subscripted slice false (.ref D) (.int k u) = operate [.ref D, .int k u] (getItem (.ref D) (.int k u)) := by with_unfolding_all rfl) :
    wpAny (model prog w) A (subscriptTail value slice (.ref D) (.int k u)) Q E s := by
  have : k = 0 ∨ k = 1 ∨ k = 2 := by omega
  rcases this with rfl | rfl | rfl
  · exact sub_news N hm (by decide) (by decide) rfl (h _ _ (by decide) (.inl rfl)) hs
  · exact sub_news N hm (by decide) (by decide) rfl (h _ _ (by decide) (.inr (.inl rfl))) hs
  · exact sub_news N hm (by decide) (by decide) rfl (h _ _ (by decide) (.inr (.inr rfl))) hs
end
theorem fm3 (n : Int) : 0 ≤ n.fmod 3 ∧ n.fmod 3 < 3 := fm_bd n 3 (by decide)
theorem and3 {a b c x : Nat} (h : x = a ∨ x = b ∨ x = c) {p : Nat → Prop} (ha : p a) (hb : p b) (hc : p c) : p x := by rcases h with rfl | rfl | rfl <;> assumption
theorem take_starts {g h : Heap} {L a : Addr} {v1 v2 v3 : Value} {n : Nat} {rest : List (Addr × Obj)} {x1 x2 x3 : Int} (N : News g L h ((a, W.listOf #[v1, v2, v3] n) :: rest)) (h1 : ∃ t, v1 = .int x1 t) (h2 : ∃ t, v2 = .int x2 t) (h3 : ∃ t, v3 = .int x3 t) :
    ∃ sv : Array Value, News g L h ((a, W.listOf sv n) :: rest) ∧ IntsAre sv.toList [x1, x2, x3] ∧ sv.size = 3 := by
  obtain ⟨t1, rfl⟩ := h1
  obtain ⟨t2, rfl⟩ := h2
  obtain ⟨t3, rfl⟩ := h3
  exact ⟨_, N, .cons _ _ (.cons _ _ (.cons _ _ .nil)), rfl⟩
theorem starts_ok (n : Int) : (0 ≤ n.fmod 5 ∧ n.fmod 5 < 5) ∧ (0 ≤ (n.fmod 5 + 1 + (n.fdiv 5).fmod 2).fmod 5 ∧ (n.fmod 5 + 1 + (n.fdiv 5).fmod 2).fmod 5 < 5) ∧ (0 ≤ (n.fmod 5 + 2 + (n.fdiv 5).fmod 2).fmod 5 ∧ (n.fmod 5 + 2 + (n.fdiv 5).fmod 2).fmod 5 < 5) ∧
    n.fmod 5 ≠ (n.fmod 5 + 1 + (n.fdiv 5).fmod 2).fmod 5 ∧ n.fmod 5 ≠ (n.fmod 5 + 2 + (n.fdiv 5).fmod 2).fmod 5 ∧ (n.fmod 5 + 1 + (n.fdiv 5).fmod 2).fmod 5 ≠ (n.fmod 5 + 2 + (n.fdiv 5).fmod 2).fmod 5 ∧ Cyc (n.fmod 5) ((n.fmod 5 + 1 + (n.fdiv 5).fmod 2).fmod 5) ((n.fmod 5 + 2 + (n.fdiv 5).fmod 2).fmod 5) := by
  have h1 := fm_bd n 5 (by decide)
  have h2 := fm_bd (n.fdiv 5) 2 (by decide)
  generalize n.fmod 5 = a at *
  generalize (n.fdiv 5).fmod 2 = b at *
  rw [Int.fmod_eq_emod_of_nonneg (a + 1 + b) (by decide), Int.fmod_eq_emod_of_nonneg (a + 2 + b) (by decide)]
  unfold Cyc
  omega
theorem planks_bd (n : Int) : 0 ≤ planksOf n ∧ planksOf n ≤ 3 := by
  have h := fm4 (n.fdiv 5)
  have : (n.fdiv 5).fmod 4 = 0 ∨ (n.fdiv 5).fmod 4 = 1 ∨ (n.fdiv 5).fmod 4 = 2 ∨ (n.fdiv 5).fmod 4 = 3 := by omega
  unfold planksOf
  rcases this with e | e | e | e <;> rw [e] <;> decide
noncomputable def bsOf (ns : List Int) : List (Int × Int) := (tailL ns).map fun n => (n.fmod 5, planksOf n)
theorem bs_bd {ns : List Int} {b : Int × Int} (h : b ∈ bsOf ns) : (0 ≤ b.1 ∧ b.1 < 5) ∧ (0 ≤ b.2 ∧ b.2 ≤ 3) := by
  obtain ⟨n, -, rfl⟩ := List.mem_map.mp h
  exact ⟨fm_bd n 5 (by decide), planks_bd n⟩
noncomputable def xsOf (ns : List Int) : List Int := [((numsL ns).getD 1 0).fmod 5, (((numsL ns).getD 1 0).fmod 5 + 1 + (((numsL ns).getD 1 0).fdiv 5).fmod 2).fmod 5, (((numsL ns).getD 1 0).fmod 5 + 2 + (((numsL ns).getD 1 0).fdiv 5).fmod 2).fmod 5]
noncomputable def RowSp (xs : List Int) (bs : List (Int × Int)) (j : Nat) (o : Obj) : Prop := ∃ vs n, o = W.listOf vs n ∧ IntsAre vs.toList (aloneTo (xs.getD j 0) bs 8)
theorem three_of {α : Type} : ∀ {l : List α}, l.length = 3 → ∃ a b c, l = [a, b, c]
  | [a, b, c], _ => ⟨a, b, c, rfl⟩
theorem bs_len {ns : List Int} : (bsOf ns).length = 8 := by unfold bsOf; rw [List.length_map, tail_len8]
theorem alone_bd {st : Int} {ns : List Int} (h : 0 ≤ st ∧ st < 5) (k : Nat) (x : Int) : IntMulOk ((aloneTo st (bsOf ns) 8).getD k 0) x := alone_mul h (fun b hb => bs_bd hb) bs_len k x
theorem lgv2 {x1 x2 : Int} {ns : List Int} (h1 : 0 ≤ x1 ∧ x1 < 5) (h2 : 0 ≤ x2 ∧ x2 < 5) (h12 : x1 ≠ x2) (x y : Int) (hx : 0 ≤ x) (hxy : x < y) (hy : y < 5) :
    (aloneTo x1 (bsOf ns) 8).getD x.toNat 0 * (aloneTo x2 (bsOf ns) 8).getD y.toNat 0 - (aloneTo x1 (bsOf ns) 8).getD y.toNat 0 * (aloneTo x2 (bsOf ns) 8).getD x.toNat 0 = twoTo x1 x2 (bsOf ns) 8 (10 * x + y) - twoTo x1 x2 (bsOf ns) 8 (10 * y + x) :=
  lgv2g (fun q hq => (bs_bd hq).1) h1 h2 h12 x y hx hxy hy
theorem lgv3 {x1 x2 x3 : Int} {ns : List Int} (h1 : 0 ≤ x1 ∧ x1 < 5) (h2 : 0 ≤ x2 ∧ x2 < 5) (h3 : 0 ≤ x3 ∧ x3 < 5) (hc : Cyc x1 x2 x3) (x y z : Int) (hx : 0 ≤ x) (hxy : x < y) (hyz : y < z) (hz : z < 5) :
    vol (aloneTo x1 (bsOf ns) 8) (aloneTo x2 (bsOf ns) 8) (aloneTo x3 (bsOf ns) 8) x.toNat y.toNat z.toNat = threeTo x1 x2 x3 (bsOf ns) 8 (2 ^ x.toNat + 2 ^ y.toNat + 2 ^ z.toNat) :=
  lgv3g (fun q hq => (bs_bd hq).1) h1 h2 h3 hc x y z hx hxy hyz hz
theorem join_ok {ns : List Int} : (((tailL ns).map written).map (·.length)).sum + ((tailL ns).map written).length * (Str.ofString "").length ≤ 16777216 := by
  have := written_sum (tailL ns)
  rw [tail_len8] at this
  rw [List.length_map, tail_len8]
  have : (Str.ofString "").length = 0 := by decide
  omega
theorem sz10 {vs : List Value} {ns : List Int} (h : IntsAre vs ns) (hn : ns.length = 10) : vs.toArray.size ≤ sizeLine := by rw [List.size_toArray, ia_len h, sizeLine_eq, hn]; decide
theorem led_listL {g h : Heap} {L a : Addr} {vs : List Value} {n : Nat} {news : List (Addr × Obj)} (N : News g L h news) (hm : (a, W.listOf vs.toArray n) ∈ news) : h.IsList a vs.toArray := ⟨_, (N _ hm).1, rfl, _, rfl⟩
local macro_rules | `(tactic| walk_at "subscriptTail Name Slice ref ref") => `(tactic| (k_here; k_dflt (refine' kmk_slice_ints ?lF ?lN ?ll ?lp ?lq ?li ?lm ?lc ?_ ?ls ?lt ?lz; (case lF => assumption); (case lN => assumption); (case ll => exact led_listL (by assumption) (by first | exact .head _ | assumption)); (case lp => exact IsPart.int _ _); (case lq => exact IsPart.none); (case li => assumption); (case lm => exact kmk_from (by assumption) (by decide)); (case lc => exact rfl); (case ls => with_unfolding_all rfl); (case lt => (intro _; with_unfolding_all rfl)); (case lz => exact sz10 (by assumption) (by assumption))); intro _ _ _ _ _ _ _ _ _))
local macro_rules | `(tactic| walk_at "call builtin:str.replace") => `(tactic| (k_here; k_dflt (refine' SC.replaceW2 24 2 (by decide) (Nat.succ_ne_zero _) (Nat.succ_ne_zero _) (Nat.ne_of_lt (Nat.lt_succ_self _)) ?rx ?rz ?_ ?rb; (case rx => exact joined_len); (case rz => decide); (case rb => exact booked_keep (by assumption) (booked_of (by assumption) (by assumption)))); intro _ _))
local macro_rules | `(tactic| walk_at "eval Name") => `(tactic| (k_here; (with_reducible show wpAny _ _ (eval (Expr.Name _ _) (envOfC _ _ _ _ _)) _ _ _); k_dflt ((refine' nameX_C ?N ?c ?m ?d ?_ ?k ?x ?b; (case k => rfl); (case x => rfl); (case b => decide); (case N => assumption); (case c => rfl); (case m => first | assumption | exact .tail _ (by assumption) | exact .tail _ (.tail _ (by assumption)) | exact .tail _ (.tail _ (.tail _ (by assumption)))); (case d => with_reducible assumption)))))
local macro_rules | `(tactic| walk_at "subscriptTail Name BinOp ref int") => `(tactic| (k_here; k_dflt (refine' sub_intsN (ns := [1, 2, 3, 0]) ?suN ?suM ?suI ?su0 ?su1 ?suz ?_; (case suN => assumption); (case suM => exact .head _); (case suI => exact .cons _ _ (.cons _ _ (.cons _ _ (.cons _ _ .nil)))); (case su0 => exact (fm4 _).1); (case su1 => exact fm4n _); (case suz => decide)); intro _))
local macro_rules | `(tactic| walk_at "newList") => `(tactic| (k_here; k_dflt (refine' newList_FC ?nN ?nF ?nC ?_ ?nz; (case nN => assumption); (case nF => assumption); (case nC => assumption); (case nz => exact Nat.le_of_ble_eq_true rfl)); intro _ _ _ _ _))
local macro_rules | `(tactic| walk_at "subscriptTail Name BinOp ref int") => `(tactic| (k_here; k_dflt (refine' sub_brights ?suN ?suM ?su0 ?_; (case suN => assumption); (case suM => exact .head _); (case su0 => exact fm3 _)); intro _ _ _ _))
local macro_rules | `(tactic| walk_at "eval Name") => `(tactic| (k_here; (with_reducible show wpAny _ _ (eval (Expr.Name _ _) (compEnvC _ _ _ _)) _ _ _); k_dflt ((refine' lcf_cell ?N ?c ?m ?d ?_ ?a ?b; (case a => rfl); (case b => rfl); (case N => assumption); (case c => rfl); (case m => exact .tail _ (.tail _ (.tail _ (by assumption)))); (case d => with_reducible assumption)))))
local macro_rules | `(tactic| walk_at "subscriptTail Name Constant ref int") => `(tactic| (k_here; k_dflt (refine' sub_intsN (ns := xsOf _) ?suN ?suM ?suI ?su0 ?su1 ?suz ?_; (case suN => assumption); (case suM => walk_at "MYMEM"); (case suI => assumption); (case su0 => decide); (case su1 => (show Int.toNat _ < 3; decide)); (case suz => (show 3 ≤ 1000; decide))); intro _))
local macro_rules | `(tactic| walk_at "subscriptTail Name Constant ref int") => `(tactic| (k_here; k_dflt (refine' sub_news ?suN ?suM ?su0 ?su1 ?suX ?_; (case suN => assumption); (case suM => exact .tail _ (.tail _ (.head _))); (case su0 => decide); (case su1 => decide); (case suX => with_reducible assumption))))
local macro_rules | `(tactic| walk_at "binaryOp Add str str") => `(tactic| (k_here; k_dflt (refine' add_str ?_ ?az; (case az => first | exact fit1 | exact fit2 | exact fit3)); intro _ _))
local macro_rules | `(tactic| walk_at "MYMEM") => `(tactic| first | assumption | exact .head _ | exact .tail _ (.head _) | exact .tail _ (.tail _ (.head _)) | exact .tail _ (.tail _ (.tail _ (.head _))) | exact .tail _ (.tail _ (.tail _ (.tail _ (.head _)))) | exact .tail _ (by assumption) | exact .tail _ (.tail _ (by assumption)) | exact .tail _ (.tail _ (.tail _ (by assumption))))
local macro_rules | `(tactic| walk_at "subscriptTail Name Constant ref int") => `(tactic| (k_here; k_dflt (refine' sub_intsN (ns := numsL _) ?suN ?suM ?suI ?su0 ?su1 ?suz ?_; (case suN => assumption); (case suM => walk_at "MYMEM"); (case suI => assumption); (case su0 => decide); (case su1 => rw [nums_len]; decide); (case suz => rw [nums_len]; decide)); intro _))
local macro_rules | `(tactic| walk_at "call builtin:str.join") => `(tactic| (k_here; k_dflt (refine' join_list ?jl ?ji ?jo ?_; (case jl => exact ⟨_, ((by assumption : News _ _ _ ((_, W.listOf _ _) :: _)) _ (.head _)).1, rfl, _, rfl⟩); (case ji => assumption); (case jo => exact join_ok)); intro _ _))
local macro_rules | `(tactic| walk_at "S") => `(tactic| repeat' ((fail_if_success (with_reducible show wpAny _ _ (exec (Stmt.While _ _ _ _) _) _ _ _)); (fail_if_success (with_reducible show wpAny _ _ (pyIter _) (fun it s₂ => codeAny _ _ _ _ _) _ _)); (fail_if_success (with_reducible show wpAny _ _ (pyIter _) (CompAt _ _ _ _ _ _ _ _ _ _ _ _ _) _ _)); (fail_if_success (with_reducible show wpAny _ _ (storeName (envOfC _ _ _ _ _) (Str.ofString "bridges") _) _ _ _)); (fail_if_success (with_reducible show wpAny _ _ (storeName (envOfC _ _ _ _ _) (Str.ofString "leads") _) _ _ _)); (fail_if_success (with_reducible show wpAny _ _ (call (Value.ref _) _) _ _ _)); (fail_if_success (with_reducible show wpAny _ _ (compareOp CmpOp.NotEq (Value.ref _) (Value.ref _)) _ _ _)); first | walk1 | (dsimp only; walk1)))
set_option maxRecDepth 100000 in
set_option maxHeartbeats 8000000 in
theorem law_c {w : World} {mean : ExcName → Option Value} {mg mb : Str → Option Value} {A : Around} {ol : List Env} {base : Heap} {s : Shared} {R : Result → Shared → Prop} {sl : Addr} {vs : List Value} {ns : List Int}
    (B : Below A base ol s.heap) (X : (KK w.params).In s.heap) (T : Top QQ LL mean mg mb s.heap) (hA : A.frames = some ol) (hd : A.depth + 64 < recursionLimit) (hu : A.units + 1024 < cLine) (hh : A.handled = none)
    (hsl : s.heap.IsList sl vs.toArray) (hsi : IntsAre vs ns) (hlen : ns.length ≤ 63)
    (hret : ∀ h tk, (∀ b o, s.heap.get? b = some o → h.get? b = some o) → R (.ok (.ret (.bool true))) { s with heap := h, toks := tk }) :
    codeAny (PM w) A (.call (.ref 222) ⟨[.ref sl], []⟩) R s := by
  delta PM; revert X; k_fill; intro X
  k_dflt (refine' enter_top (binds := [(Str.ofString "script", .ref sl)]) ?k1 ?k3 ?k5 ?k6 ?k7 ?k8 ?k9 ?kB ?kD ?_ ?c2 ?c3 ?c4; (case k1 => exact B); (case k3 => exact X); (case k5 => exact T); (case k6 => k_is); (case k7 => k_is); (case k8 => omega); (case k9 => exact BindsTo.of_eq rfl); (case kB => exact rfl); (case kD => decide +kernel); (case c2 => exact rfl); (case c3 => exact rfl); (case c4 => exact rfl); k_whole; intro L' h' tk' cells' ht' F' N' Y'; k_cells Y'; (try dsimp only); refine wpAny_noRaise ?_; (try k_fold))
  rename_i oL oB dL dB
  have eL : oL.data = .cell none := dL
  have eB : oB.data = .cell none := dB
  clear dL dB
  walk_at "S"
  k_dflt (refine' numbers_c (Cx.nest0 B F' X N' T hA rfl rfl hd hu hh) hsl hsi hlen ?_)
  intro na nv nc h1 tk1 fr1 hnv F1 N1
  have hnl : (numsL ns).length = 10 := nums_len
  walk_at "S"
  rename_i D ws h2 F2 N2 l2 hw _ hle
  have hw' : IntsAre ws.toArray.toList (tailL ns) := hw
  have hz : ws.toArray.size = 8 := by rw [List.size_toArray, ia_len hw']; exact tail_len8
  k_dflt (refine' comp_list (vs := ws.toArray) (o := W.listOf ws.toArray 0) CUse.none F2 N2 (fun _ v mc y => if y = Str.ofString "number" then some v else mc y) (fun _ : Unit => [(D, W.listOf ws.toArray 0), (na, W.listOf nv.toArray nc), (L' + 1 + 1, oL), (L' + 1, oB)]) (fun _ => 0) (fun J n zs _ => StrsAre zs.toList (((tailL ns).map written).take n) ∧ ∀ p ∈ [(D, W.listOf ws.toArray 0), (na, W.listOf nv.toArray nc), (L' + 1 + 1, oL), (L' + 1, oB)], p.1 < J) ?a1u ?a1O ?a1l ?a1o ?a1h ?a1z ?a1c ?a1k ?a1U ?a1T ?a1turn ?a1done)
  case a1u => exact ⟨(), fun I hI => ⟨.nil, hI⟩, rfl, Nat.zero_le _⟩
  case a1O => exact fun I i ys _ hP p hp => ⟨Nat.ne_of_lt (hP.2 p hp), ad3 (hP.2 p hp), ad4 (hP.2 p hp)⟩
  case a1l => exact .inr fun _ => .head _
  case a1o => exact ⟨rfl, _, rfl⟩
  case a1h => exact hh
  case a1z => rw [hz]; decide
  case a1c => decide
  case a1k => rfl
  case a1U => trivial
  case a1T => exact fun I i ys c It _ _ => tgt_name rfl rfl
  case a1turn =>
    rintro I i ys cnt - v h tk oI oC mc hv ⟨hP, hI⟩ _ F FC N
    obtain ⟨x, t, hx, rfl⟩ := ia_at hw' hv
    obtain ⟨n0, n1⟩ := nums_bd (List.mem_of_mem_drop (List.mem_of_getElem? hx))
    walk_at "S"
    k_dflt (refine' written_c (Cx.nest0 B F X N T hA rfl rfl hd hu hh) n0 n1 ?_)
    intro t9 h9 tk9 F9 N9
    refine ⟨(), _, _, ⟨?_, hI⟩, Nat.zero_le _, rfl, F9, N9⟩
    rw [Array.toList_push, List.take_add_one, List.getElem?_map, hx]
    exact sa_push hP
  case a1done =>
    rintro I ys cnt - ⟨hP, hI⟩ h tk _ F N
    have hP' : StrsAre ys.toList ((tailL ns).map written) := by
      rw [hz, List.take_of_length_le (by rw [List.length_map, tail_len8]; exact Nat.le_refl _)] at hP
      exact hP
    walk_at "S"
    have nb1 := nums_at (ns := ns) (i := 1) (by decide)
    k_dflt (refine' written_c (Cx.nest0 B (by assumption) X (by assumption) T hA rfl rfl hd hu hh) nb1.1 nb1.2 ?_)
    intro t4 h4 tk4 F4 N4
    walk_at "S"
    have eR := reply_eq (ns := ns) (n := (numsL ns).getD 1 0)
    rw [show Str.ofString "257 \"" ++ Txt.replace (Txt.join (Str.ofString "") (List.map written (tailL ns))) (Str.ofString "\"") (Str.ofString "\"\"") ++ Str.ofString "\"" ++ written ((numsL ns).getD (Int.toNat 1) 0) = _ from eR]
    k_dflt (refine' parse_c (Cx.nest0 B (by assumption) X (by assumption) T hA rfl rfl hd hu hh) reply_len ?_)
    intro d t5 h5 tk5 hd5 F5 N5
    rw [reply_scan] at hd5
    walk_at "S"
    have N6 : News s.heap L' h5 [(na, W.listOf nv.toArray nc), (L' + 1 + 1, oL), (L' + 1, oB)] := fun p hp => N5 p (.tail _ (.tail _ hp))
    k_dflt (refine' read_c (Cx.nest0 B F5 X N6 T hA rfl rfl hd hu hh) (by show A.depth + 1 + 16 < _; omega) (by show A.units + 3 + 256 < _; omega) (fun i ch e => (d_at hd5 i ch e).1) (fun i ch e => (d_at hd5 i ch e).2) (d_size hd5) ?_)
    intro bl c h7 tk7 hbo F7 N7
    rw [d_fold hd5] at hbo
    walk_at "S"
    have N7' : News s.heap L' h7 ((bl, brsObj c) :: ((c.subs.map fun b => (b.a, b.obj)) ++ [(na, W.listOf nv.toArray nc), (L' + 1 + 1, oL), (L' + 1, oB)])) := N7
    have hlB : L' + 1 < bl := hbo.base _ (.tail _ (.tail _ (.head _)))
    have hnB : L' + 1 < na := fr1 _ (.tail _ (.head _))
    have moB : (L' + 1, oB) ∈ ((bl, brsObj c) :: ((c.subs.map fun b => (b.a, b.obj)) ++ [(na, W.listOf nv.toArray nc), (L' + 1 + 1, oL), (L' + 1, oB)])) := .tail _ (List.mem_append_right _ (.tail _ (.tail _ (.head _))))
    k_dflt (refine' store_cell F7 N7' ?sb1 moB eB ?_ ?sb2 ?sb3; (case sb1 => rfl); (case sb2 => rfl); (case sb3 => rfl))
    intro h8 oB' F8 N8 eB'
    have N9 : News s.heap L' h8 ((bl, brsObj c) :: ((c.subs.map fun b => (b.a, b.obj)) ++ [(na, W.listOf nv.toArray nc), (L' + 1 + 1, oL), (L' + 1, oB')])) := N8 _ (now_cons (Nat.ne_of_gt hlB) (now_app (fun p hp => by
      obtain ⟨b, hb, rfl⟩ := List.mem_map.mp hp
      exact Nat.ne_of_gt ((hbo.low b hb).2 _ (.tail _ (.tail _ (.head _))))) (now_cons (Nat.ne_of_gt hnB) (now_cons (nadd L' (a := 2) (b := 1) (by decide)) fun p hp => .inl (List.mem_singleton.mp hp)))))
    clear N7 N7' N8 F7 moB N6 F5 N5
    have qB : (L' + 1, oB') ∈ ((bl, brsObj c) :: ((c.subs.map fun b => (b.a, b.obj)) ++ [(na, W.listOf nv.toArray nc), (L' + 1 + 1, oL), (L' + 1, oB')])) := .tail _ (List.mem_append_right _ (.tail _ (.tail _ (.head _))))
    have qN : (na, W.listOf nv.toArray nc) ∈ ((bl, brsObj c) :: ((c.subs.map fun b => (b.a, b.obj)) ++ [(na, W.listOf nv.toArray nc), (L' + 1 + 1, oL), (L' + 1, oB')])) := .tail _ (List.mem_append_right _ (.head _))
    dsimp only
    walk_at "S"
    rename_i D2 ws2 h10 F10 N10 l10 hw2 _ _
    have hw2' : IntsAre ws2.toArray.toList (tailL ns) := hw2
    have hz2 : ws2.toArray.size = 8 := by rw [List.size_toArray, ia_len hw2']; exact tail_len8
    k_dflt (refine' comp_list (vs := ws2.toArray) (o := W.listOf ws2.toArray 0) CUse.none F10 N10 (fun _ v mc y => if y = Str.ofString "number" then some v else mc y) (fun d : List (Addr × Obj) => d ++ ((D2, W.listOf ws2.toArray 0) :: ((bl, brsObj c) :: ((c.subs.map fun b => (b.a, b.obj)) ++ [(na, W.listOf nv.toArray nc), (L' + 1 + 1, oL), (L' + 1, oB')])))) (fun _ => 0) (ObjsP (PairSp (tailL ns)) ((D2, W.listOf ws2.toArray 0) :: ((bl, brsObj c) :: ((c.subs.map fun b => (b.a, b.obj)) ++ [(na, W.listOf nv.toArray nc), (L' + 1 + 1, oL), (L' + 1, oB')])))) ?a2u ?a2O ?a2l ?a2o ?a2h ?a2z ?a2c ?a2k ?a2U ?a2T ?a2turn ?a2done)
    case a2u => exact ⟨[], fun I hI => objs_nil hI, rfl, Nat.zero_le _⟩
    case a2O => exact fun I i ys c hP => hP.off
    case a2l => exact .inr fun _ => List.mem_append_right _ (.head _)
    case a2o => exact ⟨rfl, _, rfl⟩
    case a2h => exact hh
    case a2z => rw [hz2]; decide
    case a2c => decide
    case a2k => rfl
    case a2U => trivial
    case a2T => exact fun I i ys c It _ _ => tgt_name rfl rfl
    case a2turn =>
      rintro I2 i ys2 cnt2 d2 v h tk oI oC mc hv hP _ F FC N
      obtain ⟨x, t, hx, rfl⟩ := ia_at hw2' hv
      walk_at "S"
      rename_i h9 F9 N9 FC9 fr9
      refine ⟨d2 ++ [(_, _)], _, _, objs_push hP ?psp (fr9 _ (.tail _ (.tail _ (.tail _ (.head _))))), Nat.zero_le _, rfl, F9, lamps_news (pick_news N9)⟩
      case psp =>
        unfold PairSp
        rw [getD_at hx]
        exact ⟨_, _, _, rfl⟩
    case a2done =>
      rintro I2 ys2 cnt2 d2 ⟨hd1, hd2, hd3, hd4, hd5⟩ h tk _ F N
      have hcl : c.subs.length = 8 := by rw [← List.length_map (f := fun b : BSub => (b.p, b.k)), hbo.vals, List.length_map, tail_len8]
      have hy2 : ys2.size = 8 := by rw [← Array.length_toList, hd1, List.length_map, hd2, hz2]
      walk_at "S"
      refine ne_same (i1 := (c.subs.map fun b => Value.ref b.a).toArray) (i2 := ys2) ⟨_, (N (bl, brsObj c) (.tail _ (List.mem_append_right _ (.tail _ (.head _))))).1, rfl, _, rfl⟩ ⟨_, (N (I2 + 1, W.listOf ys2 cnt2) (.head _)).1, rfl, _, rfl⟩ (by rw [hy2]; simp [hcl]) (by show A.units + 3 < _; omega) (fun j a b => ?_) ?_
      · have hj : j < 8 := by rw [← hy2]; exact b
        obtain ⟨p, hp, e2⟩ := refs_get hd1 b
        rw [e2]
        have e1 : ((c.subs.map fun b => Value.ref b.a).toArray)[j] = .ref (c.subs[j]'(by omega)).a := by simp
        rw [e1]
        obtain ⟨t, u, n, ho⟩ := hd3 j p hp
        have hbj : ((c.subs[j]'(by omega)).p, (c.subs[j]'(by omega)).k) = (((tailL ns).getD j 0).fmod 5, planksOf ((tailL ns).getD j 0)) := by
          have := congrArg (fun l => l[j]?) hbo.vals
          simp only [List.getElem?_map, List.getElem?_eq_getElem (show j < c.subs.length by omega), List.getElem?_eq_getElem (show j < (tailL ns).length by rw [tail_len8]; exact hj), Option.map_some] at this
          rw [List.getD_eq_getElem?_getD, List.getElem?_eq_getElem (show j < (tailL ns).length by rw [tail_len8]; exact hj)]
          exact Option.some.inj this
        have q1 := (N ((c.subs[j]'(by omega)).a, (c.subs[j]'(by omega)).obj) (.tail _ (List.mem_append_right _ (.tail _ (.tail _ (List.mem_append_left _ (List.mem_map.mpr ⟨_, List.getElem_mem _, rfl⟩))))))).1
        have q2 := (N p (.tail _ (List.mem_append_left _ (List.mem_of_getElem? hp)))).1
        rw [ho] at q2
        rw [← (Prod.mk.inj hbj).1, ← (Prod.mk.inj hbj).2] at q2
        exact eqAt_pair q1 q2 (in1_lt (units_ok (by omega)))
      have NW : News s.heap L' h ((bl, brsObj c) :: ((c.subs.map fun b => (b.a, b.obj)) ++ [(na, W.listOf nv.toArray nc), (L' + 1 + 1, oL), (L' + 1, oB')])) := fun p hp => N p (.tail _ (List.mem_append_right _ (.tail _ hp)))
      clear N
      walk_at "S"
      have nb0 := nums_at (ns := ns) (i := 0) (by decide)
      refine wpAny_with_toks (n := 1) (Nat.succ_le_succ (Nat.zero_le _)) ?_
      k_dflt (refine' hues_c (Cx.nest0 B F X NW T hA rfl rfl hd hu hh) nb0.1 nb0.2 ?_)
      intro ha hvs hcn h11 tk11 hhi F11 N11 hT11
      walk_at "S"
      rename_i bb tb hbb htb
      obtain ⟨q1, q2, q3, q4⟩ := hues_ok ((numsL ns).getD 0 0)
      have htb0 : tb ≠ 0 := and3 (p := fun x => x ≠ 0) htb (Nat.ne_of_gt hT11) (Nat.succ_ne_zero _) (Nat.succ_ne_zero _)
      have N12 : News s.heap L' _ ((ha, W.listOf hvs.toArray hcn) :: ((bl, brsObj c) :: ((c.subs.map fun b => (b.a, b.obj)) ++ [(na, W.listOf nv.toArray nc), (L' + 1 + 1, oL), (L' + 1, oB')]))) := fun p hp => (by assumption : News s.heap L' _ ((_, W.listOf #[Value.float _ _, Value.float _ _, Value.float _ _] _) :: _)) p (.tail _ hp)
      have htl : tb ≤ tk11 + 1 + 1 := and3 (p := fun x => x ≤ tk11 + 1 + 1) htb (Nat.le_succ_of_le (Nat.le_succ _)) (Nat.le_succ _) (Nat.le_refl _)
      k_dflt (refine' leads_c (hv := hvs.toArray) (Cx.nest0 B (by assumption) X N12 T hA rfl rfl hd hu hh) (by show A.depth + 1 + 16 < _; omega) (by show A.units + 3 + 256 < _; omega) hbb htb0 ?htq (.head _) hhi q1 q2 q3 q4 ?_)
      case htq => exact Nat.le_trans htl (by repeat first | exact Nat.le_refl _ | refine Nat.le_succ_of_le ?_)
      intro la lv lc h13 tk13 frl hli F13 N13
      have hlBl : ∀ p ∈ ((bl, brsObj c) :: ((c.subs.map fun b => (b.a, b.obj)) ++ [(na, W.listOf nv.toArray nc), (L' + 1 + 1, oL), (L' + 1, oB')])), p.1 < la := fun p hp => frl p (.tail _ hp)
      have N14 : News s.heap L' h13 ((la, W.listOf lv lc) :: ((bl, brsObj c) :: ((c.subs.map fun b => (b.a, b.obj)) ++ [(na, W.listOf nv.toArray nc), (L' + 1 + 1, oL), (L' + 1, oB')]))) := fun p hp => by
        rcases List.mem_cons.mp hp with rfl | hp
        · exact N13 _ (.head _)
        · exact N13 _ (.tail _ (.tail _ hp))
      clear N13 N12
      walk_at "S"
      have moL : (L' + 1 + 1, oL) ∈ ((la, W.listOf lv lc) :: ((bl, brsObj c) :: ((c.subs.map fun b => (b.a, b.obj)) ++ [(na, W.listOf nv.toArray nc), (L' + 1 + 1, oL), (L' + 1, oB')]))) := .tail _ (.tail _ (List.mem_append_right _ (.tail _ (.head _))))
      k_dflt (refine' store_cell F13 N14 ?sf1 moL eL ?_ ?sf2 ?sf3; (case sf1 => rfl); (case sf2 => rfl); (case sf3 => rfl))
      intro h15 oL' F15 N15 eL'
      have hLna : L' + 1 + 1 < na := fr1 _ (.head _)
      have N16 : News s.heap L' h15 ((la, W.listOf lv lc) :: ((bl, brsObj c) :: ((c.subs.map fun b => (b.a, b.obj)) ++ [(na, W.listOf nv.toArray nc), (L' + 1 + 1, oL'), (L' + 1, oB')]))) := N15 _ (now_cons (Nat.ne_of_gt (hlBl _ (.tail _ (List.mem_append_right _ (.tail _ (.head _)))))) (now_cons (Nat.ne_of_gt (hbo.base _ (.tail _ (.head _)))) (now_app (fun p hp => by
        obtain ⟨b, hb, rfl⟩ := List.mem_map.mp hp
        exact Nat.ne_of_gt ((hbo.low b hb).2 _ (.tail _ (.head _)))) (now_cons (Nat.ne_of_gt hLna) fun p hp => by
          rcases List.mem_cons.mp hp with rfl | hp
          · exact .inl rfl
          · rw [List.mem_singleton.mp hp]
            exact .inr ⟨.tail _ (.head _), nadd L' (a := 1) (b := 2) (by decide)⟩))))
      clear N14 N15 F13 moL qB qN
      have qB : (L' + 1, oB') ∈ ((la, W.listOf lv lc) :: ((bl, brsObj c) :: ((c.subs.map fun b => (b.a, b.obj)) ++ [(na, W.listOf nv.toArray nc), (L' + 1 + 1, oL'), (L' + 1, oB')]))) := .tail _ (.tail _ (List.mem_append_right _ (.tail _ (.tail _ (.head _)))))
      have qL : (L' + 1 + 1, oL') ∈ ((la, W.listOf lv lc) :: ((bl, brsObj c) :: ((c.subs.map fun b => (b.a, b.obj)) ++ [(na, W.listOf nv.toArray nc), (L' + 1 + 1, oL'), (L' + 1, oB')]))) := .tail _ (.tail _ (List.mem_append_right _ (.tail _ (.head _))))
      have qN : (na, W.listOf nv.toArray nc) ∈ ((la, W.listOf lv lc) :: ((bl, brsObj c) :: ((c.subs.map fun b => (b.a, b.obj)) ++ [(na, W.listOf nv.toArray nc), (L' + 1 + 1, oL'), (L' + 1, oB')]))) := .tail _ (.tail _ (List.mem_append_right _ (.head _)))
      dsimp only
      walk_at "S"
      rename_i h16 F16 N17 FC17 fr17
      refine ke_ne_ints (led_list N17 (.tail _ (.head _))) (led_list N17 (.head _)) hli (.cons _ _ (.cons _ _ (.cons _ _ (.cons _ _ (.cons _ _ .nil))))) (units_ok (by omega)) ?_
      rw [show (!decide (nextL = [1, 2, 3, 4, 0])) = false from by decide]
      have N18 : News s.heap L' h16 ((la, W.listOf lv lc) :: ((bl, brsObj c) :: ((c.subs.map fun b => (b.a, b.obj)) ++ [(na, W.listOf nv.toArray nc), (L' + 1 + 1, oL'), (L' + 1, oB')]))) := fun p hp => N17 p (.tail _ hp)
      clear N17 N16 FC17 F15
      walk_at "S"
      rename_i h20 F20 N20
      obtain ⟨g1, g2, g3, g4, g5, g6, g7⟩ := starts_ok ((numsL ns).getD 1 0)
      revert F20 N20
      generalize Array.size (Heap.objs _) = sta
      intro F20 N20
      obtain ⟨sv, N21, hst0, hs3⟩ := take_starts N20 ⟨_, rfl⟩ ⟨_, rfl⟩ ⟨_, rfl⟩
      have hst : IntsAre sv.toList (xsOf ns) := hst0
      clear hst0
      clear N20
      have hbv : c.subs.map (fun b => (b.p, b.k)) = bsOf ns := hbo.vals
      have hbp : ∀ b ∈ c.subs, (0 ≤ b.p ∧ b.p < 5) ∧ (0 ≤ b.k ∧ b.k ≤ 3) := fun b hb => bs_bd (ns := ns) (hbv ▸ List.mem_map_of_mem (f := fun b : BSub => (b.p, b.k)) hb)
      k_dflt (refine' comp_list (vs := sv) (o := W.listOf sv 0) (CUse.loc _ _) F20 N21 (fun _ v mc y => if y = Str.ofString "start" then some v else mc y) (fun d : List (Addr × Obj) => d ++ ((sta, W.listOf sv 0) :: ((la, W.listOf lv lc) :: ((bl, brsObj c) :: ((c.subs.map fun b => (b.a, b.obj)) ++ [(na, W.listOf nv.toArray nc), (L' + 1 + 1, oL'), (L' + 1, oB')]))))) (fun _ => 0) (ObjsP (RowSp (xsOf ns) (bsOf ns)) ((sta, W.listOf sv 0) :: ((la, W.listOf lv lc) :: ((bl, brsObj c) :: ((c.subs.map fun b => (b.a, b.obj)) ++ [(na, W.listOf nv.toArray nc), (L' + 1 + 1, oL'), (L' + 1, oB')]))))) ?a3u ?a3O ?a3l ?a3o ?a3h ?a3z ?a3c ?a3k ?a3U ?a3T ?a3turn ?a3done)
      case a3u => exact ⟨[], fun I hI => objs_nil hI, rfl, Nat.zero_le _⟩
      case a3O => exact fun I i ys c hP => hP.off
      case a3l => exact .inr fun _ => List.mem_append_right _ (.head _)
      case a3o => exact ⟨rfl, _, rfl⟩
      case a3h => exact hh
      case a3z => rw [hs3]; decide
      case a3c => decide
      case a3k => rfl
      case a3U => exact ⟨rfl, rfl⟩
      case a3T => exact fun I i ys c It _ _ => tgt_name rfl rfl
      case a3turn =>
        rintro I3 i ys3 cnt3 d3 v h tk oI oC mc hv hP _ F FC N
        obtain ⟨x, t, hx, rfl⟩ := ia_at hst hv
        have hx5 : 0 ≤ x ∧ x < 5 := by
          have := List.mem_of_getElem? hx
          simp only [xsOf, List.mem_cons, List.not_mem_nil, or_false] at this
          rcases this with rfl | rfl | rfl
          · exact g1
          · exact g2
          · exact g3
        have rB : (L' + 1, oB') ∈ d3 ++ ((sta, W.listOf sv 0) :: ((la, W.listOf lv lc) :: ((bl, brsObj c) :: ((c.subs.map fun b => (b.a, b.obj)) ++ [(na, W.listOf nv.toArray nc), (L' + 1 + 1, oL'), (L' + 1, oB')])))) := List.mem_append_right _ (.tail _ qB)
        have rL : (L' + 1 + 1, oL') ∈ d3 ++ ((sta, W.listOf sv 0) :: ((la, W.listOf lv lc) :: ((bl, brsObj c) :: ((c.subs.map fun b => (b.a, b.obj)) ++ [(na, W.listOf nv.toArray nc), (L' + 1 + 1, oL'), (L' + 1, oB')])))) := List.mem_append_right _ (.tail _ qL)
        clear qB qL qN
        walk_at "S"
        k_dflt (refine' alone_c (bs := bsOf ns) (Cx.nest0 B F X N T hA rfl rfl hd hu hh) hx5.1 hx5.2 ?am1 ?am2 ?am3 hli hbv (fun b hb => (hbp b hb).1) (fun b hb => (hbp b hb).2) ?_)
        case am1 => exact .tail _ (.tail _ (.tail _ (List.mem_append_right _ (.tail _ (.tail _ (.head _))))))
        case am2 => exact fun b hb => .tail _ (.tail _ (.tail _ (List.mem_append_right _ (.tail _ (.tail _ (.tail _ (List.mem_append_left _ (List.mem_map.mpr ⟨b, hb, rfl⟩))))))))
        case am3 => exact .tail _ (.tail _ (.tail _ (List.mem_append_right _ (.tail _ (.head _)))))
        intro a avs acn h9 tk9 hfr hai F9 N9
        exact ⟨d3 ++ [(a, _)], _, _, objs_push hP ⟨avs, acn, rfl, by rw [getD_at hx, ← hcl]; exact hai⟩ (new_off hfr), Nat.zero_le _, rfl, F9, lamps_news N9⟩
      case a3done =>
        rintro I3 ys3 cnt3 d3 ⟨hr1, hr2, hr3, hr4, hr5⟩ h tk _ F N
        have rB : (L' + 1, oB') ∈ ((I3 + 1, W.listOf ys3 cnt3) :: (d3 ++ ((sta, W.listOf sv 0) :: ((la, W.listOf lv lc) :: ((bl, brsObj c) :: ((c.subs.map fun b => (b.a, b.obj)) ++ [(na, W.listOf nv.toArray nc), (L' + 1 + 1, oL'), (L' + 1, oB')])))))) := .tail _ (List.mem_append_right _ (.tail _ qB))
        have rL : (L' + 1 + 1, oL') ∈ ((I3 + 1, W.listOf ys3 cnt3) :: (d3 ++ ((sta, W.listOf sv 0) :: ((la, W.listOf lv lc) :: ((bl, brsObj c) :: ((c.subs.map fun b => (b.a, b.obj)) ++ [(na, W.listOf nv.toArray nc), (L' + 1 + 1, oL'), (L' + 1, oB')])))))) := .tail _ (List.mem_append_right _ (.tail _ qL))
        have rS : (sta, W.listOf sv 0) ∈ ((I3 + 1, W.listOf ys3 cnt3) :: (d3 ++ ((sta, W.listOf sv 0) :: ((la, W.listOf lv lc) :: ((bl, brsObj c) :: ((c.subs.map fun b => (b.a, b.obj)) ++ [(na, W.listOf nv.toArray nc), (L' + 1 + 1, oL'), (L' + 1, oB')])))))) := .tail _ (List.mem_append_right _ (.head _))
        have rbl : (bl, brsObj c) ∈ ((I3 + 1, W.listOf ys3 cnt3) :: (d3 ++ ((sta, W.listOf sv 0) :: ((la, W.listOf lv lc) :: ((bl, brsObj c) :: ((c.subs.map fun b => (b.a, b.obj)) ++ [(na, W.listOf nv.toArray nc), (L' + 1 + 1, oL'), (L' + 1, oB')])))))) := .tail _ (List.mem_append_right _ (.tail _ (.tail _ (.head _))))
        have rsb : ∀ b ∈ c.subs, (b.a, b.obj) ∈ ((I3 + 1, W.listOf ys3 cnt3) :: (d3 ++ ((sta, W.listOf sv 0) :: ((la, W.listOf lv lc) :: ((bl, brsObj c) :: ((c.subs.map fun b => (b.a, b.obj)) ++ [(na, W.listOf nv.toArray nc), (L' + 1 + 1, oL'), (L' + 1, oB')])))))) := fun b hb => .tail _ (List.mem_append_right _ (.tail _ (.tail _ (.tail _ (List.mem_append_left _ (List.mem_map.mpr ⟨b, hb, rfl⟩))))))
        have rla : (la, W.listOf lv lc) ∈ ((I3 + 1, W.listOf ys3 cnt3) :: (d3 ++ ((sta, W.listOf sv 0) :: ((la, W.listOf lv lc) :: ((bl, brsObj c) :: ((c.subs.map fun b => (b.a, b.obj)) ++ [(na, W.listOf nv.toArray nc), (L' + 1 + 1, oL'), (L' + 1, oB')])))))) := .tail _ (List.mem_append_right _ (.tail _ (.head _)))
        clear qB qL qN
        walk_at "S"
        k_dflt (refine' two_c (bs := bsOf ns) (Cx.nest0 B (by assumption) X (by assumption) T hA rfl rfl hd hu hh) g1.1 g1.2 g2.1 g2.2 g4 rbl rsb rla hli hbv (fun b hb => (hbp b hb).1) (fun b hb => (hbp b hb).2) ?_)
        intro pa po pk h21 tk21 plo hpd F21 N21'
        rw [hcl] at hpd
        walk_at "S"
        k_dflt (refine' three_c (bs := bsOf ns) (Cx.nest0 B (by assumption) X (by assumption) T hA rfl rfl hd hu hh) g1 g2 g3 g4 g5 g6 (.tail _ rS) hst (.tail _ rbl) (fun b hb => .tail _ (rsb b hb)) (.tail _ rla) hli hbv (fun b hb => (hbp b hb).1) (fun b hb => (hbp b hb).2) ?_)
        intro ta to tks h22 tk22 tlo htd F22 N22
        rw [hcl] at htd
        obtain ⟨r0, r1, r2, rfl⟩ := three_of (show d3.length = 3 by rw [hr2, hs3])
        have e0 : ys3.toList[Int.toNat 0]? = some (.ref r0.1) := by rw [hr1]; rfl
        have e1 : ys3.toList[Int.toNat 1]? = some (.ref r1.1) := by rw [hr1]; rfl
        have e2 : ys3.toList[Int.toNat 2]? = some (.ref r2.1) := by rw [hr1]; rfl
        obtain ⟨v0, n0, ho0, hv0⟩ := hr3 0 r0 rfl
        obtain ⟨v1, n1, ho1, hv1⟩ := hr3 1 r1 rfl
        obtain ⟨v2, n2, ho2, hv2⟩ := hr3 2 r2 rfl
        walk_at "S"
        k_dflt (refine' agree_c (av := v0) (bv := v1) (cv := v2) (ac := n0) (bc := n1) (cc := n2) (Cx.nest0 B (by assumption) X (by assumption) T hA rfl rfl hd hu hh) ?gm0 hv0 (aloneTo_len _ _ _) ?gm1 hv1 (aloneTo_len _ _ _) ?gm2 hv2 (aloneTo_len _ _ _) (.tail _ (.head _)) plo hpd (.head _) tlo htd (alone_bd g1) (alone_bd g3) (lgv2 g1 g2 g4) (lgv3 g1 g2 g3 g7) ?_)
        case gm0 => exact .tail _ (.tail _ (.tail _ (ho0 ▸ .head _)))
        case gm1 => exact .tail _ (.tail _ (.tail _ (.tail _ (ho1 ▸ .head _))))
        case gm2 => exact .tail _ (.tail _ (.tail _ (.tail _ (.tail _ (ho2 ▸ .head _)))))
        intro h23 tk23 F23 N23
        walk_at "S"
        exact hret _ _ F23.keep
end
end B2
end WF
end W
noncomputable section
open PySem PySem.W PyProof.Rows PySem.Calls
set_option maxRecDepth 100000
noncomputable abbrev pw : Program := PySem.Challenge.pw_tr0058_01
noncomputable def envT : Env := { scope := pw.main.scope, locals := mainNs, globals := mainNs, cells := [], code := .ref 13, frame := some 14 }
noncomputable def qT : Pos := ⟨0, 0, 0, 0⟩
noncomputable def bT : List Stmt := behindTheImports pw
noncomputable def cT : Code := .body bT envT
noncomputable def fT : List Frame := [topFrame qT]
noncomputable def sts0 : List Stmt := (bT.drop 0).take 8
noncomputable def sts8 : List Stmt := (bT.drop 8).take 1
noncomputable def sts9 : List Stmt := (bT.drop 9).take 1
noncomputable def sts10 : List Stmt := (bT.drop 10).take 1
noncomputable def sts11 : List Stmt := (bT.drop 11).take 1
noncomputable def sts12 : List Stmt := (bT.drop 12).take 1
noncomputable def sts13 : List Stmt := (bT.drop 13).take 1
noncomputable def sts14 : List Stmt := (bT.drop 14).take 1
noncomputable def sts15 : List Stmt := (bT.drop 15).take 12
end
section
open PySem PySem.W PyProof.Rows PySem.Calls
set_option maxRecDepth 100000
open PySem.W.Fast in
theorem p0 (w : World) : (fun os => segRunT treeTable pw w 11 (some (.ref 6)) 1 547 (st0 w os) (piecesOf sts0 envT cT ⟨0, 0, 0, 0⟩ fT)) = fun os => some (.next, st8 w os, cT, ⟨68, 0, 68, 8⟩) := by
  unfold piecesOf
  rw [te10110043849684766642, te14364793385576792824, te12563942051412417395]
  kernel_rfl
noncomputable def P8 (w : World) : Prop := (fun os => segRunT treeTable pw w 11 (some (.ref 6)) 1 999 (st8 w os) (piecesOf sts8 envT cT ⟨68, 0, 68, 8⟩ fT)) = fun os => some (.next, st9 w os, cT, ⟨69, 0, 69, 6⟩)
open PySem.W.Fast in
theorem p8f (w : World) : P8 (w.withFollow "special-get-raises" false) := by
  unfold P8 piecesOf
  rw [te10110043849684766642, te14364793385576792824, te12563942051412417395]
  kernel_rfl
open PySem.W.Fast in
theorem p8t (w : World) : P8 (w.withFollow "special-get-raises" true) := by
  unfold P8 piecesOf
  rw [te10110043849684766642, te14364793385576792824, te12563942051412417395]
  kernel_rfl
theorem p8 (w : World) : P8 w := byRow2 "special-get-raises" (P := P8) p8f p8t w
open PySem.W.Fast in
theorem p9 (w : World) : (fun os => segRunT treeTable pw w 11 (some (.ref 6)) 1 30 (st9 w os) (piecesOf sts9 envT cT ⟨69, 0, 69, 6⟩ fT)) = fun os => some (.next, st10 w os, cT, ⟨70, 0, 71, 30⟩) := by
  unfold piecesOf
  rw [te10110043849684766642, te14364793385576792824, te12563942051412417395]
  kernel_rfl
open PySem.W.Fast in
theorem p11 (w : World) (pos : Pos) : (fun os => segRunT treeTable pw w 11 (some (.ref 6)) 1 31 (st11 w os) (piecesOf sts11 envT cT pos fT)) = fun os => some (.next, st12 w os, cT, ⟨73, 0, 77, 23⟩) := by
  unfold piecesOf
  rw [te10110043849684766642, te14364793385576792824, te12563942051412417395]
  kernel_rfl
noncomputable def P12 (w : World) : Prop := (fun os => segRunT treeTable pw w 11 (some (.ref 6)) 1 200 (st12 w os) (piecesOf sts12 envT cT ⟨73, 0, 77, 23⟩ fT)) = fun os => some (.next, st13 w os, cT, ⟨78, 0, 78, 6⟩)
open PySem.W.Fast in
theorem p12f (w : World) : P12 (w.withFollow "special-get-raises" false) := by
  unfold P12 piecesOf
  rw [te10110043849684766642, te14364793385576792824, te12563942051412417395]
  kernel_rfl
open PySem.W.Fast in
theorem p12t (w : World) : P12 (w.withFollow "special-get-raises" true) := by
  unfold P12 piecesOf
  rw [te10110043849684766642, te14364793385576792824, te12563942051412417395]
  kernel_rfl
theorem p12 (w : World) : P12 w := byRow2 "special-get-raises" (P := P12) p12f p12t w
open PySem.W.Fast in
theorem p13 (w : World) : (fun os => segRunT treeTable pw w 11 (some (.ref 6)) 1 30 (st13 w os) (piecesOf sts13 envT cT ⟨78, 0, 78, 6⟩ fT)) = fun os => some (.next, st14 w os, cT, ⟨79, 0, 80, 30⟩) := by
  unfold piecesOf
  rw [te10110043849684766642, te14364793385576792824, te12563942051412417395]
  kernel_rfl
noncomputable def P14 (w : World) : Prop := (fun os => segRunT treeTable pw w 11 (some (.ref 6)) 1 775 (st14 w os) (piecesOf sts14 envT cT ⟨79, 0, 80, 30⟩ fT)) = fun os => some (.next, st15 w os, cT, ⟨81, 0, 81, 6⟩)
open PySem.W.Fast in
theorem p14f (w : World) : P14 (w.withFollow "special-get-raises" false) := by
  unfold P14 piecesOf
  rw [te10110043849684766642, te14364793385576792824, te12563942051412417395]
  kernel_rfl
open PySem.W.Fast in
theorem p14t (w : World) : P14 (w.withFollow "special-get-raises" true) := by
  unfold P14 piecesOf
  rw [te10110043849684766642, te14364793385576792824, te12563942051412417395]
  kernel_rfl
theorem p14 (w : World) : P14 w := byRow2 "special-get-raises" (P := P14) p14f p14t w
open PySem.W.Fast in
theorem p15 (w : World) : (fun os => segRunT treeTable pw w 11 (some (.ref 6)) 1 348 (st15 w os) (piecesOf sts15 envT cT ⟨81, 0, 81, 6⟩ fT)) = fun os => some (.next, st27 w os, cT, ⟨156, 0, 172, 63⟩) := by
  unfold piecesOf
  rw [te10110043849684766642, te14364793385576792824, te12563942051412417395]
  kernel_rfl
end
section
open PySem PySem.W PyProof.Rows PySem.Calls
set_option maxRecDepth 100000
/-- from here the top's run comes to r, in no more than k steps -/
noncomputable def Ends (w : World) (r : Shared) (k : Nat) (s : Shared) (t : Thread) : Prop := ∃ j, j ≤ k ∧ topRun treeTable pw w 11 (some (.ref 6)) j s t = some r
theorem Ends.go {w : World} {r s s' : Shared} {t t' : Thread} {n k : Nat} (h : topGo treeTable pw w 11 (some (.ref 6)) n s t = some (s', t')) (e : Ends w r k s' t') : Ends w r (k + n) s t := by
  obtain ⟨j, hj, hr⟩ := e
  exact ⟨n + j, by omega, go_top h hr⟩
theorem go1 {w : World} {s s' : Shared} {t t' : Thread} (h1 : through t = false) (h2 : stepOk 11 (some (.ref 6)) t = true) (h3 : step (denote treeTable) pw w s t = .go s' t') : topGo treeTable pw w 11 (some (.ref 6)) 1 s t = some (s', t') := by
  unfold topGo
  rw [h1, h2, h3]
  rfl
/-- x runs from s to s' and gives a, in n steps, under whatever stands around it -/
noncomputable def Runs {α : Type} (w : World) (n : Nat) (x : Sem α) (s : Shared) (a : α) (s' : Shared) : Prop :=
  ∀ (r : Shared) (k : Nat) (K : α → Sem Fin) (H : Value → Sem Fin) (gd : Bool → Bool) (lv : List Value → List Value) (pos : Pos),
    (∀ pos', Ends w r k s' ⟨K a, cT, pos', fT⟩) → Ends w r (k + n) s ⟨x.wrap K H gd lv, cT, pos, fT⟩
section
variable {α β : Type} {w : World} {s s' s₁ : Shared}
theorem Runs.pure {a : α} : Runs w 0 (Sem.pure a) s a s := fun r k K H gd lv pos h => h pos
theorem Runs.bind {x : Sem α} {f : α → Sem β} {n m : Nat} {a : α} {b : β} (h : Runs w n x s a s₁) (g : Runs w m (f a) s₁ b s') : Runs w (m + n) (x.bind f) s b s' := by
  intro r k K H gd lv pos e
  rw [Sem.bind_eq_wrap, Sem.wrap_wrap]
  rw [← Nat.add_assoc]
  exact h r (k + m) _ _ _ _ pos fun pos' => g r k K H gd lv pos' e
theorem Runs.keep {x : Sem α} {n : Nat} {a : α} {vs : List Value} (h : Runs w n x s a s') : Runs w n (x.keep vs) s a s' := by
  intro r k K H gd lv pos e
  rw [Sem.keep_eq_wrap, Sem.wrap_wrap]
  exact h r k _ _ _ _ pos e
theorem Runs.hold {x : Sem α} {n : Nat} {a : α} {vs : List Value} (h : Runs w n x s a s') : Runs w n (holding vs x) s a s' := by
  unfold holding
  split
  · exact h
  · exact h.keep
theorem Runs.onRaise {x : Sem α} {n : Nat} {a : α} {f : Value → Sem Unit} (h : Runs w n x s a s') : Runs w n (x.onRaise f) s a s' := by
  intro r k K H gd lv pos e
  rw [Sem.onRaise_eq_wrap, Sem.wrap_wrap]
  exact h r k _ _ _ _ pos e
theorem Runs.of {x : Sem α} {n : Nat} {a : α} {y : Sem α} {m : Nat} (e : ∀ (K : α → Sem Fin) H gd lv pos, ∃ pos', topGo treeTable pw w 11 (some (.ref 6)) n s ⟨x.wrap K H gd lv, cT, pos, fT⟩ = some (s₁, ⟨y.wrap K H gd lv, cT, pos', fT⟩)) (h : Runs w m y s₁ a s') : Runs w (m + n) x s a s' := by
  intro r k K H gd lv pos q
  obtain ⟨pos', e⟩ := e K H gd lv pos
  rw [← Nat.add_assoc]
  exact (h r k K H gd lv pos' q).go e
theorem Runs.rule {t : String} {k : Unit → Sem α} {n : Nat} {a : α} (h : Runs w n (k ()) s a s') : Runs w (n + 1) (.rule t k) s a s' :=
  .of (fun K H gd lv pos => ⟨pos, go1 rfl rfl (by cases s; rfl)⟩) h
theorem Runs.at {p : Pos} {k : Unit → Sem α} {n : Nat} {a : α} (h : Runs w n (k ()) s a s') : Runs w (n + 1) (.at p k) s a s' :=
  .of (fun K H gd lv pos => ⟨p, go1 rfl rfl (by cases s; rfl)⟩) h
theorem Runs.fresh {k : Tok → Sem α} {n : Nat} {a : α} (h : Runs w n (k s.toks) { s with toks := s.toks + 1 } a s') : Runs w (n + 1) (.fresh k) s a s' :=
  .of (fun K H gd lv pos => ⟨pos, go1 rfl rfl (by cases s; rfl)⟩) h
theorem Runs.load {p : Option Value} {k : Obj → Sem α} {n : Nat} {a : α} {b : Addr} {o : Obj} (ho : s.heap.get? b = some o) (h : Runs w n (k o) s a s') : Runs w (n + 1) (.load b p k) s a s' :=
  .of (fun K H gd lv pos => ⟨pos, go1 rfl rfl (by cases s; simp only [Sem.wrap, step]; rw [ho])⟩) h
theorem Runs.alloc {k : Addr → Sem α} {n : Nat} {a : α} {o : Obj} (h : Runs w n (k s.heap.objs.size) { s with heap := s.heap.push o } a s') : Runs w (n + 1) (.alloc o k) s a s' :=
  .of (fun K H gd lv pos => ⟨pos, go1 rfl rfl (by cases s; rfl)⟩) h
theorem Runs.update {p : Option Value} {f : Obj → Obj} {k : Unit → Sem α} {n : Nat} {a : α} {b : Addr} {o : Obj} (hb : 11 ≤ b) (ho : s.heap.get? b = some o) (h : Runs w n (k ()) { s with heap := s.heap.update b f } a s') : Runs w (n + 1) (.update b p f k) s a s' :=
  .of (fun K H gd lv pos => ⟨pos, go1 rfl (by show (_ && (Nat.ble 11 b || _ || _ || _)) = true; rw [Nat.ble_eq_true_of_le hb]; rfl) (by cases s; simp only [Sem.wrap, step]; rw [ho]; rfl)⟩) h
end
open PySem.W.Fast in
theorem hash_gof (w : World) (k : Int) (t : Tok) (h : Heap) (g : Array GenState) (d : Drawn) (tk : Nat) (os : OsState) (K : Int → Sem Fin) (H : Value → Sem Fin) (gd : Bool → Bool) (lv : List Value → List Value) (pos : Pos) :
    topGo treeTable pw (w.withFollow "special-get-raises" false) 11 (some (.ref 6)) 5 ⟨h, g, d, tk, os⟩ ⟨(pyHash (.int k t)).wrap K H gd lv, cT, pos, fT⟩ = some (⟨h, g, d, tk + 1, os⟩, ⟨(pyHashByItsType.reduced (rawHash k)).wrap K H gd lv, cT, pos, fT⟩) := by
  rw [te15667345088766844465, te14364793385576792824, te10540108854288196387, te199310478702765468]
  kernel_rfl
open PySem.W.Fast in
theorem hash_got (w : World) (k : Int) (t : Tok) (h : Heap) (g : Array GenState) (d : Drawn) (tk : Nat) (os : OsState) (K : Int → Sem Fin) (H : Value → Sem Fin) (gd : Bool → Bool) (lv : List Value → List Value) (pos : Pos) :
    topGo treeTable pw (w.withFollow "special-get-raises" true) 11 (some (.ref 6)) 5 ⟨h, g, d, tk, os⟩ ⟨(pyHash (.int k t)).wrap K H gd lv, cT, pos, fT⟩ = some (⟨h, g, d, tk + 1, os⟩, ⟨(pyHashByItsType.reduced (rawHash k)).wrap K H gd lv, cT, pos, fT⟩) := by
  rw [te15667345088766844465, te14364793385576792824, te10540108854288196387, te199310478702765468]
  kernel_rfl
theorem hash_go (w : World) (k : Int) (t : Tok) (h : Heap) (g : Array GenState) (d : Drawn) (tk : Nat) (os : OsState) (K : Int → Sem Fin) (H : Value → Sem Fin) (gd : Bool → Bool) (lv : List Value → List Value) (pos : Pos) :
    topGo treeTable pw w 11 (some (.ref 6)) 5 ⟨h, g, d, tk, os⟩ ⟨(pyHash (.int k t)).wrap K H gd lv, cT, pos, fT⟩ = some (⟨h, g, d, tk + 1, os⟩, ⟨(pyHashByItsType.reduced (rawHash k)).wrap K H gd lv, cT, pos, fT⟩) :=
  byRow2 "special-get-raises" (P := fun w => topGo treeTable pw w 11 (some (.ref 6)) 5 ⟨h, g, d, tk, os⟩ ⟨(pyHash (.int k t)).wrap K H gd lv, cT, pos, fT⟩ = some (⟨h, g, d, tk + 1, os⟩, ⟨(pyHashByItsType.reduced (rawHash k)).wrap K H gd lv, cT, pos, fT⟩)) (fun w => hash_gof w k t h g d tk os K H gd lv pos) (fun w => hash_got w k t h g d tk os K H gd lv pos) w
theorem reduced_raw (k : Int) : pyHashByItsType.reduced (rawHash k) = pure (hashInt k) := by
  have hr := rawHash_range k
  show (if (decide (-(2 : Int) ^ 63 ≤ rawHash k) && decide (rawHash k < 2 ^ 63)) = true then _ else _) = _
  rw [if_pos (by rw [decide_eq_true hr.1, decide_eq_true hr.2]; rfl)]
  rfl
section
variable {w : World} {s : Shared}
theorem hash_runs {k : Int} {t : Tok} {h : Heap} {g : Array GenState} {d : Drawn} {tk : Nat} {os : OsState} : Runs w 5 (pyHash (.int k t)) ⟨h, g, d, tk, os⟩ (hashInt k) ⟨h, g, d, tk + 1, os⟩ := by
  have e : Runs w 0 (pyHashByItsType.reduced (rawHash k)) ⟨h, g, d, tk + 1, os⟩ (hashInt k) ⟨h, g, d, tk + 1, os⟩ := by
    rw [reduced_raw]; exact Runs.pure
  exact .of (fun K H gd lv pos => ⟨pos, hash_go w k t _ _ _ _ _ K H gd lv pos⟩) e
theorem places_nil {es : Array DictEntry} {h : Int} (hn : ∀ e ∈ es.toList, e.hash ≠ h) : placesWithHash es.size (fun i => es[i]?.map (·.hash)) h = [] := by
  unfold placesWithHash
  refine List.filter_eq_nil_iff.mpr fun i hi => ?_
  have hi := List.mem_range.mp hi
  have : es[i]? = some es[i] := Array.getElem?_eq_getElem hi
  simp only [this, Option.map_some, beq_iff_eq, Option.some.injEq]
  exact hn _ (by rw [Array.mem_toList_iff]; exact Array.getElem_mem hi)
theorem find_runs {d : Addr} {es : Array DictEntry} {n : Nat} {k : Int} {t : Tok} {h : Int} (ho : s.heap.get? d = some (dictO es n)) (hn : ∀ e ∈ es.toList, e.hash ≠ h) : Runs w 1 (dictFind d (.int k t) h) s none s := by
  refine Runs.hold ?_
  refine Runs.bind (n := 1) (m := 0) (a := es) (s₁ := s) ?_ ?_
  · exact Runs.bind (n := 1) (m := 0) (a := dictO es n) (Runs.load ho .pure) .pure
  · dsimp only
    rw [places_nil hn]
    exact Runs.pure
theorem pushKeys_runs {d : Addr} {es : Array DictEntry} {n : Nat} {e : DictEntry} {p : Option Value} (hd : 11 ≤ d) (ho : s.heap.get? d = some (dictO es n)) (hz : es.size < sizeLine) :
    Runs w 3 (updateDictKeys d (·.push e) p) s () { s with heap := s.heap.update d (Obj.mapDictKeys (·.push e)) } := by
  refine Runs.bind (n := 1) (m := 2) (Runs.load ho .pure) ?_
  refine Runs.bind (n := 1) (m := 1) (Runs.update hd ho .pure) ?_
  have h2 : (s.heap.update d (Obj.mapDictKeys (·.push e))).get? d = some (dictO (es.push e) (n + 1)) := Heap.get?_update_self _ ho rfl
  refine Runs.bind (n := 1) (m := 0) (Runs.load h2 .pure) ?_
  have : (dictO (es.push e) (n + 1)).data.pastItsLine = none := by
    show (if _ then _ else _) = _
    rw [if_neg (by rw [Array.size_push]; omega)]
  rw [this]
  exact Runs.pure
theorem set_runs {a : Addr} {es : Array DictEntry} {n : Nat} {k : Int} {t : Tok} {v : Value} {h : Heap} {g : Array GenState} {d : Drawn} {tk : Nat} {os : OsState} (hd : 11 ≤ a) (ho : h.get? a = some (dictO es n)) (hz : es.size < sizeLine)
    (hn : ∀ e ∈ es.toList, e.hash ≠ hashInt k) : Runs w 10 (dictSet a (.int k t) v) ⟨h, g, d, tk, os⟩ () ⟨h.update a (Obj.mapDictKeys (·.push ⟨hashInt k, .int k t, v⟩)), g, d, tk + 1, os⟩ := by
  refine Runs.hold ?_
  refine Runs.bind (n := 5) (m := 5) hash_runs ?_
  refine Runs.hold ?_
  refine Runs.bind (n := 1) (m := 4) (find_runs ho hn) ?_
  refine Runs.bind (n := 1) (m := 3) (Runs.rule .pure) ?_
  exact pushKeys_runs hd ho hz
theorem put_runs {a : Addr} {es : Array DictEntry} {n : Nat} {k : Int} {t : Tok} {v : Value} {hh : Int} (hd : 11 ≤ a) (ho : s.heap.get? a = some (dictO es n)) (hz : es.size < sizeLine)
    (hn : ∀ e ∈ es.toList, e.hash ≠ hh) : Runs w 4 (dictPut a hh (.int k t) v) s () { s with heap := s.heap.update a (Obj.mapDictKeys (·.push ⟨hh, .int k t, v⟩)) } := by
  refine Runs.bind (n := 1) (m := 3) (find_runs ho hn) ?_
  exact pushKeys_runs hd ho hz
end
theorem upd_upd (h : Heap) (a : Addr) (f g : Obj → Obj) : (h.update a f).update a g = h.update a (fun o => g (f o)) := by
  obtain ⟨objs, l⟩ := h
  show Heap.mk _ _ = Heap.mk _ _
  congr 1
  apply Array.ext_getElem?
  intro i
  simp only [Array.getElem?_modify]
  by_cases e : a = i
  · simp only [e, if_true]; cases objs[i]? <;> rfl
  · simp only [e, if_false]
theorem push_upd (h : Heap) (o : Obj) (f : Obj → Obj) : (h.push o).update h.objs.size f = h.push (f o) := by
  obtain ⟨objs, l⟩ := h
  show Heap.mk _ _ = Heap.mk _ _
  congr 1
  apply Array.ext_getElem?
  intro i
  simp only [Array.getElem?_modify, Array.getElem?_push]
  by_cases e : i = objs.size
  · subst e; simp
  · have : ¬ objs.size = i := fun q => e q.symm
    simp [e, this]
noncomputable def It.key (x : It) : Sem Value := eval (.Constant (.int x.k) x.i x.p) envT
noncomputable def It.val (dp : Pos) (x : It) : Sem Value := do let v ← eval (.Constant (.str x.s) x.j x.q) envT; standAt dp; pure v
section
variable {w : World} {h : Heap} {g : Array GenState} {d : Drawn} {tk : Nat} {os : OsState} {dp : Pos}
theorem It.key_runs (x : It) : Runs w 1 x.key ⟨h, g, d, tk, os⟩ (.int x.k tk) ⟨h, g, d, tk + 1, os⟩ := Runs.fresh .pure
theorem It.val_runs {x : It} : Runs w 2 (x.val dp) ⟨h, g, d, tk, os⟩ (.str x.s tk) ⟨h, g, d, tk + 1, os⟩ := by
  refine Runs.bind (n := 1) (m := 1) (a := .str x.s tk) (s₁ := ⟨h, g, d, tk + 1, os⟩) ?_ (Runs.bind (n := 1) (m := 0) (Runs.at .pure) .pure)
  exact Runs.fresh .pure
end
theorem Runs.cast {α : Type} {w : World} {n m : Nat} {x : Sem α} {s s' s'' : Shared} {a a' : α} (h : Runs w n x s a s') (e : n = m) (ea : a = a') (es : s' = s'') : Runs w m x s a' s'' := by subst e; subst ea; subst es; exact h
theorem Runs.bind0 {α β : Type} {w : World} {s s₁ s' : Shared} {x : Sem α} {f : α → Sem β} {n : Nat} {a : α} {b : β} (h : Runs w n x s a s₁) (g : Runs w 0 (f a) s₁ b s') : Runs w n (x.bind f) s b s' :=
  Runs.cast (Runs.bind h g) (Nat.zero_add n) rfl rfl
theorem forIn_cons_runs {α β : Type} {w : World} {x : α} {xs : List α} {f : α → β → Sem (ForInStep β)} {b b' c : β} {n m : Nat} {s s₁ s' : Shared} (h : Runs w n (f x b) s (.yield b') s₁) (r : Runs w m (forIn xs b' f) s₁ c s') : Runs w (m + n) (forIn (x :: xs) b f) s c s' := by
  rw [List.forIn_cons]
  exact Runs.bind h r
theorem forIn_nil_runs {α β : Type} {w : World} {f : α → β → Sem (ForInStep β)} {b : β} {s : Shared} : Runs w 0 (forIn ([] : List α) b f) s b s := by
  rw [List.forIn_nil]
  exact Runs.pure
noncomputable def ascB : Int → List It → Bool
  | _, [] => true
  | b, x :: r => decide (b ≤ hashInt x.k) && ascB (hashInt x.k + 1) r
noncomputable def Low (es : List DictEntry) (b : Int) : Prop := ∀ e ∈ es, e.hash < b
theorem Low.ne {es : List DictEntry} {b c : Int} (h : Low es b) (hb : b ≤ c) : ∀ e ∈ es.toArray.toList, e.hash ≠ c := by
  intro e he q
  have := h e (by simpa using he)
  omega
theorem Low.push {es : List DictEntry} {b : Int} {e : DictEntry} (h : Low es b) (hb : b ≤ e.hash) : Low (es ++ [e]) (e.hash + 1) := by
  intro x hx
  rcases List.mem_append.mp hx with hx | hx
  · have := h x hx; omega
  · rw [List.mem_singleton.mp hx]; omega
theorem entsA_len : ∀ (its : List It) (tk : Nat), (entsA tk its).length = its.length
  | [], _ => rfl
  | _ :: r, tk => by rw [entsA, List.length_cons, List.length_cons, entsA_len r]
theorem entsB_len : ∀ (its : List It) (tk : Nat), (entsB tk its).length = its.length
  | [], _ => rfl
  | _ :: r, tk => by rw [entsB, List.length_cons, List.length_cons, entsB_len r]
theorem asc_cons {b : Int} {x : It} {r : List It} (h : ascB b (x :: r) = true) : b ≤ hashInt x.k ∧ ascB (hashInt x.k + 1) r = true := by
  unfold ascB at h
  rw [Bool.and_eq_true] at h
  exact ⟨of_decide_eq_true h.1, h.2⟩
theorem push_list (es : List DictEntry) (e : DictEntry) (n : Nat) : Obj.mapDictKeys (·.push e) (dictO es.toArray n) = dictO (es ++ [e]).toArray (n + 1) := by
  show dictO (es.toArray.push e) (n + 1) = _
  rw [List.push_toArray]
section
variable {w : World} {g : Array GenState} {d : Drawn} {os : OsState} {dp : Pos}
theorem long_runs {h : Heap} (ha : 11 ≤ h.objs.size) (f : Sem Value × Sem Value → PUnit → Sem (ForInStep PUnit))
    (hf : ∀ p b, f p b = (do let kv ← p.1; let vv ← holding [kv] p.2; holding [kv, vv] (dictSet h.objs.size kv vv); pure (.yield ⟨⟩))) :
    ∀ (its : List It) (es : List DictEntry) (n tk : Nat) (b : Int), Low es b → ascB b its = true → es.length + its.length ≤ sizeLine →
      Runs w (13 * its.length) (forIn (its.map fun x => (x.key, x.val dp)) ⟨⟩ f) ⟨h.push (dictO es.toArray n), g, d, tk, os⟩ ⟨⟩ ⟨h.push (dictO (es ++ entsA tk its).toArray (n + its.length)), g, d, tk + 3 * its.length, os⟩
  | [], es, n, tk, b, _, _, _ => by
    refine Runs.cast forIn_nil_runs rfl rfl ?_
    rw [entsA, List.append_nil]; rfl
  | x :: r, es, n, tk, b, hl, hb, hz => by
    obtain ⟨h1, h3⟩ := asc_cons hb
    rw [List.length_cons] at hz
    have ho : (h.push (dictO es.toArray n)).get? h.objs.size = some (dictO es.toArray n) := Heap.get?_push_size h rfl
    have hr := long_runs ha f hf r (es ++ [⟨hashInt x.k, .int x.k tk, .str x.s (tk + 1)⟩]) (n + 1) (tk + 3) (hashInt x.k + 1) (hl.push h1) h3 (by rw [List.length_append, List.length_singleton]; omega)
    rw [List.map_cons]
    refine Runs.cast (forIn_cons_runs (n := 13) (b' := ⟨⟩) ?_ hr) (by rw [List.length_cons]; omega) rfl (by rw [entsA, List.append_assoc, List.singleton_append, List.length_cons, show n + 1 + r.length = n + (r.length + 1) by omega, show tk + 3 + 3 * r.length = tk + 3 * (r.length + 1) by omega])
    rw [hf]
    refine Runs.bind (n := 1) (m := 12) (It.key_runs x) ?_
    refine Runs.bind (n := 2) (m := 10) (Runs.hold It.val_runs) ?_
    refine Runs.bind (n := 10) (m := 0) (Runs.hold (set_runs ha ho (by rw [List.size_toArray]; omega) (hl.ne h1))) ?_
    rw [push_upd, push_list]
    exact Runs.pure
theorem evalPairs_runs {h : Heap} : ∀ (its : List It) (tk : Nat),
    Runs w (3 * its.length) (evalPairs (its.map fun x => (x.key, x.val dp))) ⟨h, g, d, tk, os⟩ ((entsB tk its).map fun e => (e.key, e.val)) ⟨h, g, d, tk + 2 * its.length, os⟩
  | [], tk => Runs.pure
  | x :: r, tk => by
    rw [List.map_cons, List.length_cons]
    refine Runs.cast (n := (0 + 3 * r.length) + 2 + 1) ?_ (by omega) rfl rfl
    refine Runs.bind (n := 1) (It.key_runs x) ?_
    refine Runs.bind (n := 2) (Runs.hold It.val_runs) ?_
    refine Runs.bind (Runs.hold (Runs.cast (evalPairs_runs r (tk + 1 + 1)) rfl rfl ?_)) Runs.pure
    rw [show tk + 1 + 1 + 2 * r.length = tk + 2 * (r.length + 1) by omega]
theorem short_runs {h : Heap} (ha : 11 ≤ h.objs.size) (f : Value × Value → PUnit → Sem (ForInStep PUnit))
    (hf : ∀ p b, f p b = (do dictSet h.objs.size p.1 p.2; pure (.yield ⟨⟩))) :
    ∀ (its : List It) (es : List DictEntry) (n tk tk' : Nat) (b : Int), Low es b → ascB b its = true → es.length + its.length ≤ sizeLine →
      Runs w (10 * its.length) (forIn ((entsB tk' its).map fun e => (e.key, e.val)) ⟨⟩ f) ⟨h.push (dictO es.toArray n), g, d, tk, os⟩ ⟨⟩ ⟨h.push (dictO (es ++ entsB tk' its).toArray (n + its.length)), g, d, tk + its.length, os⟩
  | [], es, n, tk, tk', b, _, _, _ => by
    refine Runs.cast forIn_nil_runs rfl rfl ?_
    rw [entsB, List.append_nil]; rfl
  | x :: r, es, n, tk, tk', b, hl, hb, hz => by
    obtain ⟨h1, h3⟩ := asc_cons hb
    rw [List.length_cons] at hz
    have ho : (h.push (dictO es.toArray n)).get? h.objs.size = some (dictO es.toArray n) := Heap.get?_push_size h rfl
    have hr := short_runs ha f hf r (es ++ [⟨hashInt x.k, .int x.k tk', .str x.s (tk' + 1)⟩]) (n + 1) (tk + 1) (tk' + 2) (hashInt x.k + 1) (hl.push h1) h3 (by rw [List.length_append, List.length_singleton]; omega)
    rw [entsB, List.map_cons]
    refine Runs.cast (forIn_cons_runs (n := 10) (b' := ⟨⟩) ?_ hr) (by rw [List.length_cons]; omega) rfl (by rw [List.append_assoc, List.singleton_append, List.length_cons, show n + 1 + r.length = n + (r.length + 1) by omega, show tk + 1 + r.length = tk + (r.length + 1) by omega])
    rw [hf]
    refine Runs.bind (n := 10) (m := 0) (set_runs ha ho (by rw [List.size_toArray]; omega) (hl.ne h1)) ?_
    rw [push_upd, push_list]
    exact Runs.pure
theorem low_nil (b : Int) : Low [] b := fun e he => nomatch he
theorem sub_long {h : Heap} (ha : 11 ≤ h.objs.size) (its : List It) (tk : Nat) (b : Int) (hb : ascB b its = true) (hl : 15 < its.length) (hz : its.length ≤ 1000) :
    Runs w (13 * its.length + 2) (subDict (its.map fun x => (x.key, x.val dp))) ⟨h, g, d, tk, os⟩ h.objs.size ⟨h.push (dictO (entsA tk its).toArray its.length), g, d, tk + 3 * its.length, os⟩ := by
  unfold subDict
  refine Runs.cast (n := (13 * its.length + 1) + 1) ?_ (by omega) rfl rfl
  refine Runs.bind (n := 1) (Runs.alloc .pure) ?_
  refine Runs.bind0 (a := ()) (Runs.hold ?_) Runs.pure
  dsimp only
  rw [if_neg (by rw [List.length_map]; omega)]
  refine Runs.bind (n := 1) (Runs.rule .pure) ?_
  refine Runs.bind0 (a := PUnit.unit) ?_ Runs.pure
  refine Runs.cast (long_runs ha _ (fun p b => rfl) its [] 0 tk b (low_nil b) hb (by rw [sizeLine_eq, List.length_nil]; omega)) rfl rfl ?_
  rw [List.nil_append, Nat.zero_add]
theorem sub_short {h : Heap} (ha : 11 ≤ h.objs.size) (its : List It) (tk : Nat) (b : Int) (hb : ascB b its = true) (hl : its.length ≤ 15) :
    Runs w (13 * its.length + 1) (subDict (its.map fun x => (x.key, x.val dp))) ⟨h, g, d, tk, os⟩ h.objs.size ⟨h.push (dictO (entsB tk its).toArray its.length), g, d, tk + 3 * its.length, os⟩ := by
  unfold subDict
  refine Runs.cast (n := (10 * its.length + 3 * its.length) + 1) ?_ (by omega) rfl rfl
  refine Runs.bind (n := 1) (Runs.alloc .pure) ?_
  refine Runs.bind0 (a := ()) (Runs.hold ?_) Runs.pure
  dsimp only
  rw [if_pos (by rw [List.length_map]; omega)]
  refine Runs.bind (evalPairs_runs its tk) (Runs.hold ?_)
  refine Runs.bind0 (a := PUnit.unit) ?_ Runs.pure
  refine Runs.cast (short_runs ha _ (fun p b => rfl) its [] 0 _ tk b (low_nil b) hb (by rw [sizeLine_eq, List.length_nil]; omega)) rfl rfl ?_
  rw [List.nil_append, Nat.zero_add, show tk + 2 * its.length + its.length = tk + 3 * its.length by omega]
theorem upd_self {h : Heap} {a : Addr} {o : Obj} (ho : h.get? a = some o) : h.update a (fun _ => o) = h := by
  obtain ⟨e, _⟩ := Heap.get?_some_iff.mp ho
  obtain ⟨objs, l⟩ := h
  show Heap.mk _ _ = Heap.mk _ _
  congr 1
  apply Array.ext_getElem?
  intro i
  simp only [Array.getElem?_modify]
  by_cases q : a = i
  · subst q
    simp only [if_true]
    have e : objs[a]? = some o := e
    rw [e]; rfl
  · simp only [q, if_false]
noncomputable def AscE : Int → List DictEntry → Prop
  | _, [] => True
  | b, e :: r => b ≤ e.hash ∧ (∃ k t, e.key = .int k t) ∧ AscE (e.hash + 1) r
theorem ascA : ∀ (its : List It) (b : Int) (tk : Nat), ascB b its = true → AscE b (entsA tk its)
  | [], _, _, _ => trivial
  | x :: r, b, tk, h => ⟨(asc_cons h).1, ⟨_, _, rfl⟩, ascA r _ _ (asc_cons h).2⟩
theorem ascEB : ∀ (its : List It) (b : Int) (tk : Nat), ascB b its = true → AscE b (entsB tk its)
  | [], _, _, _ => trivial
  | x :: r, b, tk, h => ⟨(asc_cons h).1, ⟨_, _, rfl⟩, ascEB r _ _ (asc_cons h).2⟩
theorem merge_loop {m a : Addr} (hm : 11 ≤ m) (hne : m ≠ a) {sub : List DictEntry} {sn : Nat} (f : Nat → PUnit → Sem (ForInStep PUnit))
    (hf : ∀ (i : Nat) (e : DictEntry) (H : Heap) (tk : Nat) (es : List DictEntry) (n : Nat), sub[i]? = some e → (∃ k t, e.key = .int k t) → H.get? a = some (dictO sub.toArray sn) → H.get? m = some (dictO es.toArray n) → es.length < sizeLine → (∀ x ∈ es.toArray.toList, x.hash ≠ e.hash) →
      Runs w 6 (f i ⟨⟩) ⟨H, g, d, tk, os⟩ (.yield ⟨⟩) ⟨H.update m (Obj.mapDictKeys (·.push e)), g, d, tk, os⟩) :
    ∀ (r pre : List DictEntry) (es : List DictEntry) (n tk : Nat) (b : Int) (H : Heap), sub = pre ++ r → AscE b r → Low es b → es.length + r.length ≤ sizeLine → H.get? a = some (dictO sub.toArray sn) → H.get? m = some (dictO es.toArray n) →
      Runs w (6 * r.length) (forIn (List.range' pre.length r.length) ⟨⟩ f) ⟨H, g, d, tk, os⟩ ⟨⟩ ⟨H.update m (fun _ => dictO (es ++ r).toArray (n + r.length)), g, d, tk, os⟩
  | [], pre, es, n, tk, b, H, _, _, _, _, _, hM => by
    refine Runs.cast forIn_nil_runs rfl rfl ?_
    rw [List.append_nil]
    show _ = Shared.mk (H.update m (fun _ => dictO es.toArray n)) _ _ _ _
    rw [upd_self hM]
  | e :: r, pre, es, n, tk, b, H, hs, hb, hl, hz, hA, hM => by
    obtain ⟨h1, h2, h3⟩ := hb
    rw [List.length_cons] at hz
    have hM' : (H.update m (Obj.mapDictKeys (·.push e))).get? m = some (dictO (es ++ [e]).toArray (n + 1)) := by
      rw [← push_list]; exact Heap.get?_update_self _ hM rfl
    have hA' : (H.update m (Obj.mapDictKeys (·.push e))).get? a = some (dictO sub.toArray sn) := by
      rw [Heap.get?_update_other H _ hne]; exact hA
    have hr := merge_loop hm hne f hf r (pre ++ [e]) (es ++ [e]) (n + 1) tk (e.hash + 1) _ (by rw [List.append_assoc]; exact hs) h3 (hl.push h1) (by rw [List.length_append, List.length_singleton]; omega) hA' hM'
    rw [List.length_cons, List.range'_succ]
    rw [List.length_append, List.length_singleton] at hr
    refine Runs.cast (forIn_cons_runs (n := 6) (b' := ⟨⟩) (hf pre.length e H tk es n (by rw [hs, List.getElem?_append_right (Nat.le_refl _), Nat.sub_self]; rfl) h2 hA hM (by omega) (hl.ne h1)) hr) (by omega) rfl ?_
    rw [upd_upd, List.append_assoc, List.singleton_append, show n + 1 + r.length = n + (r.length + 1) by omega]
theorem sub_dict_dict : isSubtype (.type "dict") (.type "dict") = pure true := by rw [isSubtype_type]; kernel_rfl
theorem merge_runs {h : Heap} {m a : Addr} (hm : 11 ≤ m) (hne : m ≠ a) (hsys : (a == sysModules) = false) {es sub : List DictEntry} {n sn tk : Nat} {b : Int} (hes : es ≠ []) (hb : AscE b sub) (hl : Low es b) (hz : es.length + sub.length ≤ sizeLine)
    (hA : h.get? a = some (dictO sub.toArray sn)) (hM : h.get? m = some (dictO es.toArray n)) :
    Runs w (6 * sub.length + 5) (mergeMapping m (.ref a) false) ⟨h, g, d, tk, os⟩ () ⟨h.update m (fun _ => dictO (es ++ sub).toArray (n + sub.length)), g, d, tk, os⟩ := by
  unfold mergeMapping
  refine Runs.cast (n := ((6 * sub.length + 1 + 1) + 1) + 2) ?_ (by omega) rfl rfl
  refine Runs.bind (n := 1) (a := true) (s₁ := ⟨h, g, d, tk, os⟩) ?_ ?_
  · refine Runs.bind (n := 1) (m := 0) (a := .type "dict") (s₁ := ⟨h, g, d, tk, os⟩) (Runs.bind (n := 1) (m := 0) (Runs.load hA .pure) .pure) ?_
    rw [sub_dict_dict]; exact Runs.pure
  refine Runs.bind (n := 1) (a := some (.builtin "dict.__iter__")) (s₁ := ⟨h, g, d, tk, os⟩) ?_ ?_
  · refine Runs.bind (n := 1) (m := 0) (a := .type "dict") (s₁ := ⟨h, g, d, tk, os⟩) (Runs.bind (n := 1) (m := 0) (Runs.load hA .pure) .pure) ?_
    rw [F.slot_dict_iter.lookup]; exact Runs.pure
  refine Runs.bind (n := 0) Runs.pure ?_
  rw [beq_self_eq_true]
  dsimp only
  rw [hsys, if_neg Bool.false_ne_true]
  refine Runs.bind (n := 1) (a := es.toArray) (s₁ := ⟨h, g, d, tk, os⟩) (Runs.bind (n := 1) (m := 0) (Runs.load hM .pure) .pure) ?_
  rw [if_neg (by cases es with | nil => exact absurd rfl hes | cons => exact Bool.false_ne_true)]
  refine Runs.bind (n := 1) (a := sub.toArray) (s₁ := ⟨h, g, d, tk, os⟩) (Runs.bind (n := 1) (m := 0) (Runs.load hA .pure) .pure) ?_
  refine Runs.bind (n := 1) (a := sn) (s₁ := ⟨h, g, d, tk, os⟩) (Runs.bind (n := 1) (m := 0) (Runs.load hA .pure) .pure) ?_
  refine Runs.bind0 (a := PUnit.unit) ?_ Runs.pure
  rw [List.size_toArray, List.range_eq_range']
  refine merge_loop (sub := sub) hm hne _ ?_ sub [] es n tk b h rfl hb hl hz hA hM
  intro i e H tk es n hi hk hA hM hz hn
  obtain ⟨k, t, hk⟩ := hk
  refine Runs.bind (n := 1) (m := 5) (a := sub.toArray) (s₁ := ⟨H, g, d, tk, os⟩) (Runs.bind (n := 1) (m := 0) (Runs.load hA .pure) .pure) ?_
  rw [List.getElem?_toArray, hi]
  dsimp only
  refine Runs.bind (n := 4) (m := 1) (a := ()) (s₁ := ⟨H.update m (Obj.mapDictKeys (·.push e)), g, d, tk, os⟩) (Runs.hold ?_) ?_
  · rw [if_neg Bool.false_ne_true]
    obtain ⟨eh, ek, ev⟩ := e
    dsimp only at hk
    subst hk
    exact put_runs hm hM (by rw [List.size_toArray]; exact hz) hn
  · have hA' : (H.update m (Obj.mapDictKeys (·.push e))).get? a = some (dictO sub.toArray sn) := by
      rw [Heap.get?_update_other H _ hne]; exact hA
    refine Runs.bind (n := 1) (m := 0) (a := sn) (Runs.bind (n := 1) (m := 0) (Runs.load hA' .pure) .pure) ?_
    rw [if_neg (by rw [bne_self_eq_false]; exact Bool.false_ne_true)]
    exact Runs.pure
end
end
section
open PySem PySem.W PyProof.Rows PySem.Calls
set_option maxRecDepth 100000
theorem Ends.mono {w : World} {r : Shared} {k k' : Nat} {s : Shared} {t : Thread} (h : Ends w r k s t) (e : k ≤ k') : Ends w r k' s t := by
  obtain ⟨j, hj, hr⟩ := h
  exact ⟨j, Nat.le_trans hj e, hr⟩
theorem Runs.mono {α : Type} {w : World} {n m : Nat} {x : Sem α} {s s' : Shared} {a : α} (h : Runs w n x s a s') (e : n ≤ m) : Runs w m x s a s' :=
  fun r k K H gd lv pos q => (h r k K H gd lv pos q).mono (Nat.add_le_add_left e k)
noncomputable abbrev It.pair (dp : Pos) (x : It) : Sem Value × Sem Value := (x.key, x.val dp)
noncomputable abbrev It.item (dp : Pos) (x : It) : Option (Sem Value) × Sem Value := (some x.key, x.val dp)
noncomputable abbrev DSt := Option Addr × List (Sem Value × Sem Value)
section
variable {dp : Pos} {f : Option (Sem Value) × Sem Value → DSt → Sem (ForInStep DSt)} {flush : List (Sem Value × Sem Value) → Option Addr → Sem (Option Addr)}
theorem gather (hf1 : ∀ (x : It) main run, run.length + 1 ≠ 17 → f (x.item dp) (main, run) = pure (.yield (main, run ++ [x.pair dp]))) (main : Option Addr) :
    ∀ (xs rest : List It) (run : List (Sem Value × Sem Value)), run.length + xs.length < 17 →
      forIn ((xs ++ rest).map (It.item dp)) (main, run) f = forIn (rest.map (It.item dp)) (main, run ++ xs.map (It.pair dp)) f
  | [], rest, run, _ => by rw [List.nil_append, List.map_nil, List.append_nil]
  | x :: xs, rest, run, h => by
    rw [List.length_cons] at h
    rw [List.cons_append, List.map_cons, List.forIn_cons, hf1 x main run (by omega), pure_bind]
    show forIn ((xs ++ rest).map (It.item dp)) (main, run ++ [x.pair dp]) f = _
    rw [gather hf1 main xs rest (run ++ [x.pair dp]) (by rw [List.length_append, List.length_singleton]; omega), List.append_assoc, List.map_cons, List.singleton_append]
theorem group (hf1 : ∀ (x : It) main run, run.length + 1 ≠ 17 → f (x.item dp) (main, run) = pure (.yield (main, run ++ [x.pair dp])))
    (hf2 : ∀ (x : It) main run, run.length + 1 = 17 → f (x.item dp) (main, run) = (flush (run ++ [x.pair dp]) main >>= fun m => pure (.yield (m, [])))) (main : Option Addr) (g rest : List It) (hg : g.length = 17) :
    forIn ((g ++ rest).map (It.item dp)) (main, []) f = (flush (g.map (It.pair dp)) main >>= fun m => forIn (rest.map (It.item dp)) (m, []) f) := by
  obtain ⟨xs, x, rfl⟩ : ∃ xs x, g = xs ++ [x] := ⟨g.dropLast, g.getLast (by intro e; rw [e] at hg; cases hg), (List.dropLast_concat_getLast _).symm⟩
  rw [List.length_append, List.length_singleton] at hg
  rw [List.append_assoc, gather hf1 main xs _ [] (by rw [List.length_nil]; omega), List.nil_append, List.singleton_append, List.map_cons, List.forIn_cons, hf2 x main _ (by rw [List.length_map]; omega)]
  rw [List.map_append, List.map_cons, List.map_nil, bind_assoc]
  rfl
end
noncomputable def heapE (m : Nat) (last : List It) : List (List It) → Heap → List DictEntry → Nat → Heap
  | [], h, es, tk => (h.push (dictO (entsB tk last).toArray last.length)).update m (fun _ => dictO (es ++ entsB tk last).toArray (es.length + last.length))
  | g :: gs, h, es, tk => heapE m last gs ((h.push (dictO (entsA tk g).toArray g.length)).update m (fun _ => dictO (es ++ entsA tk g).toArray (es.length + g.length))) (es ++ entsA tk g) (tk + 3 * g.length)
theorem asc_app : ∀ (xs ys : List It) (b : Int), ascB b (xs ++ ys) = true → ascB b xs = true ∧ ∃ c, (∀ es tk, Low es b → Low (es ++ entsA tk xs) c) ∧ ascB c ys = true
  | [], ys, b, h => ⟨rfl, b, fun es tk l => by rw [entsA, List.append_nil]; exact l, h⟩
  | x :: xs, ys, b, h => by
    rw [List.cons_append] at h
    obtain ⟨h1, h2⟩ := asc_cons h
    obtain ⟨i1, c, i2, i3⟩ := asc_app xs ys _ h2
    refine ⟨?_, c, fun es tk l => ?_, i3⟩
    · show (decide (b ≤ hashInt x.k) && ascB (hashInt x.k + 1) xs) = true
      rw [decide_eq_true h1, i1]; rfl
    · have := i2 (es ++ [⟨hashInt x.k, .int x.k tk, .str x.s (tk + 1)⟩]) (tk + 3) (Low.push l h1)
      rw [List.append_assoc, List.singleton_append] at this
      exact this
section
variable {w : World} {g : Array GenState} {d : Drawn} {os : OsState} {dp : Pos}
/-- the display's flush -/
noncomputable def flushD (run : List (Sem Value × Sem Value)) (main : Option Addr) : Sem (Option Addr) := do
    if run.isEmpty then return main
    match main with
    | none => return some (← subDict run)
    | some d =>
      let sub ← holding [.ref d] (subDict run)
      (holding [.ref d, .ref sub] (mergeMapping d (.ref sub) false)).onRaise fun x => do let _ ← holding [.ref d, x] (runValue (.builtin "proto.let_go" {}))
      return some d
theorem flush_none {h : Heap} (ha : 11 ≤ h.objs.size) (its : List It) (tk : Nat) (b : Int) (hb : ascB b its = true) (hl : 15 < its.length) (hz : its.length ≤ 1000) :
    Runs w (13 * its.length + 2) (flushD (its.map (It.pair dp)) none) ⟨h, g, d, tk, os⟩ (some h.objs.size) ⟨h.push (dictO (entsA tk its).toArray its.length), g, d, tk + 3 * its.length, os⟩ := by
  unfold flushD
  rw [if_neg (by cases its with | nil => cases hl | cons => exact Bool.false_ne_true)]
  exact Runs.bind0 (sub_long ha its tk b hb hl hz) Runs.pure
theorem sys_ne {a : Nat} (ha : 11 ≤ a) : (a == sysModules) = false := by
  show decide (a = 1) = false
  exact decide_eq_false (by omega)
theorem flush_some {h : Heap} {m : Nat} (hm : 11 ≤ m) {es : List DictEntry} (hes : es ≠ []) (hM : h.get? m = some (dictO es.toArray es.length)) (hlt : m < h.objs.size) (its : List It) (tk : Nat) (b : Int) (hb : ascB b its = true) (hlow : Low es b) (hl : 15 < its.length) (hz : its.length ≤ 1000) (hz2 : es.length ≤ 10000) :
    Runs w (21 * its.length) (flushD (its.map (It.pair dp)) (some m)) ⟨h, g, d, tk, os⟩ (some m) ⟨(h.push (dictO (entsA tk its).toArray its.length)).update m (fun _ => dictO (es ++ entsA tk its).toArray (es.length + its.length)), g, d, tk + 3 * its.length, os⟩ := by
  unfold flushD
  rw [if_neg (by cases its with | nil => cases hl | cons => exact Bool.false_ne_true)]
  refine Runs.mono (n := (6 * its.length + 5) + (13 * its.length + 2)) ?_ (by omega)
  refine Runs.bind (Runs.hold (sub_long (by omega) its tk b hb hl hz)) ?_
  refine Runs.bind0 (a := ()) (Runs.onRaise (Runs.hold ?_)) Runs.pure
  have := merge_runs (w := w) (g := g) (d := d) (os := os) (h := h.push (dictO (entsA tk its).toArray its.length)) (m := m) (a := h.objs.size) (es := es) (sub := entsA tk its) (n := es.length) (sn := its.length) (tk := tk + 3 * its.length) (b := b) hm (Nat.ne_of_lt hlt) (sys_ne (by omega)) hes (ascA its b tk hb) hlow (by rw [entsA_len, sizeLine_eq]; omega) (Heap.get?_push_size h rfl) (Heap.get?_push_of_some _ hM)
  rw [entsA_len] at this
  exact this
theorem flush_last {h : Heap} {m : Nat} (hm : 11 ≤ m) {es : List DictEntry} (hes : es ≠ []) (hM : h.get? m = some (dictO es.toArray es.length)) (hlt : m < h.objs.size) (its : List It) (tk : Nat) (b : Int) (hb : ascB b its = true) (hlow : Low es b) (hl : its.length ≤ 15) (h4 : 4 ≤ its.length) (hz2 : es.length ≤ 10000) :
    Runs w (21 * its.length) (flushD (its.map (It.pair dp)) (some m)) ⟨h, g, d, tk, os⟩ (some m) ⟨(h.push (dictO (entsB tk its).toArray its.length)).update m (fun _ => dictO (es ++ entsB tk its).toArray (es.length + its.length)), g, d, tk + 3 * its.length, os⟩ := by
  unfold flushD
  rw [if_neg (by cases its with | nil => cases h4 | cons => exact Bool.false_ne_true)]
  refine Runs.mono (n := (6 * its.length + 5) + (13 * its.length + 1)) ?_ (by omega)
  refine Runs.bind (Runs.hold (sub_short (by omega) its tk b hb hl)) ?_
  refine Runs.bind0 (a := ()) (Runs.onRaise (Runs.hold ?_)) Runs.pure
  have := merge_runs (w := w) (g := g) (d := d) (os := os) (h := h.push (dictO (entsB tk its).toArray its.length)) (m := m) (a := h.objs.size) (es := es) (sub := entsB tk its) (n := es.length) (sn := its.length) (tk := tk + 3 * its.length) (b := b) hm (Nat.ne_of_lt hlt) (sys_ne (by omega)) hes (ascEB its b tk hb) hlow (by rw [entsB_len, sizeLine_eq]; omega) (Heap.get?_push_size h rfl) (Heap.get?_push_of_some _ hM)
  rw [entsB_len] at this
  exact this
theorem tail_runs {f : Option (Sem Value) × Sem Value → DSt → Sem (ForInStep DSt)} {fin : DSt → Sem Value}
    (hf1 : ∀ (x : It) main run, run.length + 1 ≠ 17 → f (x.item dp) (main, run) = pure (.yield (main, run ++ [x.pair dp])))
    (hf2 : ∀ (x : It) main run, run.length + 1 = 17 → f (x.item dp) (main, run) = (flushD (run ++ [x.pair dp]) main >>= fun m => pure (.yield (m, []))))
    (hfin : ∀ main run, fin (main, run) = (flushD run main >>= fun o => match o with | some d => pure (.ref d) | none => newDict))
    {m : Nat} (hm : 11 ≤ m) (last : List It) (h4 : 4 ≤ last.length) (hl : last.length ≤ 15) :
    ∀ (gs : List (List It)) (h : Heap) (es : List DictEntry) (tk : Nat) (b : Int), (∀ x ∈ gs, x.length = 17) → Low es b → ascB b (gs.flatten ++ last) = true → es ≠ [] → es.length + 17 * gs.length ≤ 10000 →
      h.get? m = some (dictO es.toArray es.length) → m < h.objs.size →
      Runs w (21 * (17 * gs.length + last.length)) (forIn ((gs.flatten ++ last).map (It.item dp)) (some m, []) f >>= fin) ⟨h, g, d, tk, os⟩ (.ref m) ⟨heapE m last gs h es tk, g, d, tk + 3 * (17 * gs.length + last.length), os⟩
  | [], h, es, tk, b, _, hlow, hb, hes, hz, hM, hlt => by
    rw [List.flatten_nil, List.nil_append] at hb ⊢
    have e := gather hf1 (some m) last [] [] (by rw [List.length_nil]; omega)
    rw [List.append_nil, List.map_nil, List.forIn_nil, List.nil_append] at e
    rw [e, pure_bind, hfin]
    rw [List.length_nil, Nat.mul_zero, Nat.zero_add]
    exact Runs.bind0 (flush_last hm hes hM hlt last tk b hb hlow hl h4 (by omega)) Runs.pure
  | x :: gs, h, es, tk, b, hgs, hlow, hb, hes, hz, hM, hlt => by
    have hx := hgs x List.mem_cons_self
    rw [List.flatten_cons, List.append_assoc] at hb ⊢
    rw [List.length_cons] at hz
    obtain ⟨hb1, c, hb2, hb3⟩ := asc_app x _ b hb
    rw [group hf1 hf2 (some m) x _ hx, bind_assoc]
    have hM1 : (h.push (dictO (entsA tk x).toArray x.length)).get? m = some (dictO es.toArray es.length) := Heap.get?_push_of_some _ hM
    have hl1 : (es ++ entsA tk x).length = es.length + x.length := by rw [List.length_append, entsA_len]
    have hM2 : ((h.push (dictO (entsA tk x).toArray x.length)).update m (fun _ => dictO (es ++ entsA tk x).toArray (es.length + x.length))).get? m = some (dictO (es ++ entsA tk x).toArray (es ++ entsA tk x).length) := by
      rw [hl1]; exact Heap.get?_update_self _ hM1 rfl
    have hsz : m < ((h.push (dictO (entsA tk x).toArray x.length)).update m (fun _ => dictO (es ++ entsA tk x).toArray (es.length + x.length))).objs.size := by
      rw [Heap.size_update, Heap.objs_push, Array.size_push]; omega
    have ih := tail_runs hf1 hf2 hfin hm last h4 hl gs _ (es ++ entsA tk x) (tk + 3 * x.length) c (fun y hy => hgs y (List.mem_cons_of_mem _ hy)) (hb2 es tk hlow) hb3 (by cases es with | nil => exact absurd rfl hes | cons => exact fun q => List.cons_ne_nil _ _ q) (by rw [hl1]; omega) hM2 hsz
    refine Runs.cast (n := 21 * (17 * gs.length + last.length) + 21 * x.length) (Runs.bind (flush_some hm hes hM hlt x tk b hb1 hlow (by omega) (by omega) (by omega)) ih) (by rw [List.length_cons, hx]; omega) rfl ?_
    rw [List.length_cons, heapE, show tk + 3 * x.length + 3 * (17 * gs.length + last.length) = tk + 3 * (17 * (gs.length + 1) + last.length) by omega]
theorem display_runs {h : Heap} (ha : 11 ≤ h.objs.size) (tk : Nat) (b : Int) (g0 : List It) (gs : List (List It)) (last : List It) (hg0 : g0.length = 17) (hgs : ∀ x ∈ gs, x.length = 17) (h4 : 4 ≤ last.length) (hl : last.length ≤ 15) (hz : gs.length ≤ 100)
    (hb : ascB b (g0 ++ (gs.flatten ++ last)) = true) :
    Runs w (21 * (17 * (gs.length + 1) + last.length)) (dictDisplay ((g0 ++ (gs.flatten ++ last)).map (It.item dp))) ⟨h, g, d, tk, os⟩ (.ref h.objs.size)
      ⟨heapE h.objs.size last gs (h.push (dictO (entsA tk g0).toArray 17)) (entsA tk g0) (tk + 51), g, d, tk + 3 * (17 * (gs.length + 1) + last.length), os⟩ := by
  unfold dictDisplay
  dsimp only
  obtain ⟨hb1, c, hb2, hb3⟩ := asc_app g0 _ b hb
  rw [group (flush := flushD) ?hf1 ?hf2 none g0 _ hg0, bind_assoc]
  · refine Runs.cast (n := 21 * (17 * gs.length + last.length) + (13 * g0.length + 2 + 134)) (Runs.bind (Runs.mono (flush_none ha g0 tk b hb1 (by omega) (by omega)) (by omega)) ?_) (by omega) rfl rfl
    rw [hg0]
    have hlen : (entsA tk g0).length = 17 := by rw [entsA_len, hg0]
    refine Runs.cast (tail_runs ?hf1 ?hf2 ?hfin ha last h4 hl gs _ (entsA tk g0) (tk + 3 * 17) c hgs (by have := hb2 [] tk (low_nil b); rwa [List.nil_append] at this) hb3 (by intro e; rw [e] at hlen; cases hlen) (by omega) (by rw [hlen]; exact Heap.get?_push_size h rfl) (by rw [Heap.objs_push, Array.size_push]; omega)) rfl rfl (by rw [show tk + 3 * 17 + 3 * (17 * gs.length + last.length) = tk + 3 * (17 * (gs.length + 1) + last.length) by omega])
    exact fun main run => rfl
  · intro x main run h
    show (if ((run ++ [x.pair dp]).length == 17) = true then _ else _) = _
    rw [if_neg (by rw [List.length_append, List.length_singleton, beq_eq_false_iff_ne.mpr h]; exact Bool.false_ne_true)]
  · intro x main run h
    show (if ((run ++ [x.pair dp]).length == 17) = true then _ else _) = _
    rw [if_pos (by rw [List.length_append, List.length_singleton, h]; rfl)]
    rfl
end
end
section
open PySem PySem.W PyProof.Rows PySem.Calls
set_option maxRecDepth 100000
/-- the heap behind the display, before the name is bound -/
noncomputable def tree10e (P : Params) : BT := (.node (boot_o_0 P) (.node (boot_o_1 P) (.node (ob3v10 P) (.node (boot_o_7 P) (.node (ob15v8 P) (.node (ob31v8 P) (.node (ob63v9 P) .nil .nil) (.node (ob95v11 P) .nil .nil)) (.node (ob47v8 P) (.node (ob79v11 P) .nil .nil) (.node (ob111v11 P) .nil .nil))) (.node (ob23v8 P) (.node (ob39v8 P) (.node (ob71v9 P) .nil .nil) (.node (ob103v11 P) .nil .nil)) (.node (ob55v8 P) (.node (ob87v11 P) .nil .nil) .nil))) (.node (ob11v0 P) (.node (ob19v8 P) (.node (ob35v8 P) (.node (ob67v9 P) .nil .nil) (.node (ob99v11 P) .nil .nil)) (.node (ob51v8 P) (.node (ob83v11 P) .nil .nil) (.node (ob115v11 P) .nil .nil))) (.node (ob27v8 P) (.node (ob43v8 P) (.node (ob75v10 P) .nil .nil) (.node (ob107v11 P) .nil .nil)) (.node (ob59v8 P) (.node (ob91v11 P) .nil .nil) .nil)))) (.node (boot_o_5 P) (.node (boot_o_9 P) (.node (ob17v8 P) (.node (ob33v8 P) (.node (ob65v9 P) .nil .nil) (.node (ob97v11 P) .nil .nil)) (.node (ob49v8 P) (.node (ob81v11 P) .nil .nil) (.node (ob113v11 P) .nil .nil))) (.node (ob25v8 P) (.node (ob41v8 P) (.node (ob73v10 P) .nil .nil) (.node (ob105v11 P) .nil .nil)) (.node (ob57v8 P) (.node (ob89v11 P) .nil .nil) .nil))) (.node (ob13v0 P) (.node (ob21v8 P) (.node (ob37v8 P) (.node (ob69v9 P) .nil .nil) (.node (ob101v11 P) .nil .nil)) (.node (ob53v8 P) (.node (ob85v11 P) .nil .nil) (.node (ob117v11 P) .nil .nil))) (.node (ob29v8 P) (.node (ob45v8 P) (.node (ob77v10 P) .nil .nil) (.node (ob109v11 P) .nil .nil)) (.node (ob61v9 P) (.node (ob93v11 P) .nil .nil) .nil))))) (.node (ob2v8 P) (.node (boot_o_4 P) (.node (boot_o_8 P) (.node (ob16v8 P) (.node (ob32v8 P) (.node (ob64v9 P) .nil .nil) (.node (ob96v11 P) .nil .nil)) (.node (ob48v8 P) (.node (ob80v11 P) .nil .nil) (.node (ob112v11 P) .nil .nil))) (.node (ob24v8 P) (.node (ob40v8 P) (.node (ob72v10 P) .nil .nil) (.node (ob104v11 P) .nil .nil)) (.node (ob56v8 P) (.node (ob88v11 P) .nil .nil) .nil))) (.node (ob12v10 P) (.node (ob20v8 P) (.node (ob36v8 P) (.node (ob68v9 P) .nil .nil) (.node (ob100v11 P) .nil .nil)) (.node (ob52v8 P) (.node (ob84v11 P) .nil .nil) (.node (ob116v11 P) .nil .nil))) (.node (ob28v8 P) (.node (ob44v8 P) (.node (ob76v10 P) .nil .nil) (.node (ob108v11 P) .nil .nil)) (.node (ob60v8 P) (.node (ob92v11 P) .nil .nil) .nil)))) (.node (boot_o_6 P) (.node (boot_o_10 P) (.node (ob18v8 P) (.node (ob34v8 P) (.node (ob66v9 P) .nil .nil) (.node (ob98v11 P) .nil .nil)) (.node (ob50v8 P) (.node (ob82v11 P) .nil .nil) (.node (ob114v11 P) .nil .nil))) (.node (ob26v8 P) (.node (ob42v8 P) (.node (ob74v10 P) .nil .nil) (.node (ob106v11 P) .nil .nil)) (.node (ob58v8 P) (.node (ob90v11 P) .nil .nil) .nil))) (.node (ob14v0 P) (.node (ob22v8 P) (.node (ob38v8 P) (.node (ob70v9 P) .nil .nil) (.node (ob102v11 P) .nil .nil)) (.node (ob54v8 P) (.node (ob86v11 P) .nil .nil) .nil)) (.node (ob30v8 P) (.node (ob46v8 P) (.node (ob78v10 P) .nil .nil) (.node (ob110v11 P) .nil .nil)) (.node (ob62v9 P) (.node (ob94v11 P) .nil .nil) .nil))))))
noncomputable def gsT : List (List It) := (List.range 37).map fun i => grp (i + 1)
theorem its_split : itsT = grp 0 ++ (gsT.flatten ++ grp 38) := by kernel_rfl
theorem keys_its : D10.1 = itsT.map fun x => some (.Constant (.int x.k) x.i x.p) := by kernel_rfl
theorem vals_its : D10.2.1 = itsT.map fun x => .Constant (.str x.s) x.j x.q := by kernel_rfl
theorem gs_len : ∀ x ∈ gsT, x.length = 17 := by
  have : (gsT.all fun x => x.length == 17) = true := by kernel_rfl
  intro x hx
  exact eq_of_beq (List.all_eq_true.mp this x hx)
theorem its_asc : ascB 0 (grp 0 ++ (gsT.flatten ++ grp 38)) = true := by kernel_rfl
theorem items_eq (dp : Pos) : ∀ its : List It, (evalEachOpt (its.map fun x => some (.Constant (.int x.k) x.i x.p)) envT).zip ((evalEach (its.map fun x => .Constant (.str x.s) x.j x.q) envT).map fun v => do let x ← v; standAt dp; pure x) = its.map (It.item dp)
  | [] => rfl
  | x :: r => by
    rw [List.map_cons, List.map_cons, List.map_cons, ← items_eq dp r]
    rfl
theorem heap10 (P : Params) : heapE 79 (grp 38) gsT ((absHeap (tree10 P) 79 lifeN).push (dictO (entsA 340 (grp 0)).toArray 17)) (entsA 340 (grp 0)) (340 + 51) = absHeap (tree10e P) 118 lifeN := by kernel_rfl
theorem st10_is : sts10 = [.Assign [.Name D10.2.2.2.1 D10.2.2.2.2.1] (.Dict D10.1 D10.2.1 D10.2.2.1) D10.2.2.2.2.2] := by kernel_rfl
open PySem.W.Fast in
theorem bind10 (w : World) (os : OsState) (K : Unit → Sem Fin) (H : Value → Sem Fin) (gd : Bool → Bool) (lv : List Value → List Value) (pos : Pos) :
    topGo treeTable pw w 11 (some (.ref 6)) 6 ⟨absHeap (tree10e w.params) 118 lifeN, #[], drawnN, 2290, os⟩ ⟨(bindName envT D10.2.2.2.1 (.ref 79)).wrap K H gd lv, cT, pos, fT⟩ = some ((st11 w os).abs, ⟨K (), cT, pos, fT⟩) := by
  rw [te15667345088766844465, te14364793385576792824, te7536695828754713326]
  kernel_rfl
theorem exec10 (w : World) (os : OsState) : Runs w 14000 (exec (.Assign [.Name D10.2.2.2.1 D10.2.2.2.2.1] (.Dict D10.1 D10.2.1 D10.2.2.1) D10.2.2.2.2.2) envT) (st10 w os).abs .next (st11 w os).abs := by
  rw [exec_Assign_Name (hs := rfl), arm_eval_Dict, keys_its, vals_its, items_eq, its_split]
  refine Runs.mono (n := (0 + 6 + 1) + (21 * (17 * (gsT.length + 1) + (grp 38).length) + 1) + 1) ?_ (by rw [show gsT.length = 37 from by kernel_rfl, show (grp 38).length = 4 from by kernel_rfl]; decide)
  refine Runs.bind (n := 1) (Runs.at .pure) ?_
  have hs : (absHeap (tree10 w.params) 79 lifeN).objs.size = 79 := absHeap_size ..
  have hd := display_runs (w := w) (g := #[]) (d := drawnN) (os := os) (dp := D10.2.2.1) (h := absHeap (tree10 w.params) 79 lifeN) (by rw [hs]; decide) 340 0 (grp 0) gsT (grp 38) (by kernel_rfl) gs_len (by rw [show (grp 38).length = 4 from by kernel_rfl]; decide) (by rw [show (grp 38).length = 4 from by kernel_rfl]; decide) (by rw [show gsT.length = 37 from by kernel_rfl]; decide) its_asc
  rw [hs, heap10] at hd
  refine Runs.bind (a := .ref 79) (s₁ := ⟨absHeap (tree10e w.params) 118 lifeN, #[], drawnN, 2290, os⟩) (Runs.bind (n := 1) (Runs.at .pure) (Runs.cast hd rfl rfl ?_)) ?_
  · rw [show gsT.length = 37 from by kernel_rfl, show (grp 38).length = 4 from by kernel_rfl]
  refine Runs.bind (n := 1) (Runs.at .pure) ?_
  refine Runs.bind (n := 6) (m := 0) (a := ()) ?_ Runs.pure
  refine Runs.of (n := 6) (m := 0) (y := .pure ()) (fun K H gd lv pos => ⟨pos, bind10 w os K H gd lv pos⟩) Runs.pure
/-- the statement that makes the great table -/
theorem piece10 {w : World} {os : OsState} {r : Shared} {k : Nat} {rest : List Stmt} (h : ∀ pos, Ends w r k (st11 w os).abs (restOf rest envT cT pos fT)) (pos : Pos) : Ends w r (k + 14000) (st10 w os).abs (restOf (sts10 ++ rest) envT cT pos fT) := by
  rw [st10_is]
  unfold restOf
  rw [List.singleton_append, execs_cons_wrap]
  exact exec10 w os r k _ _ _ _ pos h
end
section
open PySem PySem.W PyProof.Rows PySem.Calls
set_option maxRecDepth 100000
noncomputable abbrev HK : Hook := kHook KK KA (fun _ => by kernel_rfl)
noncomputable def H1 (P : Params) : Heap := absHeap (tree27 P) 223 lifeN
theorem QQ_view : QQ = viewOf pw := QQs.2.symm
noncomputable abbrev rowT : OpenRow := PySem.Challenge.rw_tr0058_01.row
noncomputable abbrev XtT (s : Shared) : Bool := xlAt QQ [] s && recOk (RowW.records (OpenRow.toRowW rowT)) s
open PySem.W.Fast in
theorem pre0 (w : World) : (fun os => topGo treeTable pw w 11 (some (.ref 6)) 12 ⟨boot_heap w.params, #[], boot_drawn, boot_toks, os⟩ (topStub pw)) = fun os => some ((st0 w os).abs, ⟨denote treeTable cT, cT, qT, fT⟩) := by
  rw [te15667345088766844465, te14364793385576792824, te11892475500146522536]
  kernel_rfl
open PySem.W.Fast in
theorem block0 (w : World) : (fun os => segRunT treeTable pw w 11 (some (.ref 6)) 1 1 (st0 w os) (blockOf bT envT cT qT fT)) = fun os => some (.next, st0 w os, cT, qT) := by
  unfold blockOf
  rw [te10110043849684766642, te14364793385576792824, te1066825118222455980]
  kernel_rfl
open PySem.W.Fast in
theorem fin0 (w : World) : (fun os => topRun treeTable pw w 11 (some (.ref 6)) 2 (st27 w os).abs ⟨doneF .next, cT, ⟨156, 0, 172, 63⟩, fT⟩) = fun os => some (st27 w os).abs := by
  rw [te14082659384304107361, te14364793385576792824]
  kernel_rfl
theorem body_split : bT = sts0 ++ (sts8 ++ (sts9 ++ (sts10 ++ (sts11 ++ (sts12 ++ (sts13 ++ (sts14 ++ (sts15 ++ [])))))))) := by kernel_rfl
theorem Ends.piece {w : World} {r : Shared} {n k : Nat} {s s' : SharedT} {l rest : List Stmt} {pos p' : Pos} (h : segRunT treeTable pw w 11 (some (.ref 6)) 1 n s (piecesOf l envT cT pos fT) = some (.next, s', cT, p'))
    (e : Ends w r k s'.abs (restOf rest envT cT p' fT)) : Ends w r (k + n) s.abs (restOf (l ++ rest) envT cT pos fT) := by
  obtain ⟨j, hj, hr⟩ := e
  exact ⟨n + j, by omega, piece_app (segRun_of h) hr⟩
theorem run_all (w : World) (os : OsState) : topRun treeTable pw w 11 (some (.ref 6)) 20000 ⟨boot_heap w.params, #[], boot_drawn, boot_toks, os⟩ (topStub pw) = some ⟨H1 w.params, #[], drawnN, 2467, os⟩ := by
  have e27 : Ends w (st27 w os).abs 2 (st27 w os).abs (restOf [] envT cT ⟨156, 0, 172, 63⟩ fT) := ⟨2, Nat.le_refl _, piece_nil (congrFun (fin0 w) os)⟩
  have e15 := Ends.piece (congrFun (p15 w) os) e27
  have e14 := Ends.piece (congrFun (p14 w) os) e15
  have e13 := Ends.piece (congrFun (p13 w) os) e14
  have e12 := Ends.piece (congrFun (p12 w) os) e13
  have e11 := fun pos => Ends.piece (congrFun (p11 w pos) os) e12
  have e10 := piece10 e11 ⟨70, 0, 71, 30⟩
  have e9 := Ends.piece (congrFun (p9 w) os) e10
  have e8 := Ends.piece (congrFun (p8 w) os) e9
  have e0 := Ends.piece (congrFun (p0 w) os) e8
  rw [← body_split] at e0
  obtain ⟨j, hj, hr⟩ := e0
  have hb := go_top (congrFun (pre0 w) os) (piece_block (segRun_of (congrFun (block0 w) os)) hr)
  have hm := topRun_mono (20000 - (12 + (1 + j))) _ _ _ _ hb
  rw [show 12 + (1 + j) + (20000 - (12 + (1 + j))) = 20000 by omega] at hm
  exact hm
end
section
open PySem PySem.W PyProof.Rows PySem.Calls
set_option maxRecDepth 100000
theorem size0 (w : World) : ((boot_heap w.params).isNs mainGlobals && (#[] : Array GenState).size == 0, (boot_heap w.params).objs.size, (boot_heap w.params).nsMap mainGlobals "__annotations__") = (true, 11, some (Value.ref 6)) := by kernel_rfl
open PySem.W.Fast in
theorem lookA (w : World) (os : OsState) : (staticsOk (importedModules pw.main.body) (boot_heap w.params) (H1 w.params) && namesBound pw (H1 w.params) && gensDone ⟨H1 w.params, #[], drawnN, 2467, os⟩ && laidKept (boot_heap w.params) (H1 w.params)) = true := by
  unfold H1
  rw [te5923862056798008813]
  kernel_rfl
theorem lookC (w : World) (os : OsState) : Hook.obs HK ⟨H1 w.params, #[], drawnN, 2467, os⟩ = Hook.val HK w := by kernel_rfl
open PySem.W.Fast in
theorem lookB (w : World) (os : OsState) : openSeen QQ LL (importedModules pw.main.body) XtT true ⟨H1 w.params, #[], drawnN, 2467, os⟩ = openGood QQ LL := by
  unfold H1
  rw [show XtT = fun s => xlAt QQ [] s && recOk (RowW.records (OpenRow.toRowW rowT)) s from rfl]
  rw [QQ_view]
  rw [te4187177175401517315, te5923862056798008813]
  kernel_rfl
theorem left_all : LeftO pw QQ LL XtT (Hook.obs HK) (Hook.val HK) 40000 :=
  LeftO.of_pieces (H₀ := boot_heap) (H₁ := H1) (gs₀ := #[]) (gs₁ := #[]) (d₀ := boot_drawn) (d₁ := drawnN) (k₀ := boot_toks) (k₁ := 2467) (m₀ := 11) (ann := some (.ref 6)) (M := 20000)
    (boot_open (by kernel_rfl) (by rfl) (fun s => by kernel_rfl)) size0 run_all (by rfl)
    (fun w => funext fun os => Prod.ext (lookA w os) (Prod.ext (lookB w os) (lookC w os)))
end
end Mine
open PySem PySem.W PyProof.Rows PySem.Calls PySem.Spec
namespace Mine
set_option maxRecDepth 100000 in
set_option maxHeartbeats 4000000 in
open PySem.W.Fast in
theorem row_said : OpenRow.wellSaid PySem.Challenge.rw_tr0058_01.row = true := by
  unfold OpenRow.wellSaid OpenRow.partSaid looksOpen
  simp only [Bool.and_eq_true]
  and_intros
  all_goals (try simp only [te8326940854005059898, te17119622794617984870, te8377067652309620493, te17868728402115742887, te11788848310118352699, te8179353310426384613, te9558739934217749035, te16286561074155671207, te10501279942588096481, te12879404354523853263])
  all_goals (decide +kernel)
set_option maxRecDepth 100000 in
set_option maxHeartbeats 4000000 in
open PySem.W.Fast in
theorem said_all : OpenLaw.wellSaid PySem.Challenge.rw_tr0058_01 = true := by
  unfold OpenLaw.wellSaid
  simp only [Bool.and_eq_true]
  and_intros
  · exact row_said
  all_goals (try simp only [te8326940854005059898, te17119622794617984870, te8377067652309620493, te17868728402115742887, te11788848310118352699, te8179353310426384613, te9558739934217749035, te16286561074155671207, te10501279942588096481, te12879404354523853263])
  all_goals (decide +kernel)
theorem loose_eq : looseW QQ LL = LL := by kernel_rfl
set_option maxRecDepth 100000 in
theorem law_top {w : World} {mean : ExcName → Option Value} {mg mb : Str → Option Value} {s : Shared} {fa sl : Addr} {ns : List Int} {vs : List Value} {cl : Str → Option Addr}
    (X : (KK w.params).In s.heap) (T : Top QQ (looseW QQ LL) mean mg mb s.heap) (hmg : mg (Str.ofString "law") = some (.ref fa)) (hg : s.gens = #[]) (hL : s.heap.IsList sl vs.toArray) (hI : IntsAre vs ns) (hn : ¬ (63 : Int) < (ns.length : Int)) :
    codeAny (model PySem.Challenge.rw_tr0058_01.row.prog w) callerA (.call (.ref fa) ⟨[.ref sl], []⟩) (GoodWG PySem.Challenge.rw_tr0058_01.row.claim cl mean [ofPy (PyData.list (ns.map PyData.int))] s) s := by
  have e : mg (Str.ofString "law") = some (.ref 222) := by
    revert X; intro X
    exact mg_of X T.g (by kernel_rfl)
  obtain rfl : fa = 222 := by rw [hmg] at e; cases e; rfl
  have K0 := below_caller (Top.heap T)
  rw [loose_eq] at T
  refine law_c K0 X T rfl (by decide +kernel) (by decide +kernel) rfl hL hI (by omega) ?_
  intro h tk hk
  refine ⟨.inl ⟨.bool true, .bool true, [], rfl, fun cls => rfl, .bool true, ?_, ?_⟩, .of_keep hk, rfl, .of_eq hg⟩
  · kernel_rfl
  · exact fun _ => ⟨List.nodup_nil, fun a ha => nomatch ha⟩
end Mine
open Mine
set_option maxRecDepth 100000 in
set_option maxHeartbeats 8000000 in
theorem PySem.Challenge.cw_tr0058_01_holds : PySem.Challenge.rw_tr0058_01.Holds := by
  w_on
  refine holds_law said_all fun said => ?_
  refine holds_open (q := QQ) (loose := LL) (Xt := fun s => xlAt QQ [] s && recOk (RowW.records (OpenRow.toRowW PySem.Challenge.rw_tr0058_01.row)) s) (XP := XL QQ []) (Yf := Hook.obs HK) (Ya := Hook.val HK) (YP := Hook.says HK) (N := 40000) ?hl (Hook.of HK) (Hook.keeps HK) (fun s e => xl_of s (Bool.and_eq_true_iff.mp e).1) XL.keeps (by rfl) (by rfl) (by rfl) (fun s e => recFacts_of (Bool.and_eq_true_iff.mp e).2) (by rfl) (by first | assumption | decide +kernel) (by decide +kernel) ⟨rfl, rfl, rfl, rfl, rfl, by decide +kernel⟩ ?hw ?hc
  case hl => exact left_all
  case hw => w_witness2
  case hc =>
    k_fill
    intro w s₀ s₁ mg mb G Y fa o pm cd doc dV kV ho hd hcd hD hmg hg args vals as hpre hlay hrd hwl hlo
    have KX := kIn_of Y
    have X := (Ground.X G).1
    have V := (Ground.X G).2
    refine Ground.open G ?_
    intro T B D TE TW
    obtain ⟨_, _, M⟩ := bmod_of_top T
    have TA := at_of_top T
    wrow_args hpre hlay hrd hwl hlo
    refine enter_call ?_
    exact law_top KX T hmg hg (by assumption) (by assumption) (by assumption)
