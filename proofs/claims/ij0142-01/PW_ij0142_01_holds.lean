import PyProof.Rows.All
import Wide.All
import OpenK.AllK
import Wide.FinOn
import KE.KNest
import Lean
import PySem.Challenge.RW_ij0142_01
set_option Elab.async false
set_option linter.all false
section
open PySem PySem.W PyProof.Rows PySem.Calls
set_option maxRecDepth 100000
namespace Mine
noncomputable section
noncomputable abbrev pw : Program := PySem.Challenge.pw_ij0142_01
noncomputable abbrev sO (x : String) : Str := Str.ofString x
noncomputable abbrev vS (x : String) (t : Nat) : Value := .str (Str.ofString x) t
noncomputable abbrev vM (x : List Nat) (t : Nat) : Value := .str ⟨x.toArray⟩ t
noncomputable abbrev vI (i : Int) (t : Nat) : Value := .int i t
noncomputable abbrev eS (P : Params) (x : Str) (t : Nat) (v : Value) : DictEntry := ⟨PyData.keyHash P x, .str x t, v⟩
noncomputable def fd (i : Nat) : Arguments × List Stmt × Scope := match pw.main.body[i]? with
  | some (.FunctionDef _ a b _ _ _ sc _ _ _) => (a, b, sc)
  | _ => (default, [], default)
noncomputable def fm (i j : Nat) : Arguments × List Stmt × Scope := match pw.main.body[i]? with
  | some (.ClassDef _ _ _ body _ _ _ _ _ _ _) => (match body[j]? with
    | some (.FunctionDef _ a b _ _ _ sc _ _ _) => (a, b, sc)
    | _ => (default, [], default))
  | _ => (default, [], default)
noncomputable abbrev fnX (name qual : Str) (x : Arguments × List Stmt × Scope) (glob blt : Addr) (dV kV doc pm : Value) (an : Option Addr) (cdv ct : Value) : FuncData :=
  { name, qualname := qual, params := x.1, body := .stmts x.2.1, scope := x.2.2, globals := glob, closure := [], defaults := dV, kwdefaults := kV, doc, pyModule := pm, annotations := an, code := cdv, closureTuple := ct, builtins := blt }
noncomputable abbrev clX (name : Str) (bases mro : List Value) (ns : Addr) (qual : Str) (hasDict : Bool) (slots : List Str) (subs : List Value) (abstract : Bool) (col : Option Bool) (hasDel : Bool) : ClassData :=
  { name, bases, mro, ns, qualname := qual, hasDict, slotNames := slots, subclasses := subs, abstract, collection := col, hasDel }
noncomputable def stL (k : Nat) : List Stmt := (pw.main.body.drop k).take 1
noncomputable def env0 : Env := { scope := pw.main.scope, locals := mainNs, globals := mainNs, cells := [], code := .ref 13, frame := some 14 }
noncomputable def cd0 : Code := .body (behindTheImports pw) env0
noncomputable def q0 : Pos := ⟨0, 0, 0, 0⟩
noncomputable def ann0 : Option Value := some (.ref 6)
noncomputable def life0 : Life := {}
noncomputable def drawn0 : Drawn := {}
noncomputable def dc (i : Nat) : Str := match pw.main.body[i]? with
  | some (.FunctionDef _ _ b _ _ _ _ _ _ _) => (docOf b).getD Str.empty
  | some (.ClassDef _ _ _ b _ _ _ _ _ _ _) => (docOf b).getD Str.empty
  | _ => Str.empty
noncomputable def e3 (P : Params) : List DictEntry := [eS P (sO "__doc__") 166 (.none), eS P (sO "__package__") 167 (.none), eS P (sO "__loader__") 168 (.builtin "__main__.__loader__#opaque"), eS P (sO "__spec__") 169 (.none), eS P (sO "__annotations__") 170 (.ref 6), eS P (sO "__builtins__") 171 (.ref 4), eS P (sO "__file__") 173 (vS "/claim/cut.py" 172), eS P (sO "__cached__") 174 (.none), eS P (sO "_wall") 193 (.ref 21), eS P (sO "_WallAttr") 233 (.ref 46), eS P (sO "_pe_doc") 242 (.ref 57), eS P (sO "MAX_KEY_PARTS") 246 (vI (1000) 245), eS P (sO "ASCII_CTRL") 390 (.ref 74), eS P (sO "ILLEGAL_BASIC_STR_CHARS") 394 (.ref 79), eS P (sO "ILLEGAL_MULTILINE_BASIC_STR_CHARS") 400 (.ref 84), eS P (sO "ILLEGAL_LITERAL_STR_CHARS") 401 (.ref 79), eS P (sO "TOML_WS") 407 (.ref 85), eS P (sO "TOML_WS_AND_NEWLINE") 411 (.ref 93), eS P (sO "ascii_lowercase") 413 (vS "abcdefghijklmnopqrstuvwxyz" 412), eS P (sO "ascii_uppercase") 415 (vS "ABCDEFGHIJKLMNOPQRSTUVWXYZ" 414), eS P (sO "ascii_letters") 417 (vS "abcdefghijklmnopqrstuvwxyzABCDEFGHIJKLMNOPQRSTUVWXYZ" 416), eS P (sO "digits") 419 (vS "0123456789" 418), eS P (sO "hexdigits") 424 (vS "0123456789abcdefABCDEF" 423), eS P (sO "BARE_KEY_CHARS") 556 (.ref 94), eS P (sO "HEXDIGIT_CHARS") 601 (.ref 98), eS P (sO "MappingProxyType") 605 (.type "mappingproxy"), eS P (sO "BASIC_STR_ESCAPE_REPLACEMENTS") 629 (.ref 104), eS P (sO "TOMLDecodeError") 649 (.ref 114), eS P (sO "skip_chars") 658 (.ref 124), eS P (sO "skip_until") 670 (.ref 131), eS P (sO "parse_key") 681 (.ref 138), eS P (sO "parse_key_part") 691 (.ref 145), eS P (sO "parse_one_line_basic_str") 699 (.ref 152), eS P (sO "parse_basic_str_escape") 711 (.ref 160), eS P (sO "parse_basic_str_escape_multiline") 719 (.ref 167), eS P (sO "parse_hex_char") 730 (.ref 174), eS P (sO "parse_literal_str") 739 (.ref 181), eS P (sO "parse_basic_str") 754 (.ref 188), eS P (sO "suffixed_err") 765 (.ref 195), eS P (sO "is_unicode_scalar_value") 772 (.ref 202), eS P (sO "_plain_name") 783 (.ref 209), eS P (sO "ABCMeta") 809 (.ref 226), eS P (sO "_ABCLike") 852 (.ref 259), eS P (sO "_abc_plain_meta") 859 (.ref 268), eS P (sO "fspath") 871 (.ref 275), eS P (sO "_splitext") 888 (.ref 282), eS P (sO "_check_arg_types") 899 (.ref 289), eS P (sO "_get_sep") 908 (.ref 296), eS P (sO "join") 920 (.ref 303), eS P (sO "split") 932 (.ref 310), eS P (sO "splitext") 941 (.ref 317), eS P (sO "_law_path") 986 (.ref 325), eS P (sO "_law_names") 997 (.ref 332), eS P (sO "_law_cut") 1003 (.ref 337), eS P (sO "_law_peeled") 1015 (.ref 344), eS P (sO "_law_plain") 1021 (.ref 349), eS P (sO "_law_due") 1034 (.ref 356), eS P (sO "_law_read") 1042 (.ref 363), eS P (sO "_law_holds") 1048 (.ref 368), eS P (sO "law") 1054 (.ref 373)]
noncomputable def d3 (P : Params) (v : Value) (k n : Nat) : Obj := ⟨.type "dict", none, .dict (eS P (sO "__name__") 165 v :: (e3 P).take k).toArray n, #[]⟩
noncomputable def l12 : List Value := [vI (1) 0, vI (0) 0, .ref 20, vI (4) 0, vI (0) 0, .ref 27, vI (10) 0, vI (0) 0, .ref 56, vI (20) 0, vI (23) 0, .ref 62, vI (37) 0, vI (0) 0, .ref 110, vI (39) 0, vI (0) 0, .ref 123, vI (46) 0, vI (0) 0, .ref 130, vI (58) 0, vI (0) 0, .ref 137, vI (76) 0, vI (0) 0, .ref 144, vI (90) 0, vI (0) 0, .ref 151, vI (93) 0, vI (0) 0, .ref 159, vI (116) 0, vI (0) 0, .ref 166, vI (118) 0, vI (0) 0, .ref 173, vI (127) 0, vI (0) 0, .ref 180, vI (132) 0, vI (0) 0, .ref 187, vI (162) 0, vI (0) 0, .ref 194, vI (176) 0, vI (0) 0, .ref 201, vI (179) 0, vI (0) 0, .ref 208, vI (185) 0, vI (0) 0, .ref 215, vI (190) 0, vI (0) 0, .ref 234, vI (205) 0, vI (0) 0, .ref 267, vI (209) 0, vI (0) 0, .ref 274, vI (226) 0, vI (0) 0, .ref 281, vI (243) 0, vI (0) 0, .ref 288, vI (255) 0, vI (0) 0, .ref 295, vI (260) 0, vI (0) 0, .ref 302, vI (281) 0, vI (0) 0, .ref 309, vI (291) 0, vI (0) 0, .ref 316, vI (302) 0, vI (0) 0, .ref 324, vI (305) 0, vI (0) 0, .ref 331, vI (314) 0, vI (0) 0, .ref 336, vI (320) 0, vI (0) 0, .ref 343, vI (327) 0, vI (0) 0, .ref 348, vI (333) 0, vI (0) 0, .ref 355, vI (346) 0, vI (0) 0, .ref 362, vI (351) 0, vI (0) 0, .ref 367, vI (367) 0, vI (0) 0, .ref 372]
noncomputable def f12 (k : Nat) : Obj := ⟨.none, none, .fields (l12.take k).toArray, #[]⟩
noncomputable def o11v0 (P : Params) : Obj := ⟨.type "tuple", none, .seq [].toArray 0, [].toArray⟩
noncomputable def o13v0 (P : Params) : Obj := ⟨.type "code", none, .fields [vS "<module>" 182, vS "<module>" 183, vS "/claim/cut.py" 184, vI (1) 0, vI (0) 0, vI (0) 0, vI (0) 0, vI (0) 0, .ref 11, .bool false, vI (181) 0, .ref 12, .none, .none, .none, .none, vI (185) 0, vI (1) 0, vS "/claim/cut.py" 186].toArray, [].toArray⟩
noncomputable def o14v0 (P : Params) : Obj := ⟨.type "frame", none, .plain, [(some (.ref 13)), (some (.ref 3)), (some (.ref 3)), none, (some (vS "__main__" 164)), none, (some (.ref 0))].toArray⟩
noncomputable def t14v0 (P : Params) (z : Nat → Obj) : BT := .node (o14v0 P) .nil .nil
noncomputable def t0v0 (P : Params) (z : Nat → Obj) : BT := .node (boot_o_0 P) (.node (boot_o_1 P) (.node (d3 P (vS "__main__" 164) 8 9) (.node (boot_o_7 P) .nil .nil) (.node (o11v0 P) .nil .nil)) (.node (boot_o_5 P) (.node (boot_o_9 P) .nil .nil) (.node (o13v0 P) .nil .nil))) (.node (boot_o_2 P) (.node (boot_o_4 P) (.node (boot_o_8 P) .nil .nil) (.node (f12 0) .nil .nil)) (.node (boot_o_6 P) (.node (boot_o_10 P) .nil .nil) (t14v0 P z)))
noncomputable def Sb (w : World) (os : OsState) (z : Nat → Obj) : SharedT := ⟨t0v0 w.params z, 15, life0, [].toArray, drawn0, 187, os⟩
noncomputable def o15v0 (P : Params) : Obj := ⟨.type "tuple", none, .seq [].toArray 0, [].toArray⟩
noncomputable def o16v0 (P : Params) : Obj := ⟨.none, none, .fields [].toArray, [].toArray⟩
noncomputable def o17v0 (P : Params) : Obj := ⟨.type "tuple", none, .seq [vS "k" 190].toArray 0, [].toArray⟩
noncomputable def o18v0 (P : Params) : Obj := ⟨.type "tuple", none, .seq [].toArray 0, [].toArray⟩
noncomputable def o19v0 (P : Params) : Obj := ⟨.none, none, .func (fnX (sO "_wall") (sO "_wall") (fd 0) 0 0 (.none) (.none) (.none) (.none) none (.none) (.none)), [].toArray⟩
noncomputable def o20v0 (P : Params) : Obj := ⟨.type "code", none, .fields [vS "_wall" 187, vS "_wall" 188, vS "/claim/cut.py" 189, vI (1) 0, vI (1) 0, vI (0) 0, vI (0) 0, vI (3) 0, .ref 15, .bool true, vI (181) 0, .ref 16, .none, .ref 17, .ref 18, .ref 19, vI (191) 0, vI (1) 0, vS "/claim/cut.py" 192].toArray, [].toArray⟩
noncomputable def o21v0 (P : Params) : Obj := ⟨.type "function", none, .func (fnX (sO "_wall") (sO "_wall") (fd 0) 3 0 (.none) (.none) (.none) (vS "__main__" 164) none (.ref 20) (.none)), [].toArray⟩
noncomputable def t0v1 (P : Params) (z : Nat → Obj) : BT := .node (boot_o_0 P) (.node (boot_o_1 P) (.node (d3 P (vS "__main__" 164) 9 10) (.node (boot_o_7 P) (.node (o15v0 P) .nil .nil) .nil) (.node (o11v0 P) (.node (o19v0 P) .nil .nil) .nil)) (.node (boot_o_5 P) (.node (boot_o_9 P) (.node (o17v0 P) .nil .nil) .nil) (.node (o13v0 P) (.node (o21v0 P) .nil .nil) .nil))) (.node (boot_o_2 P) (.node (boot_o_4 P) (.node (boot_o_8 P) (.node (o16v0 P) .nil .nil) .nil) (.node (f12 3) (.node (o20v0 P) .nil .nil) .nil)) (.node (boot_o_6 P) (.node (boot_o_10 P) (.node (o18v0 P) .nil .nil) .nil) (t14v0 P z)))
noncomputable def S0 (w : World) (os : OsState) (z : Nat → Obj) : SharedT := ⟨t0v1 w.params z, 22, life0, [].toArray, drawn0, 194, os⟩
noncomputable def o22v0 (P : Params) : Obj := ⟨.type "tuple", none, .seq [].toArray 0, [].toArray⟩
noncomputable def o23v0 (P : Params) : Obj := ⟨.type "builtin_function_or_method", none, .fields [.builtin "type.__prepare__", .type "type"].toArray, [].toArray⟩
noncomputable def o24v0 (P : Params) : Obj := ⟨.type "dict", none, .dict [eS P (sO "__module__") 201 (vS "__main__" 164), eS P (sO "__qualname__") 203 (vS "_WallAttr" 202), eS P (sO "__firstlineno__") 205 (vI (4) 204), eS P (sO "__init__") 213 (.ref 35), eS P (sO "__get__") 222 (.ref 43), eS P (sO "__set__") 223 (.ref 43), eS P (sO "__delete__") 224 (.ref 43), eS P (sO "__static_attributes__") 226 (.ref 44)].toArray 8, [].toArray⟩
noncomputable def o25v0 (P : Params) : Obj := ⟨.type "tuple", none, .seq [].toArray 0, [].toArray⟩
noncomputable def o26v0 (P : Params) : Obj := ⟨.none, none, .fields [vI (5) 0, vI (4) 0, .ref 34, vI (7) 0, vI (4) 0, .ref 42].toArray, [].toArray⟩
noncomputable def o27v0 (P : Params) : Obj := ⟨.type "code", none, .fields [vS "_WallAttr" 196, vS "_WallAttr" 197, vS "/claim/cut.py" 198, vI (4) 0, vI (0) 0, vI (0) 0, vI (0) 0, vI (0) 0, .ref 25, .bool false, vI (181) 0, .ref 26, .none, .none, .none, .none, vI (199) 0, vI (4) 0, vS "/claim/cut.py" 200].toArray, [].toArray⟩
noncomputable def o28v0 (P : Params) : Obj := ⟨.type "frame", none, .plain, [(some (.ref 27)), (some (.ref 3)), (some (.ref 24)), none, (some (vS "__main__" 164)), none, (some (.ref 0))].toArray⟩
noncomputable def o29v0 (P : Params) : Obj := ⟨.type "tuple", none, .seq [].toArray 0, [].toArray⟩
noncomputable def o30v0 (P : Params) : Obj := ⟨.none, none, .fields [].toArray, [].toArray⟩
noncomputable def o31v0 (P : Params) : Obj := ⟨.type "tuple", none, .seq [vS "self" 209, vS "k" 210].toArray 0, [].toArray⟩
noncomputable def o32v0 (P : Params) : Obj := ⟨.type "tuple", none, .seq [].toArray 0, [].toArray⟩
noncomputable def o33v0 (P : Params) : Obj := ⟨.none, none, .func (fnX (sO "__init__") (sO "_WallAttr.__init__") (fm 1 0) 0 0 (.none) (.none) (.none) (.none) none (.none) (.none)), [].toArray⟩
noncomputable def o34v0 (P : Params) : Obj := ⟨.type "code", none, .fields [vS "__init__" 206, vS "_WallAttr.__init__" 207, vS "/claim/cut.py" 208, vI (5) 0, vI (2) 0, vI (0) 0, vI (0) 0, vI (3) 0, .ref 29, .bool true, vI (181) 0, .ref 30, .none, .ref 31, .ref 32, .ref 33, vI (211) 0, vI (5) 0, vS "/claim/cut.py" 212].toArray, [].toArray⟩
noncomputable def o35v0 (P : Params) : Obj := ⟨.type "function", none, .func (fnX (sO "__init__") (sO "_WallAttr.__init__") (fm 1 0) 3 0 (.none) (.none) (.none) (vS "__main__" 164) none (.ref 34) (.none)), [].toArray⟩
noncomputable def o36v0 (P : Params) : Obj := ⟨.type "tuple", none, .seq [.none].toArray 0, [].toArray⟩
noncomputable def o37v0 (P : Params) : Obj := ⟨.type "tuple", none, .seq [].toArray 0, [].toArray⟩
noncomputable def o38v0 (P : Params) : Obj := ⟨.none, none, .fields [].toArray, [].toArray⟩
noncomputable def o39v0 (P : Params) : Obj := ⟨.type "tuple", none, .seq [vS "self" 217, vS "o" 218, vS "t" 219].toArray 0, [].toArray⟩
noncomputable def o40v0 (P : Params) : Obj := ⟨.type "tuple", none, .seq [].toArray 0, [].toArray⟩
noncomputable def o41v0 (P : Params) : Obj := ⟨.none, none, .func (fnX (sO "__get__") (sO "_WallAttr.__get__") (fm 1 1) 0 0 (.none) (.none) (.none) (.none) none (.none) (.none)), [].toArray⟩
noncomputable def o42v0 (P : Params) : Obj := ⟨.type "code", none, .fields [vS "__get__" 214, vS "_WallAttr.__get__" 215, vS "/claim/cut.py" 216, vI (7) 0, vI (3) 0, vI (0) 0, vI (0) 0, vI (3) 0, .ref 37, .bool true, vI (181) 0, .ref 38, .none, .ref 39, .ref 40, .ref 41, vI (220) 0, vI (7) 0, vS "/claim/cut.py" 221].toArray, [].toArray⟩
noncomputable def o43v0 (P : Params) : Obj := ⟨.type "function", none, .func (fnX (sO "__get__") (sO "_WallAttr.__get__") (fm 1 1) 3 0 (.ref 36) (.none) (.none) (vS "__main__" 164) none (.ref 42) (.none)), [].toArray⟩
noncomputable def o44v0 (P : Params) : Obj := ⟨.type "tuple", none, .seq [vS "k" 225].toArray 0, [].toArray⟩
noncomputable def o45v0 (P : Params) : Obj := ⟨.type "dict", none, .dict [eS P (sO "__module__") 201 (vS "__main__" 164), eS P (sO "__firstlineno__") 205 (vI (4) 204), eS P (sO "__init__") 213 (.ref 35), eS P (sO "__get__") 222 (.ref 43), eS P (sO "__set__") 223 (.ref 43), eS P (sO "__delete__") 224 (.ref 43), eS P (sO "__static_attributes__") 226 (.ref 44), eS P (sO "__dict__") 228 (.ref 47), eS P (sO "__weakref__") 230 (.ref 48), eS P (sO "__doc__") 231 (.none)].toArray 4, [].toArray⟩
noncomputable def o46v0 (P : Params) : Obj := ⟨.type "type", none, .cls (clX (sO "_WallAttr") [.type "object"] [.ref 46, .type "object"] 45 (sO "_WallAttr") true [] [] false none false), [none, none, (some (vS "_WallAttr" 194)), (some (vS "_WallAttr" 202)), (some (.builtin "object.__new__")), (some (.bool true))].toArray⟩
noncomputable def o47v0 (P : Params) : Obj := ⟨.type "getset_descriptor", none, .fields [vS "__dict__" 227, .ref 46, .builtin "function.__dict__", .builtin "function.__dict__#set"].toArray, [].toArray⟩
noncomputable def o48v0 (P : Params) : Obj := ⟨.type "getset_descriptor", none, .fields [vS "__weakref__" 229, .ref 46, .builtin "ExceptionGroup.__weakref__", .none].toArray, [].toArray⟩
noncomputable def o49v0 (P : Params) : Obj := ⟨.type "super", none, .fields [.ref 46, .ref 46, .ref 46].toArray, [].toArray⟩
noncomputable def o50v0 (P : Params) : Obj := ⟨.type "builtin_function_or_method", none, .fields [.builtin "object.__init_subclass__", .ref 46].toArray, [].toArray⟩
noncomputable def t50v0 (P : Params) (z : Nat → Obj) : BT := .node (o50v0 P) .nil .nil
noncomputable def t49v0 (P : Params) (z : Nat → Obj) : BT := .node (o49v0 P) .nil .nil
noncomputable def t48v0 (P : Params) (z : Nat → Obj) : BT := .node (o48v0 P) .nil .nil
noncomputable def t47v0 (P : Params) (z : Nat → Obj) : BT := .node (o47v0 P) .nil .nil
noncomputable def t46v0 (P : Params) (z : Nat → Obj) : BT := .node (o46v0 P) .nil .nil
noncomputable def t45v0 (P : Params) (z : Nat → Obj) : BT := .node (o45v0 P) .nil .nil
noncomputable def t44v0 (P : Params) (z : Nat → Obj) : BT := .node (o44v0 P) .nil .nil
noncomputable def t43v0 (P : Params) (z : Nat → Obj) : BT := .node (o43v0 P) .nil .nil
noncomputable def t42v0 (P : Params) (z : Nat → Obj) : BT := .node (o42v0 P) .nil .nil
noncomputable def t41v0 (P : Params) (z : Nat → Obj) : BT := .node (o41v0 P) .nil .nil
noncomputable def t40v0 (P : Params) (z : Nat → Obj) : BT := .node (o40v0 P) .nil .nil
noncomputable def t39v0 (P : Params) (z : Nat → Obj) : BT := .node (o39v0 P) .nil .nil
noncomputable def t38v0 (P : Params) (z : Nat → Obj) : BT := .node (o38v0 P) .nil .nil
noncomputable def t37v0 (P : Params) (z : Nat → Obj) : BT := .node (o37v0 P) .nil .nil
noncomputable def t36v0 (P : Params) (z : Nat → Obj) : BT := .node (o36v0 P) .nil .nil
noncomputable def t35v0 (P : Params) (z : Nat → Obj) : BT := .node (o35v0 P) .nil .nil
noncomputable def t30v0 (P : Params) (z : Nat → Obj) : BT := .node (o30v0 P) (t46v0 P z) .nil
noncomputable def t29v0 (P : Params) (z : Nat → Obj) : BT := .node (o29v0 P) (t45v0 P z) .nil
noncomputable def t28v0 (P : Params) (z : Nat → Obj) : BT := .node (o28v0 P) (t44v0 P z) .nil
noncomputable def t27v0 (P : Params) (z : Nat → Obj) : BT := .node (o27v0 P) (t43v0 P z) .nil
noncomputable def t18v1 (P : Params) (z : Nat → Obj) : BT := .node (o18v0 P) (.node (o34v0 P) .nil .nil) (t50v0 P z)
noncomputable def t17v1 (P : Params) (z : Nat → Obj) : BT := .node (o17v0 P) (.node (o33v0 P) .nil .nil) (t49v0 P z)
noncomputable def t16v1 (P : Params) (z : Nat → Obj) : BT := .node (o16v0 P) (.node (o32v0 P) .nil .nil) (t48v0 P z)
noncomputable def t15v1 (P : Params) (z : Nat → Obj) : BT := .node (o15v0 P) (.node (o31v0 P) .nil .nil) (t47v0 P z)
noncomputable def t10v2 (P : Params) (z : Nat → Obj) : BT := .node (boot_o_10 P) (t18v1 P z) (.node (o26v0 P) (t42v0 P z) .nil)
noncomputable def t0v2 (P : Params) (z : Nat → Obj) : BT := .node (boot_o_0 P) (.node (boot_o_1 P) (.node (d3 P (vS "__main__" 164) 10 11) (.node (boot_o_7 P) (t15v1 P z) (.node (o23v0 P) (t39v0 P z) .nil)) (.node (o11v0 P) (.node (o19v0 P) (t35v0 P z) .nil) (t27v0 P z))) (.node (boot_o_5 P) (.node (boot_o_9 P) (t17v1 P z) (.node (o25v0 P) (t41v0 P z) .nil)) (.node (o13v0 P) (.node (o21v0 P) (t37v0 P z) .nil) (t29v0 P z)))) (.node (boot_o_2 P) (.node (boot_o_4 P) (.node (boot_o_8 P) (t16v1 P z) (.node (o24v0 P) (t40v0 P z) .nil)) (.node (f12 6) (.node (o20v0 P) (t36v0 P z) .nil) (t28v0 P z))) (.node (boot_o_6 P) (t10v2 P z) (.node (o14v0 P) (.node (o22v0 P) (t38v0 P z) .nil) (t30v0 P z))))
noncomputable def S1 (w : World) (os : OsState) (z : Nat → Obj) : SharedT := ⟨t0v2 w.params z, 51, life0, [].toArray, drawn0, 234, os⟩
noncomputable def o51v0 (P : Params) : Obj := ⟨.type "tuple", none, .seq [].toArray 0, [].toArray⟩
noncomputable def o52v0 (P : Params) : Obj := ⟨.none, none, .fields [].toArray, [].toArray⟩
noncomputable def o53v0 (P : Params) : Obj := ⟨.type "tuple", none, .seq [vS "x" 237, vS "t" 238, vS "f" 239].toArray 0, [].toArray⟩
noncomputable def o54v0 (P : Params) : Obj := ⟨.type "tuple", none, .seq [].toArray 0, [].toArray⟩
noncomputable def o55v0 (P : Params) : Obj := ⟨.none, none, .func (fnX (sO "_pe_doc") (sO "_pe_doc") (fd 2) 0 0 (.none) (.none) (.none) (.none) none (.none) (.none)), [].toArray⟩
noncomputable def o56v0 (P : Params) : Obj := ⟨.type "code", none, .fields [vS "_pe_doc" 234, vS "_pe_doc" 235, vS "/claim/cut.py" 236, vI (10) 0, vI (1) 0, vI (0) 0, vI (0) 0, vI (3) 0, .ref 51, .bool true, vI (181) 0, .ref 52, .none, .ref 53, .ref 54, .ref 55, vI (240) 0, vI (10) 0, vS "/claim/cut.py" 241].toArray, [].toArray⟩
noncomputable def o57v0 (P : Params) : Obj := ⟨.type "function", none, .func (fnX (sO "_pe_doc") (sO "_pe_doc") (fd 2) 3 0 (.none) (.none) (.none) (vS "__main__" 164) none (.ref 56) (.none)), [].toArray⟩
noncomputable def t57v0 (P : Params) (z : Nat → Obj) : BT := .node (o57v0 P) .nil .nil
noncomputable def t56v0 (P : Params) (z : Nat → Obj) : BT := .node (o56v0 P) .nil .nil
noncomputable def t55v0 (P : Params) (z : Nat → Obj) : BT := .node (o55v0 P) .nil .nil
noncomputable def t54v0 (P : Params) (z : Nat → Obj) : BT := .node (o54v0 P) .nil .nil
noncomputable def t53v0 (P : Params) (z : Nat → Obj) : BT := .node (o53v0 P) .nil .nil
noncomputable def t52v0 (P : Params) (z : Nat → Obj) : BT := .node (o52v0 P) .nil .nil
noncomputable def t51v0 (P : Params) (z : Nat → Obj) : BT := .node (o51v0 P) .nil .nil
noncomputable def t25v1 (P : Params) (z : Nat → Obj) : BT := .node (o25v0 P) (t41v0 P z) (t57v0 P z)
noncomputable def t24v1 (P : Params) (z : Nat → Obj) : BT := .node (o24v0 P) (t40v0 P z) (t56v0 P z)
noncomputable def t23v1 (P : Params) (z : Nat → Obj) : BT := .node (o23v0 P) (t39v0 P z) (t55v0 P z)
noncomputable def t22v1 (P : Params) (z : Nat → Obj) : BT := .node (o22v0 P) (t38v0 P z) (t54v0 P z)
noncomputable def t21v2 (P : Params) (z : Nat → Obj) : BT := .node (o21v0 P) (t37v0 P z) (t53v0 P z)
noncomputable def t20v2 (P : Params) (z : Nat → Obj) : BT := .node (o20v0 P) (t36v0 P z) (t52v0 P z)
noncomputable def t19v2 (P : Params) (z : Nat → Obj) : BT := .node (o19v0 P) (t35v0 P z) (t51v0 P z)
noncomputable def t11v3 (P : Params) (z : Nat → Obj) : BT := .node (o11v0 P) (t19v2 P z) (t27v0 P z)
noncomputable def t7v3 (P : Params) (z : Nat → Obj) : BT := .node (boot_o_7 P) (t15v1 P z) (t23v1 P z)
noncomputable def t5v3 (P : Params) (z : Nat → Obj) : BT := .node (boot_o_5 P) (.node (boot_o_9 P) (t17v1 P z) (t25v1 P z)) (.node (o13v0 P) (t21v2 P z) (t29v0 P z))
noncomputable def t2v3 (P : Params) (z : Nat → Obj) : BT := .node (boot_o_2 P) (.node (boot_o_4 P) (.node (boot_o_8 P) (t16v1 P z) (t24v1 P z)) (.node (f12 9) (t20v2 P z) (t28v0 P z))) (.node (boot_o_6 P) (t10v2 P z) (.node (o14v0 P) (t22v1 P z) (t30v0 P z)))
noncomputable def t0v3 (P : Params) (z : Nat → Obj) : BT := .node (boot_o_0 P) (.node (boot_o_1 P) (.node (d3 P (vS "__main__" 164) 11 12) (t7v3 P z) (t11v3 P z)) (t5v3 P z)) (t2v3 P z)
noncomputable def S2 (w : World) (os : OsState) (z : Nat → Obj) : SharedT := ⟨t0v3 w.params z, 58, life0, [].toArray, drawn0, 243, os⟩
noncomputable def t0v4 (P : Params) (z : Nat → Obj) : BT := .node (boot_o_0 P) (.node (boot_o_1 P) (.node (d3 P (vS "cpy313.tomllib._parser" 243) 11 12) (t7v3 P z) (t11v3 P z)) (t5v3 P z)) (t2v3 P z)
noncomputable def S3 (w : World) (os : OsState) (z : Nat → Obj) : SharedT := ⟨t0v4 w.params z, 58, life0, [].toArray, drawn0, 245, os⟩
noncomputable def t0v5 (P : Params) (z : Nat → Obj) : BT := .node (boot_o_0 P) (.node (boot_o_1 P) (.node (d3 P (vS "cpy313.tomllib._parser" 243) 12 13) (t7v3 P z) (t11v3 P z)) (t5v3 P z)) (t2v3 P z)
noncomputable def S4 (w : World) (os : OsState) (z : Nat → Obj) : SharedT := ⟨t0v5 w.params z, 58, life0, [].toArray, drawn0, 247, os⟩
noncomputable def o61v0 (P : Params) : Obj := ⟨.none, none, .fields [].toArray, [].toArray⟩
noncomputable def o64v0 (P : Params) : Obj := ⟨.type "generator", none, .fields [vI (0) 0, vS "<genexpr>" 256, vS "<genexpr>" 257].toArray, [].toArray⟩
noncomputable def t61v0 (P : Params) (z : Nat → Obj) : BT := .node (o61v0 P) .nil .nil
noncomputable def t58v0 (P : Params) (z : Nat → Obj) : BT := .node (⟨.type "range", none, .fields [vI (0) 248, vI (32) 247, vI (1) 249].toArray, [].toArray⟩) .nil .nil
noncomputable def t30v1 (P : Params) (z : Nat → Obj) : BT := .node (o30v0 P) (t46v0 P z) (.node (⟨.type "code", none, .fields [vS "<genexpr>" 250, vS "<genexpr>" 251, vS "/claim/cut.py" 252, vI (20) 0, vI (1) 0, vI (0) 0, vI (0) 0, vI (35) 0, .ref 60, .bool true, vI (181) 0, .ref 61, .none, .none, .none, .none, vI (253) 0, vI (20) 0, vS "/claim/cut.py" 254].toArray, [].toArray⟩) .nil .nil)
noncomputable def t29v1 (P : Params) (z : Nat → Obj) : BT := .node (o29v0 P) (t45v0 P z) (t61v0 P z)
noncomputable def t28v1 (P : Params) (z : Nat → Obj) : BT := .node (o28v0 P) (t44v0 P z) (.node (⟨.type "tuple", none, .seq [].toArray 0, [].toArray⟩) .nil .nil)
noncomputable def t26v1 (P : Params) (z : Nat → Obj) : BT := .node (o26v0 P) (t42v0 P z) (t58v0 P z)
noncomputable def t16v2 (P : Params) (z : Nat → Obj) : BT := .node (o16v0 P) (.node (o32v0 P) (.node (o64v0 P) .nil .nil) .nil) (t48v0 P z)
noncomputable def t8v4 (P : Params) (z : Nat → Obj) : BT := .node (boot_o_8 P) (t16v2 P z) (t24v1 P z)
noncomputable def t0v6 (P : Params) (z : Nat → Obj) : BT := .node (boot_o_0 P) (.node (boot_o_1 P) (.node (d3 P (vS "cpy313.tomllib._parser" 243) 12 13) (.node (boot_o_7 P) (.node (o15v0 P) (.node (o31v0 P) (.node (z 63) .nil .nil) .nil) (t47v0 P z)) (t23v1 P z)) (.node (o11v0 P) (t19v2 P z) (.node (o27v0 P) (t43v0 P z) (.node (z 59) .nil .nil)))) (.node (boot_o_5 P) (.node (boot_o_9 P) (.node (o17v0 P) (.node (o33v0 P) (.node (z 65) .nil .nil) .nil) (t49v0 P z)) (t25v1 P z)) (.node (o13v0 P) (t21v2 P z) (t29v1 P z)))) (.node (boot_o_2 P) (.node (boot_o_4 P) (t8v4 P z) (.node (f12 12) (t20v2 P z) (t28v1 P z))) (.node (boot_o_6 P) (.node (boot_o_10 P) (t18v1 P z) (t26v1 P z)) (.node (o14v0 P) (t22v1 P z) (t30v1 P z))))
noncomputable def S5L0 (g : Array GenState) (w : World) (os : OsState) (z : Nat → Obj) (tk : Nat) : SharedT := ⟨t0v6 w.params z, 66, life0, g, drawn0, tk, os⟩
noncomputable def o66v0 (P : Params) : Obj := ⟨.type "tuple", none, .seq [].toArray 0, [].toArray⟩
noncomputable def o68v0 (P : Params) : Obj := ⟨.type "tuple", none, .seq [].toArray 0, [].toArray⟩
noncomputable def t68v0 (P : Params) (z : Nat → Obj) : BT := .node (o68v0 P) .nil .nil
noncomputable def t66v0 (P : Params) (z : Nat → Obj) : BT := .node (o66v0 P) .nil .nil
noncomputable def t36v1 (P : Params) (z : Nat → Obj) : BT := .node (o36v0 P) (t68v0 P z) .nil
noncomputable def t34v1 (P : Params) (z : Nat → Obj) : BT := .node (o34v0 P) (t66v0 P z) .nil
noncomputable def t20v3 (P : Params) (z : Nat → Obj) : BT := .node (o20v0 P) (t36v1 P z) (t52v0 P z)
noncomputable def t18v2 (P : Params) (z : Nat → Obj) : BT := .node (o18v0 P) (t34v1 P z) (t50v0 P z)
noncomputable def t17v3 (P : Params) (z : Nat → Obj) : BT := .node (o17v0 P) (.node (o33v0 P) (.node (z 65) .nil .nil) .nil) (t49v0 P z)
noncomputable def t15v3 (P : Params) (z : Nat → Obj) : BT := .node (o15v0 P) (.node (o31v0 P) (.node (z 63) .nil .nil) .nil) (t47v0 P z)
noncomputable def t13v5 (P : Params) (z : Nat → Obj) : BT := .node (o13v0 P) (.node (o21v0 P) (.node (o37v0 P) (.node (⟨.type "StopIteration", none, .fields [.ref 68, .none, .none, .none, .bool false, .none].toArray, [].toArray⟩) .nil .nil) .nil) (t53v0 P z)) (t29v1 P z)
noncomputable def t12v5 (P : Params) (z : Nat → Obj) : BT := .node (f12 12) (t20v3 P z) (t28v1 P z)
noncomputable def t11v5 (P : Params) (z : Nat → Obj) : BT := .node (o11v0 P) (.node (o19v0 P) (.node (o35v0 P) (.node (⟨.type "StopIteration", none, .fields [.ref 66, .none, .none, .none, .bool false, .none].toArray, [].toArray⟩) .nil .nil) .nil) (t51v0 P z)) (.node (o27v0 P) (t43v0 P z) (.node (z 59) .nil .nil))
noncomputable def t10v4 (P : Params) (z : Nat → Obj) : BT := .node (boot_o_10 P) (t18v2 P z) (t26v1 P z)
noncomputable def t0v7 (P : Params) (z : Nat → Obj) : BT := .node (boot_o_0 P) (.node (boot_o_1 P) (.node (d3 P (vS "cpy313.tomllib._parser" 243) 12 13) (.node (boot_o_7 P) (t15v3 P z) (.node (o23v0 P) (.node (o39v0 P) (.node (z 71) .nil .nil) .nil) (t55v0 P z))) (t11v5 P z)) (.node (boot_o_5 P) (.node (boot_o_9 P) (t17v3 P z) (t25v1 P z)) (t13v5 P z))) (.node (boot_o_2 P) (.node (boot_o_4 P) (t8v4 P z) (t12v5 P z)) (.node (boot_o_6 P) (t10v4 P z) (.node (o14v0 P) (.node (o22v0 P) (.node (o38v0 P) (.node (z 70) .nil .nil) .nil) (t54v0 P z)) (t30v1 P z))))
noncomputable def S5L1 (w : World) (os : OsState) (z : Nat → Obj) (tk : Nat) : SharedT := ⟨t0v7 w.params z, 72, life0, [.finished].toArray, drawn0, tk, os⟩
noncomputable def o72v0 (P : Params) : Obj := ⟨.type "tuple", none, .seq [].toArray 0, [].toArray⟩
noncomputable def t72v0 (P : Params) (z : Nat → Obj) : BT := .node (o72v0 P) .nil .nil
noncomputable def t40v1 (P : Params) (z : Nat → Obj) : BT := .node (o40v0 P) (t72v0 P z) .nil
noncomputable def t24v2 (P : Params) (z : Nat → Obj) : BT := .node (o24v0 P) (t40v1 P z) (t56v0 P z)
noncomputable def t14v5 (P : Params) (z : Nat → Obj) : BT := .node (o14v0 P) (.node (o22v0 P) (.node (o38v0 P) (.node (z 70) .nil .nil) .nil) (t54v0 P z)) (t30v1 P z)
noncomputable def t4v6 (P : Params) (z : Nat → Obj) : BT := .node (boot_o_4 P) (.node (boot_o_8 P) (t16v2 P z) (t24v2 P z)) (t12v5 P z)
noncomputable def t1v8 (P : Params) (z : Nat → Obj) : BT := .node (boot_o_1 P) (.node (d3 P (vS "cpy313.tomllib._parser" 243) 12 13) (.node (boot_o_7 P) (t15v3 P z) (.node (o23v0 P) (.node (o39v0 P) (.node (z 71) .nil .nil) .nil) (t55v0 P z))) (t11v5 P z)) (.node (boot_o_5 P) (.node (boot_o_9 P) (t17v3 P z) (.node (o25v0 P) (.node (o41v0 P) (.node (⟨.type "StopIteration", none, .fields [.ref 72, .none, .none, .none, .bool false, .none].toArray, [].toArray⟩) .nil .nil) .nil) (t57v0 P z))) (t13v5 P z))
noncomputable def t0v8 (P : Params) (z : Nat → Obj) : BT := .node (boot_o_0 P) (t1v8 P z) (.node (boot_o_2 P) (t4v6 P z) (.node (boot_o_6 P) (t10v4 P z) (t14v5 P z)))
noncomputable def S5O2 (w : World) (os : OsState) (z : Nat → Obj) (tk : Nat) : SharedT := ⟨t0v8 w.params z, 74, life0, [.finished].toArray, drawn0, tk, os⟩
noncomputable def t0v9 (P : Params) (z : Nat → Obj) : BT := .node (boot_o_0 P) (t1v8 P z) (.node (boot_o_2 P) (t4v6 P z) (.node (boot_o_6 P) (.node (boot_o_10 P) (t18v2 P z) (.node (o26v0 P) (.node (o42v0 P) (.node (z 74) .nil .nil) .nil) (t58v0 P z))) (t14v5 P z)))
noncomputable def S5P3 (w : World) (os : OsState) (z : Nat → Obj) (tk : Nat) : SharedT := ⟨t0v9 w.params z, 75, life0, [.finished].toArray, drawn0, tk, os⟩
noncomputable def o58v1 (P : Params) : Obj := ⟨.type "range", none, .fields [vI (0) 248, vI (32) 247, vI (1) 249].toArray, [].toArray⟩
noncomputable def o60v1 (P : Params) : Obj := ⟨.type "tuple", none, .seq [].toArray 0, [].toArray⟩
noncomputable def o62v1 (P : Params) : Obj := ⟨.type "code", none, .fields [vS "<genexpr>" 250, vS "<genexpr>" 251, vS "/claim/cut.py" 252, vI (20) 0, vI (1) 0, vI (0) 0, vI (0) 0, vI (35) 0, .ref 60, .bool true, vI (181) 0, .ref 61, .none, .none, .none, .none, vI (253) 0, vI (20) 0, vS "/claim/cut.py" 254].toArray, [].toArray⟩
noncomputable def o64v1 (P : Params) : Obj := ⟨.type "generator", none, .fields [vI (0) 0, vS "<genexpr>" 256, vS "<genexpr>" 257].toArray, [].toArray⟩
noncomputable def o67v1 (P : Params) : Obj := ⟨.type "StopIteration", none, .fields [.ref 66, .none, .none, .none, .bool false, .none].toArray, [].toArray⟩
noncomputable def o69v1 (P : Params) : Obj := ⟨.type "StopIteration", none, .fields [.ref 68, .none, .none, .none, .bool false, .none].toArray, [].toArray⟩
noncomputable def o73v1 (P : Params) : Obj := ⟨.type "StopIteration", none, .fields [.ref 72, .none, .none, .none, .bool false, .none].toArray, [].toArray⟩
noncomputable def t74v1 (P : Params) (z : Nat → Obj) : BT := .node (z 74) .nil .nil
noncomputable def t73v1 (P : Params) (z : Nat → Obj) : BT := .node (o73v1 P) .nil .nil
noncomputable def t71v2 (P : Params) (z : Nat → Obj) : BT := .node (z 71) .nil .nil
noncomputable def t70v2 (P : Params) (z : Nat → Obj) : BT := .node (z 70) .nil .nil
noncomputable def t69v1 (P : Params) (z : Nat → Obj) : BT := .node (o69v1 P) .nil .nil
noncomputable def t67v1 (P : Params) (z : Nat → Obj) : BT := .node (o67v1 P) .nil .nil
noncomputable def t65v2 (P : Params) (z : Nat → Obj) : BT := .node (z 65) .nil .nil
noncomputable def t64v1 (P : Params) (z : Nat → Obj) : BT := .node (o64v1 P) .nil .nil
noncomputable def t63v2 (P : Params) (z : Nat → Obj) : BT := .node (z 63) .nil .nil
noncomputable def t62v1 (P : Params) (z : Nat → Obj) : BT := .node (o62v1 P) .nil .nil
noncomputable def t60v1 (P : Params) (z : Nat → Obj) : BT := .node (o60v1 P) .nil .nil
noncomputable def t59v2 (P : Params) (z : Nat → Obj) : BT := .node (z 59) .nil .nil
noncomputable def t42v2 (P : Params) (z : Nat → Obj) : BT := .node (o42v0 P) (t74v1 P z) .nil
noncomputable def t41v2 (P : Params) (z : Nat → Obj) : BT := .node (o41v0 P) (t73v1 P z) .nil
noncomputable def t39v3 (P : Params) (z : Nat → Obj) : BT := .node (o39v0 P) (t71v2 P z) .nil
noncomputable def t38v3 (P : Params) (z : Nat → Obj) : BT := .node (o38v0 P) (t70v2 P z) .nil
noncomputable def t37v2 (P : Params) (z : Nat → Obj) : BT := .node (o37v0 P) (t69v1 P z) .nil
noncomputable def t35v2 (P : Params) (z : Nat → Obj) : BT := .node (o35v0 P) (t67v1 P z) .nil
noncomputable def t33v3 (P : Params) (z : Nat → Obj) : BT := .node (o33v0 P) (t65v2 P z) .nil
noncomputable def t32v2 (P : Params) (z : Nat → Obj) : BT := .node (o32v0 P) (t64v1 P z) .nil
noncomputable def t31v3 (P : Params) (z : Nat → Obj) : BT := .node (o31v0 P) (t63v2 P z) .nil
noncomputable def t26v3 (P : Params) (z : Nat → Obj) : BT := .node (o26v0 P) (t42v2 P z) (.node (o58v1 P) .nil .nil)
noncomputable def t25v3 (P : Params) (z : Nat → Obj) : BT := .node (o25v0 P) (t41v2 P z) (t57v0 P z)
noncomputable def t23v4 (P : Params) (z : Nat → Obj) : BT := .node (o23v0 P) (t39v3 P z) (t55v0 P z)
noncomputable def t22v4 (P : Params) (z : Nat → Obj) : BT := .node (o22v0 P) (t38v3 P z) (t54v0 P z)
noncomputable def t21v4 (P : Params) (z : Nat → Obj) : BT := .node (o21v0 P) (t37v2 P z) (t53v0 P z)
noncomputable def t19v4 (P : Params) (z : Nat → Obj) : BT := .node (o19v0 P) (t35v2 P z) (t51v0 P z)
noncomputable def t10v6 (P : Params) (z : Nat → Obj) : BT := .node (boot_o_10 P) (t18v2 P z) (t26v3 P z)
noncomputable def t9v7 (P : Params) (z : Nat → Obj) : BT := .node (boot_o_9 P) (.node (o17v0 P) (t33v3 P z) (t49v0 P z)) (t25v3 P z)
noncomputable def t8v6 (P : Params) (z : Nat → Obj) : BT := .node (boot_o_8 P) (.node (o16v0 P) (t32v2 P z) (t48v0 P z)) (t24v2 P z)
noncomputable def t7v7 (P : Params) (z : Nat → Obj) : BT := .node (boot_o_7 P) (.node (o15v0 P) (t31v3 P z) (t47v0 P z)) (t23v4 P z)
noncomputable def t6v8 (P : Params) (z : Nat → Obj) : BT := .node (boot_o_6 P) (t10v6 P z) (.node (o14v0 P) (t22v4 P z) (.node (o30v0 P) (t46v0 P z) (t62v1 P z)))
noncomputable def t5v7 (P : Params) (z : Nat → Obj) : BT := .node (boot_o_5 P) (t9v7 P z) (.node (o13v0 P) (t21v4 P z) (t29v1 P z))
noncomputable def t0v10 (P : Params) (z : Nat → Obj) : BT := .node (boot_o_0 P) (.node (boot_o_1 P) (.node (d3 P (vS "cpy313.tomllib._parser" 243) 13 14) (t7v7 P z) (.node (o11v0 P) (t19v4 P z) (.node (o27v0 P) (t43v0 P z) (t59v2 P z)))) (t5v7 P z)) (.node (boot_o_2 P) (.node (boot_o_4 P) (t8v6 P z) (.node (f12 12) (t20v3 P z) (.node (o28v0 P) (t44v0 P z) (t60v1 P z)))) (t6v8 P z))
noncomputable def S5 (w : World) (os : OsState) (z : Nat → Obj) : SharedT := ⟨t0v10 w.params z, 75, life0, [.finished].toArray, drawn0, 391, os⟩
noncomputable def t0v11 (P : Params) (z : Nat → Obj) : BT := .node (boot_o_0 P) (.node (boot_o_1 P) (.node (d3 P (vS "cpy313.tomllib._parser" 243) 13 14) (t7v7 P z) (.node (o11v0 P) (t19v4 P z) (.node (o27v0 P) (.node (o43v0 P) (.node (z 75) .nil .nil) .nil) (t59v2 P z)))) (t5v7 P z)) (.node (boot_o_2 P) (.node (boot_o_4 P) (t8v6 P z) (.node (f12 12) (t20v3 P z) (.node (o28v0 P) (.node (o44v0 P) (.node (z 76) .nil .nil) .nil) (t60v1 P z)))) (t6v8 P z))
noncomputable def S6L0 (w : World) (os : OsState) (z : Nat → Obj) (tk : Nat) : SharedT := ⟨t0v11 w.params z, 77, life0, [.finished].toArray, drawn0, tk, os⟩
noncomputable def o77v0 (P : Params) : Obj := ⟨.type "tuple", none, .seq [].toArray 0, [].toArray⟩
noncomputable def t77v0 (P : Params) (z : Nat → Obj) : BT := .node (o77v0 P) .nil .nil
noncomputable def t45v1 (P : Params) (z : Nat → Obj) : BT := .node (o45v0 P) (t77v0 P z) .nil
noncomputable def t29v2 (P : Params) (z : Nat → Obj) : BT := .node (o29v0 P) (t45v1 P z) (t61v0 P z)
noncomputable def t13v7 (P : Params) (z : Nat → Obj) : BT := .node (o13v0 P) (t21v4 P z) (t29v2 P z)
noncomputable def t11v8 (P : Params) (z : Nat → Obj) : BT := .node (o11v0 P) (t19v4 P z) (.node (o27v0 P) (.node (o43v0 P) (.node (z 75) .nil .nil) .nil) (t59v2 P z))
noncomputable def t5v8 (P : Params) (z : Nat → Obj) : BT := .node (boot_o_5 P) (t9v7 P z) (t13v7 P z)
noncomputable def t2v10 (P : Params) (z : Nat → Obj) : BT := .node (boot_o_2 P) (.node (boot_o_4 P) (t8v6 P z) (.node (f12 12) (t20v3 P z) (.node (o28v0 P) (.node (o44v0 P) (.node (z 76) .nil .nil) .nil) (t60v1 P z)))) (.node (boot_o_6 P) (t10v6 P z) (.node (o14v0 P) (t22v4 P z) (.node (o30v0 P) (.node (o46v0 P) (.node (⟨.type "StopIteration", none, .fields [.ref 77, .none, .none, .none, .bool false, .none].toArray, [].toArray⟩) .nil .nil) .nil) (t62v1 P z))))
noncomputable def t0v12 (P : Params) (z : Nat → Obj) : BT := .node (boot_o_0 P) (.node (boot_o_1 P) (.node (d3 P (vS "cpy313.tomllib._parser" 243) 13 14) (t7v7 P z) (t11v8 P z)) (t5v8 P z)) (t2v10 P z)
noncomputable def S6O1 (w : World) (os : OsState) (z : Nat → Obj) (tk : Nat) : SharedT := ⟨t0v12 w.params z, 79, life0, [.finished].toArray, drawn0, tk, os⟩
noncomputable def t0v13 (P : Params) (z : Nat → Obj) : BT := .node (boot_o_0 P) (.node (boot_o_1 P) (.node (d3 P (vS "cpy313.tomllib._parser" 243) 13 14) (.node (boot_o_7 P) (.node (o15v0 P) (t31v3 P z) (.node (o47v0 P) (.node (z 79) .nil .nil) .nil)) (t23v4 P z)) (t11v8 P z)) (t5v8 P z)) (t2v10 P z)
noncomputable def S6P2 (w : World) (os : OsState) (z : Nat → Obj) (tk : Nat) : SharedT := ⟨t0v13 w.params z, 80, life0, [.finished].toArray, drawn0, tk, os⟩
noncomputable def o78v1 (P : Params) : Obj := ⟨.type "StopIteration", none, .fields [.ref 77, .none, .none, .none, .bool false, .none].toArray, [].toArray⟩
noncomputable def t79v1 (P : Params) (z : Nat → Obj) : BT := .node (z 79) .nil .nil
noncomputable def t78v1 (P : Params) (z : Nat → Obj) : BT := .node (o78v1 P) .nil .nil
noncomputable def t76v2 (P : Params) (z : Nat → Obj) : BT := .node (z 76) .nil .nil
noncomputable def t75v2 (P : Params) (z : Nat → Obj) : BT := .node (z 75) .nil .nil
noncomputable def t47v2 (P : Params) (z : Nat → Obj) : BT := .node (o47v0 P) (t79v1 P z) .nil
noncomputable def t46v2 (P : Params) (z : Nat → Obj) : BT := .node (o46v0 P) (t78v1 P z) .nil
noncomputable def t44v3 (P : Params) (z : Nat → Obj) : BT := .node (o44v0 P) (t76v2 P z) .nil
noncomputable def t43v3 (P : Params) (z : Nat → Obj) : BT := .node (o43v0 P) (t75v2 P z) .nil
noncomputable def t30v4 (P : Params) (z : Nat → Obj) : BT := .node (o30v0 P) (t46v2 P z) (t62v1 P z)
noncomputable def t28v5 (P : Params) (z : Nat → Obj) : BT := .node (o28v0 P) (t44v3 P z) (t60v1 P z)
noncomputable def t27v6 (P : Params) (z : Nat → Obj) : BT := .node (o27v0 P) (t43v3 P z) (t59v2 P z)
noncomputable def t15v6 (P : Params) (z : Nat → Obj) : BT := .node (o15v0 P) (t31v3 P z) (t47v2 P z)
noncomputable def t14v8 (P : Params) (z : Nat → Obj) : BT := .node (o14v0 P) (t22v4 P z) (t30v4 P z)
noncomputable def t12v9 (P : Params) (z : Nat → Obj) : BT := .node (f12 12) (t20v3 P z) (t28v5 P z)
noncomputable def t7v9 (P : Params) (z : Nat → Obj) : BT := .node (boot_o_7 P) (t15v6 P z) (t23v4 P z)
noncomputable def t6v10 (P : Params) (z : Nat → Obj) : BT := .node (boot_o_6 P) (t10v6 P z) (t14v8 P z)
noncomputable def t3v13 (P : Params) (z : Nat → Obj) : BT := .node (d3 P (vS "cpy313.tomllib._parser" 243) 14 15) (t7v9 P z) (.node (o11v0 P) (t19v4 P z) (t27v6 P z))
noncomputable def t0v14 (P : Params) (z : Nat → Obj) : BT := .node (boot_o_0 P) (.node (boot_o_1 P) (t3v13 P z) (t5v8 P z)) (.node (boot_o_2 P) (.node (boot_o_4 P) (t8v6 P z) (t12v9 P z)) (t6v10 P z))
noncomputable def S6 (w : World) (os : OsState) (z : Nat → Obj) : SharedT := ⟨t0v14 w.params z, 80, life0, [.finished].toArray, drawn0, 395, os⟩
noncomputable def t0v15 (P : Params) (z : Nat → Obj) : BT := .node (boot_o_0 P) (.node (boot_o_1 P) (t3v13 P z) (.node (boot_o_5 P) (.node (boot_o_9 P) (.node (o17v0 P) (t33v3 P z) (.node (o49v0 P) (.node (z 81) .nil .nil) .nil)) (t25v3 P z)) (t13v7 P z))) (.node (boot_o_2 P) (.node (boot_o_4 P) (.node (boot_o_8 P) (.node (o16v0 P) (t32v2 P z) (.node (o48v0 P) (.node (z 80) .nil .nil) .nil)) (t24v2 P z)) (t12v9 P z)) (t6v10 P z))
noncomputable def S7L0 (w : World) (os : OsState) (z : Nat → Obj) (tk : Nat) : SharedT := ⟨t0v15 w.params z, 82, life0, [.finished].toArray, drawn0, tk, os⟩
noncomputable def o82v0 (P : Params) : Obj := ⟨.type "tuple", none, .seq [].toArray 0, [].toArray⟩
noncomputable def t82v0 (P : Params) (z : Nat → Obj) : BT := .node (o82v0 P) .nil .nil
noncomputable def t50v1 (P : Params) (z : Nat → Obj) : BT := .node (o50v0 P) (t82v0 P z) .nil
noncomputable def t18v3 (P : Params) (z : Nat → Obj) : BT := .node (o18v0 P) (t34v1 P z) (t50v1 P z)
noncomputable def t10v7 (P : Params) (z : Nat → Obj) : BT := .node (boot_o_10 P) (t18v3 P z) (t26v3 P z)
noncomputable def t8v8 (P : Params) (z : Nat → Obj) : BT := .node (boot_o_8 P) (.node (o16v0 P) (t32v2 P z) (.node (o48v0 P) (.node (z 80) .nil .nil) .nil)) (t24v2 P z)
noncomputable def t6v11 (P : Params) (z : Nat → Obj) : BT := .node (boot_o_6 P) (t10v7 P z) (t14v8 P z)
noncomputable def t1v15 (P : Params) (z : Nat → Obj) : BT := .node (boot_o_1 P) (.node (d3 P (vS "cpy313.tomllib._parser" 243) 14 15) (t7v9 P z) (.node (o11v0 P) (.node (o19v0 P) (t35v2 P z) (.node (o51v0 P) (.node (⟨.type "StopIteration", none, .fields [.ref 82, .none, .none, .none, .bool false, .none].toArray, [].toArray⟩) .nil .nil) .nil)) (t27v6 P z))) (.node (boot_o_5 P) (.node (boot_o_9 P) (.node (o17v0 P) (t33v3 P z) (.node (o49v0 P) (.node (z 81) .nil .nil) .nil)) (t25v3 P z)) (t13v7 P z))
noncomputable def t0v16 (P : Params) (z : Nat → Obj) : BT := .node (boot_o_0 P) (t1v15 P z) (.node (boot_o_2 P) (.node (boot_o_4 P) (t8v8 P z) (t12v9 P z)) (t6v11 P z))
noncomputable def S7O1 (w : World) (os : OsState) (z : Nat → Obj) (tk : Nat) : SharedT := ⟨t0v16 w.params z, 84, life0, [.finished].toArray, drawn0, tk, os⟩
noncomputable def t0v17 (P : Params) (z : Nat → Obj) : BT := .node (boot_o_0 P) (t1v15 P z) (.node (boot_o_2 P) (.node (boot_o_4 P) (t8v8 P z) (.node (f12 12) (.node (o20v0 P) (t36v1 P z) (.node (o52v0 P) (.node (z 84) .nil .nil) .nil)) (t28v5 P z))) (t6v11 P z))
noncomputable def S7P2 (w : World) (os : OsState) (z : Nat → Obj) (tk : Nat) : SharedT := ⟨t0v17 w.params z, 85, life0, [.finished].toArray, drawn0, tk, os⟩
noncomputable def o83v1 (P : Params) : Obj := ⟨.type "StopIteration", none, .fields [.ref 82, .none, .none, .none, .bool false, .none].toArray, [].toArray⟩
noncomputable def t84v1 (P : Params) (z : Nat → Obj) : BT := .node (z 84) .nil .nil
noncomputable def t83v1 (P : Params) (z : Nat → Obj) : BT := .node (o83v1 P) .nil .nil
noncomputable def t81v2 (P : Params) (z : Nat → Obj) : BT := .node (z 81) .nil .nil
noncomputable def t80v2 (P : Params) (z : Nat → Obj) : BT := .node (z 80) .nil .nil
noncomputable def t52v2 (P : Params) (z : Nat → Obj) : BT := .node (o52v0 P) (t84v1 P z) .nil
noncomputable def t51v2 (P : Params) (z : Nat → Obj) : BT := .node (o51v0 P) (t83v1 P z) .nil
noncomputable def t49v3 (P : Params) (z : Nat → Obj) : BT := .node (o49v0 P) (t81v2 P z) .nil
noncomputable def t48v3 (P : Params) (z : Nat → Obj) : BT := .node (o48v0 P) (t80v2 P z) .nil
noncomputable def t20v5 (P : Params) (z : Nat → Obj) : BT := .node (o20v0 P) (t36v1 P z) (t52v2 P z)
noncomputable def t19v6 (P : Params) (z : Nat → Obj) : BT := .node (o19v0 P) (t35v2 P z) (t51v2 P z)
noncomputable def t17v7 (P : Params) (z : Nat → Obj) : BT := .node (o17v0 P) (t33v3 P z) (t49v3 P z)
noncomputable def t16v6 (P : Params) (z : Nat → Obj) : BT := .node (o16v0 P) (t32v2 P z) (t48v3 P z)
noncomputable def t12v11 (P : Params) (z : Nat → Obj) : BT := .node (f12 12) (t20v5 P z) (t28v5 P z)
noncomputable def t11v11 (P : Params) (z : Nat → Obj) : BT := .node (o11v0 P) (t19v6 P z) (t27v6 P z)
noncomputable def t9v10 (P : Params) (z : Nat → Obj) : BT := .node (boot_o_9 P) (t17v7 P z) (t25v3 P z)
noncomputable def t5v11 (P : Params) (z : Nat → Obj) : BT := .node (boot_o_5 P) (t9v10 P z) (t13v7 P z)
noncomputable def t4v14 (P : Params) (z : Nat → Obj) : BT := .node (boot_o_4 P) (.node (boot_o_8 P) (t16v6 P z) (t24v2 P z)) (t12v11 P z)
noncomputable def t2v15 (P : Params) (z : Nat → Obj) : BT := .node (boot_o_2 P) (t4v14 P z) (t6v11 P z)
noncomputable def t0v18 (P : Params) (z : Nat → Obj) : BT := .node (boot_o_0 P) (.node (boot_o_1 P) (.node (d3 P (vS "cpy313.tomllib._parser" 243) 15 16) (t7v9 P z) (t11v11 P z)) (t5v11 P z)) (t2v15 P z)
noncomputable def S7 (w : World) (os : OsState) (z : Nat → Obj) : SharedT := ⟨t0v18 w.params z, 85, life0, [.finished].toArray, drawn0, 401, os⟩
noncomputable def t3v16 (P : Params) (z : Nat → Obj) : BT := .node (d3 P (vS "cpy313.tomllib._parser" 243) 16 17) (t7v9 P z) (t11v11 P z)
noncomputable def t0v19 (P : Params) (z : Nat → Obj) : BT := .node (boot_o_0 P) (.node (boot_o_1 P) (t3v16 P z) (t5v11 P z)) (t2v15 P z)
noncomputable def S8 (w : World) (os : OsState) (z : Nat → Obj) : SharedT := ⟨t0v19 w.params z, 85, life0, [.finished].toArray, drawn0, 402, os⟩
noncomputable def t0v20 (P : Params) (z : Nat → Obj) : BT := .node (boot_o_0 P) (.node (boot_o_1 P) (t3v16 P z) (.node (boot_o_5 P) (t9v10 P z) (.node (o13v0 P) (.node (o21v0 P) (t37v2 P z) (.node (o53v0 P) (.node (z 85) .nil .nil) .nil)) (t29v2 P z)))) (.node (boot_o_2 P) (t4v14 P z) (.node (boot_o_6 P) (t10v7 P z) (.node (o14v0 P) (.node (o22v0 P) (t38v3 P z) (.node (o54v0 P) (.node (z 86) .nil .nil) .nil)) (t30v4 P z))))
noncomputable def S9L0 (w : World) (os : OsState) (z : Nat → Obj) (tk : Nat) : SharedT := ⟨t0v20 w.params z, 87, life0, [.finished].toArray, drawn0, tk, os⟩
noncomputable def o87v0 (P : Params) : Obj := ⟨.type "tuple", none, .seq [].toArray 0, [].toArray⟩
noncomputable def o88v0 (P : Params) : Obj := ⟨.type "StopIteration", none, .fields [.ref 87, .none, .none, .none, .bool false, .none].toArray, [].toArray⟩
noncomputable def t88v0 (P : Params) (z : Nat → Obj) : BT := .node (o88v0 P) .nil .nil
noncomputable def t87v0 (P : Params) (z : Nat → Obj) : BT := .node (o87v0 P) .nil .nil
noncomputable def t86v1 (P : Params) (z : Nat → Obj) : BT := .node (z 86) .nil .nil
noncomputable def t85v1 (P : Params) (z : Nat → Obj) : BT := .node (z 85) .nil .nil
noncomputable def t56v1 (P : Params) (z : Nat → Obj) : BT := .node (o56v0 P) (t88v0 P z) .nil
noncomputable def t55v1 (P : Params) (z : Nat → Obj) : BT := .node (o55v0 P) (t87v0 P z) .nil
noncomputable def t54v2 (P : Params) (z : Nat → Obj) : BT := .node (o54v0 P) (t86v1 P z) .nil
noncomputable def t53v2 (P : Params) (z : Nat → Obj) : BT := .node (o53v0 P) (t85v1 P z) .nil
noncomputable def t24v3 (P : Params) (z : Nat → Obj) : BT := .node (o24v0 P) (t40v1 P z) (t56v1 P z)
noncomputable def t23v5 (P : Params) (z : Nat → Obj) : BT := .node (o23v0 P) (t39v3 P z) (t55v1 P z)
noncomputable def t22v6 (P : Params) (z : Nat → Obj) : BT := .node (o22v0 P) (t38v3 P z) (t54v2 P z)
noncomputable def t21v6 (P : Params) (z : Nat → Obj) : BT := .node (o21v0 P) (t37v2 P z) (t53v2 P z)
noncomputable def t14v10 (P : Params) (z : Nat → Obj) : BT := .node (o14v0 P) (t22v6 P z) (t30v4 P z)
noncomputable def t13v9 (P : Params) (z : Nat → Obj) : BT := .node (o13v0 P) (t21v6 P z) (t29v2 P z)
noncomputable def t8v10 (P : Params) (z : Nat → Obj) : BT := .node (boot_o_8 P) (t16v6 P z) (t24v3 P z)
noncomputable def t7v10 (P : Params) (z : Nat → Obj) : BT := .node (boot_o_7 P) (t15v6 P z) (t23v5 P z)
noncomputable def t4v15 (P : Params) (z : Nat → Obj) : BT := .node (boot_o_4 P) (t8v10 P z) (t12v11 P z)
noncomputable def t3v17 (P : Params) (z : Nat → Obj) : BT := .node (d3 P (vS "cpy313.tomllib._parser" 243) 17 18) (t7v10 P z) (t11v11 P z)
noncomputable def t0v21 (P : Params) (z : Nat → Obj) : BT := .node (boot_o_0 P) (.node (boot_o_1 P) (t3v17 P z) (.node (boot_o_5 P) (t9v10 P z) (t13v9 P z))) (.node (boot_o_2 P) (t4v15 P z) (.node (boot_o_6 P) (t10v7 P z) (t14v10 P z)))
noncomputable def S9 (w : World) (os : OsState) (z : Nat → Obj) : SharedT := ⟨t0v21 w.params z, 89, life0, [.finished].toArray, drawn0, 408, os⟩
noncomputable def t0v22 (P : Params) (z : Nat → Obj) : BT := .node (boot_o_0 P) (.node (boot_o_1 P) (t3v17 P z) (.node (boot_o_5 P) (.node (boot_o_9 P) (t17v7 P z) (.node (o25v0 P) (t41v2 P z) (.node (o57v0 P) (.node (z 89) .nil .nil) .nil))) (t13v9 P z))) (.node (boot_o_2 P) (t4v15 P z) (.node (boot_o_6 P) (.node (boot_o_10 P) (t18v3 P z) (.node (o26v0 P) (t42v2 P z) (.node (o58v1 P) (.node (z 90) .nil .nil) .nil))) (t14v10 P z)))
noncomputable def S10L0 (w : World) (os : OsState) (z : Nat → Obj) (tk : Nat) : SharedT := ⟨t0v22 w.params z, 91, life0, [.finished].toArray, drawn0, tk, os⟩
noncomputable def o91v0 (P : Params) : Obj := ⟨.type "tuple", none, .seq [].toArray 0, [].toArray⟩
noncomputable def t91v0 (P : Params) (z : Nat → Obj) : BT := .node (o91v0 P) .nil .nil
noncomputable def t59v3 (P : Params) (z : Nat → Obj) : BT := .node (z 59) (t91v0 P z) .nil
noncomputable def t27v7 (P : Params) (z : Nat → Obj) : BT := .node (o27v0 P) (t43v3 P z) (t59v3 P z)
noncomputable def t11v12 (P : Params) (z : Nat → Obj) : BT := .node (o11v0 P) (t19v6 P z) (t27v7 P z)
noncomputable def t9v12 (P : Params) (z : Nat → Obj) : BT := .node (boot_o_9 P) (t17v7 P z) (.node (o25v0 P) (t41v2 P z) (.node (o57v0 P) (.node (z 89) .nil .nil) .nil))
noncomputable def t3v18 (P : Params) (z : Nat → Obj) : BT := .node (d3 P (vS "cpy313.tomllib._parser" 243) 17 18) (t7v10 P z) (t11v12 P z)
noncomputable def t2v19 (P : Params) (z : Nat → Obj) : BT := .node (boot_o_2 P) (.node (boot_o_4 P) (t8v10 P z) (.node (f12 12) (t20v5 P z) (.node (o28v0 P) (t44v3 P z) (.node (o60v1 P) (.node (⟨.type "StopIteration", none, .fields [.ref 91, .none, .none, .none, .bool false, .none].toArray, [].toArray⟩) .nil .nil) .nil)))) (.node (boot_o_6 P) (.node (boot_o_10 P) (t18v3 P z) (.node (o26v0 P) (t42v2 P z) (.node (o58v1 P) (.node (z 90) .nil .nil) .nil))) (t14v10 P z))
noncomputable def t0v23 (P : Params) (z : Nat → Obj) : BT := .node (boot_o_0 P) (.node (boot_o_1 P) (t3v18 P z) (.node (boot_o_5 P) (t9v12 P z) (t13v9 P z))) (t2v19 P z)
noncomputable def S10O1 (w : World) (os : OsState) (z : Nat → Obj) (tk : Nat) : SharedT := ⟨t0v23 w.params z, 93, life0, [.finished].toArray, drawn0, tk, os⟩
noncomputable def t0v24 (P : Params) (z : Nat → Obj) : BT := .node (boot_o_0 P) (.node (boot_o_1 P) (t3v18 P z) (.node (boot_o_5 P) (t9v12 P z) (.node (o13v0 P) (t21v6 P z) (.node (o29v0 P) (t45v1 P z) (.node (o61v0 P) (.node (z 93) .nil .nil) .nil))))) (t2v19 P z)
noncomputable def S10P2 (w : World) (os : OsState) (z : Nat → Obj) (tk : Nat) : SharedT := ⟨t0v24 w.params z, 94, life0, [.finished].toArray, drawn0, tk, os⟩
noncomputable def o92v1 (P : Params) : Obj := ⟨.type "StopIteration", none, .fields [.ref 91, .none, .none, .none, .bool false, .none].toArray, [].toArray⟩
noncomputable def t93v1 (P : Params) (z : Nat → Obj) : BT := .node (z 93) .nil .nil
noncomputable def t92v1 (P : Params) (z : Nat → Obj) : BT := .node (o92v1 P) .nil .nil
noncomputable def t90v2 (P : Params) (z : Nat → Obj) : BT := .node (z 90) .nil .nil
noncomputable def t89v2 (P : Params) (z : Nat → Obj) : BT := .node (z 89) .nil .nil
noncomputable def t61v2 (P : Params) (z : Nat → Obj) : BT := .node (o61v0 P) (t93v1 P z) .nil
noncomputable def t60v3 (P : Params) (z : Nat → Obj) : BT := .node (o60v1 P) (t92v1 P z) .nil
noncomputable def t58v4 (P : Params) (z : Nat → Obj) : BT := .node (o58v1 P) (t90v2 P z) .nil
noncomputable def t57v3 (P : Params) (z : Nat → Obj) : BT := .node (o57v0 P) (t89v2 P z) .nil
noncomputable def t29v4 (P : Params) (z : Nat → Obj) : BT := .node (o29v0 P) (t45v1 P z) (t61v2 P z)
noncomputable def t28v7 (P : Params) (z : Nat → Obj) : BT := .node (o28v0 P) (t44v3 P z) (t60v3 P z)
noncomputable def t26v6 (P : Params) (z : Nat → Obj) : BT := .node (o26v0 P) (t42v2 P z) (t58v4 P z)
noncomputable def t25v6 (P : Params) (z : Nat → Obj) : BT := .node (o25v0 P) (t41v2 P z) (t57v3 P z)
noncomputable def t13v11 (P : Params) (z : Nat → Obj) : BT := .node (o13v0 P) (t21v6 P z) (t29v4 P z)
noncomputable def t12v13 (P : Params) (z : Nat → Obj) : BT := .node (f12 12) (t20v5 P z) (t28v7 P z)
noncomputable def t10v10 (P : Params) (z : Nat → Obj) : BT := .node (boot_o_10 P) (t18v3 P z) (t26v6 P z)
noncomputable def t5v17 (P : Params) (z : Nat → Obj) : BT := .node (boot_o_5 P) (.node (boot_o_9 P) (t17v7 P z) (t25v6 P z)) (t13v11 P z)
noncomputable def t4v17 (P : Params) (z : Nat → Obj) : BT := .node (boot_o_4 P) (t8v10 P z) (t12v13 P z)
noncomputable def t2v20 (P : Params) (z : Nat → Obj) : BT := .node (boot_o_2 P) (t4v17 P z) (.node (boot_o_6 P) (t10v10 P z) (t14v10 P z))
noncomputable def t0v25 (P : Params) (z : Nat → Obj) : BT := .node (boot_o_0 P) (.node (boot_o_1 P) (.node (d3 P (vS "cpy313.tomllib._parser" 243) 18 19) (t7v10 P z) (t11v12 P z)) (t5v17 P z)) (t2v20 P z)
noncomputable def S10 (w : World) (os : OsState) (z : Nat → Obj) : SharedT := ⟨t0v25 w.params z, 94, life0, [.finished].toArray, drawn0, 412, os⟩
noncomputable def t0v26 (P : Params) (z : Nat → Obj) : BT := .node (boot_o_0 P) (.node (boot_o_1 P) (.node (d3 P (vS "cpy313.tomllib._parser" 243) 19 20) (t7v10 P z) (t11v12 P z)) (t5v17 P z)) (t2v20 P z)
noncomputable def S11 (w : World) (os : OsState) (z : Nat → Obj) : SharedT := ⟨t0v26 w.params z, 94, life0, [.finished].toArray, drawn0, 414, os⟩
noncomputable def t0v27 (P : Params) (z : Nat → Obj) : BT := .node (boot_o_0 P) (.node (boot_o_1 P) (.node (d3 P (vS "cpy313.tomllib._parser" 243) 20 21) (t7v10 P z) (t11v12 P z)) (t5v17 P z)) (t2v20 P z)
noncomputable def S12 (w : World) (os : OsState) (z : Nat → Obj) : SharedT := ⟨t0v27 w.params z, 94, life0, [.finished].toArray, drawn0, 416, os⟩
noncomputable def t0v28 (P : Params) (z : Nat → Obj) : BT := .node (boot_o_0 P) (.node (boot_o_1 P) (.node (d3 P (vS "cpy313.tomllib._parser" 243) 21 22) (t7v10 P z) (t11v12 P z)) (t5v17 P z)) (t2v20 P z)
noncomputable def S13 (w : World) (os : OsState) (z : Nat → Obj) : SharedT := ⟨t0v28 w.params z, 94, life0, [.finished].toArray, drawn0, 418, os⟩
noncomputable def t0v29 (P : Params) (z : Nat → Obj) : BT := .node (boot_o_0 P) (.node (boot_o_1 P) (.node (d3 P (vS "cpy313.tomllib._parser" 243) 22 23) (t7v10 P z) (t11v12 P z)) (t5v17 P z)) (t2v20 P z)
noncomputable def S14 (w : World) (os : OsState) (z : Nat → Obj) : SharedT := ⟨t0v29 w.params z, 94, life0, [.finished].toArray, drawn0, 420, os⟩
noncomputable def t0v30 (P : Params) (z : Nat → Obj) : BT := .node (boot_o_0 P) (.node (boot_o_1 P) (.node (d3 P (vS "cpy313.tomllib._parser" 243) 23 24) (t7v10 P z) (t11v12 P z)) (t5v17 P z)) (t2v20 P z)
noncomputable def S15 (w : World) (os : OsState) (z : Nat → Obj) : SharedT := ⟨t0v30 w.params z, 94, life0, [.finished].toArray, drawn0, 425, os⟩
noncomputable def t0v31 (P : Params) (z : Nat → Obj) : BT := .node (boot_o_0 P) (.node (boot_o_1 P) (.node (d3 P (vS "cpy313.tomllib._parser" 243) 23 24) (.node (boot_o_7 P) (.node (o15v0 P) (.node (o31v0 P) (t63v2 P z) (.node (z 95) .nil .nil)) (t47v2 P z)) (t23v5 P z)) (t11v12 P z)) (t5v17 P z)) (.node (boot_o_2 P) (t4v17 P z) (.node (boot_o_6 P) (t10v10 P z) (.node (o14v0 P) (t22v6 P z) (.node (o30v0 P) (t46v2 P z) (.node (o62v1 P) (.node (z 94) .nil .nil) .nil)))))
noncomputable def S16L0 (w : World) (os : OsState) (z : Nat → Obj) (tk : Nat) : SharedT := ⟨t0v31 w.params z, 96, life0, [.finished].toArray, drawn0, tk, os⟩
noncomputable def o96v0 (P : Params) : Obj := ⟨.type "tuple", none, .seq [].toArray 0, [].toArray⟩
noncomputable def o97v0 (P : Params) : Obj := ⟨.type "StopIteration", none, .fields [.ref 96, .none, .none, .none, .bool false, .none].toArray, [].toArray⟩
noncomputable def t97v0 (P : Params) (z : Nat → Obj) : BT := .node (o97v0 P) .nil .nil
noncomputable def t96v0 (P : Params) (z : Nat → Obj) : BT := .node (o96v0 P) .nil .nil
noncomputable def t95v1 (P : Params) (z : Nat → Obj) : BT := .node (z 95) .nil .nil
noncomputable def t94v1 (P : Params) (z : Nat → Obj) : BT := .node (z 94) .nil .nil
noncomputable def t62v3 (P : Params) (z : Nat → Obj) : BT := .node (o62v1 P) (t94v1 P z) .nil
noncomputable def t33v4 (P : Params) (z : Nat → Obj) : BT := .node (o33v0 P) (t65v2 P z) (t97v0 P z)
noncomputable def t32v3 (P : Params) (z : Nat → Obj) : BT := .node (o32v0 P) (t64v1 P z) (t96v0 P z)
noncomputable def t31v5 (P : Params) (z : Nat → Obj) : BT := .node (o31v0 P) (t63v2 P z) (t95v1 P z)
noncomputable def t30v6 (P : Params) (z : Nat → Obj) : BT := .node (o30v0 P) (t46v2 P z) (t62v3 P z)
noncomputable def t16v7 (P : Params) (z : Nat → Obj) : BT := .node (o16v0 P) (t32v3 P z) (t48v3 P z)
noncomputable def t15v8 (P : Params) (z : Nat → Obj) : BT := .node (o15v0 P) (t31v5 P z) (t47v2 P z)
noncomputable def t14v12 (P : Params) (z : Nat → Obj) : BT := .node (o14v0 P) (t22v6 P z) (t30v6 P z)
noncomputable def t9v14 (P : Params) (z : Nat → Obj) : BT := .node (boot_o_9 P) (.node (o17v0 P) (t33v4 P z) (t49v3 P z)) (t25v6 P z)
noncomputable def t8v11 (P : Params) (z : Nat → Obj) : BT := .node (boot_o_8 P) (t16v7 P z) (t24v3 P z)
noncomputable def t7v12 (P : Params) (z : Nat → Obj) : BT := .node (boot_o_7 P) (t15v8 P z) (t23v5 P z)
noncomputable def t5v18 (P : Params) (z : Nat → Obj) : BT := .node (boot_o_5 P) (t9v14 P z) (t13v11 P z)
noncomputable def t4v18 (P : Params) (z : Nat → Obj) : BT := .node (boot_o_4 P) (t8v11 P z) (t12v13 P z)
noncomputable def t0v32 (P : Params) (z : Nat → Obj) : BT := .node (boot_o_0 P) (.node (boot_o_1 P) (.node (d3 P (vS "cpy313.tomllib._parser" 243) 24 25) (t7v12 P z) (t11v12 P z)) (t5v18 P z)) (.node (boot_o_2 P) (t4v18 P z) (.node (boot_o_6 P) (t10v10 P z) (t14v12 P z)))
noncomputable def S16 (w : World) (os : OsState) (z : Nat → Obj) : SharedT := ⟨t0v32 w.params z, 98, life0, [.finished].toArray, drawn0, 557, os⟩
noncomputable def t0v33 (P : Params) (z : Nat → Obj) : BT := .node (boot_o_0 P) (.node (boot_o_1 P) (.node (d3 P (vS "cpy313.tomllib._parser" 243) 24 25) (t7v12 P z) (.node (o11v0 P) (.node (o19v0 P) (.node (o35v0 P) (t67v1 P z) (.node (z 99) .nil .nil)) (t51v2 P z)) (t27v7 P z))) (t5v18 P z)) (.node (boot_o_2 P) (t4v18 P z) (.node (boot_o_6 P) (.node (boot_o_10 P) (.node (o18v0 P) (.node (o34v0 P) (t66v0 P z) (.node (z 98) .nil .nil)) (t50v1 P z)) (t26v6 P z)) (t14v12 P z)))
noncomputable def S17L0 (w : World) (os : OsState) (z : Nat → Obj) (tk : Nat) : SharedT := ⟨t0v33 w.params z, 100, life0, [.finished].toArray, drawn0, tk, os⟩
noncomputable def o100v0 (P : Params) : Obj := ⟨.type "tuple", none, .seq [].toArray 0, [].toArray⟩
noncomputable def o101v0 (P : Params) : Obj := ⟨.type "StopIteration", none, .fields [.ref 100, .none, .none, .none, .bool false, .none].toArray, [].toArray⟩
noncomputable def t101v0 (P : Params) (z : Nat → Obj) : BT := .node (o101v0 P) .nil .nil
noncomputable def t100v0 (P : Params) (z : Nat → Obj) : BT := .node (o100v0 P) .nil .nil
noncomputable def t99v1 (P : Params) (z : Nat → Obj) : BT := .node (z 99) .nil .nil
noncomputable def t98v1 (P : Params) (z : Nat → Obj) : BT := .node (z 98) .nil .nil
noncomputable def t37v3 (P : Params) (z : Nat → Obj) : BT := .node (o37v0 P) (t69v1 P z) (t101v0 P z)
noncomputable def t36v2 (P : Params) (z : Nat → Obj) : BT := .node (o36v0 P) (t68v0 P z) (t100v0 P z)
noncomputable def t35v4 (P : Params) (z : Nat → Obj) : BT := .node (o35v0 P) (t67v1 P z) (t99v1 P z)
noncomputable def t34v3 (P : Params) (z : Nat → Obj) : BT := .node (o34v0 P) (t66v0 P z) (t98v1 P z)
noncomputable def t12v14 (P : Params) (z : Nat → Obj) : BT := .node (f12 12) (.node (o20v0 P) (t36v2 P z) (t52v2 P z)) (t28v7 P z)
noncomputable def t11v14 (P : Params) (z : Nat → Obj) : BT := .node (o11v0 P) (.node (o19v0 P) (t35v4 P z) (t51v2 P z)) (t27v7 P z)
noncomputable def t10v12 (P : Params) (z : Nat → Obj) : BT := .node (boot_o_10 P) (.node (o18v0 P) (t34v3 P z) (t50v1 P z)) (t26v6 P z)
noncomputable def t5v19 (P : Params) (z : Nat → Obj) : BT := .node (boot_o_5 P) (t9v14 P z) (.node (o13v0 P) (.node (o21v0 P) (t37v3 P z) (t53v2 P z)) (t29v4 P z))
noncomputable def t4v19 (P : Params) (z : Nat → Obj) : BT := .node (boot_o_4 P) (t8v11 P z) (t12v14 P z)
noncomputable def t2v24 (P : Params) (z : Nat → Obj) : BT := .node (boot_o_2 P) (t4v19 P z) (.node (boot_o_6 P) (t10v12 P z) (t14v12 P z))
noncomputable def t0v34 (P : Params) (z : Nat → Obj) : BT := .node (boot_o_0 P) (.node (boot_o_1 P) (.node (d3 P (vS "cpy313.tomllib._parser" 243) 25 26) (t7v12 P z) (t11v14 P z)) (t5v19 P z)) (t2v24 P z)
noncomputable def S17 (w : World) (os : OsState) (z : Nat → Obj) : SharedT := ⟨t0v34 w.params z, 102, life0, [.finished].toArray, drawn0, 602, os⟩
noncomputable def t0v35 (P : Params) (z : Nat → Obj) : BT := .node (boot_o_0 P) (.node (boot_o_1 P) (.node (d3 P (vS "types" 602) 25 26) (t7v12 P z) (t11v14 P z)) (t5v19 P z)) (t2v24 P z)
noncomputable def S18 (w : World) (os : OsState) (z : Nat → Obj) : SharedT := ⟨t0v35 w.params z, 102, life0, [.finished].toArray, drawn0, 604, os⟩
noncomputable def o102v0 (P : Params) : Obj := ⟨.type "mappingproxy", none, .fields [.ref 45].toArray, [].toArray⟩
noncomputable def t102v0 (P : Params) (z : Nat → Obj) : BT := .node (o102v0 P) .nil .nil
noncomputable def t38v4 (P : Params) (z : Nat → Obj) : BT := .node (o38v0 P) (t70v2 P z) (t102v0 P z)
noncomputable def t22v7 (P : Params) (z : Nat → Obj) : BT := .node (o22v0 P) (t38v4 P z) (t54v2 P z)
noncomputable def t6v21 (P : Params) (z : Nat → Obj) : BT := .node (boot_o_6 P) (t10v12 P z) (.node (o14v0 P) (t22v7 P z) (t30v6 P z))
noncomputable def t2v25 (P : Params) (z : Nat → Obj) : BT := .node (boot_o_2 P) (t4v19 P z) (t6v21 P z)
noncomputable def t0v36 (P : Params) (z : Nat → Obj) : BT := .node (boot_o_0 P) (.node (boot_o_1 P) (.node (d3 P (vS "types" 602) 26 27) (t7v12 P z) (t11v14 P z)) (t5v19 P z)) (t2v25 P z)
noncomputable def S19 (w : World) (os : OsState) (z : Nat → Obj) : SharedT := ⟨t0v36 w.params z, 103, life0, [.finished].toArray, drawn0, 606, os⟩
noncomputable def t0v37 (P : Params) (z : Nat → Obj) : BT := .node (boot_o_0 P) (.node (boot_o_1 P) (.node (d3 P (vS "cpy313.tomllib._parser" 606) 26 27) (t7v12 P z) (t11v14 P z)) (t5v19 P z)) (t2v25 P z)
noncomputable def S20 (w : World) (os : OsState) (z : Nat → Obj) : SharedT := ⟨t0v37 w.params z, 103, life0, [.finished].toArray, drawn0, 608, os⟩
noncomputable def o103v0 (P : Params) : Obj := ⟨.type "dict", none, .dict [eS P (sO "\\b") 608 (vM [8] 609), eS P (sO "\\t") 610 (vM [9] 611), eS P (sO "\\n") 612 (vM [10] 613), eS P (sO "\\f") 614 (vM [12] 615), eS P (sO "\\r") 616 (vM [13] 617), eS P (sO "\\\"") 618 (vS "\"" 619), eS P (sO "\\\\") 620 (vS "\\" 621)].toArray 7, [].toArray⟩
noncomputable def o104v0 (P : Params) : Obj := ⟨.type "mappingproxy", none, .fields [.ref 103].toArray, [].toArray⟩
noncomputable def t104v0 (P : Params) (z : Nat → Obj) : BT := .node (o104v0 P) .nil .nil
noncomputable def t103v0 (P : Params) (z : Nat → Obj) : BT := .node (o103v0 P) .nil .nil
noncomputable def t40v2 (P : Params) (z : Nat → Obj) : BT := .node (o40v0 P) (t72v0 P z) (t104v0 P z)
noncomputable def t39v4 (P : Params) (z : Nat → Obj) : BT := .node (o39v0 P) (t71v2 P z) (t103v0 P z)
noncomputable def t24v4 (P : Params) (z : Nat → Obj) : BT := .node (o24v0 P) (t40v2 P z) (t56v1 P z)
noncomputable def t23v6 (P : Params) (z : Nat → Obj) : BT := .node (o23v0 P) (t39v4 P z) (t55v1 P z)
noncomputable def t0v38 (P : Params) (z : Nat → Obj) : BT := .node (boot_o_0 P) (.node (boot_o_1 P) (.node (d3 P (vS "cpy313.tomllib._parser" 606) 27 28) (.node (boot_o_7 P) (t15v8 P z) (t23v6 P z)) (t11v14 P z)) (t5v19 P z)) (.node (boot_o_2 P) (.node (boot_o_4 P) (.node (boot_o_8 P) (t16v7 P z) (t24v4 P z)) (t12v14 P z)) (t6v21 P z))
noncomputable def S21 (w : World) (os : OsState) (z : Nat → Obj) : SharedT := ⟨t0v38 w.params z, 105, life0, [.finished].toArray, drawn0, 630, os⟩
noncomputable def o105v0 (P : Params) : Obj := ⟨.type "tuple", none, .seq [.type "ValueError"].toArray 0, [].toArray⟩
noncomputable def o106v0 (P : Params) : Obj := ⟨.type "builtin_function_or_method", none, .fields [.builtin "type.__prepare__", .type "type"].toArray, [].toArray⟩
noncomputable def o107v0 (P : Params) : Obj := ⟨.type "dict", none, .dict [eS P (sO "__module__") 637 (vS "cpy313.tomllib._parser" 606), eS P (sO "__qualname__") 639 (vS "TOMLDecodeError" 638), eS P (sO "__firstlineno__") 641 (vI (37) 640), eS P (sO "__doc__") 643 (.str (dc 22) 642), eS P (sO "__static_attributes__") 645 (.ref 112)].toArray 5, [].toArray⟩
noncomputable def o108v0 (P : Params) : Obj := ⟨.type "tuple", none, .seq [].toArray 0, [].toArray⟩
noncomputable def o109v0 (P : Params) : Obj := ⟨.none, none, .fields [].toArray, [].toArray⟩
noncomputable def o110v0 (P : Params) : Obj := ⟨.type "code", none, .fields [vS "TOMLDecodeError" 632, vS "TOMLDecodeError" 633, vS "/claim/cut.py" 634, vI (37) 0, vI (0) 0, vI (0) 0, vI (0) 0, vI (0) 0, .ref 108, .bool false, vI (181) 0, .ref 109, .none, .none, .none, .none, vI (635) 0, vI (37) 0, vS "/claim/cut.py" 636].toArray, [].toArray⟩
noncomputable def o111v0 (P : Params) : Obj := ⟨.type "frame", none, .plain, [(some (.ref 110)), (some (.ref 3)), (some (.ref 107)), none, (some (vS "cpy313.tomllib._parser" 606)), none, (some (.ref 0))].toArray⟩
noncomputable def o112v0 (P : Params) : Obj := ⟨.type "tuple", none, .seq [].toArray 0, [].toArray⟩
noncomputable def o113v0 (P : Params) : Obj := ⟨.type "dict", none, .dict [eS P (sO "__module__") 637 (vS "cpy313.tomllib._parser" 606), eS P (sO "__firstlineno__") 641 (vI (37) 640), eS P (sO "__doc__") 643 (.str (dc 22) 642), eS P (sO "__static_attributes__") 645 (.ref 112), eS P (sO "__weakref__") 647 (.ref 115)].toArray 2, [].toArray⟩
noncomputable def o114v0 (P : Params) : Obj := ⟨.type "type", none, .cls (clX (sO "TOMLDecodeError") [.type "ValueError"] [.ref 114, .type "ValueError", .type "Exception", .type "BaseException", .type "object"] 113 (sO "TOMLDecodeError") true [] [] false none false), [(some (.ref 105)), none, (some (vS "TOMLDecodeError" 630)), (some (vS "TOMLDecodeError" 638)), (some (.builtin "ValueError.__new__")), (some (.bool true))].toArray⟩
noncomputable def o115v0 (P : Params) : Obj := ⟨.type "getset_descriptor", none, .fields [vS "__weakref__" 646, .ref 114, .builtin "ExceptionGroup.__weakref__", .none].toArray, [].toArray⟩
noncomputable def o116v0 (P : Params) : Obj := ⟨.type "super", none, .fields [.ref 114, .ref 114, .ref 114].toArray, [].toArray⟩
noncomputable def o117v0 (P : Params) : Obj := ⟨.type "builtin_function_or_method", none, .fields [.builtin "object.__init_subclass__", .ref 114].toArray, [].toArray⟩
noncomputable def t117v0 (P : Params) (z : Nat → Obj) : BT := .node (o117v0 P) .nil .nil
noncomputable def t116v0 (P : Params) (z : Nat → Obj) : BT := .node (o116v0 P) .nil .nil
noncomputable def t115v0 (P : Params) (z : Nat → Obj) : BT := .node (o115v0 P) .nil .nil
noncomputable def t114v0 (P : Params) (z : Nat → Obj) : BT := .node (o114v0 P) .nil .nil
noncomputable def t113v0 (P : Params) (z : Nat → Obj) : BT := .node (o113v0 P) .nil .nil
noncomputable def t112v0 (P : Params) (z : Nat → Obj) : BT := .node (o112v0 P) .nil .nil
noncomputable def t111v0 (P : Params) (z : Nat → Obj) : BT := .node (o111v0 P) .nil .nil
noncomputable def t110v0 (P : Params) (z : Nat → Obj) : BT := .node (o110v0 P) .nil .nil
noncomputable def t109v0 (P : Params) (z : Nat → Obj) : BT := .node (o109v0 P) .nil .nil
noncomputable def t108v0 (P : Params) (z : Nat → Obj) : BT := .node (o108v0 P) .nil .nil
noncomputable def t107v0 (P : Params) (z : Nat → Obj) : BT := .node (o107v0 P) .nil .nil
noncomputable def t106v0 (P : Params) (z : Nat → Obj) : BT := .node (o106v0 P) .nil .nil
noncomputable def t105v0 (P : Params) (z : Nat → Obj) : BT := .node (o105v0 P) .nil .nil
noncomputable def t53v3 (P : Params) (z : Nat → Obj) : BT := .node (o53v0 P) (t85v1 P z) (t117v0 P z)
noncomputable def t52v3 (P : Params) (z : Nat → Obj) : BT := .node (o52v0 P) (t84v1 P z) (t116v0 P z)
noncomputable def t51v3 (P : Params) (z : Nat → Obj) : BT := .node (o51v0 P) (t83v1 P z) (t115v0 P z)
noncomputable def t50v2 (P : Params) (z : Nat → Obj) : BT := .node (o50v0 P) (t82v0 P z) (t114v0 P z)
noncomputable def t49v4 (P : Params) (z : Nat → Obj) : BT := .node (o49v0 P) (t81v2 P z) (t113v0 P z)
noncomputable def t48v4 (P : Params) (z : Nat → Obj) : BT := .node (o48v0 P) (t80v2 P z) (t112v0 P z)
noncomputable def t47v3 (P : Params) (z : Nat → Obj) : BT := .node (o47v0 P) (t79v1 P z) (t111v0 P z)
noncomputable def t46v3 (P : Params) (z : Nat → Obj) : BT := .node (o46v0 P) (t78v1 P z) (t110v0 P z)
noncomputable def t45v2 (P : Params) (z : Nat → Obj) : BT := .node (o45v0 P) (t77v0 P z) (t109v0 P z)
noncomputable def t44v4 (P : Params) (z : Nat → Obj) : BT := .node (o44v0 P) (t76v2 P z) (t108v0 P z)
noncomputable def t43v4 (P : Params) (z : Nat → Obj) : BT := .node (o43v0 P) (t75v2 P z) (t107v0 P z)
noncomputable def t42v3 (P : Params) (z : Nat → Obj) : BT := .node (o42v0 P) (t74v1 P z) (t106v0 P z)
noncomputable def t41v3 (P : Params) (z : Nat → Obj) : BT := .node (o41v0 P) (t73v1 P z) (t105v0 P z)
noncomputable def t30v7 (P : Params) (z : Nat → Obj) : BT := .node (o30v0 P) (t46v3 P z) (t62v3 P z)
noncomputable def t21v8 (P : Params) (z : Nat → Obj) : BT := .node (o21v0 P) (t37v3 P z) (t53v3 P z)
noncomputable def t20v7 (P : Params) (z : Nat → Obj) : BT := .node (o20v0 P) (t36v2 P z) (t52v3 P z)
noncomputable def t19v9 (P : Params) (z : Nat → Obj) : BT := .node (o19v0 P) (t35v4 P z) (t51v3 P z)
noncomputable def t18v6 (P : Params) (z : Nat → Obj) : BT := .node (o18v0 P) (t34v3 P z) (t50v2 P z)
noncomputable def t17v9 (P : Params) (z : Nat → Obj) : BT := .node (o17v0 P) (t33v4 P z) (t49v4 P z)
noncomputable def t16v8 (P : Params) (z : Nat → Obj) : BT := .node (o16v0 P) (t32v3 P z) (t48v4 P z)
noncomputable def t15v9 (P : Params) (z : Nat → Obj) : BT := .node (o15v0 P) (t31v5 P z) (t47v3 P z)
noncomputable def t13v13 (P : Params) (z : Nat → Obj) : BT := .node (o13v0 P) (t21v8 P z) (.node (o29v0 P) (t45v2 P z) (t61v2 P z))
noncomputable def t0v39 (P : Params) (z : Nat → Obj) : BT := .node (boot_o_0 P) (.node (boot_o_1 P) (.node (d3 P (vS "cpy313.tomllib._parser" 606) 28 29) (.node (boot_o_7 P) (t15v9 P z) (t23v6 P z)) (.node (o11v0 P) (t19v9 P z) (.node (o27v0 P) (t43v4 P z) (t59v3 P z)))) (.node (boot_o_5 P) (.node (boot_o_9 P) (t17v9 P z) (.node (o25v0 P) (t41v3 P z) (t57v3 P z))) (t13v13 P z))) (.node (boot_o_2 P) (.node (boot_o_4 P) (.node (boot_o_8 P) (t16v8 P z) (t24v4 P z)) (.node (f12 15) (t20v7 P z) (.node (o28v0 P) (t44v4 P z) (t60v3 P z)))) (.node (boot_o_6 P) (.node (boot_o_10 P) (t18v6 P z) (.node (o26v0 P) (t42v3 P z) (t58v4 P z))) (.node (o14v0 P) (t22v7 P z) (t30v7 P z))))
noncomputable def S22 (w : World) (os : OsState) (z : Nat → Obj) : SharedT := ⟨t0v39 w.params z, 118, life0, [.finished].toArray, drawn0, 650, os⟩
noncomputable def o118v0 (P : Params) : Obj := ⟨.type "tuple", none, .seq [].toArray 0, [].toArray⟩
noncomputable def o119v0 (P : Params) : Obj := ⟨.none, none, .fields [].toArray, [].toArray⟩
noncomputable def o120v0 (P : Params) : Obj := ⟨.type "tuple", none, .seq [vS "src" 653, vS "pos" 654, vS "chars" 655].toArray 0, [].toArray⟩
noncomputable def o121v0 (P : Params) : Obj := ⟨.type "tuple", none, .seq [].toArray 0, [].toArray⟩
noncomputable def o122v0 (P : Params) : Obj := ⟨.none, none, .func (fnX (sO "skip_chars") (sO "skip_chars") (fd 23) 0 0 (.none) (.none) (.none) (.none) none (.none) (.none)), [].toArray⟩
noncomputable def o123v0 (P : Params) : Obj := ⟨.type "code", none, .fields [vS "skip_chars" 650, vS "skip_chars" 651, vS "/claim/cut.py" 652, vI (39) 0, vI (3) 0, vI (0) 0, vI (0) 0, vI (3) 0, .ref 118, .bool true, vI (181) 0, .ref 119, .none, .ref 120, .ref 121, .ref 122, vI (656) 0, vI (39) 0, vS "/claim/cut.py" 657].toArray, [].toArray⟩
noncomputable def o124v0 (P : Params) : Obj := ⟨.type "function", none, .func (fnX (sO "skip_chars") (sO "skip_chars") (fd 23) 3 0 (.none) (.none) (.none) (vS "cpy313.tomllib._parser" 606) none (.ref 123) (.none)), [].toArray⟩
noncomputable def t124v0 (P : Params) (z : Nat → Obj) : BT := .node (o124v0 P) .nil .nil
noncomputable def t123v0 (P : Params) (z : Nat → Obj) : BT := .node (o123v0 P) .nil .nil
noncomputable def t122v0 (P : Params) (z : Nat → Obj) : BT := .node (o122v0 P) .nil .nil
noncomputable def t121v0 (P : Params) (z : Nat → Obj) : BT := .node (o121v0 P) .nil .nil
noncomputable def t120v0 (P : Params) (z : Nat → Obj) : BT := .node (o120v0 P) .nil .nil
noncomputable def t119v0 (P : Params) (z : Nat → Obj) : BT := .node (o119v0 P) .nil .nil
noncomputable def t118v0 (P : Params) (z : Nat → Obj) : BT := .node (o118v0 P) .nil .nil
noncomputable def t60v4 (P : Params) (z : Nat → Obj) : BT := .node (o60v1 P) (t92v1 P z) (t124v0 P z)
noncomputable def t59v4 (P : Params) (z : Nat → Obj) : BT := .node (z 59) (t91v0 P z) (t123v0 P z)
noncomputable def t58v5 (P : Params) (z : Nat → Obj) : BT := .node (o58v1 P) (t90v2 P z) (t122v0 P z)
noncomputable def t57v4 (P : Params) (z : Nat → Obj) : BT := .node (o57v0 P) (t89v2 P z) (t121v0 P z)
noncomputable def t56v2 (P : Params) (z : Nat → Obj) : BT := .node (o56v0 P) (t88v0 P z) (t120v0 P z)
noncomputable def t55v2 (P : Params) (z : Nat → Obj) : BT := .node (o55v0 P) (t87v0 P z) (t119v0 P z)
noncomputable def t54v3 (P : Params) (z : Nat → Obj) : BT := .node (o54v0 P) (t86v1 P z) (t118v0 P z)
noncomputable def t28v9 (P : Params) (z : Nat → Obj) : BT := .node (o28v0 P) (t44v4 P z) (t60v4 P z)
noncomputable def t27v9 (P : Params) (z : Nat → Obj) : BT := .node (o27v0 P) (t43v4 P z) (t59v4 P z)
noncomputable def t26v8 (P : Params) (z : Nat → Obj) : BT := .node (o26v0 P) (t42v3 P z) (t58v5 P z)
noncomputable def t25v8 (P : Params) (z : Nat → Obj) : BT := .node (o25v0 P) (t41v3 P z) (t57v4 P z)
noncomputable def t24v5 (P : Params) (z : Nat → Obj) : BT := .node (o24v0 P) (t40v2 P z) (t56v2 P z)
noncomputable def t23v7 (P : Params) (z : Nat → Obj) : BT := .node (o23v0 P) (t39v4 P z) (t55v2 P z)
noncomputable def t22v8 (P : Params) (z : Nat → Obj) : BT := .node (o22v0 P) (t38v4 P z) (t54v3 P z)
noncomputable def t0v40 (P : Params) (z : Nat → Obj) : BT := .node (boot_o_0 P) (.node (boot_o_1 P) (.node (d3 P (vS "cpy313.tomllib._parser" 606) 29 30) (.node (boot_o_7 P) (t15v9 P z) (t23v7 P z)) (.node (o11v0 P) (t19v9 P z) (t27v9 P z))) (.node (boot_o_5 P) (.node (boot_o_9 P) (t17v9 P z) (t25v8 P z)) (t13v13 P z))) (.node (boot_o_2 P) (.node (boot_o_4 P) (.node (boot_o_8 P) (t16v8 P z) (t24v5 P z)) (.node (f12 18) (t20v7 P z) (t28v9 P z))) (.node (boot_o_6 P) (.node (boot_o_10 P) (t18v6 P z) (t26v8 P z)) (.node (o14v0 P) (t22v8 P z) (t30v7 P z))))
noncomputable def S23 (w : World) (os : OsState) (z : Nat → Obj) : SharedT := ⟨t0v40 w.params z, 125, life0, [.finished].toArray, drawn0, 659, os⟩
noncomputable def o125v0 (P : Params) : Obj := ⟨.type "tuple", none, .seq [].toArray 0, [].toArray⟩
noncomputable def o126v0 (P : Params) : Obj := ⟨.none, none, .fields [].toArray, [].toArray⟩
noncomputable def o127v0 (P : Params) : Obj := ⟨.type "tuple", none, .seq [vS "src" 662, vS "pos" 663, vS "expect" 664, vS "error_on" 665, vS "error_on_eof" 666, vS "new_pos" 667].toArray 0, [].toArray⟩
noncomputable def o128v0 (P : Params) : Obj := ⟨.type "tuple", none, .seq [].toArray 0, [].toArray⟩
noncomputable def o129v0 (P : Params) : Obj := ⟨.none, none, .func (fnX (sO "skip_until") (sO "skip_until") (fd 24) 0 0 (.none) (.none) (.none) (.none) none (.none) (.none)), [].toArray⟩
noncomputable def o130v0 (P : Params) : Obj := ⟨.type "code", none, .fields [vS "skip_until" 659, vS "skip_until" 660, vS "/claim/cut.py" 661, vI (46) 0, vI (3) 0, vI (0) 0, vI (2) 0, vI (3) 0, .ref 125, .bool true, vI (181) 0, .ref 126, .none, .ref 127, .ref 128, .ref 129, vI (668) 0, vI (46) 0, vS "/claim/cut.py" 669].toArray, [].toArray⟩
noncomputable def o131v0 (P : Params) : Obj := ⟨.type "function", none, .func (fnX (sO "skip_until") (sO "skip_until") (fd 24) 3 0 (.none) (.none) (.none) (vS "cpy313.tomllib._parser" 606) none (.ref 130) (.none)), [].toArray⟩
noncomputable def t131v0 (P : Params) (z : Nat → Obj) : BT := .node (o131v0 P) .nil .nil
noncomputable def t130v0 (P : Params) (z : Nat → Obj) : BT := .node (o130v0 P) .nil .nil
noncomputable def t129v0 (P : Params) (z : Nat → Obj) : BT := .node (o129v0 P) .nil .nil
noncomputable def t128v0 (P : Params) (z : Nat → Obj) : BT := .node (o128v0 P) .nil .nil
noncomputable def t127v0 (P : Params) (z : Nat → Obj) : BT := .node (o127v0 P) .nil .nil
noncomputable def t126v0 (P : Params) (z : Nat → Obj) : BT := .node (o126v0 P) .nil .nil
noncomputable def t125v0 (P : Params) (z : Nat → Obj) : BT := .node (o125v0 P) .nil .nil
noncomputable def t67v2 (P : Params) (z : Nat → Obj) : BT := .node (o67v1 P) (t131v0 P z) .nil
noncomputable def t66v1 (P : Params) (z : Nat → Obj) : BT := .node (o66v0 P) (t130v0 P z) .nil
noncomputable def t65v3 (P : Params) (z : Nat → Obj) : BT := .node (z 65) (t129v0 P z) .nil
noncomputable def t64v2 (P : Params) (z : Nat → Obj) : BT := .node (o64v1 P) (t128v0 P z) .nil
noncomputable def t63v3 (P : Params) (z : Nat → Obj) : BT := .node (z 63) (t127v0 P z) .nil
noncomputable def t62v4 (P : Params) (z : Nat → Obj) : BT := .node (o62v1 P) (t94v1 P z) (t126v0 P z)
noncomputable def t61v3 (P : Params) (z : Nat → Obj) : BT := .node (o61v0 P) (t93v1 P z) (t125v0 P z)
noncomputable def t35v5 (P : Params) (z : Nat → Obj) : BT := .node (o35v0 P) (t67v2 P z) (t99v1 P z)
noncomputable def t34v4 (P : Params) (z : Nat → Obj) : BT := .node (o34v0 P) (t66v1 P z) (t98v1 P z)
noncomputable def t33v5 (P : Params) (z : Nat → Obj) : BT := .node (o33v0 P) (t65v3 P z) (t97v0 P z)
noncomputable def t32v4 (P : Params) (z : Nat → Obj) : BT := .node (o32v0 P) (t64v2 P z) (t96v0 P z)
noncomputable def t31v6 (P : Params) (z : Nat → Obj) : BT := .node (o31v0 P) (t63v3 P z) (t95v1 P z)
noncomputable def t30v8 (P : Params) (z : Nat → Obj) : BT := .node (o30v0 P) (t46v3 P z) (t62v4 P z)
noncomputable def t29v6 (P : Params) (z : Nat → Obj) : BT := .node (o29v0 P) (t45v2 P z) (t61v3 P z)
noncomputable def t19v10 (P : Params) (z : Nat → Obj) : BT := .node (o19v0 P) (t35v5 P z) (t51v3 P z)
noncomputable def t18v7 (P : Params) (z : Nat → Obj) : BT := .node (o18v0 P) (t34v4 P z) (t50v2 P z)
noncomputable def t17v10 (P : Params) (z : Nat → Obj) : BT := .node (o17v0 P) (t33v5 P z) (t49v4 P z)
noncomputable def t16v9 (P : Params) (z : Nat → Obj) : BT := .node (o16v0 P) (t32v4 P z) (t48v4 P z)
noncomputable def t15v10 (P : Params) (z : Nat → Obj) : BT := .node (o15v0 P) (t31v6 P z) (t47v3 P z)
noncomputable def t11v17 (P : Params) (z : Nat → Obj) : BT := .node (o11v0 P) (t19v10 P z) (t27v9 P z)
noncomputable def t0v41 (P : Params) (z : Nat → Obj) : BT := .node (boot_o_0 P) (.node (boot_o_1 P) (.node (d3 P (vS "cpy313.tomllib._parser" 606) 30 31) (.node (boot_o_7 P) (t15v10 P z) (t23v7 P z)) (t11v17 P z)) (.node (boot_o_5 P) (.node (boot_o_9 P) (t17v10 P z) (t25v8 P z)) (.node (o13v0 P) (t21v8 P z) (t29v6 P z)))) (.node (boot_o_2 P) (.node (boot_o_4 P) (.node (boot_o_8 P) (t16v9 P z) (t24v5 P z)) (.node (f12 21) (t20v7 P z) (t28v9 P z))) (.node (boot_o_6 P) (.node (boot_o_10 P) (t18v7 P z) (t26v8 P z)) (.node (o14v0 P) (t22v8 P z) (t30v8 P z))))
noncomputable def S24 (w : World) (os : OsState) (z : Nat → Obj) : SharedT := ⟨t0v41 w.params z, 132, life0, [.finished].toArray, drawn0, 671, os⟩
noncomputable def o132v0 (P : Params) : Obj := ⟨.type "tuple", none, .seq [].toArray 0, [].toArray⟩
noncomputable def o133v0 (P : Params) : Obj := ⟨.none, none, .fields [].toArray, [].toArray⟩
noncomputable def o134v0 (P : Params) : Obj := ⟨.type "tuple", none, .seq [vS "src" 674, vS "pos" 675, vS "key_part" 676, vS "key" 677, vS "char" 678].toArray 0, [].toArray⟩
noncomputable def o135v0 (P : Params) : Obj := ⟨.type "tuple", none, .seq [].toArray 0, [].toArray⟩
noncomputable def o136v0 (P : Params) : Obj := ⟨.none, none, .func (fnX (sO "parse_key") (sO "parse_key") (fd 25) 0 0 (.none) (.none) (.none) (.none) none (.none) (.none)), [].toArray⟩
noncomputable def o137v0 (P : Params) : Obj := ⟨.type "code", none, .fields [vS "parse_key" 671, vS "parse_key" 672, vS "/claim/cut.py" 673, vI (58) 0, vI (2) 0, vI (0) 0, vI (0) 0, vI (3) 0, .ref 132, .bool true, vI (181) 0, .ref 133, .none, .ref 134, .ref 135, .ref 136, vI (679) 0, vI (58) 0, vS "/claim/cut.py" 680].toArray, [].toArray⟩
noncomputable def o138v0 (P : Params) : Obj := ⟨.type "function", none, .func (fnX (sO "parse_key") (sO "parse_key") (fd 25) 3 0 (.none) (.none) (.none) (vS "cpy313.tomllib._parser" 606) none (.ref 137) (.none)), [].toArray⟩
noncomputable def t138v0 (P : Params) (z : Nat → Obj) : BT := .node (o138v0 P) .nil .nil
noncomputable def t137v0 (P : Params) (z : Nat → Obj) : BT := .node (o137v0 P) .nil .nil
noncomputable def t136v0 (P : Params) (z : Nat → Obj) : BT := .node (o136v0 P) .nil .nil
noncomputable def t135v0 (P : Params) (z : Nat → Obj) : BT := .node (o135v0 P) .nil .nil
noncomputable def t134v0 (P : Params) (z : Nat → Obj) : BT := .node (o134v0 P) .nil .nil
noncomputable def t133v0 (P : Params) (z : Nat → Obj) : BT := .node (o133v0 P) .nil .nil
noncomputable def t132v0 (P : Params) (z : Nat → Obj) : BT := .node (o132v0 P) .nil .nil
noncomputable def t74v2 (P : Params) (z : Nat → Obj) : BT := .node (z 74) (t138v0 P z) .nil
noncomputable def t73v2 (P : Params) (z : Nat → Obj) : BT := .node (o73v1 P) (t137v0 P z) .nil
noncomputable def t72v1 (P : Params) (z : Nat → Obj) : BT := .node (o72v0 P) (t136v0 P z) .nil
noncomputable def t71v3 (P : Params) (z : Nat → Obj) : BT := .node (z 71) (t135v0 P z) .nil
noncomputable def t70v3 (P : Params) (z : Nat → Obj) : BT := .node (z 70) (t134v0 P z) .nil
noncomputable def t69v2 (P : Params) (z : Nat → Obj) : BT := .node (o69v1 P) (t133v0 P z) .nil
noncomputable def t68v1 (P : Params) (z : Nat → Obj) : BT := .node (o68v0 P) (t132v0 P z) .nil
noncomputable def t42v4 (P : Params) (z : Nat → Obj) : BT := .node (o42v0 P) (t74v2 P z) (t106v0 P z)
noncomputable def t41v4 (P : Params) (z : Nat → Obj) : BT := .node (o41v0 P) (t73v2 P z) (t105v0 P z)
noncomputable def t40v3 (P : Params) (z : Nat → Obj) : BT := .node (o40v0 P) (t72v1 P z) (t104v0 P z)
noncomputable def t39v5 (P : Params) (z : Nat → Obj) : BT := .node (o39v0 P) (t71v3 P z) (t103v0 P z)
noncomputable def t38v5 (P : Params) (z : Nat → Obj) : BT := .node (o38v0 P) (t70v3 P z) (t102v0 P z)
noncomputable def t37v4 (P : Params) (z : Nat → Obj) : BT := .node (o37v0 P) (t69v2 P z) (t101v0 P z)
noncomputable def t36v3 (P : Params) (z : Nat → Obj) : BT := .node (o36v0 P) (t68v1 P z) (t100v0 P z)
noncomputable def t26v9 (P : Params) (z : Nat → Obj) : BT := .node (o26v0 P) (t42v4 P z) (t58v5 P z)
noncomputable def t25v9 (P : Params) (z : Nat → Obj) : BT := .node (o25v0 P) (t41v4 P z) (t57v4 P z)
noncomputable def t24v6 (P : Params) (z : Nat → Obj) : BT := .node (o24v0 P) (t40v3 P z) (t56v2 P z)
noncomputable def t23v8 (P : Params) (z : Nat → Obj) : BT := .node (o23v0 P) (t39v5 P z) (t55v2 P z)
noncomputable def t22v9 (P : Params) (z : Nat → Obj) : BT := .node (o22v0 P) (t38v5 P z) (t54v3 P z)
noncomputable def t21v9 (P : Params) (z : Nat → Obj) : BT := .node (o21v0 P) (t37v4 P z) (t53v3 P z)
noncomputable def t20v8 (P : Params) (z : Nat → Obj) : BT := .node (o20v0 P) (t36v3 P z) (t52v3 P z)
noncomputable def t10v16 (P : Params) (z : Nat → Obj) : BT := .node (boot_o_10 P) (t18v7 P z) (t26v9 P z)
noncomputable def t0v42 (P : Params) (z : Nat → Obj) : BT := .node (boot_o_0 P) (.node (boot_o_1 P) (.node (d3 P (vS "cpy313.tomllib._parser" 606) 31 32) (.node (boot_o_7 P) (t15v10 P z) (t23v8 P z)) (t11v17 P z)) (.node (boot_o_5 P) (.node (boot_o_9 P) (t17v10 P z) (t25v9 P z)) (.node (o13v0 P) (t21v9 P z) (t29v6 P z)))) (.node (boot_o_2 P) (.node (boot_o_4 P) (.node (boot_o_8 P) (t16v9 P z) (t24v6 P z)) (.node (f12 24) (t20v8 P z) (t28v9 P z))) (.node (boot_o_6 P) (t10v16 P z) (.node (o14v0 P) (t22v9 P z) (t30v8 P z))))
noncomputable def S25 (w : World) (os : OsState) (z : Nat → Obj) : SharedT := ⟨t0v42 w.params z, 139, life0, [.finished].toArray, drawn0, 682, os⟩
noncomputable def o139v0 (P : Params) : Obj := ⟨.type "tuple", none, .seq [].toArray 0, [].toArray⟩
noncomputable def o140v0 (P : Params) : Obj := ⟨.none, none, .fields [].toArray, [].toArray⟩
noncomputable def o141v0 (P : Params) : Obj := ⟨.type "tuple", none, .seq [vS "src" 685, vS "pos" 686, vS "char" 687, vS "start_pos" 688].toArray 0, [].toArray⟩
noncomputable def o142v0 (P : Params) : Obj := ⟨.type "tuple", none, .seq [].toArray 0, [].toArray⟩
noncomputable def o143v0 (P : Params) : Obj := ⟨.none, none, .func (fnX (sO "parse_key_part") (sO "parse_key_part") (fd 26) 0 0 (.none) (.none) (.none) (.none) none (.none) (.none)), [].toArray⟩
noncomputable def o144v0 (P : Params) : Obj := ⟨.type "code", none, .fields [vS "parse_key_part" 682, vS "parse_key_part" 683, vS "/claim/cut.py" 684, vI (76) 0, vI (2) 0, vI (0) 0, vI (0) 0, vI (3) 0, .ref 139, .bool true, vI (181) 0, .ref 140, .none, .ref 141, .ref 142, .ref 143, vI (689) 0, vI (76) 0, vS "/claim/cut.py" 690].toArray, [].toArray⟩
noncomputable def o145v0 (P : Params) : Obj := ⟨.type "function", none, .func (fnX (sO "parse_key_part") (sO "parse_key_part") (fd 26) 3 0 (.none) (.none) (.none) (vS "cpy313.tomllib._parser" 606) none (.ref 144) (.none)), [].toArray⟩
noncomputable def t145v0 (P : Params) (z : Nat → Obj) : BT := .node (o145v0 P) .nil .nil
noncomputable def t144v0 (P : Params) (z : Nat → Obj) : BT := .node (o144v0 P) .nil .nil
noncomputable def t143v0 (P : Params) (z : Nat → Obj) : BT := .node (o143v0 P) .nil .nil
noncomputable def t142v0 (P : Params) (z : Nat → Obj) : BT := .node (o142v0 P) .nil .nil
noncomputable def t141v0 (P : Params) (z : Nat → Obj) : BT := .node (o141v0 P) .nil .nil
noncomputable def t140v0 (P : Params) (z : Nat → Obj) : BT := .node (o140v0 P) .nil .nil
noncomputable def t139v0 (P : Params) (z : Nat → Obj) : BT := .node (o139v0 P) .nil .nil
noncomputable def t81v3 (P : Params) (z : Nat → Obj) : BT := .node (z 81) (t145v0 P z) .nil
noncomputable def t80v3 (P : Params) (z : Nat → Obj) : BT := .node (z 80) (t144v0 P z) .nil
noncomputable def t79v2 (P : Params) (z : Nat → Obj) : BT := .node (z 79) (t143v0 P z) .nil
noncomputable def t78v2 (P : Params) (z : Nat → Obj) : BT := .node (o78v1 P) (t142v0 P z) .nil
noncomputable def t77v1 (P : Params) (z : Nat → Obj) : BT := .node (o77v0 P) (t141v0 P z) .nil
noncomputable def t76v3 (P : Params) (z : Nat → Obj) : BT := .node (z 76) (t140v0 P z) .nil
noncomputable def t75v3 (P : Params) (z : Nat → Obj) : BT := .node (z 75) (t139v0 P z) .nil
noncomputable def t49v5 (P : Params) (z : Nat → Obj) : BT := .node (o49v0 P) (t81v3 P z) (t113v0 P z)
noncomputable def t48v5 (P : Params) (z : Nat → Obj) : BT := .node (o48v0 P) (t80v3 P z) (t112v0 P z)
noncomputable def t47v4 (P : Params) (z : Nat → Obj) : BT := .node (o47v0 P) (t79v2 P z) (t111v0 P z)
noncomputable def t46v4 (P : Params) (z : Nat → Obj) : BT := .node (o46v0 P) (t78v2 P z) (t110v0 P z)
noncomputable def t45v3 (P : Params) (z : Nat → Obj) : BT := .node (o45v0 P) (t77v1 P z) (t109v0 P z)
noncomputable def t44v5 (P : Params) (z : Nat → Obj) : BT := .node (o44v0 P) (t76v3 P z) (t108v0 P z)
noncomputable def t43v5 (P : Params) (z : Nat → Obj) : BT := .node (o43v0 P) (t75v3 P z) (t107v0 P z)
noncomputable def t30v9 (P : Params) (z : Nat → Obj) : BT := .node (o30v0 P) (t46v4 P z) (t62v4 P z)
noncomputable def t29v7 (P : Params) (z : Nat → Obj) : BT := .node (o29v0 P) (t45v3 P z) (t61v3 P z)
noncomputable def t28v10 (P : Params) (z : Nat → Obj) : BT := .node (o28v0 P) (t44v5 P z) (t60v4 P z)
noncomputable def t27v10 (P : Params) (z : Nat → Obj) : BT := .node (o27v0 P) (t43v5 P z) (t59v4 P z)
noncomputable def t17v11 (P : Params) (z : Nat → Obj) : BT := .node (o17v0 P) (t33v5 P z) (t49v5 P z)
noncomputable def t16v10 (P : Params) (z : Nat → Obj) : BT := .node (o16v0 P) (t32v4 P z) (t48v5 P z)
noncomputable def t15v11 (P : Params) (z : Nat → Obj) : BT := .node (o15v0 P) (t31v6 P z) (t47v4 P z)
noncomputable def t9v19 (P : Params) (z : Nat → Obj) : BT := .node (boot_o_9 P) (t17v11 P z) (t25v9 P z)
noncomputable def t0v43 (P : Params) (z : Nat → Obj) : BT := .node (boot_o_0 P) (.node (boot_o_1 P) (.node (d3 P (vS "cpy313.tomllib._parser" 606) 32 33) (.node (boot_o_7 P) (t15v11 P z) (t23v8 P z)) (.node (o11v0 P) (t19v10 P z) (t27v10 P z))) (.node (boot_o_5 P) (t9v19 P z) (.node (o13v0 P) (t21v9 P z) (t29v7 P z)))) (.node (boot_o_2 P) (.node (boot_o_4 P) (.node (boot_o_8 P) (t16v10 P z) (t24v6 P z)) (.node (f12 27) (t20v8 P z) (t28v10 P z))) (.node (boot_o_6 P) (t10v16 P z) (.node (o14v0 P) (t22v9 P z) (t30v9 P z))))
noncomputable def S26 (w : World) (os : OsState) (z : Nat → Obj) : SharedT := ⟨t0v43 w.params z, 146, life0, [.finished].toArray, drawn0, 692, os⟩
noncomputable def o146v0 (P : Params) : Obj := ⟨.type "tuple", none, .seq [].toArray 0, [].toArray⟩
noncomputable def o147v0 (P : Params) : Obj := ⟨.none, none, .fields [].toArray, [].toArray⟩
noncomputable def o148v0 (P : Params) : Obj := ⟨.type "tuple", none, .seq [vS "src" 695, vS "pos" 696].toArray 0, [].toArray⟩
noncomputable def o149v0 (P : Params) : Obj := ⟨.type "tuple", none, .seq [].toArray 0, [].toArray⟩
noncomputable def o150v0 (P : Params) : Obj := ⟨.none, none, .func (fnX (sO "parse_one_line_basic_str") (sO "parse_one_line_basic_str") (fd 27) 0 0 (.none) (.none) (.none) (.none) none (.none) (.none)), [].toArray⟩
noncomputable def o151v0 (P : Params) : Obj := ⟨.type "code", none, .fields [vS "parse_one_line_basic_str" 692, vS "parse_one_line_basic_str" 693, vS "/claim/cut.py" 694, vI (90) 0, vI (2) 0, vI (0) 0, vI (0) 0, vI (3) 0, .ref 146, .bool true, vI (181) 0, .ref 147, .none, .ref 148, .ref 149, .ref 150, vI (697) 0, vI (90) 0, vS "/claim/cut.py" 698].toArray, [].toArray⟩
noncomputable def o152v0 (P : Params) : Obj := ⟨.type "function", none, .func (fnX (sO "parse_one_line_basic_str") (sO "parse_one_line_basic_str") (fd 27) 3 0 (.none) (.none) (.none) (vS "cpy313.tomllib._parser" 606) none (.ref 151) (.none)), [].toArray⟩
noncomputable def t152v0 (P : Params) (z : Nat → Obj) : BT := .node (o152v0 P) .nil .nil
noncomputable def t151v0 (P : Params) (z : Nat → Obj) : BT := .node (o151v0 P) .nil .nil
noncomputable def t150v0 (P : Params) (z : Nat → Obj) : BT := .node (o150v0 P) .nil .nil
noncomputable def t149v0 (P : Params) (z : Nat → Obj) : BT := .node (o149v0 P) .nil .nil
noncomputable def t148v0 (P : Params) (z : Nat → Obj) : BT := .node (o148v0 P) .nil .nil
noncomputable def t147v0 (P : Params) (z : Nat → Obj) : BT := .node (o147v0 P) .nil .nil
noncomputable def t146v0 (P : Params) (z : Nat → Obj) : BT := .node (o146v0 P) .nil .nil
noncomputable def t88v1 (P : Params) (z : Nat → Obj) : BT := .node (o88v0 P) (t152v0 P z) .nil
noncomputable def t87v1 (P : Params) (z : Nat → Obj) : BT := .node (o87v0 P) (t151v0 P z) .nil
noncomputable def t86v2 (P : Params) (z : Nat → Obj) : BT := .node (z 86) (t150v0 P z) .nil
noncomputable def t85v2 (P : Params) (z : Nat → Obj) : BT := .node (z 85) (t149v0 P z) .nil
noncomputable def t84v2 (P : Params) (z : Nat → Obj) : BT := .node (z 84) (t148v0 P z) .nil
noncomputable def t83v2 (P : Params) (z : Nat → Obj) : BT := .node (o83v1 P) (t147v0 P z) .nil
noncomputable def t82v1 (P : Params) (z : Nat → Obj) : BT := .node (o82v0 P) (t146v0 P z) .nil
noncomputable def t56v3 (P : Params) (z : Nat → Obj) : BT := .node (o56v0 P) (t88v1 P z) (t120v0 P z)
noncomputable def t55v3 (P : Params) (z : Nat → Obj) : BT := .node (o55v0 P) (t87v1 P z) (t119v0 P z)
noncomputable def t54v4 (P : Params) (z : Nat → Obj) : BT := .node (o54v0 P) (t86v2 P z) (t118v0 P z)
noncomputable def t53v4 (P : Params) (z : Nat → Obj) : BT := .node (o53v0 P) (t85v2 P z) (t117v0 P z)
noncomputable def t52v4 (P : Params) (z : Nat → Obj) : BT := .node (o52v0 P) (t84v2 P z) (t116v0 P z)
noncomputable def t51v4 (P : Params) (z : Nat → Obj) : BT := .node (o51v0 P) (t83v2 P z) (t115v0 P z)
noncomputable def t50v3 (P : Params) (z : Nat → Obj) : BT := .node (o50v0 P) (t82v1 P z) (t114v0 P z)
noncomputable def t24v7 (P : Params) (z : Nat → Obj) : BT := .node (o24v0 P) (t40v3 P z) (t56v3 P z)
noncomputable def t23v9 (P : Params) (z : Nat → Obj) : BT := .node (o23v0 P) (t39v5 P z) (t55v3 P z)
noncomputable def t22v10 (P : Params) (z : Nat → Obj) : BT := .node (o22v0 P) (t38v5 P z) (t54v4 P z)
noncomputable def t21v10 (P : Params) (z : Nat → Obj) : BT := .node (o21v0 P) (t37v4 P z) (t53v4 P z)
noncomputable def t20v9 (P : Params) (z : Nat → Obj) : BT := .node (o20v0 P) (t36v3 P z) (t52v4 P z)
noncomputable def t19v11 (P : Params) (z : Nat → Obj) : BT := .node (o19v0 P) (t35v5 P z) (t51v4 P z)
noncomputable def t18v8 (P : Params) (z : Nat → Obj) : BT := .node (o18v0 P) (t34v4 P z) (t50v3 P z)
noncomputable def t0v44 (P : Params) (z : Nat → Obj) : BT := .node (boot_o_0 P) (.node (boot_o_1 P) (.node (d3 P (vS "cpy313.tomllib._parser" 606) 33 34) (.node (boot_o_7 P) (t15v11 P z) (t23v9 P z)) (.node (o11v0 P) (t19v11 P z) (t27v10 P z))) (.node (boot_o_5 P) (t9v19 P z) (.node (o13v0 P) (t21v10 P z) (t29v7 P z)))) (.node (boot_o_2 P) (.node (boot_o_4 P) (.node (boot_o_8 P) (t16v10 P z) (t24v7 P z)) (.node (f12 30) (t20v9 P z) (t28v10 P z))) (.node (boot_o_6 P) (.node (boot_o_10 P) (t18v8 P z) (t26v9 P z)) (.node (o14v0 P) (t22v10 P z) (t30v9 P z))))
noncomputable def S27 (w : World) (os : OsState) (z : Nat → Obj) : SharedT := ⟨t0v44 w.params z, 153, life0, [.finished].toArray, drawn0, 700, os⟩
noncomputable def o153v0 (P : Params) : Obj := ⟨.type "dict", none, .dict [eS P (sO "multiline") 700 (.bool false)].toArray 1, [].toArray⟩
noncomputable def o154v0 (P : Params) : Obj := ⟨.type "tuple", none, .seq [].toArray 0, [].toArray⟩
noncomputable def o155v0 (P : Params) : Obj := ⟨.none, none, .fields [].toArray, [].toArray⟩
noncomputable def o156v0 (P : Params) : Obj := ⟨.type "tuple", none, .seq [vS "src" 704, vS "pos" 705, vS "multiline" 706, vS "escape_id" 707, vS "char" 708].toArray 0, [].toArray⟩
noncomputable def o157v0 (P : Params) : Obj := ⟨.type "tuple", none, .seq [].toArray 0, [].toArray⟩
noncomputable def o158v0 (P : Params) : Obj := ⟨.none, none, .func (fnX (sO "parse_basic_str_escape") (sO "parse_basic_str_escape") (fd 28) 0 0 (.none) (.none) (.none) (.none) none (.none) (.none)), [].toArray⟩
noncomputable def o159v0 (P : Params) : Obj := ⟨.type "code", none, .fields [vS "parse_basic_str_escape" 701, vS "parse_basic_str_escape" 702, vS "/claim/cut.py" 703, vI (93) 0, vI (2) 0, vI (0) 0, vI (1) 0, vI (3) 0, .ref 154, .bool true, vI (181) 0, .ref 155, .none, .ref 156, .ref 157, .ref 158, vI (709) 0, vI (93) 0, vS "/claim/cut.py" 710].toArray, [].toArray⟩
noncomputable def o160v0 (P : Params) : Obj := ⟨.type "function", none, .func (fnX (sO "parse_basic_str_escape") (sO "parse_basic_str_escape") (fd 28) 3 0 (.none) (.ref 153) (.none) (vS "cpy313.tomllib._parser" 606) none (.ref 159) (.none)), [].toArray⟩
noncomputable def t160v0 (P : Params) (z : Nat → Obj) : BT := .node (o160v0 P) .nil .nil
noncomputable def t159v0 (P : Params) (z : Nat → Obj) : BT := .node (o159v0 P) .nil .nil
noncomputable def t158v0 (P : Params) (z : Nat → Obj) : BT := .node (o158v0 P) .nil .nil
noncomputable def t157v0 (P : Params) (z : Nat → Obj) : BT := .node (o157v0 P) .nil .nil
noncomputable def t156v0 (P : Params) (z : Nat → Obj) : BT := .node (o156v0 P) .nil .nil
noncomputable def t155v0 (P : Params) (z : Nat → Obj) : BT := .node (o155v0 P) .nil .nil
noncomputable def t154v0 (P : Params) (z : Nat → Obj) : BT := .node (o154v0 P) .nil .nil
noncomputable def t153v0 (P : Params) (z : Nat → Obj) : BT := .node (o153v0 P) .nil .nil
noncomputable def t96v1 (P : Params) (z : Nat → Obj) : BT := .node (o96v0 P) (t160v0 P z) .nil
noncomputable def t95v2 (P : Params) (z : Nat → Obj) : BT := .node (z 95) (t159v0 P z) .nil
noncomputable def t94v2 (P : Params) (z : Nat → Obj) : BT := .node (z 94) (t158v0 P z) .nil
noncomputable def t93v2 (P : Params) (z : Nat → Obj) : BT := .node (z 93) (t157v0 P z) .nil
noncomputable def t92v2 (P : Params) (z : Nat → Obj) : BT := .node (o92v1 P) (t156v0 P z) .nil
noncomputable def t91v1 (P : Params) (z : Nat → Obj) : BT := .node (o91v0 P) (t155v0 P z) .nil
noncomputable def t90v3 (P : Params) (z : Nat → Obj) : BT := .node (z 90) (t154v0 P z) .nil
noncomputable def t89v3 (P : Params) (z : Nat → Obj) : BT := .node (z 89) (t153v0 P z) .nil
noncomputable def t62v5 (P : Params) (z : Nat → Obj) : BT := .node (o62v1 P) (t94v2 P z) (t126v0 P z)
noncomputable def t61v4 (P : Params) (z : Nat → Obj) : BT := .node (o61v0 P) (t93v2 P z) (t125v0 P z)
noncomputable def t60v5 (P : Params) (z : Nat → Obj) : BT := .node (o60v1 P) (t92v2 P z) (t124v0 P z)
noncomputable def t59v5 (P : Params) (z : Nat → Obj) : BT := .node (z 59) (t91v1 P z) (t123v0 P z)
noncomputable def t58v6 (P : Params) (z : Nat → Obj) : BT := .node (o58v1 P) (t90v3 P z) (t122v0 P z)
noncomputable def t57v5 (P : Params) (z : Nat → Obj) : BT := .node (o57v0 P) (t89v3 P z) (t121v0 P z)
noncomputable def t32v5 (P : Params) (z : Nat → Obj) : BT := .node (o32v0 P) (t64v2 P z) (t96v1 P z)
noncomputable def t31v7 (P : Params) (z : Nat → Obj) : BT := .node (o31v0 P) (t63v3 P z) (t95v2 P z)
noncomputable def t30v10 (P : Params) (z : Nat → Obj) : BT := .node (o30v0 P) (t46v4 P z) (t62v5 P z)
noncomputable def t29v8 (P : Params) (z : Nat → Obj) : BT := .node (o29v0 P) (t45v3 P z) (t61v4 P z)
noncomputable def t28v11 (P : Params) (z : Nat → Obj) : BT := .node (o28v0 P) (t44v5 P z) (t60v5 P z)
noncomputable def t27v11 (P : Params) (z : Nat → Obj) : BT := .node (o27v0 P) (t43v5 P z) (t59v5 P z)
noncomputable def t26v10 (P : Params) (z : Nat → Obj) : BT := .node (o26v0 P) (t42v4 P z) (t58v6 P z)
noncomputable def t25v10 (P : Params) (z : Nat → Obj) : BT := .node (o25v0 P) (t41v4 P z) (t57v5 P z)
noncomputable def t16v11 (P : Params) (z : Nat → Obj) : BT := .node (o16v0 P) (t32v5 P z) (t48v5 P z)
noncomputable def t15v12 (P : Params) (z : Nat → Obj) : BT := .node (o15v0 P) (t31v7 P z) (t47v4 P z)
noncomputable def t8v19 (P : Params) (z : Nat → Obj) : BT := .node (boot_o_8 P) (t16v11 P z) (t24v7 P z)
noncomputable def t0v45 (P : Params) (z : Nat → Obj) : BT := .node (boot_o_0 P) (.node (boot_o_1 P) (.node (d3 P (vS "cpy313.tomllib._parser" 606) 34 35) (.node (boot_o_7 P) (t15v12 P z) (t23v9 P z)) (.node (o11v0 P) (t19v11 P z) (t27v11 P z))) (.node (boot_o_5 P) (.node (boot_o_9 P) (t17v11 P z) (t25v10 P z)) (.node (o13v0 P) (t21v10 P z) (t29v8 P z)))) (.node (boot_o_2 P) (.node (boot_o_4 P) (t8v19 P z) (.node (f12 33) (t20v9 P z) (t28v11 P z))) (.node (boot_o_6 P) (.node (boot_o_10 P) (t18v8 P z) (t26v10 P z)) (.node (o14v0 P) (t22v10 P z) (t30v10 P z))))
noncomputable def S28 (w : World) (os : OsState) (z : Nat → Obj) : SharedT := ⟨t0v45 w.params z, 161, life0, [.finished].toArray, drawn0, 712, os⟩
noncomputable def o161v0 (P : Params) : Obj := ⟨.type "tuple", none, .seq [].toArray 0, [].toArray⟩
noncomputable def o162v0 (P : Params) : Obj := ⟨.none, none, .fields [].toArray, [].toArray⟩
noncomputable def o163v0 (P : Params) : Obj := ⟨.type "tuple", none, .seq [vS "src" 715, vS "pos" 716].toArray 0, [].toArray⟩
noncomputable def o164v0 (P : Params) : Obj := ⟨.type "tuple", none, .seq [].toArray 0, [].toArray⟩
noncomputable def o165v0 (P : Params) : Obj := ⟨.none, none, .func (fnX (sO "parse_basic_str_escape_multiline") (sO "parse_basic_str_escape_multiline") (fd 29) 0 0 (.none) (.none) (.none) (.none) none (.none) (.none)), [].toArray⟩
noncomputable def o166v0 (P : Params) : Obj := ⟨.type "code", none, .fields [vS "parse_basic_str_escape_multiline" 712, vS "parse_basic_str_escape_multiline" 713, vS "/claim/cut.py" 714, vI (116) 0, vI (2) 0, vI (0) 0, vI (0) 0, vI (3) 0, .ref 161, .bool true, vI (181) 0, .ref 162, .none, .ref 163, .ref 164, .ref 165, vI (717) 0, vI (116) 0, vS "/claim/cut.py" 718].toArray, [].toArray⟩
noncomputable def o167v0 (P : Params) : Obj := ⟨.type "function", none, .func (fnX (sO "parse_basic_str_escape_multiline") (sO "parse_basic_str_escape_multiline") (fd 29) 3 0 (.none) (.none) (.none) (vS "cpy313.tomllib._parser" 606) none (.ref 166) (.none)), [].toArray⟩
noncomputable def t167v0 (P : Params) (z : Nat → Obj) : BT := .node (o167v0 P) .nil .nil
noncomputable def t166v0 (P : Params) (z : Nat → Obj) : BT := .node (o166v0 P) .nil .nil
noncomputable def t165v0 (P : Params) (z : Nat → Obj) : BT := .node (o165v0 P) .nil .nil
noncomputable def t164v0 (P : Params) (z : Nat → Obj) : BT := .node (o164v0 P) .nil .nil
noncomputable def t163v0 (P : Params) (z : Nat → Obj) : BT := .node (o163v0 P) .nil .nil
noncomputable def t162v0 (P : Params) (z : Nat → Obj) : BT := .node (o162v0 P) .nil .nil
noncomputable def t161v0 (P : Params) (z : Nat → Obj) : BT := .node (o161v0 P) .nil .nil
noncomputable def t103v1 (P : Params) (z : Nat → Obj) : BT := .node (o103v0 P) (t167v0 P z) .nil
noncomputable def t102v1 (P : Params) (z : Nat → Obj) : BT := .node (o102v0 P) (t166v0 P z) .nil
noncomputable def t101v1 (P : Params) (z : Nat → Obj) : BT := .node (o101v0 P) (t165v0 P z) .nil
noncomputable def t100v1 (P : Params) (z : Nat → Obj) : BT := .node (o100v0 P) (t164v0 P z) .nil
noncomputable def t99v2 (P : Params) (z : Nat → Obj) : BT := .node (z 99) (t163v0 P z) .nil
noncomputable def t98v2 (P : Params) (z : Nat → Obj) : BT := .node (z 98) (t162v0 P z) .nil
noncomputable def t97v1 (P : Params) (z : Nat → Obj) : BT := .node (o97v0 P) (t161v0 P z) .nil
noncomputable def t39v6 (P : Params) (z : Nat → Obj) : BT := .node (o39v0 P) (t71v3 P z) (t103v1 P z)
noncomputable def t38v6 (P : Params) (z : Nat → Obj) : BT := .node (o38v0 P) (t70v3 P z) (t102v1 P z)
noncomputable def t37v5 (P : Params) (z : Nat → Obj) : BT := .node (o37v0 P) (t69v2 P z) (t101v1 P z)
noncomputable def t36v4 (P : Params) (z : Nat → Obj) : BT := .node (o36v0 P) (t68v1 P z) (t100v1 P z)
noncomputable def t35v6 (P : Params) (z : Nat → Obj) : BT := .node (o35v0 P) (t67v2 P z) (t99v2 P z)
noncomputable def t34v5 (P : Params) (z : Nat → Obj) : BT := .node (o34v0 P) (t66v1 P z) (t98v2 P z)
noncomputable def t33v6 (P : Params) (z : Nat → Obj) : BT := .node (o33v0 P) (t65v3 P z) (t97v1 P z)
noncomputable def t23v10 (P : Params) (z : Nat → Obj) : BT := .node (o23v0 P) (t39v6 P z) (t55v3 P z)
noncomputable def t22v11 (P : Params) (z : Nat → Obj) : BT := .node (o22v0 P) (t38v6 P z) (t54v4 P z)
noncomputable def t21v11 (P : Params) (z : Nat → Obj) : BT := .node (o21v0 P) (t37v5 P z) (t53v4 P z)
noncomputable def t20v10 (P : Params) (z : Nat → Obj) : BT := .node (o20v0 P) (t36v4 P z) (t52v4 P z)
noncomputable def t19v12 (P : Params) (z : Nat → Obj) : BT := .node (o19v0 P) (t35v6 P z) (t51v4 P z)
noncomputable def t18v9 (P : Params) (z : Nat → Obj) : BT := .node (o18v0 P) (t34v5 P z) (t50v3 P z)
noncomputable def t17v12 (P : Params) (z : Nat → Obj) : BT := .node (o17v0 P) (t33v6 P z) (t49v5 P z)
noncomputable def t7v21 (P : Params) (z : Nat → Obj) : BT := .node (boot_o_7 P) (t15v12 P z) (t23v10 P z)
noncomputable def t0v46 (P : Params) (z : Nat → Obj) : BT := .node (boot_o_0 P) (.node (boot_o_1 P) (.node (d3 P (vS "cpy313.tomllib._parser" 606) 35 36) (t7v21 P z) (.node (o11v0 P) (t19v12 P z) (t27v11 P z))) (.node (boot_o_5 P) (.node (boot_o_9 P) (t17v12 P z) (t25v10 P z)) (.node (o13v0 P) (t21v11 P z) (t29v8 P z)))) (.node (boot_o_2 P) (.node (boot_o_4 P) (t8v19 P z) (.node (f12 36) (t20v10 P z) (t28v11 P z))) (.node (boot_o_6 P) (.node (boot_o_10 P) (t18v9 P z) (t26v10 P z)) (.node (o14v0 P) (t22v11 P z) (t30v10 P z))))
noncomputable def S29 (w : World) (os : OsState) (z : Nat → Obj) : SharedT := ⟨t0v46 w.params z, 168, life0, [.finished].toArray, drawn0, 720, os⟩
noncomputable def o168v0 (P : Params) : Obj := ⟨.type "tuple", none, .seq [].toArray 0, [].toArray⟩
noncomputable def o169v0 (P : Params) : Obj := ⟨.none, none, .fields [].toArray, [].toArray⟩
noncomputable def o170v0 (P : Params) : Obj := ⟨.type "tuple", none, .seq [vS "src" 723, vS "pos" 724, vS "hex_len" 725, vS "hex_str" 726, vS "hex_int" 727].toArray 0, [].toArray⟩
noncomputable def o171v0 (P : Params) : Obj := ⟨.type "tuple", none, .seq [].toArray 0, [].toArray⟩
noncomputable def o172v0 (P : Params) : Obj := ⟨.none, none, .func (fnX (sO "parse_hex_char") (sO "parse_hex_char") (fd 30) 0 0 (.none) (.none) (.none) (.none) none (.none) (.none)), [].toArray⟩
noncomputable def o173v0 (P : Params) : Obj := ⟨.type "code", none, .fields [vS "parse_hex_char" 720, vS "parse_hex_char" 721, vS "/claim/cut.py" 722, vI (118) 0, vI (3) 0, vI (0) 0, vI (0) 0, vI (3) 0, .ref 168, .bool true, vI (181) 0, .ref 169, .none, .ref 170, .ref 171, .ref 172, vI (728) 0, vI (118) 0, vS "/claim/cut.py" 729].toArray, [].toArray⟩
noncomputable def o174v0 (P : Params) : Obj := ⟨.type "function", none, .func (fnX (sO "parse_hex_char") (sO "parse_hex_char") (fd 30) 3 0 (.none) (.none) (.none) (vS "cpy313.tomllib._parser" 606) none (.ref 173) (.none)), [].toArray⟩
noncomputable def t174v0 (P : Params) (z : Nat → Obj) : BT := .node (o174v0 P) .nil .nil
noncomputable def t173v0 (P : Params) (z : Nat → Obj) : BT := .node (o173v0 P) .nil .nil
noncomputable def t172v0 (P : Params) (z : Nat → Obj) : BT := .node (o172v0 P) .nil .nil
noncomputable def t171v0 (P : Params) (z : Nat → Obj) : BT := .node (o171v0 P) .nil .nil
noncomputable def t170v0 (P : Params) (z : Nat → Obj) : BT := .node (o170v0 P) .nil .nil
noncomputable def t169v0 (P : Params) (z : Nat → Obj) : BT := .node (o169v0 P) .nil .nil
noncomputable def t168v0 (P : Params) (z : Nat → Obj) : BT := .node (o168v0 P) .nil .nil
noncomputable def t110v1 (P : Params) (z : Nat → Obj) : BT := .node (o110v0 P) (t174v0 P z) .nil
noncomputable def t109v1 (P : Params) (z : Nat → Obj) : BT := .node (o109v0 P) (t173v0 P z) .nil
noncomputable def t108v1 (P : Params) (z : Nat → Obj) : BT := .node (o108v0 P) (t172v0 P z) .nil
noncomputable def t107v1 (P : Params) (z : Nat → Obj) : BT := .node (o107v0 P) (t171v0 P z) .nil
noncomputable def t106v1 (P : Params) (z : Nat → Obj) : BT := .node (o106v0 P) (t170v0 P z) .nil
noncomputable def t105v1 (P : Params) (z : Nat → Obj) : BT := .node (o105v0 P) (t169v0 P z) .nil
noncomputable def t104v1 (P : Params) (z : Nat → Obj) : BT := .node (o104v0 P) (t168v0 P z) .nil
noncomputable def t46v5 (P : Params) (z : Nat → Obj) : BT := .node (o46v0 P) (t78v2 P z) (t110v1 P z)
noncomputable def t45v4 (P : Params) (z : Nat → Obj) : BT := .node (o45v0 P) (t77v1 P z) (t109v1 P z)
noncomputable def t44v6 (P : Params) (z : Nat → Obj) : BT := .node (o44v0 P) (t76v3 P z) (t108v1 P z)
noncomputable def t43v6 (P : Params) (z : Nat → Obj) : BT := .node (o43v0 P) (t75v3 P z) (t107v1 P z)
noncomputable def t42v5 (P : Params) (z : Nat → Obj) : BT := .node (o42v0 P) (t74v2 P z) (t106v1 P z)
noncomputable def t41v5 (P : Params) (z : Nat → Obj) : BT := .node (o41v0 P) (t73v2 P z) (t105v1 P z)
noncomputable def t40v4 (P : Params) (z : Nat → Obj) : BT := .node (o40v0 P) (t72v1 P z) (t104v1 P z)
noncomputable def t30v11 (P : Params) (z : Nat → Obj) : BT := .node (o30v0 P) (t46v5 P z) (t62v5 P z)
noncomputable def t29v9 (P : Params) (z : Nat → Obj) : BT := .node (o29v0 P) (t45v4 P z) (t61v4 P z)
noncomputable def t28v12 (P : Params) (z : Nat → Obj) : BT := .node (o28v0 P) (t44v6 P z) (t60v5 P z)
noncomputable def t27v12 (P : Params) (z : Nat → Obj) : BT := .node (o27v0 P) (t43v6 P z) (t59v5 P z)
noncomputable def t26v11 (P : Params) (z : Nat → Obj) : BT := .node (o26v0 P) (t42v5 P z) (t58v6 P z)
noncomputable def t25v11 (P : Params) (z : Nat → Obj) : BT := .node (o25v0 P) (t41v5 P z) (t57v5 P z)
noncomputable def t24v8 (P : Params) (z : Nat → Obj) : BT := .node (o24v0 P) (t40v4 P z) (t56v3 P z)
noncomputable def t14v22 (P : Params) (z : Nat → Obj) : BT := .node (o14v0 P) (t22v11 P z) (t30v11 P z)
noncomputable def t0v47 (P : Params) (z : Nat → Obj) : BT := .node (boot_o_0 P) (.node (boot_o_1 P) (.node (d3 P (vS "cpy313.tomllib._parser" 606) 36 37) (t7v21 P z) (.node (o11v0 P) (t19v12 P z) (t27v12 P z))) (.node (boot_o_5 P) (.node (boot_o_9 P) (t17v12 P z) (t25v11 P z)) (.node (o13v0 P) (t21v11 P z) (t29v9 P z)))) (.node (boot_o_2 P) (.node (boot_o_4 P) (.node (boot_o_8 P) (t16v11 P z) (t24v8 P z)) (.node (f12 39) (t20v10 P z) (t28v12 P z))) (.node (boot_o_6 P) (.node (boot_o_10 P) (t18v9 P z) (t26v11 P z)) (t14v22 P z)))
noncomputable def S30 (w : World) (os : OsState) (z : Nat → Obj) : SharedT := ⟨t0v47 w.params z, 175, life0, [.finished].toArray, drawn0, 731, os⟩
noncomputable def o175v0 (P : Params) : Obj := ⟨.type "tuple", none, .seq [].toArray 0, [].toArray⟩
noncomputable def o176v0 (P : Params) : Obj := ⟨.none, none, .fields [].toArray, [].toArray⟩
noncomputable def o177v0 (P : Params) : Obj := ⟨.type "tuple", none, .seq [vS "src" 734, vS "pos" 735, vS "start_pos" 736].toArray 0, [].toArray⟩
noncomputable def o178v0 (P : Params) : Obj := ⟨.type "tuple", none, .seq [].toArray 0, [].toArray⟩
noncomputable def o179v0 (P : Params) : Obj := ⟨.none, none, .func (fnX (sO "parse_literal_str") (sO "parse_literal_str") (fd 31) 0 0 (.none) (.none) (.none) (.none) none (.none) (.none)), [].toArray⟩
noncomputable def o180v0 (P : Params) : Obj := ⟨.type "code", none, .fields [vS "parse_literal_str" 731, vS "parse_literal_str" 732, vS "/claim/cut.py" 733, vI (127) 0, vI (2) 0, vI (0) 0, vI (0) 0, vI (3) 0, .ref 175, .bool true, vI (181) 0, .ref 176, .none, .ref 177, .ref 178, .ref 179, vI (737) 0, vI (127) 0, vS "/claim/cut.py" 738].toArray, [].toArray⟩
noncomputable def o181v0 (P : Params) : Obj := ⟨.type "function", none, .func (fnX (sO "parse_literal_str") (sO "parse_literal_str") (fd 31) 3 0 (.none) (.none) (.none) (vS "cpy313.tomllib._parser" 606) none (.ref 180) (.none)), [].toArray⟩
noncomputable def t181v0 (P : Params) (z : Nat → Obj) : BT := .node (o181v0 P) .nil .nil
noncomputable def t180v0 (P : Params) (z : Nat → Obj) : BT := .node (o180v0 P) .nil .nil
noncomputable def t179v0 (P : Params) (z : Nat → Obj) : BT := .node (o179v0 P) .nil .nil
noncomputable def t178v0 (P : Params) (z : Nat → Obj) : BT := .node (o178v0 P) .nil .nil
noncomputable def t177v0 (P : Params) (z : Nat → Obj) : BT := .node (o177v0 P) .nil .nil
noncomputable def t176v0 (P : Params) (z : Nat → Obj) : BT := .node (o176v0 P) .nil .nil
noncomputable def t175v0 (P : Params) (z : Nat → Obj) : BT := .node (o175v0 P) .nil .nil
noncomputable def t117v1 (P : Params) (z : Nat → Obj) : BT := .node (o117v0 P) (t181v0 P z) .nil
noncomputable def t116v1 (P : Params) (z : Nat → Obj) : BT := .node (o116v0 P) (t180v0 P z) .nil
noncomputable def t115v1 (P : Params) (z : Nat → Obj) : BT := .node (o115v0 P) (t179v0 P z) .nil
noncomputable def t114v1 (P : Params) (z : Nat → Obj) : BT := .node (o114v0 P) (t178v0 P z) .nil
noncomputable def t113v1 (P : Params) (z : Nat → Obj) : BT := .node (o113v0 P) (t177v0 P z) .nil
noncomputable def t112v1 (P : Params) (z : Nat → Obj) : BT := .node (o112v0 P) (t176v0 P z) .nil
noncomputable def t111v1 (P : Params) (z : Nat → Obj) : BT := .node (o111v0 P) (t175v0 P z) .nil
noncomputable def t53v5 (P : Params) (z : Nat → Obj) : BT := .node (o53v0 P) (t85v2 P z) (t117v1 P z)
noncomputable def t52v5 (P : Params) (z : Nat → Obj) : BT := .node (o52v0 P) (t84v2 P z) (t116v1 P z)
noncomputable def t51v5 (P : Params) (z : Nat → Obj) : BT := .node (o51v0 P) (t83v2 P z) (t115v1 P z)
noncomputable def t50v4 (P : Params) (z : Nat → Obj) : BT := .node (o50v0 P) (t82v1 P z) (t114v1 P z)
noncomputable def t49v6 (P : Params) (z : Nat → Obj) : BT := .node (o49v0 P) (t81v3 P z) (t113v1 P z)
noncomputable def t48v6 (P : Params) (z : Nat → Obj) : BT := .node (o48v0 P) (t80v3 P z) (t112v1 P z)
noncomputable def t47v5 (P : Params) (z : Nat → Obj) : BT := .node (o47v0 P) (t79v2 P z) (t111v1 P z)
noncomputable def t21v12 (P : Params) (z : Nat → Obj) : BT := .node (o21v0 P) (t37v5 P z) (t53v5 P z)
noncomputable def t20v11 (P : Params) (z : Nat → Obj) : BT := .node (o20v0 P) (t36v4 P z) (t52v5 P z)
noncomputable def t19v13 (P : Params) (z : Nat → Obj) : BT := .node (o19v0 P) (t35v6 P z) (t51v5 P z)
noncomputable def t18v10 (P : Params) (z : Nat → Obj) : BT := .node (o18v0 P) (t34v5 P z) (t50v4 P z)
noncomputable def t17v13 (P : Params) (z : Nat → Obj) : BT := .node (o17v0 P) (t33v6 P z) (t49v6 P z)
noncomputable def t16v12 (P : Params) (z : Nat → Obj) : BT := .node (o16v0 P) (t32v5 P z) (t48v6 P z)
noncomputable def t15v13 (P : Params) (z : Nat → Obj) : BT := .node (o15v0 P) (t31v7 P z) (t47v5 P z)
noncomputable def t13v21 (P : Params) (z : Nat → Obj) : BT := .node (o13v0 P) (t21v12 P z) (t29v9 P z)
noncomputable def t0v48 (P : Params) (z : Nat → Obj) : BT := .node (boot_o_0 P) (.node (boot_o_1 P) (.node (d3 P (vS "cpy313.tomllib._parser" 606) 37 38) (.node (boot_o_7 P) (t15v13 P z) (t23v10 P z)) (.node (o11v0 P) (t19v13 P z) (t27v12 P z))) (.node (boot_o_5 P) (.node (boot_o_9 P) (t17v13 P z) (t25v11 P z)) (t13v21 P z))) (.node (boot_o_2 P) (.node (boot_o_4 P) (.node (boot_o_8 P) (t16v12 P z) (t24v8 P z)) (.node (f12 42) (t20v11 P z) (t28v12 P z))) (.node (boot_o_6 P) (.node (boot_o_10 P) (t18v10 P z) (t26v11 P z)) (t14v22 P z)))
noncomputable def S31 (w : World) (os : OsState) (z : Nat → Obj) : SharedT := ⟨t0v48 w.params z, 182, life0, [.finished].toArray, drawn0, 740, os⟩
noncomputable def o182v0 (P : Params) : Obj := ⟨.type "tuple", none, .seq [].toArray 0, [].toArray⟩
noncomputable def o183v0 (P : Params) : Obj := ⟨.none, none, .fields [].toArray, [].toArray⟩
noncomputable def o184v0 (P : Params) : Obj := ⟨.type "tuple", none, .seq [vS "src" 743, vS "pos" 744, vS "multiline" 745, vS "error_on" 746, vS "parse_escapes" 747, vS "result" 748, vS "start_pos" 749, vS "char" 750, vS "parsed_escape" 751].toArray 0, [].toArray⟩
noncomputable def o185v0 (P : Params) : Obj := ⟨.type "tuple", none, .seq [].toArray 0, [].toArray⟩
noncomputable def o186v0 (P : Params) : Obj := ⟨.none, none, .func (fnX (sO "parse_basic_str") (sO "parse_basic_str") (fd 32) 0 0 (.none) (.none) (.none) (.none) none (.none) (.none)), [].toArray⟩
noncomputable def o187v0 (P : Params) : Obj := ⟨.type "code", none, .fields [vS "parse_basic_str" 740, vS "parse_basic_str" 741, vS "/claim/cut.py" 742, vI (132) 0, vI (2) 0, vI (0) 0, vI (1) 0, vI (3) 0, .ref 182, .bool true, vI (181) 0, .ref 183, .none, .ref 184, .ref 185, .ref 186, vI (752) 0, vI (132) 0, vS "/claim/cut.py" 753].toArray, [].toArray⟩
noncomputable def o188v0 (P : Params) : Obj := ⟨.type "function", none, .func (fnX (sO "parse_basic_str") (sO "parse_basic_str") (fd 32) 3 0 (.none) (.none) (.none) (vS "cpy313.tomllib._parser" 606) none (.ref 187) (.none)), [].toArray⟩
noncomputable def t188v0 (P : Params) (z : Nat → Obj) : BT := .node (o188v0 P) .nil .nil
noncomputable def t187v0 (P : Params) (z : Nat → Obj) : BT := .node (o187v0 P) .nil .nil
noncomputable def t186v0 (P : Params) (z : Nat → Obj) : BT := .node (o186v0 P) .nil .nil
noncomputable def t185v0 (P : Params) (z : Nat → Obj) : BT := .node (o185v0 P) .nil .nil
noncomputable def t184v0 (P : Params) (z : Nat → Obj) : BT := .node (o184v0 P) .nil .nil
noncomputable def t183v0 (P : Params) (z : Nat → Obj) : BT := .node (o183v0 P) .nil .nil
noncomputable def t182v0 (P : Params) (z : Nat → Obj) : BT := .node (o182v0 P) .nil .nil
noncomputable def t124v1 (P : Params) (z : Nat → Obj) : BT := .node (o124v0 P) (t188v0 P z) .nil
noncomputable def t123v1 (P : Params) (z : Nat → Obj) : BT := .node (o123v0 P) (t187v0 P z) .nil
noncomputable def t122v1 (P : Params) (z : Nat → Obj) : BT := .node (o122v0 P) (t186v0 P z) .nil
noncomputable def t121v1 (P : Params) (z : Nat → Obj) : BT := .node (o121v0 P) (t185v0 P z) .nil
noncomputable def t120v1 (P : Params) (z : Nat → Obj) : BT := .node (o120v0 P) (t184v0 P z) .nil
noncomputable def t119v1 (P : Params) (z : Nat → Obj) : BT := .node (o119v0 P) (t183v0 P z) .nil
noncomputable def t118v1 (P : Params) (z : Nat → Obj) : BT := .node (o118v0 P) (t182v0 P z) .nil
noncomputable def t60v6 (P : Params) (z : Nat → Obj) : BT := .node (o60v1 P) (t92v2 P z) (t124v1 P z)
noncomputable def t59v6 (P : Params) (z : Nat → Obj) : BT := .node (z 59) (t91v1 P z) (t123v1 P z)
noncomputable def t58v7 (P : Params) (z : Nat → Obj) : BT := .node (o58v1 P) (t90v3 P z) (t122v1 P z)
noncomputable def t57v6 (P : Params) (z : Nat → Obj) : BT := .node (o57v0 P) (t89v3 P z) (t121v1 P z)
noncomputable def t56v4 (P : Params) (z : Nat → Obj) : BT := .node (o56v0 P) (t88v1 P z) (t120v1 P z)
noncomputable def t55v4 (P : Params) (z : Nat → Obj) : BT := .node (o55v0 P) (t87v1 P z) (t119v1 P z)
noncomputable def t54v5 (P : Params) (z : Nat → Obj) : BT := .node (o54v0 P) (t86v2 P z) (t118v1 P z)
noncomputable def t28v13 (P : Params) (z : Nat → Obj) : BT := .node (o28v0 P) (t44v6 P z) (t60v6 P z)
noncomputable def t27v13 (P : Params) (z : Nat → Obj) : BT := .node (o27v0 P) (t43v6 P z) (t59v6 P z)
noncomputable def t26v12 (P : Params) (z : Nat → Obj) : BT := .node (o26v0 P) (t42v5 P z) (t58v7 P z)
noncomputable def t25v12 (P : Params) (z : Nat → Obj) : BT := .node (o25v0 P) (t41v5 P z) (t57v6 P z)
noncomputable def t24v9 (P : Params) (z : Nat → Obj) : BT := .node (o24v0 P) (t40v4 P z) (t56v4 P z)
noncomputable def t23v11 (P : Params) (z : Nat → Obj) : BT := .node (o23v0 P) (t39v6 P z) (t55v4 P z)
noncomputable def t22v12 (P : Params) (z : Nat → Obj) : BT := .node (o22v0 P) (t38v6 P z) (t54v5 P z)
noncomputable def t0v49 (P : Params) (z : Nat → Obj) : BT := .node (boot_o_0 P) (.node (boot_o_1 P) (.node (d3 P (vS "cpy313.tomllib._parser" 606) 38 39) (.node (boot_o_7 P) (t15v13 P z) (t23v11 P z)) (.node (o11v0 P) (t19v13 P z) (t27v13 P z))) (.node (boot_o_5 P) (.node (boot_o_9 P) (t17v13 P z) (t25v12 P z)) (t13v21 P z))) (.node (boot_o_2 P) (.node (boot_o_4 P) (.node (boot_o_8 P) (t16v12 P z) (t24v9 P z)) (.node (f12 45) (t20v11 P z) (t28v13 P z))) (.node (boot_o_6 P) (.node (boot_o_10 P) (t18v10 P z) (t26v12 P z)) (.node (o14v0 P) (t22v12 P z) (t30v11 P z))))
noncomputable def S32 (w : World) (os : OsState) (z : Nat → Obj) : SharedT := ⟨t0v49 w.params z, 189, life0, [.finished].toArray, drawn0, 755, os⟩
noncomputable def o189v0 (P : Params) : Obj := ⟨.type "tuple", none, .seq [].toArray 0, [].toArray⟩
noncomputable def o190v0 (P : Params) : Obj := ⟨.none, none, .fields [].toArray, [].toArray⟩
noncomputable def o191v0 (P : Params) : Obj := ⟨.type "tuple", none, .seq [vS "src" 758, vS "pos" 759, vS "msg" 760, vS "coord_repr" 761].toArray 0, [].toArray⟩
noncomputable def o192v0 (P : Params) : Obj := ⟨.type "tuple", none, .seq [].toArray 0, [].toArray⟩
noncomputable def o193v0 (P : Params) : Obj := ⟨.none, none, .func (fnX (sO "suffixed_err") (sO "suffixed_err") (fd 33) 0 0 (.none) (.none) (.none) (.none) none (.none) (.none)), [].toArray⟩
noncomputable def o194v0 (P : Params) : Obj := ⟨.type "code", none, .fields [vS "suffixed_err" 755, vS "suffixed_err" 756, vS "/claim/cut.py" 757, vI (162) 0, vI (3) 0, vI (0) 0, vI (0) 0, vI (3) 0, .ref 189, .bool true, vI (181) 0, .ref 190, .none, .ref 191, .ref 192, .ref 193, vI (762) 0, vI (162) 0, vS "/claim/cut.py" 763].toArray, [].toArray⟩
noncomputable def o195v0 (P : Params) : Obj := ⟨.type "function", none, .func (fnX (sO "suffixed_err") (sO "suffixed_err") (fd 33) 3 0 (.none) (.none) (.str (dc 33) 764) (vS "cpy313.tomllib._parser" 606) none (.ref 194) (.none)), [].toArray⟩
noncomputable def t195v0 (P : Params) (z : Nat → Obj) : BT := .node (o195v0 P) .nil .nil
noncomputable def t194v0 (P : Params) (z : Nat → Obj) : BT := .node (o194v0 P) .nil .nil
noncomputable def t193v0 (P : Params) (z : Nat → Obj) : BT := .node (o193v0 P) .nil .nil
noncomputable def t192v0 (P : Params) (z : Nat → Obj) : BT := .node (o192v0 P) .nil .nil
noncomputable def t191v0 (P : Params) (z : Nat → Obj) : BT := .node (o191v0 P) .nil .nil
noncomputable def t190v0 (P : Params) (z : Nat → Obj) : BT := .node (o190v0 P) .nil .nil
noncomputable def t189v0 (P : Params) (z : Nat → Obj) : BT := .node (o189v0 P) .nil .nil
noncomputable def t126v1 (P : Params) (z : Nat → Obj) : BT := .node (o126v0 P) (t190v0 P z) .nil
noncomputable def t125v1 (P : Params) (z : Nat → Obj) : BT := .node (o125v0 P) (t189v0 P z) .nil
noncomputable def t67v3 (P : Params) (z : Nat → Obj) : BT := .node (o67v1 P) (t131v0 P z) (t195v0 P z)
noncomputable def t66v2 (P : Params) (z : Nat → Obj) : BT := .node (o66v0 P) (t130v0 P z) (t194v0 P z)
noncomputable def t65v4 (P : Params) (z : Nat → Obj) : BT := .node (z 65) (t129v0 P z) (t193v0 P z)
noncomputable def t64v3 (P : Params) (z : Nat → Obj) : BT := .node (o64v1 P) (t128v0 P z) (t192v0 P z)
noncomputable def t63v4 (P : Params) (z : Nat → Obj) : BT := .node (z 63) (t127v0 P z) (t191v0 P z)
noncomputable def t62v6 (P : Params) (z : Nat → Obj) : BT := .node (o62v1 P) (t94v2 P z) (t126v1 P z)
noncomputable def t61v5 (P : Params) (z : Nat → Obj) : BT := .node (o61v0 P) (t93v2 P z) (t125v1 P z)
noncomputable def t33v7 (P : Params) (z : Nat → Obj) : BT := .node (o33v0 P) (t65v4 P z) (t97v1 P z)
noncomputable def t32v6 (P : Params) (z : Nat → Obj) : BT := .node (o32v0 P) (t64v3 P z) (t96v1 P z)
noncomputable def t31v8 (P : Params) (z : Nat → Obj) : BT := .node (o31v0 P) (t63v4 P z) (t95v2 P z)
noncomputable def t30v12 (P : Params) (z : Nat → Obj) : BT := .node (o30v0 P) (t46v5 P z) (t62v6 P z)
noncomputable def t29v10 (P : Params) (z : Nat → Obj) : BT := .node (o29v0 P) (t45v4 P z) (t61v5 P z)
noncomputable def t19v14 (P : Params) (z : Nat → Obj) : BT := .node (o19v0 P) (.node (o35v0 P) (t67v3 P z) (t99v2 P z)) (t51v5 P z)
noncomputable def t18v11 (P : Params) (z : Nat → Obj) : BT := .node (o18v0 P) (.node (o34v0 P) (t66v2 P z) (t98v2 P z)) (t50v4 P z)
noncomputable def t17v14 (P : Params) (z : Nat → Obj) : BT := .node (o17v0 P) (t33v7 P z) (t49v6 P z)
noncomputable def t16v13 (P : Params) (z : Nat → Obj) : BT := .node (o16v0 P) (t32v6 P z) (t48v6 P z)
noncomputable def t15v14 (P : Params) (z : Nat → Obj) : BT := .node (o15v0 P) (t31v8 P z) (t47v5 P z)
noncomputable def t11v25 (P : Params) (z : Nat → Obj) : BT := .node (o11v0 P) (t19v14 P z) (t27v13 P z)
noncomputable def t0v50 (P : Params) (z : Nat → Obj) : BT := .node (boot_o_0 P) (.node (boot_o_1 P) (.node (d3 P (vS "cpy313.tomllib._parser" 606) 39 40) (.node (boot_o_7 P) (t15v14 P z) (t23v11 P z)) (t11v25 P z)) (.node (boot_o_5 P) (.node (boot_o_9 P) (t17v14 P z) (t25v12 P z)) (.node (o13v0 P) (t21v12 P z) (t29v10 P z)))) (.node (boot_o_2 P) (.node (boot_o_4 P) (.node (boot_o_8 P) (t16v13 P z) (t24v9 P z)) (.node (f12 48) (t20v11 P z) (t28v13 P z))) (.node (boot_o_6 P) (.node (boot_o_10 P) (t18v11 P z) (t26v12 P z)) (.node (o14v0 P) (t22v12 P z) (t30v12 P z))))
noncomputable def S33 (w : World) (os : OsState) (z : Nat → Obj) : SharedT := ⟨t0v50 w.params z, 196, life0, [.finished].toArray, drawn0, 766, os⟩
noncomputable def o196v0 (P : Params) : Obj := ⟨.type "tuple", none, .seq [].toArray 0, [].toArray⟩
noncomputable def o197v0 (P : Params) : Obj := ⟨.none, none, .fields [].toArray, [].toArray⟩
noncomputable def o198v0 (P : Params) : Obj := ⟨.type "tuple", none, .seq [vS "codepoint" 769].toArray 0, [].toArray⟩
noncomputable def o199v0 (P : Params) : Obj := ⟨.type "tuple", none, .seq [].toArray 0, [].toArray⟩
noncomputable def o200v0 (P : Params) : Obj := ⟨.none, none, .func (fnX (sO "is_unicode_scalar_value") (sO "is_unicode_scalar_value") (fd 34) 0 0 (.none) (.none) (.none) (.none) none (.none) (.none)), [].toArray⟩
noncomputable def o201v0 (P : Params) : Obj := ⟨.type "code", none, .fields [vS "is_unicode_scalar_value" 766, vS "is_unicode_scalar_value" 767, vS "/claim/cut.py" 768, vI (176) 0, vI (1) 0, vI (0) 0, vI (0) 0, vI (3) 0, .ref 196, .bool true, vI (181) 0, .ref 197, .none, .ref 198, .ref 199, .ref 200, vI (770) 0, vI (176) 0, vS "/claim/cut.py" 771].toArray, [].toArray⟩
noncomputable def o202v0 (P : Params) : Obj := ⟨.type "function", none, .func (fnX (sO "is_unicode_scalar_value") (sO "is_unicode_scalar_value") (fd 34) 3 0 (.none) (.none) (.none) (vS "cpy313.tomllib._parser" 606) none (.ref 201) (.none)), [].toArray⟩
noncomputable def t202v0 (P : Params) (z : Nat → Obj) : BT := .node (o202v0 P) .nil .nil
noncomputable def t201v0 (P : Params) (z : Nat → Obj) : BT := .node (o201v0 P) .nil .nil
noncomputable def t200v0 (P : Params) (z : Nat → Obj) : BT := .node (o200v0 P) .nil .nil
noncomputable def t199v0 (P : Params) (z : Nat → Obj) : BT := .node (o199v0 P) .nil .nil
noncomputable def t198v0 (P : Params) (z : Nat → Obj) : BT := .node (o198v0 P) .nil .nil
noncomputable def t197v0 (P : Params) (z : Nat → Obj) : BT := .node (o197v0 P) .nil .nil
noncomputable def t196v0 (P : Params) (z : Nat → Obj) : BT := .node (o196v0 P) .nil .nil
noncomputable def t74v3 (P : Params) (z : Nat → Obj) : BT := .node (z 74) (t138v0 P z) (t202v0 P z)
noncomputable def t73v3 (P : Params) (z : Nat → Obj) : BT := .node (o73v1 P) (t137v0 P z) (t201v0 P z)
noncomputable def t72v2 (P : Params) (z : Nat → Obj) : BT := .node (o72v0 P) (t136v0 P z) (t200v0 P z)
noncomputable def t71v4 (P : Params) (z : Nat → Obj) : BT := .node (z 71) (t135v0 P z) (t199v0 P z)
noncomputable def t70v4 (P : Params) (z : Nat → Obj) : BT := .node (z 70) (t134v0 P z) (t198v0 P z)
noncomputable def t68v2 (P : Params) (z : Nat → Obj) : BT := .node (o68v0 P) (t132v0 P z) (t196v0 P z)
noncomputable def t42v6 (P : Params) (z : Nat → Obj) : BT := .node (o42v0 P) (t74v3 P z) (t106v1 P z)
noncomputable def t41v6 (P : Params) (z : Nat → Obj) : BT := .node (o41v0 P) (t73v3 P z) (t105v1 P z)
noncomputable def t40v5 (P : Params) (z : Nat → Obj) : BT := .node (o40v0 P) (t72v2 P z) (t104v1 P z)
noncomputable def t39v7 (P : Params) (z : Nat → Obj) : BT := .node (o39v0 P) (t71v4 P z) (t103v1 P z)
noncomputable def t38v7 (P : Params) (z : Nat → Obj) : BT := .node (o38v0 P) (t70v4 P z) (t102v1 P z)
noncomputable def t37v6 (P : Params) (z : Nat → Obj) : BT := .node (o37v0 P) (.node (o69v1 P) (t133v0 P z) (t197v0 P z)) (t101v1 P z)
noncomputable def t25v13 (P : Params) (z : Nat → Obj) : BT := .node (o25v0 P) (t41v6 P z) (t57v6 P z)
noncomputable def t24v10 (P : Params) (z : Nat → Obj) : BT := .node (o24v0 P) (t40v5 P z) (t56v4 P z)
noncomputable def t23v12 (P : Params) (z : Nat → Obj) : BT := .node (o23v0 P) (t39v7 P z) (t55v4 P z)
noncomputable def t22v13 (P : Params) (z : Nat → Obj) : BT := .node (o22v0 P) (t38v7 P z) (t54v5 P z)
noncomputable def t21v13 (P : Params) (z : Nat → Obj) : BT := .node (o21v0 P) (t37v6 P z) (t53v5 P z)
noncomputable def t20v12 (P : Params) (z : Nat → Obj) : BT := .node (o20v0 P) (.node (o36v0 P) (t68v2 P z) (t100v1 P z)) (t52v5 P z)
noncomputable def t10v24 (P : Params) (z : Nat → Obj) : BT := .node (boot_o_10 P) (t18v11 P z) (.node (o26v0 P) (t42v6 P z) (t58v7 P z))
noncomputable def t7v25 (P : Params) (z : Nat → Obj) : BT := .node (boot_o_7 P) (t15v14 P z) (t23v12 P z)
noncomputable def t5v32 (P : Params) (z : Nat → Obj) : BT := .node (boot_o_5 P) (.node (boot_o_9 P) (t17v14 P z) (t25v13 P z)) (.node (o13v0 P) (t21v13 P z) (t29v10 P z))
noncomputable def t2v39 (P : Params) (z : Nat → Obj) : BT := .node (boot_o_2 P) (.node (boot_o_4 P) (.node (boot_o_8 P) (t16v13 P z) (t24v10 P z)) (.node (f12 51) (t20v12 P z) (t28v13 P z))) (.node (boot_o_6 P) (t10v24 P z) (.node (o14v0 P) (t22v13 P z) (t30v12 P z)))
noncomputable def t0v51 (P : Params) (z : Nat → Obj) : BT := .node (boot_o_0 P) (.node (boot_o_1 P) (.node (d3 P (vS "cpy313.tomllib._parser" 606) 40 41) (t7v25 P z) (t11v25 P z)) (t5v32 P z)) (t2v39 P z)
noncomputable def S34 (w : World) (os : OsState) (z : Nat → Obj) : SharedT := ⟨t0v51 w.params z, 203, life0, [.finished].toArray, drawn0, 773, os⟩
noncomputable def t0v52 (P : Params) (z : Nat → Obj) : BT := .node (boot_o_0 P) (.node (boot_o_1 P) (.node (d3 P (vS "os" 773) 40 41) (t7v25 P z) (t11v25 P z)) (t5v32 P z)) (t2v39 P z)
noncomputable def S35 (w : World) (os : OsState) (z : Nat → Obj) : SharedT := ⟨t0v52 w.params z, 203, life0, [.finished].toArray, drawn0, 775, os⟩
noncomputable def o203v0 (P : Params) : Obj := ⟨.type "tuple", none, .seq [].toArray 0, [].toArray⟩
noncomputable def o204v0 (P : Params) : Obj := ⟨.none, none, .fields [].toArray, [].toArray⟩
noncomputable def o205v0 (P : Params) : Obj := ⟨.type "tuple", none, .seq [vS "x" 778, vS "what" 779, vS "kind" 780].toArray 0, [].toArray⟩
noncomputable def o206v0 (P : Params) : Obj := ⟨.type "tuple", none, .seq [].toArray 0, [].toArray⟩
noncomputable def o207v0 (P : Params) : Obj := ⟨.none, none, .func (fnX (sO "_plain_name") (sO "_plain_name") (fd 36) 0 0 (.none) (.none) (.none) (.none) none (.none) (.none)), [].toArray⟩
noncomputable def o208v0 (P : Params) : Obj := ⟨.type "code", none, .fields [vS "_plain_name" 775, vS "_plain_name" 776, vS "/claim/cut.py" 777, vI (179) 0, vI (2) 0, vI (0) 0, vI (0) 0, vI (3) 0, .ref 203, .bool true, vI (181) 0, .ref 204, .none, .ref 205, .ref 206, .ref 207, vI (781) 0, vI (179) 0, vS "/claim/cut.py" 782].toArray, [].toArray⟩
noncomputable def o209v0 (P : Params) : Obj := ⟨.type "function", none, .func (fnX (sO "_plain_name") (sO "_plain_name") (fd 36) 3 0 (.none) (.none) (.none) (vS "os" 773) none (.ref 208) (.none)), [].toArray⟩
noncomputable def t209v0 (P : Params) (z : Nat → Obj) : BT := .node (o209v0 P) .nil .nil
noncomputable def t208v0 (P : Params) (z : Nat → Obj) : BT := .node (o208v0 P) .nil .nil
noncomputable def t207v0 (P : Params) (z : Nat → Obj) : BT := .node (o207v0 P) .nil .nil
noncomputable def t206v0 (P : Params) (z : Nat → Obj) : BT := .node (o206v0 P) .nil .nil
noncomputable def t205v0 (P : Params) (z : Nat → Obj) : BT := .node (o205v0 P) .nil .nil
noncomputable def t204v0 (P : Params) (z : Nat → Obj) : BT := .node (o204v0 P) .nil .nil
noncomputable def t203v0 (P : Params) (z : Nat → Obj) : BT := .node (o203v0 P) .nil .nil
noncomputable def t81v4 (P : Params) (z : Nat → Obj) : BT := .node (z 81) (t145v0 P z) (t209v0 P z)
noncomputable def t80v4 (P : Params) (z : Nat → Obj) : BT := .node (z 80) (t144v0 P z) (t208v0 P z)
noncomputable def t79v3 (P : Params) (z : Nat → Obj) : BT := .node (z 79) (t143v0 P z) (t207v0 P z)
noncomputable def t78v3 (P : Params) (z : Nat → Obj) : BT := .node (o78v1 P) (t142v0 P z) (t206v0 P z)
noncomputable def t77v2 (P : Params) (z : Nat → Obj) : BT := .node (o77v0 P) (t141v0 P z) (t205v0 P z)
noncomputable def t76v4 (P : Params) (z : Nat → Obj) : BT := .node (z 76) (t140v0 P z) (t204v0 P z)
noncomputable def t75v4 (P : Params) (z : Nat → Obj) : BT := .node (z 75) (t139v0 P z) (t203v0 P z)
noncomputable def t49v7 (P : Params) (z : Nat → Obj) : BT := .node (o49v0 P) (t81v4 P z) (t113v1 P z)
noncomputable def t48v7 (P : Params) (z : Nat → Obj) : BT := .node (o48v0 P) (t80v4 P z) (t112v1 P z)
noncomputable def t47v6 (P : Params) (z : Nat → Obj) : BT := .node (o47v0 P) (t79v3 P z) (t111v1 P z)
noncomputable def t46v6 (P : Params) (z : Nat → Obj) : BT := .node (o46v0 P) (t78v3 P z) (t110v1 P z)
noncomputable def t45v5 (P : Params) (z : Nat → Obj) : BT := .node (o45v0 P) (t77v2 P z) (t109v1 P z)
noncomputable def t44v7 (P : Params) (z : Nat → Obj) : BT := .node (o44v0 P) (t76v4 P z) (t108v1 P z)
noncomputable def t43v7 (P : Params) (z : Nat → Obj) : BT := .node (o43v0 P) (t75v4 P z) (t107v1 P z)
noncomputable def t11v26 (P : Params) (z : Nat → Obj) : BT := .node (o11v0 P) (t19v14 P z) (.node (o27v0 P) (t43v7 P z) (t59v6 P z))
noncomputable def t7v26 (P : Params) (z : Nat → Obj) : BT := .node (boot_o_7 P) (.node (o15v0 P) (t31v8 P z) (t47v6 P z)) (t23v12 P z)
noncomputable def t5v33 (P : Params) (z : Nat → Obj) : BT := .node (boot_o_5 P) (.node (boot_o_9 P) (.node (o17v0 P) (t33v7 P z) (t49v7 P z)) (t25v13 P z)) (.node (o13v0 P) (t21v13 P z) (.node (o29v0 P) (t45v5 P z) (t61v5 P z)))
noncomputable def t2v40 (P : Params) (z : Nat → Obj) : BT := .node (boot_o_2 P) (.node (boot_o_4 P) (.node (boot_o_8 P) (.node (o16v0 P) (t32v6 P z) (t48v7 P z)) (t24v10 P z)) (.node (f12 54) (t20v12 P z) (.node (o28v0 P) (t44v7 P z) (t60v6 P z)))) (.node (boot_o_6 P) (t10v24 P z) (.node (o14v0 P) (t22v13 P z) (.node (o30v0 P) (t46v6 P z) (t62v6 P z))))
noncomputable def t0v53 (P : Params) (z : Nat → Obj) : BT := .node (boot_o_0 P) (.node (boot_o_1 P) (.node (d3 P (vS "os" 773) 41 42) (t7v26 P z) (t11v26 P z)) (t5v33 P z)) (t2v40 P z)
noncomputable def S36 (w : World) (os : OsState) (z : Nat → Obj) : SharedT := ⟨t0v53 w.params z, 210, life0, [.finished].toArray, drawn0, 784, os⟩
noncomputable def t0v54 (P : Params) (z : Nat → Obj) : BT := .node (boot_o_0 P) (.node (boot_o_1 P) (.node (d3 P (vS "abc" 784) 41 42) (t7v26 P z) (t11v26 P z)) (t5v33 P z)) (t2v40 P z)
noncomputable def S37 (w : World) (os : OsState) (z : Nat → Obj) : SharedT := ⟨t0v54 w.params z, 210, life0, [.finished].toArray, drawn0, 786, os⟩
noncomputable def o210v0 (P : Params) : Obj := ⟨.type "tuple", none, .seq [.type "type"].toArray 0, [].toArray⟩
noncomputable def o211v0 (P : Params) : Obj := ⟨.type "builtin_function_or_method", none, .fields [.builtin "type.__prepare__", .type "type"].toArray, [].toArray⟩
noncomputable def o212v0 (P : Params) : Obj := ⟨.type "dict", none, .dict [eS P (sO "__module__") 793 (vS "abc" 784), eS P (sO "__qualname__") 795 (vS "ABCMeta" 794), eS P (sO "__firstlineno__") 797 (vI (185) 796), eS P (sO "register") 805 (.ref 223), eS P (sO "__static_attributes__") 806 (.ref 224)].toArray 5, [].toArray⟩
noncomputable def o213v0 (P : Params) : Obj := ⟨.type "tuple", none, .seq [].toArray 0, [].toArray⟩
noncomputable def o214v0 (P : Params) : Obj := ⟨.none, none, .fields [vI (187) 0, vI (4) 0, .ref 222].toArray, [].toArray⟩
noncomputable def o215v0 (P : Params) : Obj := ⟨.type "code", none, .fields [vS "ABCMeta" 788, vS "ABCMeta" 789, vS "/claim/cut.py" 790, vI (185) 0, vI (0) 0, vI (0) 0, vI (0) 0, vI (0) 0, .ref 213, .bool false, vI (181) 0, .ref 214, .none, .none, .none, .none, vI (791) 0, vI (185) 0, vS "/claim/cut.py" 792].toArray, [].toArray⟩
noncomputable def o216v0 (P : Params) : Obj := ⟨.type "frame", none, .plain, [(some (.ref 215)), (some (.ref 3)), (some (.ref 212)), none, (some (vS "abc" 784)), none, (some (.ref 0))].toArray⟩
noncomputable def o217v0 (P : Params) : Obj := ⟨.type "tuple", none, .seq [].toArray 0, [].toArray⟩
noncomputable def o218v0 (P : Params) : Obj := ⟨.none, none, .fields [].toArray, [].toArray⟩
noncomputable def o219v0 (P : Params) : Obj := ⟨.type "tuple", none, .seq [vS "cls" 801, vS "subclass" 802].toArray 0, [].toArray⟩
noncomputable def o220v0 (P : Params) : Obj := ⟨.type "tuple", none, .seq [].toArray 0, [].toArray⟩
noncomputable def o221v0 (P : Params) : Obj := ⟨.none, none, .func (fnX (sO "register") (sO "ABCMeta.register") (fm 38 0) 0 0 (.none) (.none) (.none) (.none) none (.none) (.none)), [].toArray⟩
noncomputable def o222v0 (P : Params) : Obj := ⟨.type "code", none, .fields [vS "register" 798, vS "ABCMeta.register" 799, vS "/claim/cut.py" 800, vI (187) 0, vI (2) 0, vI (0) 0, vI (0) 0, vI (3) 0, .ref 217, .bool true, vI (181) 0, .ref 218, .none, .ref 219, .ref 220, .ref 221, vI (803) 0, vI (187) 0, vS "/claim/cut.py" 804].toArray, [].toArray⟩
noncomputable def o223v0 (P : Params) : Obj := ⟨.type "function", none, .func (fnX (sO "register") (sO "ABCMeta.register") (fm 38 0) 3 0 (.none) (.none) (.none) (vS "abc" 784) none (.ref 222) (.none)), [].toArray⟩
noncomputable def o224v0 (P : Params) : Obj := ⟨.type "tuple", none, .seq [].toArray 0, [].toArray⟩
noncomputable def o225v0 (P : Params) : Obj := ⟨.type "dict", none, .dict [eS P (sO "__module__") 793 (vS "abc" 784), eS P (sO "__firstlineno__") 797 (vI (185) 796), eS P (sO "register") 805 (.ref 223), eS P (sO "__static_attributes__") 806 (.ref 224), eS P (sO "__doc__") 807 (.none)].toArray 2, [].toArray⟩
noncomputable def o227v0 (P : Params) : Obj := ⟨.type "super", none, .fields [.ref 226, .ref 226, .ref 226].toArray, [].toArray⟩
noncomputable def o228v0 (P : Params) : Obj := ⟨.type "builtin_function_or_method", none, .fields [.builtin "object.__init_subclass__", .ref 226].toArray, [].toArray⟩
noncomputable def t228v0 (P : Params) (z : Nat → Obj) : BT := .node (o228v0 P) .nil .nil
noncomputable def t227v0 (P : Params) (z : Nat → Obj) : BT := .node (o227v0 P) .nil .nil
noncomputable def t225v0 (P : Params) (z : Nat → Obj) : BT := .node (o225v0 P) .nil .nil
noncomputable def t224v0 (P : Params) (z : Nat → Obj) : BT := .node (o224v0 P) .nil .nil
noncomputable def t223v0 (P : Params) (z : Nat → Obj) : BT := .node (o223v0 P) .nil .nil
noncomputable def t222v0 (P : Params) (z : Nat → Obj) : BT := .node (o222v0 P) .nil .nil
noncomputable def t221v0 (P : Params) (z : Nat → Obj) : BT := .node (o221v0 P) .nil .nil
noncomputable def t220v0 (P : Params) (z : Nat → Obj) : BT := .node (o220v0 P) .nil .nil
noncomputable def t219v0 (P : Params) (z : Nat → Obj) : BT := .node (o219v0 P) .nil .nil
noncomputable def t218v0 (P : Params) (z : Nat → Obj) : BT := .node (o218v0 P) .nil .nil
noncomputable def t217v0 (P : Params) (z : Nat → Obj) : BT := .node (o217v0 P) .nil .nil
noncomputable def t216v0 (P : Params) (z : Nat → Obj) : BT := .node (o216v0 P) .nil .nil
noncomputable def t215v0 (P : Params) (z : Nat → Obj) : BT := .node (o215v0 P) .nil .nil
noncomputable def t214v0 (P : Params) (z : Nat → Obj) : BT := .node (o214v0 P) .nil .nil
noncomputable def t213v0 (P : Params) (z : Nat → Obj) : BT := .node (o213v0 P) .nil .nil
noncomputable def t212v0 (P : Params) (z : Nat → Obj) : BT := .node (o212v0 P) .nil .nil
noncomputable def t211v0 (P : Params) (z : Nat → Obj) : BT := .node (o211v0 P) .nil .nil
noncomputable def t210v0 (P : Params) (z : Nat → Obj) : BT := .node (o210v0 P) .nil .nil
noncomputable def t100v2 (P : Params) (z : Nat → Obj) : BT := .node (o100v0 P) (t164v0 P z) (t228v0 P z)
noncomputable def t99v3 (P : Params) (z : Nat → Obj) : BT := .node (z 99) (t163v0 P z) (t227v0 P z)
noncomputable def t97v2 (P : Params) (z : Nat → Obj) : BT := .node (o97v0 P) (t161v0 P z) (t225v0 P z)
noncomputable def t96v2 (P : Params) (z : Nat → Obj) : BT := .node (o96v0 P) (t160v0 P z) (t224v0 P z)
noncomputable def t95v3 (P : Params) (z : Nat → Obj) : BT := .node (z 95) (t159v0 P z) (t223v0 P z)
noncomputable def t94v3 (P : Params) (z : Nat → Obj) : BT := .node (z 94) (t158v0 P z) (t222v0 P z)
noncomputable def t93v3 (P : Params) (z : Nat → Obj) : BT := .node (z 93) (t157v0 P z) (t221v0 P z)
noncomputable def t92v3 (P : Params) (z : Nat → Obj) : BT := .node (o92v1 P) (t156v0 P z) (t220v0 P z)
noncomputable def t91v2 (P : Params) (z : Nat → Obj) : BT := .node (o91v0 P) (t155v0 P z) (t219v0 P z)
noncomputable def t90v4 (P : Params) (z : Nat → Obj) : BT := .node (z 90) (t154v0 P z) (t218v0 P z)
noncomputable def t89v4 (P : Params) (z : Nat → Obj) : BT := .node (z 89) (t153v0 P z) (t217v0 P z)
noncomputable def t88v2 (P : Params) (z : Nat → Obj) : BT := .node (o88v0 P) (t152v0 P z) (t216v0 P z)
noncomputable def t87v2 (P : Params) (z : Nat → Obj) : BT := .node (o87v0 P) (t151v0 P z) (t215v0 P z)
noncomputable def t86v3 (P : Params) (z : Nat → Obj) : BT := .node (z 86) (t150v0 P z) (t214v0 P z)
noncomputable def t85v3 (P : Params) (z : Nat → Obj) : BT := .node (z 85) (t149v0 P z) (t213v0 P z)
noncomputable def t84v3 (P : Params) (z : Nat → Obj) : BT := .node (z 84) (t148v0 P z) (t212v0 P z)
noncomputable def t83v3 (P : Params) (z : Nat → Obj) : BT := .node (o83v1 P) (t147v0 P z) (t211v0 P z)
noncomputable def t82v2 (P : Params) (z : Nat → Obj) : BT := .node (o82v0 P) (t146v0 P z) (t210v0 P z)
noncomputable def t11v27 (P : Params) (z : Nat → Obj) : BT := .node (o11v0 P) (.node (o19v0 P) (.node (o35v0 P) (t67v3 P z) (t99v3 P z)) (.node (o51v0 P) (t83v3 P z) (t115v1 P z))) (.node (o27v0 P) (t43v7 P z) (.node (z 59) (t91v2 P z) (t123v1 P z)))
noncomputable def t7v27 (P : Params) (z : Nat → Obj) : BT := .node (boot_o_7 P) (.node (o15v0 P) (.node (o31v0 P) (t63v4 P z) (t95v3 P z)) (t47v6 P z)) (.node (o23v0 P) (t39v7 P z) (.node (o55v0 P) (t87v2 P z) (t119v1 P z)))
noncomputable def t5v34 (P : Params) (z : Nat → Obj) : BT := .node (boot_o_5 P) (.node (boot_o_9 P) (.node (o17v0 P) (.node (o33v0 P) (t65v4 P z) (t97v2 P z)) (t49v7 P z)) (.node (o25v0 P) (t41v6 P z) (.node (o57v0 P) (t89v4 P z) (t121v1 P z)))) (.node (o13v0 P) (.node (o21v0 P) (t37v6 P z) (.node (o53v0 P) (t85v3 P z) (t117v1 P z))) (.node (o29v0 P) (t45v5 P z) (.node (o61v0 P) (t93v3 P z) (t125v1 P z))))
noncomputable def t2v41 (P : Params) (z : Nat → Obj) : BT := .node (boot_o_2 P) (.node (boot_o_4 P) (.node (boot_o_8 P) (.node (o16v0 P) (.node (o32v0 P) (t64v3 P z) (t96v2 P z)) (t48v7 P z)) (.node (o24v0 P) (t40v5 P z) (.node (o56v0 P) (t88v2 P z) (t120v1 P z)))) (.node (f12 57) (.node (o20v0 P) (.node (o36v0 P) (t68v2 P z) (t100v2 P z)) (.node (o52v0 P) (t84v3 P z) (t116v1 P z))) (.node (o28v0 P) (t44v7 P z) (.node (o60v1 P) (t92v3 P z) (t124v1 P z))))) (.node (boot_o_6 P) (.node (boot_o_10 P) (.node (o18v0 P) (.node (o34v0 P) (t66v2 P z) (.node (z 98) (t162v0 P z) (.node (⟨.type "type", none, .cls (clX (sO "ABCMeta") [.type "type"] [.ref 226, .type "type", .type "object"] 225 (sO "ABCMeta") true [] [] false none false), [(some (.ref 210)), none, (some (vS "ABCMeta" 786)), (some (vS "ABCMeta" 794)), (some (.builtin "type.__new__")), (some (.bool true))].toArray⟩) .nil .nil))) (.node (o50v0 P) (t82v2 P z) (t114v1 P z))) (.node (o26v0 P) (t42v6 P z) (.node (o58v1 P) (t90v4 P z) (t122v1 P z)))) (.node (o14v0 P) (.node (o22v0 P) (t38v7 P z) (.node (o54v0 P) (t86v3 P z) (t118v1 P z))) (.node (o30v0 P) (t46v6 P z) (.node (o62v1 P) (t94v3 P z) (t126v1 P z)))))
noncomputable def t0v55 (P : Params) (z : Nat → Obj) : BT := .node (boot_o_0 P) (.node (boot_o_1 P) (.node (d3 P (vS "abc" 784) 42 43) (t7v27 P z) (t11v27 P z)) (t5v34 P z)) (t2v41 P z)
noncomputable def S38 (w : World) (os : OsState) (z : Nat → Obj) : SharedT := ⟨t0v55 w.params z, 229, life0, [.finished].toArray, drawn0, 810, os⟩
noncomputable def t0v56 (P : Params) (z : Nat → Obj) : BT := .node (boot_o_0 P) (.node (boot_o_1 P) (.node (d3 P (vS "collections.abc" 810) 42 43) (t7v27 P z) (t11v27 P z)) (t5v34 P z)) (t2v41 P z)
noncomputable def S39 (w : World) (os : OsState) (z : Nat → Obj) : SharedT := ⟨t0v56 w.params z, 229, life0, [.finished].toArray, drawn0, 812, os⟩
noncomputable def o226v1 (P : Params) : Obj := ⟨.type "type", none, .cls (clX (sO "ABCMeta") [.type "type"] [.ref 226, .type "type", .type "object"] 225 (sO "ABCMeta") true [] [.ref 259] false none false), [(some (.ref 210)), none, (some (vS "ABCMeta" 786)), (some (vS "ABCMeta" 794)), (some (.builtin "type.__new__")), (some (.bool true))].toArray⟩
noncomputable def o229v0 (P : Params) : Obj := ⟨.type "tuple", none, .seq [.ref 226].toArray 0, [].toArray⟩
noncomputable def o230v0 (P : Params) : Obj := ⟨.type "builtin_function_or_method", none, .fields [.builtin "type.__prepare__", .type "type"].toArray, [].toArray⟩
noncomputable def o231v0 (P : Params) : Obj := ⟨.type "dict", none, .dict [eS P (sO "__module__") 819 (vS "collections.abc" 810), eS P (sO "__qualname__") 821 (vS "_ABCLike" 820), eS P (sO "__firstlineno__") 823 (vI (190) 822), eS P (sO "__instancecheck__") 832 (.ref 242), eS P (sO "__subclasscheck__") 840 (.ref 249), eS P (sO "register") 848 (.ref 256), eS P (sO "__static_attributes__") 849 (.ref 257)].toArray 7, [].toArray⟩
noncomputable def o232v0 (P : Params) : Obj := ⟨.type "tuple", none, .seq [].toArray 0, [].toArray⟩
noncomputable def o233v0 (P : Params) : Obj := ⟨.none, none, .fields [vI (192) 0, vI (4) 0, .ref 241, vI (198) 0, vI (4) 0, .ref 248, vI (203) 0, vI (4) 0, .ref 255].toArray, [].toArray⟩
noncomputable def o234v0 (P : Params) : Obj := ⟨.type "code", none, .fields [vS "_ABCLike" 814, vS "_ABCLike" 815, vS "/claim/cut.py" 816, vI (190) 0, vI (0) 0, vI (0) 0, vI (0) 0, vI (0) 0, .ref 232, .bool false, vI (181) 0, .ref 233, .none, .none, .none, .none, vI (817) 0, vI (190) 0, vS "/claim/cut.py" 818].toArray, [].toArray⟩
noncomputable def o235v0 (P : Params) : Obj := ⟨.type "frame", none, .plain, [(some (.ref 234)), (some (.ref 3)), (some (.ref 231)), none, (some (vS "collections.abc" 810)), none, (some (.ref 0))].toArray⟩
noncomputable def o236v0 (P : Params) : Obj := ⟨.type "tuple", none, .seq [].toArray 0, [].toArray⟩
noncomputable def o237v0 (P : Params) : Obj := ⟨.none, none, .fields [].toArray, [].toArray⟩
noncomputable def o238v0 (P : Params) : Obj := ⟨.type "tuple", none, .seq [vS "cls" 827, vS "instance" 828, vS "C" 829].toArray 0, [].toArray⟩
noncomputable def o239v0 (P : Params) : Obj := ⟨.type "tuple", none, .seq [].toArray 0, [].toArray⟩
noncomputable def o240v0 (P : Params) : Obj := ⟨.none, none, .func (fnX (sO "__instancecheck__") (sO "_ABCLike.__instancecheck__") (fm 40 0) 0 0 (.none) (.none) (.none) (.none) none (.none) (.none)), [].toArray⟩
noncomputable def o241v0 (P : Params) : Obj := ⟨.type "code", none, .fields [vS "__instancecheck__" 824, vS "_ABCLike.__instancecheck__" 825, vS "/claim/cut.py" 826, vI (192) 0, vI (2) 0, vI (0) 0, vI (0) 0, vI (3) 0, .ref 236, .bool true, vI (181) 0, .ref 237, .none, .ref 238, .ref 239, .ref 240, vI (830) 0, vI (192) 0, vS "/claim/cut.py" 831].toArray, [].toArray⟩
noncomputable def o242v0 (P : Params) : Obj := ⟨.type "function", none, .func (fnX (sO "__instancecheck__") (sO "_ABCLike.__instancecheck__") (fm 40 0) 3 0 (.none) (.none) (.none) (vS "collections.abc" 810) none (.ref 241) (.none)), [].toArray⟩
noncomputable def o243v0 (P : Params) : Obj := ⟨.type "tuple", none, .seq [].toArray 0, [].toArray⟩
noncomputable def o244v0 (P : Params) : Obj := ⟨.none, none, .fields [].toArray, [].toArray⟩
noncomputable def o245v0 (P : Params) : Obj := ⟨.type "tuple", none, .seq [vS "cls" 836, vS "C" 837].toArray 0, [].toArray⟩
noncomputable def o246v0 (P : Params) : Obj := ⟨.type "tuple", none, .seq [].toArray 0, [].toArray⟩
noncomputable def o248v0 (P : Params) : Obj := ⟨.type "code", none, .fields [vS "__subclasscheck__" 833, vS "_ABCLike.__subclasscheck__" 834, vS "/claim/cut.py" 835, vI (198) 0, vI (2) 0, vI (0) 0, vI (0) 0, vI (3) 0, .ref 243, .bool true, vI (181) 0, .ref 244, .none, .ref 245, .ref 246, .ref 247, vI (838) 0, vI (198) 0, vS "/claim/cut.py" 839].toArray, [].toArray⟩
noncomputable def o249v0 (P : Params) : Obj := ⟨.type "function", none, .func (fnX (sO "__subclasscheck__") (sO "_ABCLike.__subclasscheck__") (fm 40 1) 3 0 (.none) (.none) (.none) (vS "collections.abc" 810) none (.ref 248) (.none)), [].toArray⟩
noncomputable def o250v0 (P : Params) : Obj := ⟨.type "tuple", none, .seq [].toArray 0, [].toArray⟩
noncomputable def o252v0 (P : Params) : Obj := ⟨.type "tuple", none, .seq [vS "cls" 844, vS "subclass" 845].toArray 0, [].toArray⟩
noncomputable def o253v0 (P : Params) : Obj := ⟨.type "tuple", none, .seq [].toArray 0, [].toArray⟩
noncomputable def o255v0 (P : Params) : Obj := ⟨.type "code", none, .fields [vS "register" 841, vS "_ABCLike.register" 842, vS "/claim/cut.py" 843, vI (203) 0, vI (2) 0, vI (0) 0, vI (0) 0, vI (3) 0, .ref 250, .bool true, vI (181) 0, .ref 251, .none, .ref 252, .ref 253, .ref 254, vI (846) 0, vI (203) 0, vS "/claim/cut.py" 847].toArray, [].toArray⟩
noncomputable def o256v0 (P : Params) : Obj := ⟨.type "function", none, .func (fnX (sO "register") (sO "_ABCLike.register") (fm 40 2) 3 0 (.none) (.none) (.none) (vS "collections.abc" 810) none (.ref 255) (.none)), [].toArray⟩
noncomputable def o257v0 (P : Params) : Obj := ⟨.type "tuple", none, .seq [].toArray 0, [].toArray⟩
noncomputable def o258v0 (P : Params) : Obj := ⟨.type "dict", none, .dict [eS P (sO "__module__") 819 (vS "collections.abc" 810), eS P (sO "__firstlineno__") 823 (vI (190) 822), eS P (sO "__instancecheck__") 832 (.ref 242), eS P (sO "__subclasscheck__") 840 (.ref 249), eS P (sO "register") 848 (.ref 256), eS P (sO "__static_attributes__") 849 (.ref 257), eS P (sO "__doc__") 850 (.none)].toArray 2, [].toArray⟩
noncomputable def o259v0 (P : Params) : Obj := ⟨.type "type", none, .cls (clX (sO "_ABCLike") [.ref 226] [.ref 259, .ref 226, .type "type", .type "object"] 258 (sO "_ABCLike") true [] [] false none false), [(some (.ref 229)), none, (some (vS "_ABCLike" 812)), (some (vS "_ABCLike" 820)), (some (.builtin "type.__new__")), (some (.bool true))].toArray⟩
noncomputable def t254v0 (P : Params) (z : Nat → Obj) : BT := .node (⟨.none, none, .func (fnX (sO "register") (sO "_ABCLike.register") (fm 40 2) 0 0 (.none) (.none) (.none) (.none) none (.none) (.none)), [].toArray⟩) .nil .nil
noncomputable def t253v0 (P : Params) (z : Nat → Obj) : BT := .node (o253v0 P) .nil .nil
noncomputable def t252v0 (P : Params) (z : Nat → Obj) : BT := .node (o252v0 P) .nil .nil
noncomputable def t251v0 (P : Params) (z : Nat → Obj) : BT := .node (⟨.none, none, .fields [].toArray, [].toArray⟩) .nil .nil
noncomputable def t250v0 (P : Params) (z : Nat → Obj) : BT := .node (o250v0 P) .nil .nil
noncomputable def t249v0 (P : Params) (z : Nat → Obj) : BT := .node (o249v0 P) .nil .nil
noncomputable def t248v0 (P : Params) (z : Nat → Obj) : BT := .node (o248v0 P) .nil .nil
noncomputable def t247v0 (P : Params) (z : Nat → Obj) : BT := .node (⟨.none, none, .func (fnX (sO "__subclasscheck__") (sO "_ABCLike.__subclasscheck__") (fm 40 1) 0 0 (.none) (.none) (.none) (.none) none (.none) (.none)), [].toArray⟩) .nil .nil
noncomputable def t246v0 (P : Params) (z : Nat → Obj) : BT := .node (o246v0 P) .nil .nil
noncomputable def t245v0 (P : Params) (z : Nat → Obj) : BT := .node (o245v0 P) .nil .nil
noncomputable def t244v0 (P : Params) (z : Nat → Obj) : BT := .node (o244v0 P) .nil .nil
noncomputable def t243v0 (P : Params) (z : Nat → Obj) : BT := .node (o243v0 P) .nil .nil
noncomputable def t242v0 (P : Params) (z : Nat → Obj) : BT := .node (o242v0 P) .nil .nil
noncomputable def t241v0 (P : Params) (z : Nat → Obj) : BT := .node (o241v0 P) .nil .nil
noncomputable def t240v0 (P : Params) (z : Nat → Obj) : BT := .node (o240v0 P) .nil .nil
noncomputable def t239v0 (P : Params) (z : Nat → Obj) : BT := .node (o239v0 P) .nil .nil
noncomputable def t238v0 (P : Params) (z : Nat → Obj) : BT := .node (o238v0 P) .nil .nil
noncomputable def t237v0 (P : Params) (z : Nat → Obj) : BT := .node (o237v0 P) .nil .nil
noncomputable def t236v0 (P : Params) (z : Nat → Obj) : BT := .node (o236v0 P) .nil .nil
noncomputable def t235v0 (P : Params) (z : Nat → Obj) : BT := .node (o235v0 P) .nil .nil
noncomputable def t234v0 (P : Params) (z : Nat → Obj) : BT := .node (o234v0 P) .nil .nil
noncomputable def t233v0 (P : Params) (z : Nat → Obj) : BT := .node (o233v0 P) .nil .nil
noncomputable def t232v0 (P : Params) (z : Nat → Obj) : BT := .node (o232v0 P) .nil .nil
noncomputable def t231v0 (P : Params) (z : Nat → Obj) : BT := .node (o231v0 P) .nil .nil
noncomputable def t230v0 (P : Params) (z : Nat → Obj) : BT := .node (o230v0 P) .nil .nil
noncomputable def t229v0 (P : Params) (z : Nat → Obj) : BT := .node (o229v0 P) .nil .nil
noncomputable def t226v1 (P : Params) (z : Nat → Obj) : BT := .node (o226v1 P) .nil .nil
noncomputable def t133v1 (P : Params) (z : Nat → Obj) : BT := .node (o133v0 P) (.node (⟨.type "builtin_function_or_method", none, .fields [.builtin "object.__init_subclass__", .ref 259].toArray, [].toArray⟩) .nil .nil) .nil
noncomputable def t132v1 (P : Params) (z : Nat → Obj) : BT := .node (o132v0 P) (.node (⟨.type "super", none, .fields [.ref 259, .ref 259, .ref 259].toArray, [].toArray⟩) .nil .nil) .nil
noncomputable def t131v1 (P : Params) (z : Nat → Obj) : BT := .node (o131v0 P) (.node (o259v0 P) .nil .nil) .nil
noncomputable def t130v1 (P : Params) (z : Nat → Obj) : BT := .node (o130v0 P) (.node (o258v0 P) .nil .nil) .nil
noncomputable def t129v1 (P : Params) (z : Nat → Obj) : BT := .node (o129v0 P) (.node (o257v0 P) .nil .nil) .nil
noncomputable def t128v1 (P : Params) (z : Nat → Obj) : BT := .node (o128v0 P) (.node (o256v0 P) .nil .nil) .nil
noncomputable def t127v1 (P : Params) (z : Nat → Obj) : BT := .node (o127v0 P) (.node (o255v0 P) .nil .nil) .nil
noncomputable def t126v2 (P : Params) (z : Nat → Obj) : BT := .node (o126v0 P) (t190v0 P z) (t254v0 P z)
noncomputable def t125v2 (P : Params) (z : Nat → Obj) : BT := .node (o125v0 P) (t189v0 P z) (t253v0 P z)
noncomputable def t124v2 (P : Params) (z : Nat → Obj) : BT := .node (o124v0 P) (t188v0 P z) (t252v0 P z)
noncomputable def t123v2 (P : Params) (z : Nat → Obj) : BT := .node (o123v0 P) (t187v0 P z) (t251v0 P z)
noncomputable def t122v2 (P : Params) (z : Nat → Obj) : BT := .node (o122v0 P) (t186v0 P z) (t250v0 P z)
noncomputable def t121v2 (P : Params) (z : Nat → Obj) : BT := .node (o121v0 P) (t185v0 P z) (t249v0 P z)
noncomputable def t120v2 (P : Params) (z : Nat → Obj) : BT := .node (o120v0 P) (t184v0 P z) (t248v0 P z)
noncomputable def t119v2 (P : Params) (z : Nat → Obj) : BT := .node (o119v0 P) (t183v0 P z) (t247v0 P z)
noncomputable def t118v2 (P : Params) (z : Nat → Obj) : BT := .node (o118v0 P) (t182v0 P z) (t246v0 P z)
noncomputable def t117v2 (P : Params) (z : Nat → Obj) : BT := .node (o117v0 P) (t181v0 P z) (t245v0 P z)
noncomputable def t116v2 (P : Params) (z : Nat → Obj) : BT := .node (o116v0 P) (t180v0 P z) (t244v0 P z)
noncomputable def t115v2 (P : Params) (z : Nat → Obj) : BT := .node (o115v0 P) (t179v0 P z) (t243v0 P z)
noncomputable def t114v2 (P : Params) (z : Nat → Obj) : BT := .node (o114v0 P) (t178v0 P z) (t242v0 P z)
noncomputable def t113v2 (P : Params) (z : Nat → Obj) : BT := .node (o113v0 P) (t177v0 P z) (t241v0 P z)
noncomputable def t112v2 (P : Params) (z : Nat → Obj) : BT := .node (o112v0 P) (t176v0 P z) (t240v0 P z)
noncomputable def t111v2 (P : Params) (z : Nat → Obj) : BT := .node (o111v0 P) (t175v0 P z) (t239v0 P z)
noncomputable def t110v2 (P : Params) (z : Nat → Obj) : BT := .node (o110v0 P) (t174v0 P z) (t238v0 P z)
noncomputable def t109v2 (P : Params) (z : Nat → Obj) : BT := .node (o109v0 P) (t173v0 P z) (t237v0 P z)
noncomputable def t108v2 (P : Params) (z : Nat → Obj) : BT := .node (o108v0 P) (t172v0 P z) (t236v0 P z)
noncomputable def t107v2 (P : Params) (z : Nat → Obj) : BT := .node (o107v0 P) (t171v0 P z) (t235v0 P z)
noncomputable def t106v2 (P : Params) (z : Nat → Obj) : BT := .node (o106v0 P) (t170v0 P z) (t234v0 P z)
noncomputable def t105v2 (P : Params) (z : Nat → Obj) : BT := .node (o105v0 P) (t169v0 P z) (t233v0 P z)
noncomputable def t104v2 (P : Params) (z : Nat → Obj) : BT := .node (o104v0 P) (t168v0 P z) (t232v0 P z)
noncomputable def t103v2 (P : Params) (z : Nat → Obj) : BT := .node (o103v0 P) (t167v0 P z) (t231v0 P z)
noncomputable def t102v2 (P : Params) (z : Nat → Obj) : BT := .node (o102v0 P) (t166v0 P z) (t230v0 P z)
noncomputable def t69v4 (P : Params) (z : Nat → Obj) : BT := .node (o69v1 P) (t133v1 P z) (t197v0 P z)
noncomputable def t68v3 (P : Params) (z : Nat → Obj) : BT := .node (o68v0 P) (t132v1 P z) (t196v0 P z)
noncomputable def t67v4 (P : Params) (z : Nat → Obj) : BT := .node (o67v1 P) (t131v1 P z) (t195v0 P z)
noncomputable def t66v3 (P : Params) (z : Nat → Obj) : BT := .node (o66v0 P) (t130v1 P z) (t194v0 P z)
noncomputable def t65v5 (P : Params) (z : Nat → Obj) : BT := .node (z 65) (t129v1 P z) (t193v0 P z)
noncomputable def t64v4 (P : Params) (z : Nat → Obj) : BT := .node (o64v1 P) (t128v1 P z) (t192v0 P z)
noncomputable def t63v5 (P : Params) (z : Nat → Obj) : BT := .node (z 63) (t127v1 P z) (t191v0 P z)
noncomputable def t62v8 (P : Params) (z : Nat → Obj) : BT := .node (o62v1 P) (t94v3 P z) (t126v2 P z)
noncomputable def t61v7 (P : Params) (z : Nat → Obj) : BT := .node (o61v0 P) (t93v3 P z) (t125v2 P z)
noncomputable def t60v8 (P : Params) (z : Nat → Obj) : BT := .node (o60v1 P) (t92v3 P z) (t124v2 P z)
noncomputable def t59v8 (P : Params) (z : Nat → Obj) : BT := .node (z 59) (t91v2 P z) (t123v2 P z)
noncomputable def t58v9 (P : Params) (z : Nat → Obj) : BT := .node (o58v1 P) (t90v4 P z) (t122v2 P z)
noncomputable def t57v8 (P : Params) (z : Nat → Obj) : BT := .node (o57v0 P) (t89v4 P z) (t121v2 P z)
noncomputable def t56v6 (P : Params) (z : Nat → Obj) : BT := .node (o56v0 P) (t88v2 P z) (t120v2 P z)
noncomputable def t55v6 (P : Params) (z : Nat → Obj) : BT := .node (o55v0 P) (t87v2 P z) (t119v2 P z)
noncomputable def t54v7 (P : Params) (z : Nat → Obj) : BT := .node (o54v0 P) (t86v3 P z) (t118v2 P z)
noncomputable def t37v7 (P : Params) (z : Nat → Obj) : BT := .node (o37v0 P) (t69v4 P z) (.node (o101v0 P) (t165v0 P z) (t229v0 P z))
noncomputable def t36v7 (P : Params) (z : Nat → Obj) : BT := .node (o36v0 P) (t68v3 P z) (t100v2 P z)
noncomputable def t35v9 (P : Params) (z : Nat → Obj) : BT := .node (o35v0 P) (t67v4 P z) (t99v3 P z)
noncomputable def t34v8 (P : Params) (z : Nat → Obj) : BT := .node (o34v0 P) (t66v3 P z) (.node (z 98) (t162v0 P z) (t226v1 P z))
noncomputable def t33v9 (P : Params) (z : Nat → Obj) : BT := .node (o33v0 P) (t65v5 P z) (t97v2 P z)
noncomputable def t32v8 (P : Params) (z : Nat → Obj) : BT := .node (o32v0 P) (t64v4 P z) (t96v2 P z)
noncomputable def t31v10 (P : Params) (z : Nat → Obj) : BT := .node (o31v0 P) (t63v5 P z) (t95v3 P z)
noncomputable def t30v15 (P : Params) (z : Nat → Obj) : BT := .node (o30v0 P) (.node (o46v0 P) (t78v3 P z) (t110v2 P z)) (t62v8 P z)
noncomputable def t21v15 (P : Params) (z : Nat → Obj) : BT := .node (o21v0 P) (t37v7 P z) (.node (o53v0 P) (t85v3 P z) (t117v2 P z))
noncomputable def t20v14 (P : Params) (z : Nat → Obj) : BT := .node (o20v0 P) (t36v7 P z) (.node (o52v0 P) (t84v3 P z) (t116v2 P z))
noncomputable def t19v16 (P : Params) (z : Nat → Obj) : BT := .node (o19v0 P) (t35v9 P z) (.node (o51v0 P) (t83v3 P z) (t115v2 P z))
noncomputable def t18v13 (P : Params) (z : Nat → Obj) : BT := .node (o18v0 P) (t34v8 P z) (.node (o50v0 P) (t82v2 P z) (t114v2 P z))
noncomputable def t17v17 (P : Params) (z : Nat → Obj) : BT := .node (o17v0 P) (t33v9 P z) (.node (o49v0 P) (t81v4 P z) (t113v2 P z))
noncomputable def t16v16 (P : Params) (z : Nat → Obj) : BT := .node (o16v0 P) (t32v8 P z) (.node (o48v0 P) (t80v4 P z) (t112v2 P z))
noncomputable def t15v17 (P : Params) (z : Nat → Obj) : BT := .node (o15v0 P) (t31v10 P z) (.node (o47v0 P) (t79v3 P z) (t111v2 P z))
noncomputable def t13v26 (P : Params) (z : Nat → Obj) : BT := .node (o13v0 P) (t21v15 P z) (.node (o29v0 P) (.node (o45v0 P) (t77v2 P z) (t109v2 P z)) (t61v7 P z))
noncomputable def t0v57 (P : Params) (z : Nat → Obj) : BT := .node (boot_o_0 P) (.node (boot_o_1 P) (.node (d3 P (vS "collections.abc" 810) 43 44) (.node (boot_o_7 P) (t15v17 P z) (.node (o23v0 P) (.node (o39v0 P) (t71v4 P z) (t103v2 P z)) (t55v6 P z))) (.node (o11v0 P) (t19v16 P z) (.node (o27v0 P) (.node (o43v0 P) (t75v4 P z) (t107v2 P z)) (t59v8 P z)))) (.node (boot_o_5 P) (.node (boot_o_9 P) (t17v17 P z) (.node (o25v0 P) (.node (o41v0 P) (t73v3 P z) (t105v2 P z)) (t57v8 P z))) (t13v26 P z))) (.node (boot_o_2 P) (.node (boot_o_4 P) (.node (boot_o_8 P) (t16v16 P z) (.node (o24v0 P) (.node (o40v0 P) (t72v2 P z) (t104v2 P z)) (t56v6 P z))) (.node (f12 60) (t20v14 P z) (.node (o28v0 P) (.node (o44v0 P) (t76v4 P z) (t108v2 P z)) (t60v8 P z)))) (.node (boot_o_6 P) (.node (boot_o_10 P) (t18v13 P z) (.node (o26v0 P) (.node (o42v0 P) (t74v3 P z) (t106v2 P z)) (t58v9 P z))) (.node (o14v0 P) (.node (o22v0 P) (.node (o38v0 P) (t70v4 P z) (t102v2 P z)) (t54v7 P z)) (t30v15 P z))))
noncomputable def S40 (w : World) (os : OsState) (z : Nat → Obj) : SharedT := ⟨t0v57 w.params z, 262, life0, [.finished].toArray, drawn0, 853, os⟩
noncomputable def o262v0 (P : Params) : Obj := ⟨.type "tuple", none, .seq [].toArray 0, [].toArray⟩
noncomputable def o264v0 (P : Params) : Obj := ⟨.type "tuple", none, .seq [vS "C" 856].toArray 0, [].toArray⟩
noncomputable def o265v0 (P : Params) : Obj := ⟨.type "tuple", none, .seq [].toArray 0, [].toArray⟩
noncomputable def o267v0 (P : Params) : Obj := ⟨.type "code", none, .fields [vS "_abc_plain_meta" 853, vS "_abc_plain_meta" 854, vS "/claim/cut.py" 855, vI (205) 0, vI (1) 0, vI (0) 0, vI (0) 0, vI (3) 0, .ref 262, .bool true, vI (181) 0, .ref 263, .none, .ref 264, .ref 265, .ref 266, vI (857) 0, vI (205) 0, vS "/claim/cut.py" 858].toArray, [].toArray⟩
noncomputable def o268v0 (P : Params) : Obj := ⟨.type "function", none, .func (fnX (sO "_abc_plain_meta") (sO "_abc_plain_meta") (fd 41) 3 0 (.none) (.none) (.none) (vS "collections.abc" 810) none (.ref 267) (.none)), [].toArray⟩
noncomputable def t140v1 (P : Params) (z : Nat → Obj) : BT := .node (o140v0 P) (.node (o268v0 P) .nil .nil) .nil
noncomputable def t139v1 (P : Params) (z : Nat → Obj) : BT := .node (o139v0 P) (.node (o267v0 P) .nil .nil) .nil
noncomputable def t138v1 (P : Params) (z : Nat → Obj) : BT := .node (o138v0 P) (.node (⟨.none, none, .func (fnX (sO "_abc_plain_meta") (sO "_abc_plain_meta") (fd 41) 0 0 (.none) (.none) (.none) (.none) none (.none) (.none)), [].toArray⟩) .nil .nil) .nil
noncomputable def t137v1 (P : Params) (z : Nat → Obj) : BT := .node (o137v0 P) (.node (o265v0 P) .nil .nil) .nil
noncomputable def t136v1 (P : Params) (z : Nat → Obj) : BT := .node (o136v0 P) (.node (o264v0 P) .nil .nil) .nil
noncomputable def t135v1 (P : Params) (z : Nat → Obj) : BT := .node (o135v0 P) (.node (⟨.none, none, .fields [].toArray, [].toArray⟩) .nil .nil) .nil
noncomputable def t134v1 (P : Params) (z : Nat → Obj) : BT := .node (o134v0 P) (.node (o262v0 P) .nil .nil) .nil
noncomputable def t76v5 (P : Params) (z : Nat → Obj) : BT := .node (z 76) (t140v1 P z) (t204v0 P z)
noncomputable def t75v5 (P : Params) (z : Nat → Obj) : BT := .node (z 75) (t139v1 P z) (t203v0 P z)
noncomputable def t74v4 (P : Params) (z : Nat → Obj) : BT := .node (z 74) (t138v1 P z) (t202v0 P z)
noncomputable def t73v4 (P : Params) (z : Nat → Obj) : BT := .node (o73v1 P) (t137v1 P z) (t201v0 P z)
noncomputable def t72v3 (P : Params) (z : Nat → Obj) : BT := .node (o72v0 P) (t136v1 P z) (t200v0 P z)
noncomputable def t71v5 (P : Params) (z : Nat → Obj) : BT := .node (z 71) (t135v1 P z) (t199v0 P z)
noncomputable def t70v5 (P : Params) (z : Nat → Obj) : BT := .node (z 70) (t134v1 P z) (t198v0 P z)
noncomputable def t44v9 (P : Params) (z : Nat → Obj) : BT := .node (o44v0 P) (t76v5 P z) (t108v2 P z)
noncomputable def t43v9 (P : Params) (z : Nat → Obj) : BT := .node (o43v0 P) (t75v5 P z) (t107v2 P z)
noncomputable def t42v8 (P : Params) (z : Nat → Obj) : BT := .node (o42v0 P) (t74v4 P z) (t106v2 P z)
noncomputable def t41v8 (P : Params) (z : Nat → Obj) : BT := .node (o41v0 P) (t73v4 P z) (t105v2 P z)
noncomputable def t40v7 (P : Params) (z : Nat → Obj) : BT := .node (o40v0 P) (t72v3 P z) (t104v2 P z)
noncomputable def t39v9 (P : Params) (z : Nat → Obj) : BT := .node (o39v0 P) (t71v5 P z) (t103v2 P z)
noncomputable def t38v9 (P : Params) (z : Nat → Obj) : BT := .node (o38v0 P) (t70v5 P z) (t102v2 P z)
noncomputable def t28v17 (P : Params) (z : Nat → Obj) : BT := .node (o28v0 P) (t44v9 P z) (t60v8 P z)
noncomputable def t27v17 (P : Params) (z : Nat → Obj) : BT := .node (o27v0 P) (t43v9 P z) (t59v8 P z)
noncomputable def t26v16 (P : Params) (z : Nat → Obj) : BT := .node (o26v0 P) (t42v8 P z) (t58v9 P z)
noncomputable def t25v16 (P : Params) (z : Nat → Obj) : BT := .node (o25v0 P) (t41v8 P z) (t57v8 P z)
noncomputable def t24v13 (P : Params) (z : Nat → Obj) : BT := .node (o24v0 P) (t40v7 P z) (t56v6 P z)
noncomputable def t23v15 (P : Params) (z : Nat → Obj) : BT := .node (o23v0 P) (t39v9 P z) (t55v6 P z)
noncomputable def t22v16 (P : Params) (z : Nat → Obj) : BT := .node (o22v0 P) (t38v9 P z) (t54v7 P z)
noncomputable def t11v29 (P : Params) (z : Nat → Obj) : BT := .node (o11v0 P) (t19v16 P z) (t27v17 P z)
noncomputable def t7v29 (P : Params) (z : Nat → Obj) : BT := .node (boot_o_7 P) (t15v17 P z) (t23v15 P z)
noncomputable def t5v36 (P : Params) (z : Nat → Obj) : BT := .node (boot_o_5 P) (.node (boot_o_9 P) (t17v17 P z) (t25v16 P z)) (t13v26 P z)
noncomputable def t2v43 (P : Params) (z : Nat → Obj) : BT := .node (boot_o_2 P) (.node (boot_o_4 P) (.node (boot_o_8 P) (t16v16 P z) (t24v13 P z)) (.node (f12 63) (t20v14 P z) (t28v17 P z))) (.node (boot_o_6 P) (.node (boot_o_10 P) (t18v13 P z) (t26v16 P z)) (.node (o14v0 P) (t22v16 P z) (t30v15 P z)))
noncomputable def t0v58 (P : Params) (z : Nat → Obj) : BT := .node (boot_o_0 P) (.node (boot_o_1 P) (.node (d3 P (vS "collections.abc" 810) 44 45) (t7v29 P z) (t11v29 P z)) (t5v36 P z)) (t2v43 P z)
noncomputable def S41 (w : World) (os : OsState) (z : Nat → Obj) : SharedT := ⟨t0v58 w.params z, 269, life0, [.finished].toArray, drawn0, 860, os⟩
noncomputable def t0v59 (P : Params) (z : Nat → Obj) : BT := .node (boot_o_0 P) (.node (boot_o_1 P) (.node (d3 P (vS "os" 860) 44 45) (t7v29 P z) (t11v29 P z)) (t5v36 P z)) (t2v43 P z)
noncomputable def S42 (w : World) (os : OsState) (z : Nat → Obj) : SharedT := ⟨t0v59 w.params z, 269, life0, [.finished].toArray, drawn0, 862, os⟩
noncomputable def o269v0 (P : Params) : Obj := ⟨.type "tuple", none, .seq [].toArray 0, [].toArray⟩
noncomputable def o271v0 (P : Params) : Obj := ⟨.type "tuple", none, .seq [vS "path" 865, vS "kind" 866, vS "hook" 867, vS "given" 868].toArray 0, [].toArray⟩
noncomputable def o272v0 (P : Params) : Obj := ⟨.type "tuple", none, .seq [].toArray 0, [].toArray⟩
noncomputable def o274v0 (P : Params) : Obj := ⟨.type "code", none, .fields [vS "fspath" 862, vS "fspath" 863, vS "/claim/cut.py" 864, vI (209) 0, vI (1) 0, vI (0) 0, vI (0) 0, vI (3) 0, .ref 269, .bool true, vI (181) 0, .ref 270, .none, .ref 271, .ref 272, .ref 273, vI (869) 0, vI (209) 0, vS "/claim/cut.py" 870].toArray, [].toArray⟩
noncomputable def o275v0 (P : Params) : Obj := ⟨.type "function", none, .func (fnX (sO "fspath") (sO "fspath") (fd 43) 3 0 (.none) (.none) (.none) (vS "os" 860) none (.ref 274) (.none)), [].toArray⟩
noncomputable def t147v1 (P : Params) (z : Nat → Obj) : BT := .node (o147v0 P) (.node (o275v0 P) .nil .nil) .nil
noncomputable def t146v1 (P : Params) (z : Nat → Obj) : BT := .node (o146v0 P) (.node (o274v0 P) .nil .nil) .nil
noncomputable def t145v1 (P : Params) (z : Nat → Obj) : BT := .node (o145v0 P) (.node (⟨.none, none, .func (fnX (sO "fspath") (sO "fspath") (fd 43) 0 0 (.none) (.none) (.none) (.none) none (.none) (.none)), [].toArray⟩) .nil .nil) .nil
noncomputable def t144v1 (P : Params) (z : Nat → Obj) : BT := .node (o144v0 P) (.node (o272v0 P) .nil .nil) .nil
noncomputable def t143v1 (P : Params) (z : Nat → Obj) : BT := .node (o143v0 P) (.node (o271v0 P) .nil .nil) .nil
noncomputable def t142v1 (P : Params) (z : Nat → Obj) : BT := .node (o142v0 P) (.node (⟨.none, none, .fields [].toArray, [].toArray⟩) .nil .nil) .nil
noncomputable def t141v1 (P : Params) (z : Nat → Obj) : BT := .node (o141v0 P) (.node (o269v0 P) .nil .nil) .nil
noncomputable def t83v4 (P : Params) (z : Nat → Obj) : BT := .node (o83v1 P) (t147v1 P z) (t211v0 P z)
noncomputable def t82v3 (P : Params) (z : Nat → Obj) : BT := .node (o82v0 P) (t146v1 P z) (t210v0 P z)
noncomputable def t81v5 (P : Params) (z : Nat → Obj) : BT := .node (z 81) (t145v1 P z) (t209v0 P z)
noncomputable def t80v5 (P : Params) (z : Nat → Obj) : BT := .node (z 80) (t144v1 P z) (t208v0 P z)
noncomputable def t79v4 (P : Params) (z : Nat → Obj) : BT := .node (z 79) (t143v1 P z) (t207v0 P z)
noncomputable def t78v4 (P : Params) (z : Nat → Obj) : BT := .node (o78v1 P) (t142v1 P z) (t206v0 P z)
noncomputable def t77v3 (P : Params) (z : Nat → Obj) : BT := .node (o77v0 P) (t141v1 P z) (t205v0 P z)
noncomputable def t51v8 (P : Params) (z : Nat → Obj) : BT := .node (o51v0 P) (t83v4 P z) (t115v2 P z)
noncomputable def t50v7 (P : Params) (z : Nat → Obj) : BT := .node (o50v0 P) (t82v3 P z) (t114v2 P z)
noncomputable def t49v9 (P : Params) (z : Nat → Obj) : BT := .node (o49v0 P) (t81v5 P z) (t113v2 P z)
noncomputable def t48v9 (P : Params) (z : Nat → Obj) : BT := .node (o48v0 P) (t80v5 P z) (t112v2 P z)
noncomputable def t47v8 (P : Params) (z : Nat → Obj) : BT := .node (o47v0 P) (t79v4 P z) (t111v2 P z)
noncomputable def t46v8 (P : Params) (z : Nat → Obj) : BT := .node (o46v0 P) (t78v4 P z) (t110v2 P z)
noncomputable def t45v7 (P : Params) (z : Nat → Obj) : BT := .node (o45v0 P) (t77v3 P z) (t109v2 P z)
noncomputable def t30v16 (P : Params) (z : Nat → Obj) : BT := .node (o30v0 P) (t46v8 P z) (t62v8 P z)
noncomputable def t29v14 (P : Params) (z : Nat → Obj) : BT := .node (o29v0 P) (t45v7 P z) (t61v7 P z)
noncomputable def t19v17 (P : Params) (z : Nat → Obj) : BT := .node (o19v0 P) (t35v9 P z) (t51v8 P z)
noncomputable def t18v14 (P : Params) (z : Nat → Obj) : BT := .node (o18v0 P) (t34v8 P z) (t50v7 P z)
noncomputable def t17v18 (P : Params) (z : Nat → Obj) : BT := .node (o17v0 P) (t33v9 P z) (t49v9 P z)
noncomputable def t16v17 (P : Params) (z : Nat → Obj) : BT := .node (o16v0 P) (t32v8 P z) (t48v9 P z)
noncomputable def t15v18 (P : Params) (z : Nat → Obj) : BT := .node (o15v0 P) (t31v10 P z) (t47v8 P z)
noncomputable def t11v30 (P : Params) (z : Nat → Obj) : BT := .node (o11v0 P) (t19v17 P z) (t27v17 P z)
noncomputable def t7v30 (P : Params) (z : Nat → Obj) : BT := .node (boot_o_7 P) (t15v18 P z) (t23v15 P z)
noncomputable def t5v37 (P : Params) (z : Nat → Obj) : BT := .node (boot_o_5 P) (.node (boot_o_9 P) (t17v18 P z) (t25v16 P z)) (.node (o13v0 P) (t21v15 P z) (t29v14 P z))
noncomputable def t2v44 (P : Params) (z : Nat → Obj) : BT := .node (boot_o_2 P) (.node (boot_o_4 P) (.node (boot_o_8 P) (t16v17 P z) (t24v13 P z)) (.node (f12 66) (t20v14 P z) (t28v17 P z))) (.node (boot_o_6 P) (.node (boot_o_10 P) (t18v14 P z) (t26v16 P z)) (.node (o14v0 P) (t22v16 P z) (t30v16 P z)))
noncomputable def t0v60 (P : Params) (z : Nat → Obj) : BT := .node (boot_o_0 P) (.node (boot_o_1 P) (.node (d3 P (vS "os" 860) 45 46) (t7v30 P z) (t11v30 P z)) (t5v37 P z)) (t2v44 P z)
noncomputable def S43 (w : World) (os : OsState) (z : Nat → Obj) : SharedT := ⟨t0v60 w.params z, 276, life0, [.finished].toArray, drawn0, 872, os⟩
noncomputable def t0v61 (P : Params) (z : Nat → Obj) : BT := .node (boot_o_0 P) (.node (boot_o_1 P) (.node (d3 P (vS "cpy313.genericpath" 872) 45 46) (t7v30 P z) (t11v30 P z)) (t5v37 P z)) (t2v44 P z)
noncomputable def S44 (w : World) (os : OsState) (z : Nat → Obj) : SharedT := ⟨t0v61 w.params z, 276, life0, [.finished].toArray, drawn0, 874, os⟩
noncomputable def o276v0 (P : Params) : Obj := ⟨.type "tuple", none, .seq [].toArray 0, [].toArray⟩
noncomputable def o278v0 (P : Params) : Obj := ⟨.type "tuple", none, .seq [vS "p" 877, vS "sep" 878, vS "altsep" 879, vS "extsep" 880, vS "sepIndex" 881, vS "altsepIndex" 882, vS "dotIndex" 883, vS "filenameIndex" 884].toArray 0, [].toArray⟩
noncomputable def o279v0 (P : Params) : Obj := ⟨.type "tuple", none, .seq [].toArray 0, [].toArray⟩
noncomputable def o281v0 (P : Params) : Obj := ⟨.type "code", none, .fields [vS "_splitext" 874, vS "_splitext" 875, vS "/claim/cut.py" 876, vI (226) 0, vI (4) 0, vI (0) 0, vI (0) 0, vI (3) 0, .ref 276, .bool true, vI (181) 0, .ref 277, .none, .ref 278, .ref 279, .ref 280, vI (885) 0, vI (226) 0, vS "/claim/cut.py" 886].toArray, [].toArray⟩
noncomputable def o282v0 (P : Params) : Obj := ⟨.type "function", none, .func (fnX (sO "_splitext") (sO "_splitext") (fd 45) 3 0 (.none) (.none) (.str (dc 45) 887) (vS "cpy313.genericpath" 872) none (.ref 281) (.none)), [].toArray⟩
noncomputable def t154v1 (P : Params) (z : Nat → Obj) : BT := .node (o154v0 P) (.node (o282v0 P) .nil .nil) .nil
noncomputable def t153v1 (P : Params) (z : Nat → Obj) : BT := .node (o153v0 P) (.node (o281v0 P) .nil .nil) .nil
noncomputable def t152v1 (P : Params) (z : Nat → Obj) : BT := .node (o152v0 P) (.node (⟨.none, none, .func (fnX (sO "_splitext") (sO "_splitext") (fd 45) 0 0 (.none) (.none) (.none) (.none) none (.none) (.none)), [].toArray⟩) .nil .nil) .nil
noncomputable def t151v1 (P : Params) (z : Nat → Obj) : BT := .node (o151v0 P) (.node (o279v0 P) .nil .nil) .nil
noncomputable def t150v1 (P : Params) (z : Nat → Obj) : BT := .node (o150v0 P) (.node (o278v0 P) .nil .nil) .nil
noncomputable def t149v1 (P : Params) (z : Nat → Obj) : BT := .node (o149v0 P) (.node (⟨.none, none, .fields [].toArray, [].toArray⟩) .nil .nil) .nil
noncomputable def t148v1 (P : Params) (z : Nat → Obj) : BT := .node (o148v0 P) (.node (o276v0 P) .nil .nil) .nil
noncomputable def t90v5 (P : Params) (z : Nat → Obj) : BT := .node (z 90) (t154v1 P z) (t218v0 P z)
noncomputable def t89v5 (P : Params) (z : Nat → Obj) : BT := .node (z 89) (t153v1 P z) (t217v0 P z)
noncomputable def t88v3 (P : Params) (z : Nat → Obj) : BT := .node (o88v0 P) (t152v1 P z) (t216v0 P z)
noncomputable def t87v3 (P : Params) (z : Nat → Obj) : BT := .node (o87v0 P) (t151v1 P z) (t215v0 P z)
noncomputable def t86v4 (P : Params) (z : Nat → Obj) : BT := .node (z 86) (t150v1 P z) (t214v0 P z)
noncomputable def t85v4 (P : Params) (z : Nat → Obj) : BT := .node (z 85) (t149v1 P z) (t213v0 P z)
noncomputable def t84v4 (P : Params) (z : Nat → Obj) : BT := .node (z 84) (t148v1 P z) (t212v0 P z)
noncomputable def t58v10 (P : Params) (z : Nat → Obj) : BT := .node (o58v1 P) (t90v5 P z) (t122v2 P z)
noncomputable def t57v9 (P : Params) (z : Nat → Obj) : BT := .node (o57v0 P) (t89v5 P z) (t121v2 P z)
noncomputable def t56v7 (P : Params) (z : Nat → Obj) : BT := .node (o56v0 P) (t88v3 P z) (t120v2 P z)
noncomputable def t55v7 (P : Params) (z : Nat → Obj) : BT := .node (o55v0 P) (t87v3 P z) (t119v2 P z)
noncomputable def t54v8 (P : Params) (z : Nat → Obj) : BT := .node (o54v0 P) (t86v4 P z) (t118v2 P z)
noncomputable def t53v8 (P : Params) (z : Nat → Obj) : BT := .node (o53v0 P) (t85v4 P z) (t117v2 P z)
noncomputable def t52v8 (P : Params) (z : Nat → Obj) : BT := .node (o52v0 P) (t84v4 P z) (t116v2 P z)
noncomputable def t26v17 (P : Params) (z : Nat → Obj) : BT := .node (o26v0 P) (t42v8 P z) (t58v10 P z)
noncomputable def t25v17 (P : Params) (z : Nat → Obj) : BT := .node (o25v0 P) (t41v8 P z) (t57v9 P z)
noncomputable def t24v14 (P : Params) (z : Nat → Obj) : BT := .node (o24v0 P) (t40v7 P z) (t56v7 P z)
noncomputable def t23v16 (P : Params) (z : Nat → Obj) : BT := .node (o23v0 P) (t39v9 P z) (t55v7 P z)
noncomputable def t22v17 (P : Params) (z : Nat → Obj) : BT := .node (o22v0 P) (t38v9 P z) (t54v8 P z)
noncomputable def t21v16 (P : Params) (z : Nat → Obj) : BT := .node (o21v0 P) (t37v7 P z) (t53v8 P z)
noncomputable def t20v15 (P : Params) (z : Nat → Obj) : BT := .node (o20v0 P) (t36v7 P z) (t52v8 P z)
noncomputable def t10v29 (P : Params) (z : Nat → Obj) : BT := .node (boot_o_10 P) (t18v14 P z) (t26v17 P z)
noncomputable def t0v62 (P : Params) (z : Nat → Obj) : BT := .node (boot_o_0 P) (.node (boot_o_1 P) (.node (d3 P (vS "cpy313.genericpath" 872) 46 47) (.node (boot_o_7 P) (t15v18 P z) (t23v16 P z)) (t11v30 P z)) (.node (boot_o_5 P) (.node (boot_o_9 P) (t17v18 P z) (t25v17 P z)) (.node (o13v0 P) (t21v16 P z) (t29v14 P z)))) (.node (boot_o_2 P) (.node (boot_o_4 P) (.node (boot_o_8 P) (t16v17 P z) (t24v14 P z)) (.node (f12 69) (t20v15 P z) (t28v17 P z))) (.node (boot_o_6 P) (t10v29 P z) (.node (o14v0 P) (t22v17 P z) (t30v16 P z))))
noncomputable def S45 (w : World) (os : OsState) (z : Nat → Obj) : SharedT := ⟨t0v62 w.params z, 283, life0, [.finished].toArray, drawn0, 889, os⟩
noncomputable def o283v0 (P : Params) : Obj := ⟨.type "tuple", none, .seq [].toArray 0, [].toArray⟩
noncomputable def o285v0 (P : Params) : Obj := ⟨.type "tuple", none, .seq [vS "funcname" 892, vS "args" 893, vS "hasstr" 894, vS "hasbytes" 895, vS "s" 896].toArray 0, [].toArray⟩
noncomputable def o286v0 (P : Params) : Obj := ⟨.type "tuple", none, .seq [].toArray 0, [].toArray⟩
noncomputable def o288v0 (P : Params) : Obj := ⟨.type "code", none, .fields [vS "_check_arg_types" 889, vS "_check_arg_types" 890, vS "/claim/cut.py" 891, vI (243) 0, vI (1) 0, vI (0) 0, vI (0) 0, vI (7) 0, .ref 283, .bool true, vI (181) 0, .ref 284, .none, .ref 285, .ref 286, .ref 287, vI (897) 0, vI (243) 0, vS "/claim/cut.py" 898].toArray, [].toArray⟩
noncomputable def o289v0 (P : Params) : Obj := ⟨.type "function", none, .func (fnX (sO "_check_arg_types") (sO "_check_arg_types") (fd 46) 3 0 (.none) (.none) (.none) (vS "cpy313.genericpath" 872) none (.ref 288) (.none)), [].toArray⟩
noncomputable def t161v1 (P : Params) (z : Nat → Obj) : BT := .node (o161v0 P) (.node (o289v0 P) .nil .nil) .nil
noncomputable def t160v1 (P : Params) (z : Nat → Obj) : BT := .node (o160v0 P) (.node (o288v0 P) .nil .nil) .nil
noncomputable def t159v1 (P : Params) (z : Nat → Obj) : BT := .node (o159v0 P) (.node (⟨.none, none, .func (fnX (sO "_check_arg_types") (sO "_check_arg_types") (fd 46) 0 0 (.none) (.none) (.none) (.none) none (.none) (.none)), [].toArray⟩) .nil .nil) .nil
noncomputable def t158v1 (P : Params) (z : Nat → Obj) : BT := .node (o158v0 P) (.node (o286v0 P) .nil .nil) .nil
noncomputable def t157v1 (P : Params) (z : Nat → Obj) : BT := .node (o157v0 P) (.node (o285v0 P) .nil .nil) .nil
noncomputable def t156v1 (P : Params) (z : Nat → Obj) : BT := .node (o156v0 P) (.node (⟨.none, none, .fields [].toArray, [].toArray⟩) .nil .nil) .nil
noncomputable def t155v1 (P : Params) (z : Nat → Obj) : BT := .node (o155v0 P) (.node (o283v0 P) .nil .nil) .nil
noncomputable def t97v3 (P : Params) (z : Nat → Obj) : BT := .node (o97v0 P) (t161v1 P z) (t225v0 P z)
noncomputable def t96v3 (P : Params) (z : Nat → Obj) : BT := .node (o96v0 P) (t160v1 P z) (t224v0 P z)
noncomputable def t95v4 (P : Params) (z : Nat → Obj) : BT := .node (z 95) (t159v1 P z) (t223v0 P z)
noncomputable def t94v4 (P : Params) (z : Nat → Obj) : BT := .node (z 94) (t158v1 P z) (t222v0 P z)
noncomputable def t93v4 (P : Params) (z : Nat → Obj) : BT := .node (z 93) (t157v1 P z) (t221v0 P z)
noncomputable def t92v4 (P : Params) (z : Nat → Obj) : BT := .node (o92v1 P) (t156v1 P z) (t220v0 P z)
noncomputable def t91v3 (P : Params) (z : Nat → Obj) : BT := .node (o91v0 P) (t155v1 P z) (t219v0 P z)
noncomputable def t62v9 (P : Params) (z : Nat → Obj) : BT := .node (o62v1 P) (t94v4 P z) (t126v2 P z)
noncomputable def t61v8 (P : Params) (z : Nat → Obj) : BT := .node (o61v0 P) (t93v4 P z) (t125v2 P z)
noncomputable def t60v9 (P : Params) (z : Nat → Obj) : BT := .node (o60v1 P) (t92v4 P z) (t124v2 P z)
noncomputable def t59v9 (P : Params) (z : Nat → Obj) : BT := .node (z 59) (t91v3 P z) (t123v2 P z)
noncomputable def t33v10 (P : Params) (z : Nat → Obj) : BT := .node (o33v0 P) (t65v5 P z) (t97v3 P z)
noncomputable def t32v9 (P : Params) (z : Nat → Obj) : BT := .node (o32v0 P) (t64v4 P z) (t96v3 P z)
noncomputable def t31v11 (P : Params) (z : Nat → Obj) : BT := .node (o31v0 P) (t63v5 P z) (t95v4 P z)
noncomputable def t30v17 (P : Params) (z : Nat → Obj) : BT := .node (o30v0 P) (t46v8 P z) (t62v9 P z)
noncomputable def t29v15 (P : Params) (z : Nat → Obj) : BT := .node (o29v0 P) (t45v7 P z) (t61v8 P z)
noncomputable def t28v18 (P : Params) (z : Nat → Obj) : BT := .node (o28v0 P) (t44v9 P z) (t60v9 P z)
noncomputable def t27v18 (P : Params) (z : Nat → Obj) : BT := .node (o27v0 P) (t43v9 P z) (t59v9 P z)
noncomputable def t17v19 (P : Params) (z : Nat → Obj) : BT := .node (o17v0 P) (t33v10 P z) (t49v9 P z)
noncomputable def t16v18 (P : Params) (z : Nat → Obj) : BT := .node (o16v0 P) (t32v9 P z) (t48v9 P z)
noncomputable def t15v19 (P : Params) (z : Nat → Obj) : BT := .node (o15v0 P) (t31v11 P z) (t47v8 P z)
noncomputable def t11v31 (P : Params) (z : Nat → Obj) : BT := .node (o11v0 P) (t19v17 P z) (t27v18 P z)
noncomputable def t9v33 (P : Params) (z : Nat → Obj) : BT := .node (boot_o_9 P) (t17v19 P z) (t25v17 P z)
noncomputable def t7v32 (P : Params) (z : Nat → Obj) : BT := .node (boot_o_7 P) (t15v19 P z) (t23v16 P z)
noncomputable def t5v39 (P : Params) (z : Nat → Obj) : BT := .node (boot_o_5 P) (t9v33 P z) (.node (o13v0 P) (t21v16 P z) (t29v15 P z))
noncomputable def t2v46 (P : Params) (z : Nat → Obj) : BT := .node (boot_o_2 P) (.node (boot_o_4 P) (.node (boot_o_8 P) (t16v18 P z) (t24v14 P z)) (.node (f12 72) (t20v15 P z) (t28v18 P z))) (.node (boot_o_6 P) (t10v29 P z) (.node (o14v0 P) (t22v17 P z) (t30v17 P z)))
noncomputable def t0v63 (P : Params) (z : Nat → Obj) : BT := .node (boot_o_0 P) (.node (boot_o_1 P) (.node (d3 P (vS "cpy313.genericpath" 872) 47 48) (t7v32 P z) (t11v31 P z)) (t5v39 P z)) (t2v46 P z)
noncomputable def S46 (w : World) (os : OsState) (z : Nat → Obj) : SharedT := ⟨t0v63 w.params z, 290, life0, [.finished].toArray, drawn0, 900, os⟩
noncomputable def t0v64 (P : Params) (z : Nat → Obj) : BT := .node (boot_o_0 P) (.node (boot_o_1 P) (.node (d3 P (vS "cpy313.posixpath" 900) 47 48) (t7v32 P z) (t11v31 P z)) (t5v39 P z)) (t2v46 P z)
noncomputable def S47 (w : World) (os : OsState) (z : Nat → Obj) : SharedT := ⟨t0v64 w.params z, 290, life0, [.finished].toArray, drawn0, 902, os⟩
noncomputable def o290v0 (P : Params) : Obj := ⟨.type "tuple", none, .seq [].toArray 0, [].toArray⟩
noncomputable def o292v0 (P : Params) : Obj := ⟨.type "tuple", none, .seq [vS "path" 905].toArray 0, [].toArray⟩
noncomputable def o293v0 (P : Params) : Obj := ⟨.type "tuple", none, .seq [].toArray 0, [].toArray⟩
noncomputable def o295v0 (P : Params) : Obj := ⟨.type "code", none, .fields [vS "_get_sep" 902, vS "_get_sep" 903, vS "/claim/cut.py" 904, vI (255) 0, vI (1) 0, vI (0) 0, vI (0) 0, vI (3) 0, .ref 290, .bool true, vI (181) 0, .ref 291, .none, .ref 292, .ref 293, .ref 294, vI (906) 0, vI (255) 0, vS "/claim/cut.py" 907].toArray, [].toArray⟩
noncomputable def o296v0 (P : Params) : Obj := ⟨.type "function", none, .func (fnX (sO "_get_sep") (sO "_get_sep") (fd 48) 3 0 (.none) (.none) (.none) (vS "cpy313.posixpath" 900) none (.ref 295) (.none)), [].toArray⟩
noncomputable def t168v1 (P : Params) (z : Nat → Obj) : BT := .node (o168v0 P) (.node (o296v0 P) .nil .nil) .nil
noncomputable def t167v1 (P : Params) (z : Nat → Obj) : BT := .node (o167v0 P) (.node (o295v0 P) .nil .nil) .nil
noncomputable def t166v1 (P : Params) (z : Nat → Obj) : BT := .node (o166v0 P) (.node (⟨.none, none, .func (fnX (sO "_get_sep") (sO "_get_sep") (fd 48) 0 0 (.none) (.none) (.none) (.none) none (.none) (.none)), [].toArray⟩) .nil .nil) .nil
noncomputable def t165v1 (P : Params) (z : Nat → Obj) : BT := .node (o165v0 P) (.node (o293v0 P) .nil .nil) .nil
noncomputable def t164v1 (P : Params) (z : Nat → Obj) : BT := .node (o164v0 P) (.node (o292v0 P) .nil .nil) .nil
noncomputable def t163v1 (P : Params) (z : Nat → Obj) : BT := .node (o163v0 P) (.node (⟨.none, none, .fields [].toArray, [].toArray⟩) .nil .nil) .nil
noncomputable def t162v1 (P : Params) (z : Nat → Obj) : BT := .node (o162v0 P) (.node (o290v0 P) .nil .nil) .nil
noncomputable def t104v3 (P : Params) (z : Nat → Obj) : BT := .node (o104v0 P) (t168v1 P z) (t232v0 P z)
noncomputable def t103v3 (P : Params) (z : Nat → Obj) : BT := .node (o103v0 P) (t167v1 P z) (t231v0 P z)
noncomputable def t102v3 (P : Params) (z : Nat → Obj) : BT := .node (o102v0 P) (t166v1 P z) (t230v0 P z)
noncomputable def t101v3 (P : Params) (z : Nat → Obj) : BT := .node (o101v0 P) (t165v1 P z) (t229v0 P z)
noncomputable def t100v3 (P : Params) (z : Nat → Obj) : BT := .node (o100v0 P) (t164v1 P z) (t228v0 P z)
noncomputable def t99v4 (P : Params) (z : Nat → Obj) : BT := .node (z 99) (t163v1 P z) (t227v0 P z)
noncomputable def t98v5 (P : Params) (z : Nat → Obj) : BT := .node (z 98) (t162v1 P z) (t226v1 P z)
noncomputable def t40v8 (P : Params) (z : Nat → Obj) : BT := .node (o40v0 P) (t72v3 P z) (t104v3 P z)
noncomputable def t39v10 (P : Params) (z : Nat → Obj) : BT := .node (o39v0 P) (t71v5 P z) (t103v3 P z)
noncomputable def t38v10 (P : Params) (z : Nat → Obj) : BT := .node (o38v0 P) (t70v5 P z) (t102v3 P z)
noncomputable def t37v8 (P : Params) (z : Nat → Obj) : BT := .node (o37v0 P) (t69v4 P z) (t101v3 P z)
noncomputable def t36v8 (P : Params) (z : Nat → Obj) : BT := .node (o36v0 P) (t68v3 P z) (t100v3 P z)
noncomputable def t35v10 (P : Params) (z : Nat → Obj) : BT := .node (o35v0 P) (t67v4 P z) (t99v4 P z)
noncomputable def t34v9 (P : Params) (z : Nat → Obj) : BT := .node (o34v0 P) (t66v3 P z) (t98v5 P z)
noncomputable def t24v15 (P : Params) (z : Nat → Obj) : BT := .node (o24v0 P) (t40v8 P z) (t56v7 P z)
noncomputable def t23v17 (P : Params) (z : Nat → Obj) : BT := .node (o23v0 P) (t39v10 P z) (t55v7 P z)
noncomputable def t22v18 (P : Params) (z : Nat → Obj) : BT := .node (o22v0 P) (t38v10 P z) (t54v8 P z)
noncomputable def t21v17 (P : Params) (z : Nat → Obj) : BT := .node (o21v0 P) (t37v8 P z) (t53v8 P z)
noncomputable def t20v16 (P : Params) (z : Nat → Obj) : BT := .node (o20v0 P) (t36v8 P z) (t52v8 P z)
noncomputable def t19v18 (P : Params) (z : Nat → Obj) : BT := .node (o19v0 P) (t35v10 P z) (t51v8 P z)
noncomputable def t18v15 (P : Params) (z : Nat → Obj) : BT := .node (o18v0 P) (t34v9 P z) (t50v7 P z)
noncomputable def t8v32 (P : Params) (z : Nat → Obj) : BT := .node (boot_o_8 P) (t16v18 P z) (t24v15 P z)
noncomputable def t0v65 (P : Params) (z : Nat → Obj) : BT := .node (boot_o_0 P) (.node (boot_o_1 P) (.node (d3 P (vS "cpy313.posixpath" 900) 48 49) (.node (boot_o_7 P) (t15v19 P z) (t23v17 P z)) (.node (o11v0 P) (t19v18 P z) (t27v18 P z))) (.node (boot_o_5 P) (t9v33 P z) (.node (o13v0 P) (t21v17 P z) (t29v15 P z)))) (.node (boot_o_2 P) (.node (boot_o_4 P) (t8v32 P z) (.node (f12 75) (t20v16 P z) (t28v18 P z))) (.node (boot_o_6 P) (.node (boot_o_10 P) (t18v15 P z) (t26v17 P z)) (.node (o14v0 P) (t22v18 P z) (t30v17 P z))))
noncomputable def S48 (w : World) (os : OsState) (z : Nat → Obj) : SharedT := ⟨t0v65 w.params z, 297, life0, [.finished].toArray, drawn0, 909, os⟩
noncomputable def o297v0 (P : Params) : Obj := ⟨.type "tuple", none, .seq [].toArray 0, [].toArray⟩
noncomputable def o299v0 (P : Params) : Obj := ⟨.type "tuple", none, .seq [vS "a" 912, vS "p" 913, vS "sep" 914, vS "path" 915, vS "b" 916].toArray 0, [].toArray⟩
noncomputable def o300v0 (P : Params) : Obj := ⟨.type "tuple", none, .seq [].toArray 0, [].toArray⟩
noncomputable def o302v0 (P : Params) : Obj := ⟨.type "code", none, .fields [vS "join" 909, vS "join" 910, vS "/claim/cut.py" 911, vI (260) 0, vI (1) 0, vI (0) 0, vI (0) 0, vI (7) 0, .ref 297, .bool true, vI (181) 0, .ref 298, .none, .ref 299, .ref 300, .ref 301, vI (917) 0, vI (260) 0, vS "/claim/cut.py" 918].toArray, [].toArray⟩
noncomputable def o303v0 (P : Params) : Obj := ⟨.type "function", none, .func (fnX (sO "join") (sO "join") (fd 49) 3 0 (.none) (.none) (.str (dc 49) 919) (vS "cpy313.posixpath" 900) none (.ref 302) (.none)), [].toArray⟩
noncomputable def t175v1 (P : Params) (z : Nat → Obj) : BT := .node (o175v0 P) (.node (o303v0 P) .nil .nil) .nil
noncomputable def t174v1 (P : Params) (z : Nat → Obj) : BT := .node (o174v0 P) (.node (o302v0 P) .nil .nil) .nil
noncomputable def t173v1 (P : Params) (z : Nat → Obj) : BT := .node (o173v0 P) (.node (⟨.none, none, .func (fnX (sO "join") (sO "join") (fd 49) 0 0 (.none) (.none) (.none) (.none) none (.none) (.none)), [].toArray⟩) .nil .nil) .nil
noncomputable def t172v1 (P : Params) (z : Nat → Obj) : BT := .node (o172v0 P) (.node (o300v0 P) .nil .nil) .nil
noncomputable def t171v1 (P : Params) (z : Nat → Obj) : BT := .node (o171v0 P) (.node (o299v0 P) .nil .nil) .nil
noncomputable def t170v1 (P : Params) (z : Nat → Obj) : BT := .node (o170v0 P) (.node (⟨.none, none, .fields [].toArray, [].toArray⟩) .nil .nil) .nil
noncomputable def t169v1 (P : Params) (z : Nat → Obj) : BT := .node (o169v0 P) (.node (o297v0 P) .nil .nil) .nil
noncomputable def t111v3 (P : Params) (z : Nat → Obj) : BT := .node (o111v0 P) (t175v1 P z) (t239v0 P z)
noncomputable def t110v3 (P : Params) (z : Nat → Obj) : BT := .node (o110v0 P) (t174v1 P z) (t238v0 P z)
noncomputable def t109v3 (P : Params) (z : Nat → Obj) : BT := .node (o109v0 P) (t173v1 P z) (t237v0 P z)
noncomputable def t108v3 (P : Params) (z : Nat → Obj) : BT := .node (o108v0 P) (t172v1 P z) (t236v0 P z)
noncomputable def t107v3 (P : Params) (z : Nat → Obj) : BT := .node (o107v0 P) (t171v1 P z) (t235v0 P z)
noncomputable def t106v3 (P : Params) (z : Nat → Obj) : BT := .node (o106v0 P) (t170v1 P z) (t234v0 P z)
noncomputable def t105v3 (P : Params) (z : Nat → Obj) : BT := .node (o105v0 P) (t169v1 P z) (t233v0 P z)
noncomputable def t47v9 (P : Params) (z : Nat → Obj) : BT := .node (o47v0 P) (t79v4 P z) (t111v3 P z)
noncomputable def t46v9 (P : Params) (z : Nat → Obj) : BT := .node (o46v0 P) (t78v4 P z) (t110v3 P z)
noncomputable def t45v8 (P : Params) (z : Nat → Obj) : BT := .node (o45v0 P) (t77v3 P z) (t109v3 P z)
noncomputable def t44v10 (P : Params) (z : Nat → Obj) : BT := .node (o44v0 P) (t76v5 P z) (t108v3 P z)
noncomputable def t43v10 (P : Params) (z : Nat → Obj) : BT := .node (o43v0 P) (t75v5 P z) (t107v3 P z)
noncomputable def t42v9 (P : Params) (z : Nat → Obj) : BT := .node (o42v0 P) (t74v4 P z) (t106v3 P z)
noncomputable def t41v9 (P : Params) (z : Nat → Obj) : BT := .node (o41v0 P) (t73v4 P z) (t105v3 P z)
noncomputable def t30v18 (P : Params) (z : Nat → Obj) : BT := .node (o30v0 P) (t46v9 P z) (t62v9 P z)
noncomputable def t29v16 (P : Params) (z : Nat → Obj) : BT := .node (o29v0 P) (t45v8 P z) (t61v8 P z)
noncomputable def t28v19 (P : Params) (z : Nat → Obj) : BT := .node (o28v0 P) (t44v10 P z) (t60v9 P z)
noncomputable def t27v19 (P : Params) (z : Nat → Obj) : BT := .node (o27v0 P) (t43v10 P z) (t59v9 P z)
noncomputable def t26v18 (P : Params) (z : Nat → Obj) : BT := .node (o26v0 P) (t42v9 P z) (t58v10 P z)
noncomputable def t25v18 (P : Params) (z : Nat → Obj) : BT := .node (o25v0 P) (t41v9 P z) (t57v9 P z)
noncomputable def t15v20 (P : Params) (z : Nat → Obj) : BT := .node (o15v0 P) (t31v11 P z) (t47v9 P z)
noncomputable def t7v34 (P : Params) (z : Nat → Obj) : BT := .node (boot_o_7 P) (t15v20 P z) (t23v17 P z)
noncomputable def t0v66 (P : Params) (z : Nat → Obj) : BT := .node (boot_o_0 P) (.node (boot_o_1 P) (.node (d3 P (vS "cpy313.posixpath" 900) 49 50) (t7v34 P z) (.node (o11v0 P) (t19v18 P z) (t27v19 P z))) (.node (boot_o_5 P) (.node (boot_o_9 P) (t17v19 P z) (t25v18 P z)) (.node (o13v0 P) (t21v17 P z) (t29v16 P z)))) (.node (boot_o_2 P) (.node (boot_o_4 P) (t8v32 P z) (.node (f12 78) (t20v16 P z) (t28v19 P z))) (.node (boot_o_6 P) (.node (boot_o_10 P) (t18v15 P z) (t26v18 P z)) (.node (o14v0 P) (t22v18 P z) (t30v18 P z))))
noncomputable def S49 (w : World) (os : OsState) (z : Nat → Obj) : SharedT := ⟨t0v66 w.params z, 304, life0, [.finished].toArray, drawn0, 921, os⟩
noncomputable def o304v0 (P : Params) : Obj := ⟨.type "tuple", none, .seq [].toArray 0, [].toArray⟩
noncomputable def o306v0 (P : Params) : Obj := ⟨.type "tuple", none, .seq [vS "p" 924, vS "sep" 925, vS "i" 926, vS "head" 927, vS "tail" 928].toArray 0, [].toArray⟩
noncomputable def o307v0 (P : Params) : Obj := ⟨.type "tuple", none, .seq [].toArray 0, [].toArray⟩
noncomputable def o309v0 (P : Params) : Obj := ⟨.type "code", none, .fields [vS "split" 921, vS "split" 922, vS "/claim/cut.py" 923, vI (281) 0, vI (1) 0, vI (0) 0, vI (0) 0, vI (3) 0, .ref 304, .bool true, vI (181) 0, .ref 305, .none, .ref 306, .ref 307, .ref 308, vI (929) 0, vI (281) 0, vS "/claim/cut.py" 930].toArray, [].toArray⟩
noncomputable def o310v0 (P : Params) : Obj := ⟨.type "function", none, .func (fnX (sO "split") (sO "split") (fd 50) 3 0 (.none) (.none) (.str (dc 50) 931) (vS "cpy313.posixpath" 900) none (.ref 309) (.none)), [].toArray⟩
noncomputable def t181v1 (P : Params) (z : Nat → Obj) : BT := .node (o181v0 P) (.node (o309v0 P) .nil .nil) .nil
noncomputable def t180v1 (P : Params) (z : Nat → Obj) : BT := .node (o180v0 P) (.node (⟨.none, none, .func (fnX (sO "split") (sO "split") (fd 50) 0 0 (.none) (.none) (.none) (.none) none (.none) (.none)), [].toArray⟩) .nil .nil) .nil
noncomputable def t179v1 (P : Params) (z : Nat → Obj) : BT := .node (o179v0 P) (.node (o307v0 P) .nil .nil) .nil
noncomputable def t178v1 (P : Params) (z : Nat → Obj) : BT := .node (o178v0 P) (.node (o306v0 P) .nil .nil) .nil
noncomputable def t177v1 (P : Params) (z : Nat → Obj) : BT := .node (o177v0 P) (.node (⟨.none, none, .fields [].toArray, [].toArray⟩) .nil .nil) .nil
noncomputable def t176v1 (P : Params) (z : Nat → Obj) : BT := .node (o176v0 P) (.node (o304v0 P) .nil .nil) .nil
noncomputable def t118v3 (P : Params) (z : Nat → Obj) : BT := .node (o118v0 P) (.node (o182v0 P) (.node (o310v0 P) .nil .nil) .nil) (t246v0 P z)
noncomputable def t117v3 (P : Params) (z : Nat → Obj) : BT := .node (o117v0 P) (t181v1 P z) (t245v0 P z)
noncomputable def t116v3 (P : Params) (z : Nat → Obj) : BT := .node (o116v0 P) (t180v1 P z) (t244v0 P z)
noncomputable def t115v3 (P : Params) (z : Nat → Obj) : BT := .node (o115v0 P) (t179v1 P z) (t243v0 P z)
noncomputable def t114v3 (P : Params) (z : Nat → Obj) : BT := .node (o114v0 P) (t178v1 P z) (t242v0 P z)
noncomputable def t113v3 (P : Params) (z : Nat → Obj) : BT := .node (o113v0 P) (t177v1 P z) (t241v0 P z)
noncomputable def t112v3 (P : Params) (z : Nat → Obj) : BT := .node (o112v0 P) (t176v1 P z) (t240v0 P z)
noncomputable def t54v9 (P : Params) (z : Nat → Obj) : BT := .node (o54v0 P) (t86v4 P z) (t118v3 P z)
noncomputable def t53v9 (P : Params) (z : Nat → Obj) : BT := .node (o53v0 P) (t85v4 P z) (t117v3 P z)
noncomputable def t52v9 (P : Params) (z : Nat → Obj) : BT := .node (o52v0 P) (t84v4 P z) (t116v3 P z)
noncomputable def t51v9 (P : Params) (z : Nat → Obj) : BT := .node (o51v0 P) (t83v4 P z) (t115v3 P z)
noncomputable def t50v8 (P : Params) (z : Nat → Obj) : BT := .node (o50v0 P) (t82v3 P z) (t114v3 P z)
noncomputable def t49v10 (P : Params) (z : Nat → Obj) : BT := .node (o49v0 P) (t81v5 P z) (t113v3 P z)
noncomputable def t48v10 (P : Params) (z : Nat → Obj) : BT := .node (o48v0 P) (t80v5 P z) (t112v3 P z)
noncomputable def t22v19 (P : Params) (z : Nat → Obj) : BT := .node (o22v0 P) (t38v10 P z) (t54v9 P z)
noncomputable def t21v18 (P : Params) (z : Nat → Obj) : BT := .node (o21v0 P) (t37v8 P z) (t53v9 P z)
noncomputable def t20v17 (P : Params) (z : Nat → Obj) : BT := .node (o20v0 P) (t36v8 P z) (t52v9 P z)
noncomputable def t19v19 (P : Params) (z : Nat → Obj) : BT := .node (o19v0 P) (t35v10 P z) (t51v9 P z)
noncomputable def t18v16 (P : Params) (z : Nat → Obj) : BT := .node (o18v0 P) (t34v9 P z) (t50v8 P z)
noncomputable def t17v20 (P : Params) (z : Nat → Obj) : BT := .node (o17v0 P) (t33v10 P z) (t49v10 P z)
noncomputable def t16v19 (P : Params) (z : Nat → Obj) : BT := .node (o16v0 P) (t32v9 P z) (t48v10 P z)
noncomputable def t14v35 (P : Params) (z : Nat → Obj) : BT := .node (o14v0 P) (t22v19 P z) (t30v18 P z)
noncomputable def t0v67 (P : Params) (z : Nat → Obj) : BT := .node (boot_o_0 P) (.node (boot_o_1 P) (.node (d3 P (vS "cpy313.posixpath" 900) 50 51) (t7v34 P z) (.node (o11v0 P) (t19v19 P z) (t27v19 P z))) (.node (boot_o_5 P) (.node (boot_o_9 P) (t17v20 P z) (t25v18 P z)) (.node (o13v0 P) (t21v18 P z) (t29v16 P z)))) (.node (boot_o_2 P) (.node (boot_o_4 P) (.node (boot_o_8 P) (t16v19 P z) (t24v15 P z)) (.node (f12 81) (t20v17 P z) (t28v19 P z))) (.node (boot_o_6 P) (.node (boot_o_10 P) (t18v16 P z) (t26v18 P z)) (t14v35 P z)))
noncomputable def S50 (w : World) (os : OsState) (z : Nat → Obj) : SharedT := ⟨t0v67 w.params z, 311, life0, [.finished].toArray, drawn0, 933, os⟩
noncomputable def o311v0 (P : Params) : Obj := ⟨.type "tuple", none, .seq [].toArray 0, [].toArray⟩
noncomputable def o313v0 (P : Params) : Obj := ⟨.type "tuple", none, .seq [vS "p" 936, vS "sep" 937, vS "extsep" 938].toArray 0, [].toArray⟩
noncomputable def o314v0 (P : Params) : Obj := ⟨.type "tuple", none, .seq [].toArray 0, [].toArray⟩
noncomputable def o316v0 (P : Params) : Obj := ⟨.type "code", none, .fields [vS "splitext" 933, vS "splitext" 934, vS "/claim/cut.py" 935, vI (291) 0, vI (1) 0, vI (0) 0, vI (0) 0, vI (3) 0, .ref 311, .bool true, vI (181) 0, .ref 312, .none, .ref 313, .ref 314, .ref 315, vI (939) 0, vI (291) 0, vS "/claim/cut.py" 940].toArray, [].toArray⟩
noncomputable def t124v3 (P : Params) (z : Nat → Obj) : BT := .node (o124v0 P) (.node (o188v0 P) (.node (o316v0 P) .nil .nil) .nil) (t252v0 P z)
noncomputable def t123v3 (P : Params) (z : Nat → Obj) : BT := .node (o123v0 P) (.node (o187v0 P) (.node (⟨.none, none, .func (fnX (sO "splitext") (sO "splitext") (fd 51) 0 0 (.none) (.none) (.none) (.none) none (.none) (.none)), [].toArray⟩) .nil .nil) .nil) (t251v0 P z)
noncomputable def t122v3 (P : Params) (z : Nat → Obj) : BT := .node (o122v0 P) (.node (o186v0 P) (.node (o314v0 P) .nil .nil) .nil) (t250v0 P z)
noncomputable def t121v3 (P : Params) (z : Nat → Obj) : BT := .node (o121v0 P) (.node (o185v0 P) (.node (o313v0 P) .nil .nil) .nil) (t249v0 P z)
noncomputable def t120v3 (P : Params) (z : Nat → Obj) : BT := .node (o120v0 P) (.node (o184v0 P) (.node (⟨.none, none, .fields [].toArray, [].toArray⟩) .nil .nil) .nil) (t248v0 P z)
noncomputable def t119v3 (P : Params) (z : Nat → Obj) : BT := .node (o119v0 P) (.node (o183v0 P) (.node (o311v0 P) .nil .nil) .nil) (t247v0 P z)
noncomputable def t60v10 (P : Params) (z : Nat → Obj) : BT := .node (o60v1 P) (t92v4 P z) (t124v3 P z)
noncomputable def t59v10 (P : Params) (z : Nat → Obj) : BT := .node (z 59) (t91v3 P z) (t123v3 P z)
noncomputable def t58v11 (P : Params) (z : Nat → Obj) : BT := .node (o58v1 P) (t90v5 P z) (t122v3 P z)
noncomputable def t57v10 (P : Params) (z : Nat → Obj) : BT := .node (o57v0 P) (t89v5 P z) (t121v3 P z)
noncomputable def t56v8 (P : Params) (z : Nat → Obj) : BT := .node (o56v0 P) (t88v3 P z) (t120v3 P z)
noncomputable def t55v8 (P : Params) (z : Nat → Obj) : BT := .node (o55v0 P) (t87v3 P z) (t119v3 P z)
noncomputable def t28v20 (P : Params) (z : Nat → Obj) : BT := .node (o28v0 P) (t44v10 P z) (t60v10 P z)
noncomputable def t27v20 (P : Params) (z : Nat → Obj) : BT := .node (o27v0 P) (t43v10 P z) (t59v10 P z)
noncomputable def t26v19 (P : Params) (z : Nat → Obj) : BT := .node (o26v0 P) (t42v9 P z) (t58v11 P z)
noncomputable def t25v19 (P : Params) (z : Nat → Obj) : BT := .node (o25v0 P) (t41v9 P z) (t57v10 P z)
noncomputable def t24v16 (P : Params) (z : Nat → Obj) : BT := .node (o24v0 P) (t40v8 P z) (t56v8 P z)
noncomputable def t23v18 (P : Params) (z : Nat → Obj) : BT := .node (o23v0 P) (t39v10 P z) (t55v8 P z)
noncomputable def t12v38 (P : Params) (z : Nat → Obj) : BT := .node (f12 84) (t20v17 P z) (t28v20 P z)
noncomputable def t11v35 (P : Params) (z : Nat → Obj) : BT := .node (o11v0 P) (t19v19 P z) (t27v20 P z)
noncomputable def t10v33 (P : Params) (z : Nat → Obj) : BT := .node (boot_o_10 P) (t18v16 P z) (t26v19 P z)
noncomputable def t9v36 (P : Params) (z : Nat → Obj) : BT := .node (boot_o_9 P) (t17v20 P z) (t25v19 P z)
noncomputable def t0v68 (P : Params) (z : Nat → Obj) : BT := .node (boot_o_0 P) (.node (boot_o_1 P) (.node (d3 P (vS "cpy313.posixpath" 900) 51 52) (.node (boot_o_7 P) (t15v20 P z) (t23v18 P z)) (t11v35 P z)) (.node (boot_o_5 P) (t9v36 P z) (.node (o13v0 P) (t21v18 P z) (.node (o29v0 P) (t45v8 P z) (.node (o61v0 P) (t93v4 P z) (.node (o125v0 P) (.node (o189v0 P) (.node (⟨.type "function", none, .func (fnX (sO "splitext") (sO "splitext") (fd 51) 3 0 (.none) (.none) (.none) (vS "cpy313.posixpath" 900) none (.ref 316) (.none)), [].toArray⟩) .nil .nil) .nil) (t253v0 P z))))))) (.node (boot_o_2 P) (.node (boot_o_4 P) (.node (boot_o_8 P) (t16v19 P z) (t24v16 P z)) (t12v38 P z)) (.node (boot_o_6 P) (t10v33 P z) (t14v35 P z)))
noncomputable def S51 (w : World) (os : OsState) (z : Nat → Obj) : SharedT := ⟨t0v68 w.params z, 318, life0, [.finished].toArray, drawn0, 942, os⟩
noncomputable def o317v1 (P : Params) : Obj := ⟨.type "function", none, .func (fnX (sO "splitext") (sO "splitext") (fd 51) 3 0 (.none) (.none) (.str (dc 45) 887) (vS "cpy313.posixpath" 900) none (.ref 316) (.none)), [].toArray⟩
noncomputable def t126v3 (P : Params) (z : Nat → Obj) : BT := .node (o126v0 P) (.node (o190v0 P) (.node (⟨.type "frame", none, .dict [eS P (sO "x") 942 (.ref 282), eS P (sO "t") 944 (.type "function"), eS P (sO "f") 958 (.ref 282)].toArray 3, [].toArray⟩) .nil .nil) .nil) (t254v0 P z)
noncomputable def t125v4 (P : Params) (z : Nat → Obj) : BT := .node (o125v0 P) (.node (o189v0 P) (.node (o317v1 P) .nil .nil) .nil) (t253v0 P z)
noncomputable def t64v5 (P : Params) (z : Nat → Obj) : BT := .node (o64v1 P) (t128v1 P z) (.node (o192v0 P) (.node (⟨.type "tuple", none, .seq [vS "abc" 966, vS "collections.abc" 967, vS "os" 968, vS "string" 969, vS "types" 970].toArray 0, [].toArray⟩) .nil .nil) .nil)
noncomputable def t63v6 (P : Params) (z : Nat → Obj) : BT := .node (z 63) (t127v1 P z) (.node (o191v0 P) (.node (⟨.type "tuple", none, .seq [vS "abc" 947, vS "collections.abc" 948, vS "os" 949, vS "string" 950, vS "types" 951].toArray 0, [].toArray⟩) .nil .nil) .nil)
noncomputable def t62v10 (P : Params) (z : Nat → Obj) : BT := .node (o62v1 P) (t94v4 P z) (t126v3 P z)
noncomputable def t61v10 (P : Params) (z : Nat → Obj) : BT := .node (o61v0 P) (t93v4 P z) (t125v4 P z)
noncomputable def t32v10 (P : Params) (z : Nat → Obj) : BT := .node (o32v0 P) (t64v5 P z) (t96v3 P z)
noncomputable def t31v12 (P : Params) (z : Nat → Obj) : BT := .node (o31v0 P) (t63v6 P z) (t95v4 P z)
noncomputable def t30v19 (P : Params) (z : Nat → Obj) : BT := .node (o30v0 P) (t46v9 P z) (t62v10 P z)
noncomputable def t29v18 (P : Params) (z : Nat → Obj) : BT := .node (o29v0 P) (t45v8 P z) (t61v10 P z)
noncomputable def t16v20 (P : Params) (z : Nat → Obj) : BT := .node (o16v0 P) (t32v10 P z) (t48v10 P z)
noncomputable def t15v21 (P : Params) (z : Nat → Obj) : BT := .node (o15v0 P) (t31v12 P z) (t47v9 P z)
noncomputable def t14v36 (P : Params) (z : Nat → Obj) : BT := .node (o14v0 P) (t22v19 P z) (t30v19 P z)
noncomputable def t8v35 (P : Params) (z : Nat → Obj) : BT := .node (boot_o_8 P) (t16v20 P z) (t24v16 P z)
noncomputable def t7v36 (P : Params) (z : Nat → Obj) : BT := .node (boot_o_7 P) (t15v21 P z) (t23v18 P z)
noncomputable def t5v44 (P : Params) (z : Nat → Obj) : BT := .node (boot_o_5 P) (t9v36 P z) (.node (o13v0 P) (t21v18 P z) (t29v18 P z))
noncomputable def t2v51 (P : Params) (z : Nat → Obj) : BT := .node (boot_o_2 P) (.node (boot_o_4 P) (t8v35 P z) (t12v38 P z)) (.node (boot_o_6 P) (t10v33 P z) (t14v36 P z))
noncomputable def t0v69 (P : Params) (z : Nat → Obj) : BT := .node (boot_o_0 P) (.node (boot_o_1 P) (.node (d3 P (vS "cpy313.posixpath" 900) 51 52) (t7v36 P z) (t11v35 P z)) (t5v44 P z)) (t2v51 P z)
noncomputable def S52 (w : World) (os : OsState) (z : Nat → Obj) : SharedT := ⟨t0v69 w.params z, 321, life0, [.finished].toArray, drawn0, 979, os⟩
noncomputable def t0v70 (P : Params) (z : Nat → Obj) : BT := .node (boot_o_0 P) (.node (boot_o_1 P) (.node (d3 P (vS "law_ij0142_01" 979) 51 52) (t7v36 P z) (t11v35 P z)) (t5v44 P z)) (t2v51 P z)
noncomputable def S53 (w : World) (os : OsState) (z : Nat → Obj) : SharedT := ⟨t0v70 w.params z, 321, life0, [.finished].toArray, drawn0, 981, os⟩
noncomputable def o321v0 (P : Params) : Obj := ⟨.type "tuple", none, .seq [].toArray 0, [].toArray⟩
noncomputable def o324v0 (P : Params) : Obj := ⟨.type "code", none, .fields [vS "_law_path" 981, vS "_law_path" 982, vS "/claim/cut.py" 983, vI (302) 0, vI (1) 0, vI (0) 0, vI (0) 0, vI (3) 0, .ref 321, .bool true, vI (181) 0, .ref 322, .none, .none, .none, .ref 323, vI (984) 0, vI (302) 0, vS "/claim/cut.py" 985].toArray, [].toArray⟩
noncomputable def o325v0 (P : Params) : Obj := ⟨.type "function", none, .func (fnX (sO "_law_path") (sO "_law_path") (fd 54) 3 0 (.none) (.none) (.none) (vS "law_ij0142_01" 979) none (.ref 324) (.none)), [].toArray⟩
noncomputable def t69v5 (P : Params) (z : Nat → Obj) : BT := .node (o69v1 P) (t133v1 P z) (.node (o197v0 P) (.node (o325v0 P) .nil .nil) .nil)
noncomputable def t68v4 (P : Params) (z : Nat → Obj) : BT := .node (o68v0 P) (t132v1 P z) (.node (o196v0 P) (.node (o324v0 P) .nil .nil) .nil)
noncomputable def t67v5 (P : Params) (z : Nat → Obj) : BT := .node (o67v1 P) (t131v1 P z) (.node (o195v0 P) (.node (⟨.none, none, .func (fnX (sO "_law_path") (sO "_law_path") (fd 54) 0 0 (.none) (.none) (.none) (.none) none (.none) (.none)), [].toArray⟩) .nil .nil) .nil)
noncomputable def t66v4 (P : Params) (z : Nat → Obj) : BT := .node (o66v0 P) (t130v1 P z) (.node (o194v0 P) (.node (⟨.none, none, .fields [].toArray, [].toArray⟩) .nil .nil) .nil)
noncomputable def t65v6 (P : Params) (z : Nat → Obj) : BT := .node (z 65) (t129v1 P z) (.node (o193v0 P) (.node (o321v0 P) .nil .nil) .nil)
noncomputable def t37v9 (P : Params) (z : Nat → Obj) : BT := .node (o37v0 P) (t69v5 P z) (t101v3 P z)
noncomputable def t36v9 (P : Params) (z : Nat → Obj) : BT := .node (o36v0 P) (t68v4 P z) (t100v3 P z)
noncomputable def t35v11 (P : Params) (z : Nat → Obj) : BT := .node (o35v0 P) (t67v5 P z) (t99v4 P z)
noncomputable def t34v10 (P : Params) (z : Nat → Obj) : BT := .node (o34v0 P) (t66v4 P z) (t98v5 P z)
noncomputable def t33v11 (P : Params) (z : Nat → Obj) : BT := .node (o33v0 P) (t65v6 P z) (t97v3 P z)
noncomputable def t21v19 (P : Params) (z : Nat → Obj) : BT := .node (o21v0 P) (t37v9 P z) (t53v9 P z)
noncomputable def t20v18 (P : Params) (z : Nat → Obj) : BT := .node (o20v0 P) (t36v9 P z) (t52v9 P z)
noncomputable def t19v20 (P : Params) (z : Nat → Obj) : BT := .node (o19v0 P) (t35v11 P z) (t51v9 P z)
noncomputable def t18v17 (P : Params) (z : Nat → Obj) : BT := .node (o18v0 P) (t34v10 P z) (t50v8 P z)
noncomputable def t17v21 (P : Params) (z : Nat → Obj) : BT := .node (o17v0 P) (t33v11 P z) (t49v10 P z)
noncomputable def t13v35 (P : Params) (z : Nat → Obj) : BT := .node (o13v0 P) (t21v19 P z) (t29v18 P z)
noncomputable def t0v71 (P : Params) (z : Nat → Obj) : BT := .node (boot_o_0 P) (.node (boot_o_1 P) (.node (d3 P (vS "law_ij0142_01" 979) 52 53) (t7v36 P z) (.node (o11v0 P) (t19v20 P z) (t27v20 P z))) (.node (boot_o_5 P) (.node (boot_o_9 P) (t17v21 P z) (t25v19 P z)) (t13v35 P z))) (.node (boot_o_2 P) (.node (boot_o_4 P) (t8v35 P z) (.node (f12 87) (t20v18 P z) (t28v20 P z))) (.node (boot_o_6 P) (.node (boot_o_10 P) (t18v17 P z) (t26v19 P z)) (t14v36 P z)))
noncomputable def S54 (w : World) (os : OsState) (z : Nat → Obj) : SharedT := ⟨t0v71 w.params z, 326, life0, [.finished].toArray, drawn0, 987, os⟩
noncomputable def o326v0 (P : Params) : Obj := ⟨.type "tuple", none, .seq [].toArray 0, [].toArray⟩
noncomputable def o328v0 (P : Params) : Obj := ⟨.type "tuple", none, .seq [vS "path" 990, vS "rows" 991, vS "rest" 992, vS "head" 993, vS "tail" 994].toArray 0, [].toArray⟩
noncomputable def o329v0 (P : Params) : Obj := ⟨.type "tuple", none, .seq [].toArray 0, [].toArray⟩
noncomputable def o331v0 (P : Params) : Obj := ⟨.type "code", none, .fields [vS "_law_names" 987, vS "_law_names" 988, vS "/claim/cut.py" 989, vI (305) 0, vI (1) 0, vI (0) 0, vI (0) 0, vI (3) 0, .ref 326, .bool true, vI (181) 0, .ref 327, .none, .ref 328, .ref 329, .ref 330, vI (995) 0, vI (305) 0, vS "/claim/cut.py" 996].toArray, [].toArray⟩
noncomputable def o332v0 (P : Params) : Obj := ⟨.type "function", none, .func (fnX (sO "_law_names") (sO "_law_names") (fd 55) 3 0 (.none) (.none) (.none) (vS "law_ij0142_01" 979) none (.ref 331) (.none)), [].toArray⟩
noncomputable def t76v6 (P : Params) (z : Nat → Obj) : BT := .node (z 76) (t140v1 P z) (.node (o204v0 P) (.node (o332v0 P) .nil .nil) .nil)
noncomputable def t75v6 (P : Params) (z : Nat → Obj) : BT := .node (z 75) (t139v1 P z) (.node (o203v0 P) (.node (o331v0 P) .nil .nil) .nil)
noncomputable def t74v5 (P : Params) (z : Nat → Obj) : BT := .node (z 74) (t138v1 P z) (.node (o202v0 P) (.node (⟨.none, none, .func (fnX (sO "_law_names") (sO "_law_names") (fd 55) 0 0 (.none) (.none) (.none) (.none) none (.none) (.none)), [].toArray⟩) .nil .nil) .nil)
noncomputable def t73v5 (P : Params) (z : Nat → Obj) : BT := .node (o73v1 P) (t137v1 P z) (.node (o201v0 P) (.node (o329v0 P) .nil .nil) .nil)
noncomputable def t72v4 (P : Params) (z : Nat → Obj) : BT := .node (o72v0 P) (t136v1 P z) (.node (o200v0 P) (.node (o328v0 P) .nil .nil) .nil)
noncomputable def t71v6 (P : Params) (z : Nat → Obj) : BT := .node (z 71) (t135v1 P z) (.node (o199v0 P) (.node (⟨.none, none, .fields [].toArray, [].toArray⟩) .nil .nil) .nil)
noncomputable def t70v6 (P : Params) (z : Nat → Obj) : BT := .node (z 70) (t134v1 P z) (.node (o198v0 P) (.node (o326v0 P) .nil .nil) .nil)
noncomputable def t44v11 (P : Params) (z : Nat → Obj) : BT := .node (o44v0 P) (t76v6 P z) (t108v3 P z)
noncomputable def t43v11 (P : Params) (z : Nat → Obj) : BT := .node (o43v0 P) (t75v6 P z) (t107v3 P z)
noncomputable def t42v10 (P : Params) (z : Nat → Obj) : BT := .node (o42v0 P) (t74v5 P z) (t106v3 P z)
noncomputable def t41v10 (P : Params) (z : Nat → Obj) : BT := .node (o41v0 P) (t73v5 P z) (t105v3 P z)
noncomputable def t40v9 (P : Params) (z : Nat → Obj) : BT := .node (o40v0 P) (t72v4 P z) (t104v3 P z)
noncomputable def t39v11 (P : Params) (z : Nat → Obj) : BT := .node (o39v0 P) (t71v6 P z) (t103v3 P z)
noncomputable def t38v11 (P : Params) (z : Nat → Obj) : BT := .node (o38v0 P) (t70v6 P z) (t102v3 P z)
noncomputable def t28v21 (P : Params) (z : Nat → Obj) : BT := .node (o28v0 P) (t44v11 P z) (t60v10 P z)
noncomputable def t27v21 (P : Params) (z : Nat → Obj) : BT := .node (o27v0 P) (t43v11 P z) (t59v10 P z)
noncomputable def t26v20 (P : Params) (z : Nat → Obj) : BT := .node (o26v0 P) (t42v10 P z) (t58v11 P z)
noncomputable def t25v20 (P : Params) (z : Nat → Obj) : BT := .node (o25v0 P) (t41v10 P z) (t57v10 P z)
noncomputable def t24v17 (P : Params) (z : Nat → Obj) : BT := .node (o24v0 P) (t40v9 P z) (t56v8 P z)
noncomputable def t23v19 (P : Params) (z : Nat → Obj) : BT := .node (o23v0 P) (t39v11 P z) (t55v8 P z)
noncomputable def t22v20 (P : Params) (z : Nat → Obj) : BT := .node (o22v0 P) (t38v11 P z) (t54v9 P z)
noncomputable def t11v37 (P : Params) (z : Nat → Obj) : BT := .node (o11v0 P) (t19v20 P z) (t27v21 P z)
noncomputable def t10v35 (P : Params) (z : Nat → Obj) : BT := .node (boot_o_10 P) (t18v17 P z) (t26v20 P z)
noncomputable def t0v72 (P : Params) (z : Nat → Obj) : BT := .node (boot_o_0 P) (.node (boot_o_1 P) (.node (d3 P (vS "law_ij0142_01" 979) 53 54) (.node (boot_o_7 P) (t15v21 P z) (t23v19 P z)) (t11v37 P z)) (.node (boot_o_5 P) (.node (boot_o_9 P) (t17v21 P z) (t25v20 P z)) (t13v35 P z))) (.node (boot_o_2 P) (.node (boot_o_4 P) (.node (boot_o_8 P) (t16v20 P z) (t24v17 P z)) (.node (f12 90) (t20v18 P z) (t28v21 P z))) (.node (boot_o_6 P) (t10v35 P z) (.node (o14v0 P) (t22v20 P z) (t30v19 P z))))
noncomputable def S55 (w : World) (os : OsState) (z : Nat → Obj) : SharedT := ⟨t0v72 w.params z, 333, life0, [.finished].toArray, drawn0, 998, os⟩
noncomputable def o333v0 (P : Params) : Obj := ⟨.type "tuple", none, .seq [].toArray 0, [].toArray⟩
noncomputable def o336v0 (P : Params) : Obj := ⟨.type "code", none, .fields [vS "_law_cut" 998, vS "_law_cut" 999, vS "/claim/cut.py" 1000, vI (314) 0, vI (1) 0, vI (0) 0, vI (0) 0, vI (3) 0, .ref 333, .bool true, vI (181) 0, .ref 334, .none, .none, .none, .ref 335, vI (1001) 0, vI (314) 0, vS "/claim/cut.py" 1002].toArray, [].toArray⟩
noncomputable def o337v0 (P : Params) : Obj := ⟨.type "function", none, .func (fnX (sO "_law_cut") (sO "_law_cut") (fd 56) 3 0 (.none) (.none) (.none) (vS "law_ij0142_01" 979) none (.ref 336) (.none)), [].toArray⟩
noncomputable def t81v6 (P : Params) (z : Nat → Obj) : BT := .node (z 81) (t145v1 P z) (.node (o209v0 P) (.node (o337v0 P) .nil .nil) .nil)
noncomputable def t80v6 (P : Params) (z : Nat → Obj) : BT := .node (z 80) (t144v1 P z) (.node (o208v0 P) (.node (o336v0 P) .nil .nil) .nil)
noncomputable def t79v5 (P : Params) (z : Nat → Obj) : BT := .node (z 79) (t143v1 P z) (.node (o207v0 P) (.node (⟨.none, none, .func (fnX (sO "_law_cut") (sO "_law_cut") (fd 56) 0 0 (.none) (.none) (.none) (.none) none (.none) (.none)), [].toArray⟩) .nil .nil) .nil)
noncomputable def t78v5 (P : Params) (z : Nat → Obj) : BT := .node (o78v1 P) (t142v1 P z) (.node (o206v0 P) (.node (⟨.none, none, .fields [].toArray, [].toArray⟩) .nil .nil) .nil)
noncomputable def t77v4 (P : Params) (z : Nat → Obj) : BT := .node (o77v0 P) (t141v1 P z) (.node (o205v0 P) (.node (o333v0 P) .nil .nil) .nil)
noncomputable def t49v11 (P : Params) (z : Nat → Obj) : BT := .node (o49v0 P) (t81v6 P z) (t113v3 P z)
noncomputable def t48v11 (P : Params) (z : Nat → Obj) : BT := .node (o48v0 P) (t80v6 P z) (t112v3 P z)
noncomputable def t47v10 (P : Params) (z : Nat → Obj) : BT := .node (o47v0 P) (t79v5 P z) (t111v3 P z)
noncomputable def t46v10 (P : Params) (z : Nat → Obj) : BT := .node (o46v0 P) (t78v5 P z) (t110v3 P z)
noncomputable def t45v9 (P : Params) (z : Nat → Obj) : BT := .node (o45v0 P) (t77v4 P z) (t109v3 P z)
noncomputable def t30v20 (P : Params) (z : Nat → Obj) : BT := .node (o30v0 P) (t46v10 P z) (t62v10 P z)
noncomputable def t29v19 (P : Params) (z : Nat → Obj) : BT := .node (o29v0 P) (t45v9 P z) (t61v10 P z)
noncomputable def t17v22 (P : Params) (z : Nat → Obj) : BT := .node (o17v0 P) (t33v11 P z) (t49v11 P z)
noncomputable def t16v21 (P : Params) (z : Nat → Obj) : BT := .node (o16v0 P) (t32v10 P z) (t48v11 P z)
noncomputable def t15v22 (P : Params) (z : Nat → Obj) : BT := .node (o15v0 P) (t31v12 P z) (t47v10 P z)
noncomputable def t9v39 (P : Params) (z : Nat → Obj) : BT := .node (boot_o_9 P) (t17v22 P z) (t25v20 P z)
noncomputable def t0v73 (P : Params) (z : Nat → Obj) : BT := .node (boot_o_0 P) (.node (boot_o_1 P) (.node (d3 P (vS "law_ij0142_01" 979) 54 55) (.node (boot_o_7 P) (t15v22 P z) (t23v19 P z)) (t11v37 P z)) (.node (boot_o_5 P) (t9v39 P z) (.node (o13v0 P) (t21v19 P z) (t29v19 P z)))) (.node (boot_o_2 P) (.node (boot_o_4 P) (.node (boot_o_8 P) (t16v21 P z) (t24v17 P z)) (.node (f12 93) (t20v18 P z) (t28v21 P z))) (.node (boot_o_6 P) (t10v35 P z) (.node (o14v0 P) (t22v20 P z) (t30v20 P z))))
noncomputable def S56 (w : World) (os : OsState) (z : Nat → Obj) : SharedT := ⟨t0v73 w.params z, 338, life0, [.finished].toArray, drawn0, 1004, os⟩
noncomputable def o338v0 (P : Params) : Obj := ⟨.type "tuple", none, .seq [].toArray 0, [].toArray⟩
noncomputable def o340v0 (P : Params) : Obj := ⟨.type "tuple", none, .seq [vS "path" 1007, vS "place" 1008, vS "name" 1009, vS "words" 1010, vS "front" 1011, vS "ending" 1012].toArray 0, [].toArray⟩
noncomputable def o341v0 (P : Params) : Obj := ⟨.type "tuple", none, .seq [].toArray 0, [].toArray⟩
noncomputable def o343v0 (P : Params) : Obj := ⟨.type "code", none, .fields [vS "_law_peeled" 1004, vS "_law_peeled" 1005, vS "/claim/cut.py" 1006, vI (320) 0, vI (3) 0, vI (0) 0, vI (0) 0, vI (3) 0, .ref 338, .bool true, vI (181) 0, .ref 339, .none, .ref 340, .ref 341, .ref 342, vI (1013) 0, vI (320) 0, vS "/claim/cut.py" 1014].toArray, [].toArray⟩
noncomputable def o344v0 (P : Params) : Obj := ⟨.type "function", none, .func (fnX (sO "_law_peeled") (sO "_law_peeled") (fd 57) 3 0 (.none) (.none) (.none) (vS "law_ij0142_01" 979) none (.ref 343) (.none)), [].toArray⟩
noncomputable def t85v5 (P : Params) (z : Nat → Obj) : BT := .node (z 85) (t149v1 P z) (.node (o213v0 P) (.node (o341v0 P) .nil .nil) .nil)
noncomputable def t84v5 (P : Params) (z : Nat → Obj) : BT := .node (z 84) (t148v1 P z) (.node (o212v0 P) (.node (o340v0 P) .nil .nil) .nil)
noncomputable def t83v5 (P : Params) (z : Nat → Obj) : BT := .node (o83v1 P) (t147v1 P z) (.node (o211v0 P) (.node (⟨.none, none, .fields [].toArray, [].toArray⟩) .nil .nil) .nil)
noncomputable def t82v4 (P : Params) (z : Nat → Obj) : BT := .node (o82v0 P) (t146v1 P z) (.node (o210v0 P) (.node (o338v0 P) .nil .nil) .nil)
noncomputable def t56v9 (P : Params) (z : Nat → Obj) : BT := .node (o56v0 P) (.node (o88v0 P) (t152v1 P z) (.node (o216v0 P) (.node (o344v0 P) .nil .nil) .nil)) (t120v3 P z)
noncomputable def t55v9 (P : Params) (z : Nat → Obj) : BT := .node (o55v0 P) (.node (o87v0 P) (t151v1 P z) (.node (o215v0 P) (.node (o343v0 P) .nil .nil) .nil)) (t119v3 P z)
noncomputable def t54v10 (P : Params) (z : Nat → Obj) : BT := .node (o54v0 P) (.node (z 86) (t150v1 P z) (.node (o214v0 P) (.node (⟨.none, none, .func (fnX (sO "_law_peeled") (sO "_law_peeled") (fd 57) 0 0 (.none) (.none) (.none) (.none) none (.none) (.none)), [].toArray⟩) .nil .nil) .nil)) (t118v3 P z)
noncomputable def t53v10 (P : Params) (z : Nat → Obj) : BT := .node (o53v0 P) (t85v5 P z) (t117v3 P z)
noncomputable def t52v10 (P : Params) (z : Nat → Obj) : BT := .node (o52v0 P) (t84v5 P z) (t116v3 P z)
noncomputable def t51v10 (P : Params) (z : Nat → Obj) : BT := .node (o51v0 P) (t83v5 P z) (t115v3 P z)
noncomputable def t50v9 (P : Params) (z : Nat → Obj) : BT := .node (o50v0 P) (t82v4 P z) (t114v3 P z)
noncomputable def t24v18 (P : Params) (z : Nat → Obj) : BT := .node (o24v0 P) (t40v9 P z) (t56v9 P z)
noncomputable def t23v20 (P : Params) (z : Nat → Obj) : BT := .node (o23v0 P) (t39v11 P z) (t55v9 P z)
noncomputable def t22v21 (P : Params) (z : Nat → Obj) : BT := .node (o22v0 P) (t38v11 P z) (t54v10 P z)
noncomputable def t21v20 (P : Params) (z : Nat → Obj) : BT := .node (o21v0 P) (t37v9 P z) (t53v10 P z)
noncomputable def t20v19 (P : Params) (z : Nat → Obj) : BT := .node (o20v0 P) (t36v9 P z) (t52v10 P z)
noncomputable def t19v21 (P : Params) (z : Nat → Obj) : BT := .node (o19v0 P) (t35v11 P z) (t51v10 P z)
noncomputable def t18v18 (P : Params) (z : Nat → Obj) : BT := .node (o18v0 P) (t34v10 P z) (t50v9 P z)
noncomputable def t14v39 (P : Params) (z : Nat → Obj) : BT := .node (o14v0 P) (t22v21 P z) (t30v20 P z)
noncomputable def t8v38 (P : Params) (z : Nat → Obj) : BT := .node (boot_o_8 P) (t16v21 P z) (t24v18 P z)
noncomputable def t7v39 (P : Params) (z : Nat → Obj) : BT := .node (boot_o_7 P) (t15v22 P z) (t23v20 P z)
noncomputable def t0v74 (P : Params) (z : Nat → Obj) : BT := .node (boot_o_0 P) (.node (boot_o_1 P) (.node (d3 P (vS "law_ij0142_01" 979) 55 56) (t7v39 P z) (.node (o11v0 P) (t19v21 P z) (t27v21 P z))) (.node (boot_o_5 P) (t9v39 P z) (.node (o13v0 P) (t21v20 P z) (t29v19 P z)))) (.node (boot_o_2 P) (.node (boot_o_4 P) (t8v38 P z) (.node (f12 96) (t20v19 P z) (t28v21 P z))) (.node (boot_o_6 P) (.node (boot_o_10 P) (t18v18 P z) (t26v20 P z)) (t14v39 P z)))
noncomputable def S57 (w : World) (os : OsState) (z : Nat → Obj) : SharedT := ⟨t0v74 w.params z, 345, life0, [.finished].toArray, drawn0, 1016, os⟩
noncomputable def o345v0 (P : Params) : Obj := ⟨.type "tuple", none, .seq [].toArray 0, [].toArray⟩
noncomputable def o348v0 (P : Params) : Obj := ⟨.type "code", none, .fields [vS "_law_plain" 1016, vS "_law_plain" 1017, vS "/claim/cut.py" 1018, vI (327) 0, vI (2) 0, vI (0) 0, vI (0) 0, vI (3) 0, .ref 345, .bool true, vI (181) 0, .ref 346, .none, .none, .none, .ref 347, vI (1019) 0, vI (327) 0, vS "/claim/cut.py" 1020].toArray, [].toArray⟩
noncomputable def o349v0 (P : Params) : Obj := ⟨.type "function", none, .func (fnX (sO "_law_plain") (sO "_law_plain") (fd 58) 3 0 (.none) (.none) (.none) (vS "law_ij0142_01" 979) none (.ref 348) (.none)), [].toArray⟩
noncomputable def t61v11 (P : Params) (z : Nat → Obj) : BT := .node (o61v0 P) (.node (z 93) (t157v1 P z) (.node (o221v0 P) (.node (o349v0 P) .nil .nil) .nil)) (t125v4 P z)
noncomputable def t60v11 (P : Params) (z : Nat → Obj) : BT := .node (o60v1 P) (.node (o92v1 P) (t156v1 P z) (.node (o220v0 P) (.node (o348v0 P) .nil .nil) .nil)) (t124v3 P z)
noncomputable def t59v11 (P : Params) (z : Nat → Obj) : BT := .node (z 59) (.node (o91v0 P) (t155v1 P z) (.node (o219v0 P) (.node (⟨.none, none, .func (fnX (sO "_law_plain") (sO "_law_plain") (fd 58) 0 0 (.none) (.none) (.none) (.none) none (.none) (.none)), [].toArray⟩) .nil .nil) .nil)) (t123v3 P z)
noncomputable def t58v12 (P : Params) (z : Nat → Obj) : BT := .node (o58v1 P) (.node (z 90) (t154v1 P z) (.node (o218v0 P) (.node (⟨.none, none, .fields [].toArray, [].toArray⟩) .nil .nil) .nil)) (t122v3 P z)
noncomputable def t57v11 (P : Params) (z : Nat → Obj) : BT := .node (o57v0 P) (.node (z 89) (t153v1 P z) (.node (o217v0 P) (.node (o345v0 P) .nil .nil) .nil)) (t121v3 P z)
noncomputable def t29v20 (P : Params) (z : Nat → Obj) : BT := .node (o29v0 P) (t45v9 P z) (t61v11 P z)
noncomputable def t28v22 (P : Params) (z : Nat → Obj) : BT := .node (o28v0 P) (t44v11 P z) (t60v11 P z)
noncomputable def t27v22 (P : Params) (z : Nat → Obj) : BT := .node (o27v0 P) (t43v11 P z) (t59v11 P z)
noncomputable def t26v21 (P : Params) (z : Nat → Obj) : BT := .node (o26v0 P) (t42v10 P z) (t58v12 P z)
noncomputable def t25v21 (P : Params) (z : Nat → Obj) : BT := .node (o25v0 P) (t41v10 P z) (t57v11 P z)
noncomputable def t13v38 (P : Params) (z : Nat → Obj) : BT := .node (o13v0 P) (t21v20 P z) (t29v20 P z)
noncomputable def t0v75 (P : Params) (z : Nat → Obj) : BT := .node (boot_o_0 P) (.node (boot_o_1 P) (.node (d3 P (vS "law_ij0142_01" 979) 56 57) (t7v39 P z) (.node (o11v0 P) (t19v21 P z) (t27v22 P z))) (.node (boot_o_5 P) (.node (boot_o_9 P) (t17v22 P z) (t25v21 P z)) (t13v38 P z))) (.node (boot_o_2 P) (.node (boot_o_4 P) (t8v38 P z) (.node (f12 99) (t20v19 P z) (t28v22 P z))) (.node (boot_o_6 P) (.node (boot_o_10 P) (t18v18 P z) (t26v21 P z)) (t14v39 P z)))
noncomputable def S58 (w : World) (os : OsState) (z : Nat → Obj) : SharedT := ⟨t0v75 w.params z, 350, life0, [.finished].toArray, drawn0, 1022, os⟩
noncomputable def o350v0 (P : Params) : Obj := ⟨.type "tuple", none, .seq [].toArray 0, [].toArray⟩
noncomputable def o352v0 (P : Params) : Obj := ⟨.type "tuple", none, .seq [vS "words" 1025, vS "place" 1026, vS "parts" 1027, vS "word" 1028, vS "rest" 1029, vS "behind" 1030, vS "left" 1031].toArray 0, [].toArray⟩
noncomputable def o353v0 (P : Params) : Obj := ⟨.type "tuple", none, .seq [].toArray 0, [].toArray⟩
noncomputable def o355v0 (P : Params) : Obj := ⟨.type "code", none, .fields [vS "_law_due" 1022, vS "_law_due" 1023, vS "/claim/cut.py" 1024, vI (333) 0, vI (2) 0, vI (0) 0, vI (0) 0, vI (3) 0, .ref 350, .bool true, vI (181) 0, .ref 351, .none, .ref 352, .ref 353, .ref 354, vI (1032) 0, vI (333) 0, vS "/claim/cut.py" 1033].toArray, [].toArray⟩
noncomputable def o356v0 (P : Params) : Obj := ⟨.type "function", none, .func (fnX (sO "_law_due") (sO "_law_due") (fd 59) 3 0 (.none) (.none) (.none) (vS "law_ij0142_01" 979) none (.ref 355) (.none)), [].toArray⟩
noncomputable def t62v11 (P : Params) (z : Nat → Obj) : BT := .node (o62v1 P) (.node (z 94) (t158v1 P z) (.node (o222v0 P) (.node (o350v0 P) .nil .nil) .nil)) (t126v3 P z)
noncomputable def t36v10 (P : Params) (z : Nat → Obj) : BT := .node (o36v0 P) (t68v4 P z) (.node (o100v0 P) (t164v1 P z) (.node (o228v0 P) (.node (o356v0 P) .nil .nil) .nil))
noncomputable def t35v12 (P : Params) (z : Nat → Obj) : BT := .node (o35v0 P) (t67v5 P z) (.node (z 99) (t163v1 P z) (.node (o227v0 P) (.node (o355v0 P) .nil .nil) .nil))
noncomputable def t34v11 (P : Params) (z : Nat → Obj) : BT := .node (o34v0 P) (t66v4 P z) (.node (z 98) (t162v1 P z) (.node (o226v1 P) (.node (⟨.none, none, .func (fnX (sO "_law_due") (sO "_law_due") (fd 59) 0 0 (.none) (.none) (.none) (.none) none (.none) (.none)), [].toArray⟩) .nil .nil) .nil))
noncomputable def t33v12 (P : Params) (z : Nat → Obj) : BT := .node (o33v0 P) (t65v6 P z) (.node (o97v0 P) (t161v1 P z) (.node (o225v0 P) (.node (o353v0 P) .nil .nil) .nil))
noncomputable def t32v11 (P : Params) (z : Nat → Obj) : BT := .node (o32v0 P) (t64v5 P z) (.node (o96v0 P) (t160v1 P z) (.node (o224v0 P) (.node (o352v0 P) .nil .nil) .nil))
noncomputable def t31v13 (P : Params) (z : Nat → Obj) : BT := .node (o31v0 P) (t63v6 P z) (.node (z 95) (t159v1 P z) (.node (o223v0 P) (.node (⟨.none, none, .fields [].toArray, [].toArray⟩) .nil .nil) .nil))
noncomputable def t30v21 (P : Params) (z : Nat → Obj) : BT := .node (o30v0 P) (t46v10 P z) (t62v11 P z)
noncomputable def t20v20 (P : Params) (z : Nat → Obj) : BT := .node (o20v0 P) (t36v10 P z) (t52v10 P z)
noncomputable def t19v22 (P : Params) (z : Nat → Obj) : BT := .node (o19v0 P) (t35v12 P z) (t51v10 P z)
noncomputable def t18v19 (P : Params) (z : Nat → Obj) : BT := .node (o18v0 P) (t34v11 P z) (t50v9 P z)
noncomputable def t17v23 (P : Params) (z : Nat → Obj) : BT := .node (o17v0 P) (t33v12 P z) (t49v11 P z)
noncomputable def t16v22 (P : Params) (z : Nat → Obj) : BT := .node (o16v0 P) (t32v11 P z) (t48v11 P z)
noncomputable def t15v23 (P : Params) (z : Nat → Obj) : BT := .node (o15v0 P) (t31v13 P z) (t47v10 P z)
noncomputable def t0v76 (P : Params) (z : Nat → Obj) : BT := .node (boot_o_0 P) (.node (boot_o_1 P) (.node (d3 P (vS "law_ij0142_01" 979) 57 58) (.node (boot_o_7 P) (t15v23 P z) (t23v20 P z)) (.node (o11v0 P) (t19v22 P z) (t27v22 P z))) (.node (boot_o_5 P) (.node (boot_o_9 P) (t17v23 P z) (t25v21 P z)) (t13v38 P z))) (.node (boot_o_2 P) (.node (boot_o_4 P) (.node (boot_o_8 P) (t16v22 P z) (t24v18 P z)) (.node (f12 102) (t20v20 P z) (t28v22 P z))) (.node (boot_o_6 P) (.node (boot_o_10 P) (t18v19 P z) (t26v21 P z)) (.node (o14v0 P) (t22v21 P z) (t30v21 P z))))
noncomputable def S59 (w : World) (os : OsState) (z : Nat → Obj) : SharedT := ⟨t0v76 w.params z, 357, life0, [.finished].toArray, drawn0, 1035, os⟩
noncomputable def o357v0 (P : Params) : Obj := ⟨.type "tuple", none, .seq [].toArray 0, [].toArray⟩
noncomputable def o359v0 (P : Params) : Obj := ⟨.type "tuple", none, .seq [vS "text" 1038, vS "place" 1039].toArray 0, [].toArray⟩
noncomputable def o360v0 (P : Params) : Obj := ⟨.type "tuple", none, .seq [].toArray 0, [].toArray⟩
noncomputable def o362v0 (P : Params) : Obj := ⟨.type "code", none, .fields [vS "_law_read" 1035, vS "_law_read" 1036, vS "/claim/cut.py" 1037, vI (346) 0, vI (2) 0, vI (0) 0, vI (0) 0, vI (3) 0, .ref 357, .bool true, vI (181) 0, .ref 358, .none, .ref 359, .ref 360, .ref 361, vI (1040) 0, vI (346) 0, vS "/claim/cut.py" 1041].toArray, [].toArray⟩
noncomputable def o363v0 (P : Params) : Obj := ⟨.type "function", none, .func (fnX (sO "_law_read") (sO "_law_read") (fd 60) 3 0 (.none) (.none) (.none) (vS "law_ij0142_01" 979) none (.ref 362) (.none)), [].toArray⟩
noncomputable def t37v10 (P : Params) (z : Nat → Obj) : BT := .node (o37v0 P) (t69v5 P z) (.node (o101v0 P) (t165v1 P z) (.node (o229v0 P) (.node (o357v0 P) .nil .nil) .nil))
noncomputable def t27v23 (P : Params) (z : Nat → Obj) : BT := .node (o27v0 P) (.node (o43v0 P) (t75v6 P z) (.node (o107v0 P) (t171v1 P z) (.node (o235v0 P) (.node (o363v0 P) .nil .nil) .nil))) (t59v11 P z)
noncomputable def t26v22 (P : Params) (z : Nat → Obj) : BT := .node (o26v0 P) (.node (o42v0 P) (t74v5 P z) (.node (o106v0 P) (t170v1 P z) (.node (o234v0 P) (.node (o362v0 P) .nil .nil) .nil))) (t58v12 P z)
noncomputable def t25v22 (P : Params) (z : Nat → Obj) : BT := .node (o25v0 P) (.node (o41v0 P) (t73v5 P z) (.node (o105v0 P) (t169v1 P z) (.node (o233v0 P) (.node (⟨.none, none, .func (fnX (sO "_law_read") (sO "_law_read") (fd 60) 0 0 (.none) (.none) (.none) (.none) none (.none) (.none)), [].toArray⟩) .nil .nil) .nil))) (t57v11 P z)
noncomputable def t24v19 (P : Params) (z : Nat → Obj) : BT := .node (o24v0 P) (.node (o40v0 P) (t72v4 P z) (.node (o104v0 P) (t168v1 P z) (.node (o232v0 P) (.node (o360v0 P) .nil .nil) .nil))) (t56v9 P z)
noncomputable def t23v21 (P : Params) (z : Nat → Obj) : BT := .node (o23v0 P) (.node (o39v0 P) (t71v6 P z) (.node (o103v0 P) (t167v1 P z) (.node (o231v0 P) (.node (o359v0 P) .nil .nil) .nil))) (t55v9 P z)
noncomputable def t22v22 (P : Params) (z : Nat → Obj) : BT := .node (o22v0 P) (.node (o38v0 P) (t70v6 P z) (.node (o102v0 P) (t166v1 P z) (.node (o230v0 P) (.node (⟨.none, none, .fields [].toArray, [].toArray⟩) .nil .nil) .nil))) (t54v10 P z)
noncomputable def t21v21 (P : Params) (z : Nat → Obj) : BT := .node (o21v0 P) (t37v10 P z) (t53v10 P z)
noncomputable def t11v41 (P : Params) (z : Nat → Obj) : BT := .node (o11v0 P) (t19v22 P z) (t27v23 P z)
noncomputable def t10v39 (P : Params) (z : Nat → Obj) : BT := .node (boot_o_10 P) (t18v19 P z) (t26v22 P z)
noncomputable def t9v42 (P : Params) (z : Nat → Obj) : BT := .node (boot_o_9 P) (t17v23 P z) (t25v22 P z)
noncomputable def t0v77 (P : Params) (z : Nat → Obj) : BT := .node (boot_o_0 P) (.node (boot_o_1 P) (.node (d3 P (vS "law_ij0142_01" 979) 58 59) (.node (boot_o_7 P) (t15v23 P z) (t23v21 P z)) (t11v41 P z)) (.node (boot_o_5 P) (t9v42 P z) (.node (o13v0 P) (t21v21 P z) (t29v20 P z)))) (.node (boot_o_2 P) (.node (boot_o_4 P) (.node (boot_o_8 P) (t16v22 P z) (t24v19 P z)) (.node (f12 105) (t20v20 P z) (t28v22 P z))) (.node (boot_o_6 P) (t10v39 P z) (.node (o14v0 P) (t22v22 P z) (t30v21 P z))))
noncomputable def S60 (w : World) (os : OsState) (z : Nat → Obj) : SharedT := ⟨t0v77 w.params z, 364, life0, [.finished].toArray, drawn0, 1043, os⟩
noncomputable def o364v0 (P : Params) : Obj := ⟨.type "tuple", none, .seq [].toArray 0, [].toArray⟩
noncomputable def o367v0 (P : Params) : Obj := ⟨.type "code", none, .fields [vS "_law_holds" 1043, vS "_law_holds" 1044, vS "/claim/cut.py" 1045, vI (351) 0, vI (1) 0, vI (0) 0, vI (0) 0, vI (3) 0, .ref 364, .bool true, vI (181) 0, .ref 365, .none, .none, .none, .ref 366, vI (1046) 0, vI (351) 0, vS "/claim/cut.py" 1047].toArray, [].toArray⟩
noncomputable def o368v0 (P : Params) : Obj := ⟨.type "function", none, .func (fnX (sO "_law_holds") (sO "_law_holds") (fd 61) 3 0 (.none) (.none) (.none) (vS "law_ij0142_01" 979) none (.ref 367) (.none)), [].toArray⟩
noncomputable def t29v21 (P : Params) (z : Nat → Obj) : BT := .node (o29v0 P) (.node (o45v0 P) (t77v4 P z) (.node (o109v0 P) (t173v1 P z) (.node (o237v0 P) (.node (⟨.none, none, .fields [].toArray, [].toArray⟩) .nil .nil) .nil))) (t61v11 P z)
noncomputable def t28v23 (P : Params) (z : Nat → Obj) : BT := .node (o28v0 P) (.node (o44v0 P) (t76v6 P z) (.node (o108v0 P) (t172v1 P z) (.node (o236v0 P) (.node (o364v0 P) .nil .nil) .nil))) (t60v11 P z)
noncomputable def t14v42 (P : Params) (z : Nat → Obj) : BT := .node (o14v0 P) (t22v22 P z) (.node (o30v0 P) (.node (o46v0 P) (t78v5 P z) (.node (o110v0 P) (t174v1 P z) (.node (o238v0 P) (.node (⟨.none, none, .func (fnX (sO "_law_holds") (sO "_law_holds") (fd 61) 0 0 (.none) (.none) (.none) (.none) none (.none) (.none)), [].toArray⟩) .nil .nil) .nil))) (t62v11 P z))
noncomputable def t8v41 (P : Params) (z : Nat → Obj) : BT := .node (boot_o_8 P) (.node (o16v0 P) (t32v11 P z) (.node (o48v0 P) (t80v6 P z) (.node (o112v0 P) (t176v1 P z) (.node (o240v0 P) (.node (o368v0 P) .nil .nil) .nil)))) (t24v19 P z)
noncomputable def t7v42 (P : Params) (z : Nat → Obj) : BT := .node (boot_o_7 P) (.node (o15v0 P) (t31v13 P z) (.node (o47v0 P) (t79v5 P z) (.node (o111v0 P) (t175v1 P z) (.node (o239v0 P) (.node (o367v0 P) .nil .nil) .nil)))) (t23v21 P z)
noncomputable def t0v78 (P : Params) (z : Nat → Obj) : BT := .node (boot_o_0 P) (.node (boot_o_1 P) (.node (d3 P (vS "law_ij0142_01" 979) 59 60) (t7v42 P z) (t11v41 P z)) (.node (boot_o_5 P) (t9v42 P z) (.node (o13v0 P) (t21v21 P z) (t29v21 P z)))) (.node (boot_o_2 P) (.node (boot_o_4 P) (t8v41 P z) (.node (f12 108) (t20v20 P z) (t28v23 P z))) (.node (boot_o_6 P) (t10v39 P z) (t14v42 P z)))
noncomputable def S61 (w : World) (os : OsState) (z : Nat → Obj) : SharedT := ⟨t0v78 w.params z, 369, life0, [.finished].toArray, drawn0, 1049, os⟩
noncomputable def o369v0 (P : Params) : Obj := ⟨.type "tuple", none, .seq [].toArray 0, [].toArray⟩
noncomputable def o372v0 (P : Params) : Obj := ⟨.type "code", none, .fields [vS "law" 1049, vS "law" 1050, vS "/claim/cut.py" 1051, vI (367) 0, vI (1) 0, vI (0) 0, vI (0) 0, vI (3) 0, .ref 369, .bool true, vI (181) 0, .ref 370, .none, .none, .none, .ref 371, vI (1052) 0, vI (367) 0, vS "/claim/cut.py" 1053].toArray, [].toArray⟩
noncomputable def o373v0 (P : Params) : Obj := ⟨.type "function", none, .func (fnX (sO "law") (sO "law") (fd 62) 3 0 (.none) (.none) (.none) (vS "law_ij0142_01" 979) none (.ref 372) (.none)), [].toArray⟩
noncomputable def t0v79 (P : Params) (z : Nat → Obj) : BT := .node (boot_o_0 P) (.node (boot_o_1 P) (.node (d3 P (vS "law_ij0142_01" 979) 60 61) (t7v42 P z) (.node (o11v0 P) (.node (o19v0 P) (t35v12 P z) (.node (o51v0 P) (t83v5 P z) (.node (o115v0 P) (t179v1 P z) (.node (o243v0 P) (.node (⟨.none, none, .func (fnX (sO "law") (sO "law") (fd 62) 0 0 (.none) (.none) (.none) (.none) none (.none) (.none)), [].toArray⟩) .nil .nil) .nil)))) (t27v23 P z))) (.node (boot_o_5 P) (.node (boot_o_9 P) (.node (o17v0 P) (t33v12 P z) (.node (o49v0 P) (t81v6 P z) (.node (o113v0 P) (t177v1 P z) (.node (o241v0 P) (.node (o369v0 P) .nil .nil) .nil)))) (t25v22 P z)) (.node (o13v0 P) (.node (o21v0 P) (t37v10 P z) (.node (o53v0 P) (t85v5 P z) (.node (o117v0 P) (t181v1 P z) (.node (o245v0 P) (.node (o373v0 P) .nil .nil) .nil)))) (t29v21 P z)))) (.node (boot_o_2 P) (.node (boot_o_4 P) (t8v41 P z) (.node (f12 111) (.node (o20v0 P) (t36v10 P z) (.node (o52v0 P) (t84v5 P z) (.node (o116v0 P) (t180v1 P z) (.node (o244v0 P) (.node (o372v0 P) .nil .nil) .nil)))) (t28v23 P z))) (.node (boot_o_6 P) (.node (boot_o_10 P) (.node (o18v0 P) (t34v11 P z) (.node (o50v0 P) (t82v4 P z) (.node (o114v0 P) (t178v1 P z) (.node (o242v0 P) (.node (⟨.none, none, .fields [].toArray, [].toArray⟩) .nil .nil) .nil)))) (t26v22 P z)) (t14v42 P z)))
noncomputable def S62 (w : World) (os : OsState) (z : Nat → Obj) : SharedT := ⟨t0v79 w.params z, 374, life0, [.finished].toArray, drawn0, 1055, os⟩

end
end Mine
end
section
open PySem PySem.W PyProof.Rows PySem.Calls
set_option maxRecDepth 100000
namespace Mine
/-- a builtin's call with plain arguments -/
noncomputable def blt? : Code → Option (String × List Value)
  | .call (.builtin nm) ⟨a, []⟩ => some (nm, a)
  | _ => none
theorem no_some {α : Type} {x : α} {p : Prop} (h : (none : Option α) = some x) : p := by cases h
theorem blt?_some {c : Code} {nm : String} {a : List Value} (h : blt? c = some (nm, a)) : c = .call (.builtin nm) ⟨a, []⟩ := by
  cases c with
  | call f ar =>
    cases f with
    | builtin n =>
      obtain ⟨p, k⟩ := ar
      cases k with
      | nil => cases h; rfl
      | cons => exact no_some h
    | _ => exact no_some h
  | _ => exact no_some h
noncomputable def str1? : Value → Option Str
  | .str x _ => some x
  | _ => none
theorem str1?_some {v : Value} {x : Str} (h : str1? v = some x) : ∃ u, v = .str x u := by
  cases v with
  | str y u => cases h; exact ⟨u, rfl⟩
  | _ => exact no_some h
noncomputable def at2 (S : Setting) (nm : String) (x : Str) (l : List Value) (s : SharedT) : Option (Value × SharedT) := match l with
  | [] => if nm = "str.__hash__" then some (.int (PyData.keyHash S.params x) s.toks, ⟨s.tree, s.n, s.life, s.gens, s.drawn, s.toks + 1, s.os⟩) else none
  | b :: l => match l with
    | [] => (str1? b).bind fun y => if nm = "str.__eq__" then some (.bool (x.cps.toList == y.cps.toList), s) else none
    | _ :: _ => none
noncomputable def at1 (S : Setting) (r : String × List Value) (s : SharedT) : Option (Value × SharedT) := match r.2 with
  | [] => none
  | a :: l => (str1? a).bind fun x => at2 S r.1 x l s
/-- the calls that these trees make: two strs compared, a str's hash -/
noncomputable def atom? (S : Setting) (c : Code) (s : SharedT) : Option (Value × SharedT) := (blt? c).bind fun r => at1 S r s
theorem atom?_some {S : Setting} {c : Code} {s : SharedT} {r : Value × SharedT} (h : atom? S c s = some r) :
    (∃ x u y v, c = .call (.builtin "str.__eq__") ⟨[.str x u, .str y v], []⟩ ∧ r = (.bool (x.cps.toList == y.cps.toList), s)) ∨
    ∃ x u, c = .call (.builtin "str.__hash__") ⟨[.str x u], []⟩ ∧ r = (.int (PyData.keyHash S.params x) s.toks, ⟨s.tree, s.n, s.life, s.gens, s.drawn, s.toks + 1, s.os⟩) := by
  obtain ⟨⟨nm, as⟩, e1, h⟩ := Option.bind_eq_some_iff.mp h
  cases as with
  | nil => exact no_some h
  | cons a l =>
    obtain ⟨x, e2, h⟩ := Option.bind_eq_some_iff.mp h
    obtain ⟨u, rfl⟩ := str1?_some e2
    cases l with
    | nil =>
      have h : (if nm = "str.__hash__" then some (Value.int (PyData.keyHash S.params x) s.toks, (⟨s.tree, s.n, s.life, s.gens, s.drawn, s.toks + 1, s.os⟩ : SharedT)) else none) = some r := h
      by_cases hn : nm = "str.__hash__"
      · rw [if_pos hn] at h
        subst hn
        exact .inr ⟨x, u, blt?_some e1, (Option.some.inj h).symm⟩
      · rw [if_neg hn] at h; exact no_some h
    | cons b l =>
      cases l with
      | nil =>
        obtain ⟨y, e3, h⟩ := Option.bind_eq_some_iff.mp h
        obtain ⟨v, rfl⟩ := str1?_some e3
        by_cases hn : nm = "str.__eq__"
        · rw [if_pos hn] at h
          subst hn
          exact .inl ⟨x, u, y, v, blt?_some e1, (Option.some.inj h).symm⟩
        · rw [if_neg hn] at h; exact no_some h
      | cons => exact no_some h
section
variable {β γ : Type} {b : Bool} {o o' : Obj} {r : β}
noncomputable def gdO (b : Bool) (x : Option β) : Option β := match b with
  | true => x
  | false => none
noncomputable def ldO (b : Bool) (x : Option Obj) (f : Obj → Option β) : Option β := match b with
  | true => match x with
    | some o => match alive o with
      | some o' => f o'
      | none => none
    | none => none
  | false => none
theorem gdO_some {x : Option β} (h : gdO b x = some r) : b = true ∧ x = some r := by
  cases b with
  | true => exact ⟨rfl, h⟩
  | false => cases h
theorem ldO_is {x : Option Obj} {f : Obj → Option β} (h1 : b = true) (h2 : x = some o) (h3 : alive o = some o') : ldO b x f = f o' := by
  subst h1; subst h2
  show (match alive o with | some o' => f o' | none => none) = _
  rw [h3]
theorem ldO_some {x : Option Obj} {f : Obj → Option β} (h : ldO b x f = some r) : b = true ∧ ∃ o o', x = some o ∧ alive o = some o' ∧ f o' = some r := by
  cases b with
  | false => cases h
  | true =>
    cases x with
    | none => cases h
    | some o =>
      cases e : alive o with
      | none =>
        have h : (match alive o with | some o' => f o' | none => none) = some r := h
        rw [e] at h; cases h
      | some o' => exact ⟨rfl, o, o', rfl, e, (ldO_is rfl rfl e).symm.trans h⟩
theorem gdO_bind {x : Option β} {g : β → Option γ} : (gdO b x).bind g = gdO b (x.bind g) := by cases b <;> rfl
theorem ldO_bind {x : Option Obj} {f : Obj → Option β} {g : β → Option γ} : (ldO b x f).bind g = ldO b x fun o => (f o).bind g := by
  cases b with
  | false => rfl
  | true =>
    cases x with
    | none => rfl
    | some o =>
      show Option.bind (match alive o with | some o' => f o' | none => none) g = match alive o with | some o' => (f o').bind g | none => none
      cases alive o <;> rfl
theorem ldO_congr {x : Option Obj} {f g : Obj → Option β} (h : ∀ o, f o = g o) : ldO b x f = ldO b x g := by rw [show f = g from funext h]
end
/-- the value and the state that a tree without calls comes to -/
noncomputable def tRun (S : Setting) {α : Type} : Sem α → SharedT → Option (α × SharedT)
  | .pure a, s => some (a, s)
  | .rule _ k, s => tRun S (k ()) s
  | .point _ k, s => tRun S (k ()) s
  | .ask k, s => tRun S (k S) s
  | .load a _ k, s => ldO (Nat.blt a s.n) (s.tree.get a) fun o => tRun S (k o) s
  | .update a _ f k, s => gdO (Nat.ble 11 a) (ldO (Nat.blt a s.n) (s.tree.get a) fun _ => tRun S (k ()) ⟨s.tree.set a f, s.n, s.life, s.gens, s.drawn, s.toks, s.os⟩)
  | .alloc o k, s => gdO ((s.tree.ins s.n o).get s.n).isSome (tRun S (k s.n) ⟨s.tree.ins s.n o, s.n + 1, s.life, s.gens, s.drawn, s.toks, s.os⟩)
  | .call c _ _ _ k, s => (atom? S c s).bind fun r => tRun S (k (.ok (.ret r.1))) r.2
  | .fresh k, s => tRun S (k s.toks) ⟨s.tree, s.n, s.life, s.gens, s.drawn, s.toks + 1, s.os⟩
  | _, _ => none

theorem tRun_bind {S : Setting} {α β : Type} {f : α → Sem β} : ∀ (t : Sem α) (s : SharedT), tRun S (t.bind f) s = (tRun S t s).bind fun r => tRun S (f r.1) r.2 := by
  intro t
  induction t with
  | pure a => intro s; rfl
  | rule _ k ih => intro s; exact ih () s
  | point _ k ih => intro s; exact ih () s
  | ask k ih => intro s; exact ih _ s
  | load a p k ih =>
    intro s
    show ldO (Nat.blt a s.n) (s.tree.get a) (fun o => tRun S ((k o).bind f) s) = (ldO (Nat.blt a s.n) (s.tree.get a) fun o => tRun S (k o) s).bind _
    rw [ldO_bind]
    exact ldO_congr fun o => ih o s
  | update a p g k ih =>
    intro s
    show gdO (Nat.ble 11 a) (ldO (Nat.blt a s.n) (s.tree.get a) fun _ => tRun S ((k ()).bind f) ⟨s.tree.set a g, s.n, s.life, s.gens, s.drawn, s.toks, s.os⟩) = (gdO (Nat.ble 11 a) (ldO (Nat.blt a s.n) (s.tree.get a) fun _ => tRun S (k ()) ⟨s.tree.set a g, s.n, s.life, s.gens, s.drawn, s.toks, s.os⟩)).bind _
    rw [gdO_bind, ldO_bind, ih ()]
  | alloc o k ih =>
    intro s
    show gdO ((s.tree.ins s.n o).get s.n).isSome (tRun S ((k s.n).bind f) _) = (gdO ((s.tree.ins s.n o).get s.n).isSome (tRun S (k s.n) _)).bind _
    rw [gdO_bind, ih]
  | call c h g l k ih =>
    intro s
    show (atom? S c s).bind (fun r => tRun S ((k (.ok (.ret r.1))).bind f) r.2) = ((atom? S c s).bind fun r => tRun S (k (.ok (.ret r.1))) r.2).bind _
    cases atom? S c s with
    | none => rfl
    | some r => exact ih _ _
  | fresh k ih => intro s; exact ih _ _
  | _ => intro s; rfl
theorem tRun_bind' {S : Setting} {α β : Type} {t : Sem α} {f : α → Sem β} {s : SharedT} : tRun S (t >>= f) s = (tRun S t s).bind fun r => tRun S (f r.1) r.2 := tRun_bind t s
theorem tRun_keep {S : Setting} {α : Type} (vs : List Value) : ∀ (t : Sem α) (s : SharedT), tRun S (t.keep vs) s = tRun S t s := by
  intro t
  induction t with
  | pure a => intro s; rfl
  | rule _ k ih => intro s; exact ih () s
  | point _ k ih => intro s; exact ih () s
  | ask k ih => intro s; exact ih _ s
  | load a p k ih => intro s; exact ldO_congr fun o => ih o s
  | update a p g k ih => intro s; exact congrArg (gdO _) (ldO_congr fun _ => ih () _)
  | alloc o k ih => intro s; exact congrArg (gdO _) (ih _ _)
  | call c h g l k ih =>
    intro s
    show (atom? S c s).bind (fun r => tRun S ((k (.ok (.ret r.1))).keep vs) r.2) = (atom? S c s).bind fun r => tRun S (k (.ok (.ret r.1))) r.2
    cases atom? S c s with
    | none => rfl
    | some r => exact ih _ _
  | fresh k ih => intro s; exact ih _ _
  | _ => intro s; rfl
theorem tRun_holding {S : Setting} {α : Type} {vs : List Value} {t : Sem α} {s : SharedT} : tRun S (holding vs t) s = tRun S t s := by
  unfold holding
  split
  · rfl
  · exact tRun_keep _ _ _
theorem tRun_pure {S : Setting} {α : Type} {a : α} {s : SharedT} : tRun S (pure a : Sem α) s = some (a, s) := rfl
theorem tRun_rule {S : Setting} {x : String} {s : SharedT} : tRun S (rule x) s = some ((), s) := rfl
theorem tRun_point {S : Setting} {s : SharedT} : tRun S point s = some ((), s) := rfl
theorem tRun_ask {S : Setting} {s : SharedT} : tRun S ask s = some (S, s) := rfl

/-- reaching, on the machine -/
noncomputable def Go (w : World) (s : SharedT) (t : Thread) (s' : SharedT) (t' : Thread) : Prop := ∃ n, segGoT treeTable pw w 11 ann0 1 n s t = some (s', t')
theorem segGoT_app {w : World} : ∀ {n m : Nat} {s s' s'' : SharedT} {t t' t'' : Thread}, segGoT treeTable pw w 11 ann0 1 n s t = some (s', t') → segGoT treeTable pw w 11 ann0 1 m s' t' = some (s'', t'') →
    segGoT treeTable pw w 11 ann0 1 (n + m) s t = some (s'', t'')
  | 0, m, s, s', s'', t, t', t'', h, k => by
    obtain ⟨rfl, rfl⟩ : s = s' ∧ t = t' := by simpa [segGoT] using h
    rw [Nat.zero_add]; exact k
  | n + 1, m, s, s', s'', t, t', t'', h, k => by
    rw [show n + 1 + m = n + m + 1 by omega]
    unfold segGoT at h ⊢
    cases he : endAt 1 t with
    | some f => rw [he] at h; cases h
    | none =>
      rw [he] at h
      cases hk : stepOk 11 ann0 t with
      | false => rw [hk] at h; cases h
      | true =>
        rw [hk] at h
        cases hs : stepT (denote treeTable) pw w s t with
        | none => rw [hs] at h; cases h
        | some r => obtain ⟨s₂, t₂⟩ := r; rw [hs] at h; exact segGoT_app h k
theorem Go.refl {w : World} {s : SharedT} {t : Thread} : Go w s t s t := ⟨0, rfl⟩
theorem Go.trans {w : World} {s s' s'' : SharedT} {t t' t'' : Thread} (h : Go w s t s' t') (k : Go w s' t' s'' t'') : Go w s t s'' t'' :=
  let ⟨n, a⟩ := h; let ⟨m, b⟩ := k; ⟨n + m, segGoT_app a b⟩
theorem Go.step {w : World} {s s' s'' : SharedT} {t t' t'' : Thread} (he : endAt 1 t = none) (hk : stepOk 11 ann0 t = true) (hs : stepT (denote treeTable) pw w s t = some (s', t')) (k : Go w s' t' s'' t'') : Go w s t s'' t'' := by
  obtain ⟨n, a⟩ := k
  refine ⟨n + 1, ?_⟩
  unfold segGoT
  rw [he, hk, hs]
  exact a
/-- a run to the end of the statement -/
noncomputable def Ends (w : World) (s : SharedT) (t : Thread) (s' : SharedT) (p' : Pos) : Prop := ∃ n, segRunT treeTable pw w 11 ann0 1 n s t = some (.next, s', cd0, p')
theorem Go.ends {w : World} {s s' s'' : SharedT} {t t' : Thread} {p : Pos} (h : Go w s t s' t') (k : Ends w s' t' s'' p) : Ends w s t s'' p := by
  obtain ⟨n, a⟩ := h
  obtain ⟨m, b⟩ := k
  refine ⟨n + m, ?_⟩
  induction n generalizing s t with
  | zero =>
    obtain ⟨rfl, rfl⟩ : s = s' ∧ t = t' := by simpa [segGoT] using a
    rw [Nat.zero_add]; exact b
  | succ n ih =>
    rw [show n + 1 + m = n + m + 1 by omega]
    unfold segGoT at a
    unfold segRunT
    cases he : endAt 1 t with
    | some f => rw [he] at a; cases a
    | none =>
      rw [he] at a
      cases hk : stepOk 11 ann0 t with
      | false => rw [hk] at a; cases a
      | true =>
        rw [hk] at a
        cases hs : stepT (denote treeTable) pw w s t with
        | none => rw [hs] at a; cases a
        | some r => obtain ⟨s₂, t₂⟩ := r; rw [hs] at a; exact ih a

theorem endAt_none {t : Thread} (h : ∀ f, t.cur ≠ .pure (.done f)) : endAt 1 t = none := by
  unfold endAt
  split
  · rename_i f _ e; exact absurd e (h _)
  · rfl
theorem eq_call (w : World) (s : SharedT) (x y : Str) (u v : Tok) (k : Result → Sem Fin) (h : Option Value) (g : Bool) (l : List Value) (code : Code) (pos pos' : Pos) (kept : List Value) (f1 f2 : Frame) (B : List Frame) :
   segGoT treeTable pw w 11 ann0 1 2 s ⟨denote treeTable (.call (.builtin "str.__eq__") ⟨[.str x u, .str y v], []⟩), .call (.builtin "str.__eq__") ⟨[.str x u, .str y v], []⟩, pos', .ret k h g l code pos kept :: f1 :: f2 :: B⟩ =
     some (s, ⟨k (.ok (.ret (.bool (x.cps.toList == y.cps.toList)))), code, pos, f1 :: f2 :: B⟩) := by kernel_rfl
theorem hash_call (w : World) (s : SharedT) (x : Str) (u : Tok) (k : Result → Sem Fin) (h : Option Value) (g : Bool) (l : List Value) (code : Code) (pos pos' : Pos) (kept : List Value) (f1 f2 : Frame) (B : List Frame) :
   segGoT treeTable pw w 11 ann0 1 4 s ⟨denote treeTable (.call (.builtin "str.__hash__") ⟨[.str x u], []⟩), .call (.builtin "str.__hash__") ⟨[.str x u], []⟩, pos', .ret k h g l code pos kept :: f1 :: f2 :: B⟩ =
     some (⟨s.tree, s.n, s.life, s.gens, s.drawn, s.toks + 1, s.os⟩, ⟨k (.ok (.ret (.int (PyData.keyHash w.params x) s.toks))), code, pos, f1 :: f2 :: B⟩) := by kernel_rfl
theorem tRun_go {w : World} {α : Type} {K : α → Sem Fin} {code : Code} {pos : Pos} {f1 f2 : Frame} {B : List Frame} : ∀ (t : Sem α) (s s' : SharedT) (a : α), tRun ⟨pw, w.params⟩ t s = some (a, s') →
    Go w s ⟨t.bind K, code, pos, f1 :: f2 :: B⟩ s' ⟨K a, code, pos, f1 :: f2 :: B⟩ := by
  intro t
  induction t with
  | pure b => intro s s' a h; cases h; exact Go.refl
  | rule _ k ih =>
    intro s s' a h
    exact Go.step (endAt_none (by intro f e; cases e)) rfl rfl (ih () s s' a h)
  | point _ k ih =>
    intro s s' a h
    exact Go.step (endAt_none (by intro f e; cases e)) rfl rfl (ih () s s' a h)
  | ask k ih =>
    intro s s' a h
    exact Go.step (endAt_none (by intro f e; cases e)) rfl rfl (ih _ s s' a h)
  | load b p k ih =>
    intro s s' a h
    obtain ⟨e1, o, o', e2, e3, h⟩ := ldO_some h
    refine Go.step (endAt_none (by intro f e; cases e)) rfl ?_ (ih _ s s' a h)
    obtain ⟨T, n, life, gens, drawn, toks, os⟩ := s
    simp only [Sem.bind, stepT, e1, e2, e3]
  | update b p g k ih =>
    intro s s' a h
    obtain ⟨e0, h⟩ := gdO_some h
    obtain ⟨e1, o, o', e2, e3, h⟩ := ldO_some h
    refine Go.step (endAt_none (by intro f e; cases e)) ?_ ?_ (ih () _ s' a h)
    · simp only [Sem.bind, stepOk, Thread.calm, Thread.atCollectorCode, Thread.atExit, Thread.yieldsInsideHandler, e0, Bool.true_or, Bool.not_false, Bool.and_self]
    · obtain ⟨T, n, life, gens, drawn, toks, os⟩ := s
      simp only [Sem.bind, stepT, e1, e2, e3]
  | alloc o k ih =>
    intro s s' a h
    obtain ⟨e1, h⟩ := gdO_some h
    refine Go.step (endAt_none (by intro f e; cases e)) rfl ?_ (ih _ _ s' a h)
    obtain ⟨T, n, life, gens, drawn, toks, os⟩ := s
    simp only [Sem.bind, stepT, e1]
  | fresh k ih =>
    intro s s' a h
    exact Go.step (endAt_none (by intro f e; cases e)) rfl rfl (ih _ _ s' a h)
  | call c hd g l k ih =>
    intro s s' a h
    obtain ⟨r, e1, h⟩ := Option.bind_eq_some_iff.mp h
    rcases atom?_some e1 with ⟨x, u, y, v, rfl, rfl⟩ | ⟨x, u, rfl, rfl⟩
    · refine Go.step (endAt_none (by intro f e; cases e)) rfl (s' := s) (t' := ⟨denote treeTable (.call (.builtin "str.__eq__") ⟨[.str x u, .str y v], []⟩), .call (.builtin "str.__eq__") ⟨[.str x u, .str y v], []⟩, pos, .ret (fun r => (k r).bind K) hd g l code pos ?kp :: f1 :: f2 :: B⟩) ?st (Go.trans ⟨2, eq_call w s x y u v _ _ _ _ _ _ _ ?kp f1 f2 B⟩ (ih _ s s' a h))
      case st =>
        obtain ⟨T, n, life, gens, drawn, toks, os⟩ := s
        rfl
    · refine Go.step (endAt_none (by intro f e; cases e)) rfl (s' := s) (t' := ⟨denote treeTable (.call (.builtin "str.__hash__") ⟨[.str x u], []⟩), .call (.builtin "str.__hash__") ⟨[.str x u], []⟩, pos, .ret (fun r => (k r).bind K) hd g l code pos ?kq :: f1 :: f2 :: B⟩) ?st (Go.trans ⟨4, hash_call w s x u _ _ _ _ _ _ _ ?kq f1 f2 B⟩ (ih _ _ s' a h))
      case st =>
        obtain ⟨T, n, life, gens, drawn, toks, os⟩ := s
        rfl
  | _ => intro s s' a h; cases h
end Mine
end
section
open PySem PySem.W PyProof.Rows PySem.Calls
set_option maxRecDepth 100000
namespace Mine
noncomputable abbrev mkS (es : Array (Int × Value)) (ep : Nat) (t : SetTable) : Obj := ⟨.type "frozenset", none, .set es ep t, #[]⟩
noncomputable def AtS (s : SharedT) (a : Nat) (es : Array (Int × Value)) (ep : Nat) (t : SetTable) : Prop := a < s.n ∧ s.tree.get a = some (mkS es ep t)
/-- the set's elements, in whatever order, and a table that fits -/
noncomputable def GoodS (L : List (Int × Value)) (es : Array (Int × Value)) (t : SetTable) : Prop := es.toList.Perm L ∧ t.fits es.size = true
theorem GoodS.size {L : List (Int × Value)} {es : Array (Int × Value)} {t : SetTable} (h : GoodS L es t) : es.size = L.length := by
  have := h.1.length_eq
  simpa using this
theorem fits_iff {t : SetTable} {n : Nat} : t.fits n = true ↔ t.place.size = n ∧ t.fill ≤ t.mask := by
  simp [SetTable.fits]
theorem standIn_fits (t : SetTable) (n : Nat) : (t.standIn n).fits n = true := by
  rw [fits_iff]
  refine ⟨by simp [SetTable.standIn], ?_⟩
  simp [SetTable.standIn, SetTable.fill]
  omega
theorem orStandIn_fits (t : SetTable) (n : Nat) : (t.orStandIn n).fits n = true := by
  unfold SetTable.orStandIn
  split
  · assumption
  · exact standIn_fits t n
theorem insertAt_perm {α : Type} (xs : Array α) (p : Nat) (x : α) : (SetTable.insertAt xs p x).toList.Perm (x :: xs.toList) := by
  unfold SetTable.insertAt
  simp only [Array.toList_append, Array.toList_push, Array.toList_extract, List.extract_eq_take_drop, Nat.sub_zero, List.drop_zero]
  have h : List.take (xs.size - p) (List.drop p xs.toList) = List.drop p xs.toList := List.take_of_length_le (by simp)
  rw [h]
  refine (List.Perm.append_right _ (List.perm_append_comm)).trans ?_
  rw [List.append_assoc]
  simp only [List.cons_append, List.nil_append, List.take_append_drop]
  exact List.Perm.refl _
theorem layNew_good {L : List (Int × Value)} {es : Array (Int × Value)} {t : SetTable} (g : GoodS L es t) (h : Int) (x : Value) : GoodS ((h, x) :: L) (layNew t es h x).1 (layNew t es h x).2.1 := by
  unfold layNew
  split
  · rename_i slot wasDummy e
    generalize t.put slot = r
    obtain ⟨t', p⟩ := r
    exact ⟨(insertAt_perm es p (h, x)).trans (g.1.cons _), orStandIn_fits _ _⟩
  · refine ⟨?_, ?_⟩
    · rw [Array.toList_push]
      exact (List.perm_append_singleton _ _).trans (g.1.cons _)
    · rw [Array.size_push]; exact standIn_fits _ _
theorem relayAll_good {L : List (Int × Value)} {es : Array (Int × Value)} {t : SetTable} (g : GoodS L es t) (wanted : Nat) : GoodS L (relayAll t es wanted).1 (relayAll t es wanted).2.1 := by
  unfold relayAll
  split
  · rename_i t' order e
    dsimp only
    split
    · rename_i hc
      simp only [Bool.and_eq_true] at hc
      refine ⟨?_, hc.2⟩
      have hp : order.toList.Perm (List.range es.size) := List.isPerm_iff.mp hc.1
      have h1 : (order.filterMap (es[·]?)).toList = order.toList.filterMap (es[·]?) := by simp
      rw [h1]
      refine (hp.filterMap _).trans ?_
      have h2 : (List.range es.size).filterMap (es[·]?) = es.toList := by
        have : ∀ l : List (Int × Value), (List.range l.length).filterMap (l[·]?) = l := by
          intro l
          induction l with
          | nil => rfl
          | cons a l ih =>
            rw [List.length_cons, List.range_succ_eq_map, List.filterMap_cons]
            simp only [List.getElem?_cons_zero]
            rw [List.filterMap_map]
            have h3 : ((fun i => (a :: l)[i]?) ∘ Nat.succ) = (l[·]?) := by
              funext i
              simp
            rw [h3, ih]
        simpa using this es.toList
      rw [h2]; exact g.1
    · exact ⟨g.1, standIn_fits _ _⟩
  · exact ⟨g.1, standIn_fits _ _⟩

theorem get_set_self {T : BT} {a : Nat} {f : Obj → Obj} {o : Obj} (h : T.get a = some o) : (T.set a f).get a = some (f o) := by rw [BT.get_set, if_pos rfl, h]; rfl
theorem set_set (f g : Obj → Obj) : ∀ (T : BT) (a : Nat), (T.set a f).set a g = T.set a (fun o => g (f o))
  | .nil, _ => rfl
  | .node v l r, a => by
    rw [BT.set_node, BT.set_node]
    by_cases h : a = 0
    · rw [if_pos h, if_pos h, BT.set_node, if_pos h]
    · rw [if_neg h, if_neg h]
      by_cases q : a % 2 = 1
      · rw [if_pos q, if_pos q, BT.set_node, if_neg h, if_pos q, set_set f g l]
      · rw [if_neg q, if_neg q, BT.set_node, if_neg h, if_neg q, set_set f g r]
theorem set_const {f : Obj → Obj} {o : Obj} : ∀ {T : BT} {a : Nat}, T.get a = some o → T.set a f = T.set a (fun _ => f o)
  | .nil, _, _ => rfl
  | .node v l r, a, h => by
    rw [BT.get_node] at h
    rw [BT.set_node, BT.set_node]
    by_cases h0 : a = 0
    · rw [if_pos h0] at h ⊢; cases h; rw [if_pos h0]
    · rw [if_neg h0] at h; rw [if_neg h0, if_neg h0]
      by_cases q : a % 2 = 1
      · rw [if_pos q] at h; rw [if_pos q, if_pos q, set_const h]
      · rw [if_neg q] at h; rw [if_neg q, if_neg q, set_const h]
/-- the state with the set at a put anew -/
noncomputable def put (s : SharedT) (a : Nat) (o : Obj) : SharedT := ⟨s.tree.set a (fun _ => o), s.n, s.life, s.gens, s.drawn, s.toks, s.os⟩
theorem put_put {s : SharedT} {a : Nat} {o o' : Obj} : put (put s a o) a o' = put s a o' := by
  unfold put
  simp only [set_set]
theorem AtS.put_self {s : SharedT} {a : Nat} {es es' : Array (Int × Value)} {ep ep' : Nat} {t t' : SetTable} (h : AtS s a es ep t) : AtS (put s a (mkS es' ep' t')) a es' ep' t' := ⟨h.1, by
  show (s.tree.set a _).get a = _
  rw [get_set_self h.2]⟩
theorem AtS.put_ne {s : SharedT} {a b : Nat} {es : Array (Int × Value)} {ep : Nat} {t : SetTable} {o : Obj} (h : AtS s b es ep t) (hne : b ≠ a) : AtS (put s a o) b es ep t := ⟨h.1, by
  show (s.tree.set a _).get b = _
  rw [BT.get_set, if_neg hne]; exact h.2⟩
section
variable {S : Setting} {s : SharedT} {a : Nat} {es : Array (Int × Value)} {ep : Nat} {t : SetTable}
theorem run_load (h : AtS s a es ep t) (p : Option Value) {α : Type} (k : Obj → Sem α) : tRun S (Sem.load a p k) s = tRun S (k (mkS es ep t)) s := by
  have e : Nat.blt a s.n = true := Nat.ble_eq_true_of_le h.1
  exact ldO_is e h.2 rfl
theorem run_setState (h : AtS s a es ep t) (hf : t.fits es.size = true) : tRun S (setState a) s = some ((es, ep, t), s) := by
  unfold setState
  rw [tRun_bind']
  show (tRun S (Sem.load a none .pure) s).bind _ = _
  rw [run_load h]
  show tRun S (if (t.place.size != es.size || decide (t.fill > t.mask)) = true then _ else _) s = _
  have hc : (t.place.size != es.size || decide (t.fill > t.mask)) = false := by
    rw [fits_iff] at hf
    simp [hf.1, Nat.not_lt.mpr hf.2]
  rw [hc]
  rfl
theorem run_setEpoch (h : AtS s a es ep t) (hf : t.fits es.size = true) : tRun S (setEpoch a) s = some (ep, s) := by
  unfold setEpoch
  rw [tRun_bind', run_setState h hf]; rfl
theorem run_setEntries (h : AtS s a es ep t) (hf : t.fits es.size = true) : tRun S (setEntries a) s = some (es, s) := by
  unfold setEntries
  rw [tRun_bind', run_setState h hf]; rfl
theorem run_storeSet (h : AtS s a es ep t) (ha : 11 ≤ a) {es' : Array (Int × Value)} {t' : SetTable} (hz : es'.size ≤ sizeLine) : tRun S (storeSet a es' t') s = some ((), put s a (mkS es' (ep + 1) t')) := by
  unfold storeSet
  rw [tRun_bind']
  show (tRun S (Sem.load a none .pure) s).bind _ = _
  rw [run_load h]
  show tRun S (if es'.size > sizeLine then _ else _) s = _
  rw [if_neg (Nat.not_lt.mpr hz)]
  have e : Nat.blt a s.n = true := Nat.ble_eq_true_of_le h.1
  have e0 : Nat.ble 11 a = true := Nat.ble_eq_true_of_le ha
  show tRun S (Sem.update a none (Obj.putSet es' t') .pure) s = _
  have q : ∀ {β : Type} (f : Obj → Option β), gdO (Nat.ble 11 a) (ldO (Nat.blt a s.n) (s.tree.get a) f) = f (mkS es ep t) := fun f => by rw [e0, ldO_is e h.2 rfl]; rfl
  refine (q _).trans ?_
  show some ((), (⟨s.tree.set a (Obj.putSet es' t'), s.n, s.life, s.gens, s.drawn, s.toks, s.os⟩ : SharedT)) = _
  rw [set_const h.2]
  rfl
end
section
variable {S : Setting} {s : SharedT} {a : Nat} {es : Array (Int × Value)} {ep : Nat} {t : SetTable}
theorem run_scan_absent {x : Str} {tk : Tok} {hh : Int} {adding : Bool} (hstr : ∀ e ∈ es.toList, ∃ y u, e.2 = .str y u) (hnew : ∀ e ∈ es.toList, e.2.isStr x = false) : tRun S (setScan a (.str x tk) hh adding es) s = some (.absent, s) := by
  unfold setScan
  have h1 : es.all (fun e => isExactStrKey e.2) = true := by
    rw [← Array.all_toList, List.all_eq_true]
    intro e he
    obtain ⟨y, u, q⟩ := hstr e he
    rw [q]; rfl
  rw [h1]
  unfold setScanStrs
  have h2 : es.findIdx? (fun e => e.2.isStr x) = none := by
    rw [Array.findIdx?_eq_none_iff]
    intro e he
    exact hnew e (Array.mem_toList_iff.mpr he)
  dsimp only
  rw [if_pos rfl, h2]
  rfl
theorem run_addByScan {L : List (Int × Value)} {x : Str} {tk : Tok} {hh : Int} (h : AtS s a es ep t) (g : GoodS L es t) (ha : 11 ≤ a) (hstr : ∀ e ∈ L, ∃ y u, e.2 = .str y u) (hnew : ∀ e ∈ L, e.2.isStr x = false) (hlen : L.length < 4000) :
    ∃ es' ep' t', GoodS ((hh, .str x tk) :: L) es' t' ∧ tRun S (setAddByScan a (.str x tk) hh es t) s = some (some true, put s a (mkS es' ep' t')) := by
  have g' := layNew_good g hh (.str x tk)
  unfold setAddByScan
  simp only [tRun_bind', tRun_rule, Option.bind_some, run_scan_absent (fun e he => hstr e (g.1.mem_iff.mp he)) (fun e he => hnew e (g.1.mem_iff.mp he))]
  generalize layNew t es hh (.str x tk) = r at g' ⊢
  obtain ⟨es1, t1, wd, gv⟩ := r
  dsimp only at g' ⊢
  have hz : es1.size ≤ sizeLine := by rw [g'.size, List.length_cons]; unfold sizeLine; omega
  have step : ∀ (m : Sem (Option Bool)) (o : Option (Option Bool × SharedT)), tRun S m s = o → (∃ es' ep' t', GoodS ((hh, .str x tk) :: L) es' t' ∧ o = some (some true, put s a (mkS es' ep' t'))) →
      ∃ es' ep' t', GoodS ((hh, .str x tk) :: L) es' t' ∧ tRun S m s = some (some true, put s a (mkS es' ep' t')) := fun m o e x => e ▸ x
  have fin : ∀ t2 : SetTable, GoodS ((hh, .str x tk) :: L) es1 t2 → ∀ (b : Bool) (m : Sem (Option Bool)), (∀ s', tRun S m s' = (tRun S (storeSet a (relayAll t2 es1 (SetTable.grown es1.size)).1 (relayAll t2 es1 (SetTable.grown es1.size)).2.1) s').bind fun r => some (some true, r.2)) →
      ∃ es' ep' t', GoodS ((hh, .str x tk) :: L) es' t' ∧ ((tRun S (storeSet a es1 t2) s).bind fun r => tRun S (if b = true then m else pure (some true)) r.2) = some (some true, put s a (mkS es' ep' t')) := by
    intro t2 g2 b m hm
    rw [run_storeSet h ha hz]
    simp only [Option.bind_some]
    cases b with
    | false => exact ⟨_, _, _, g2, rfl⟩
    | true =>
      have g3 := relayAll_good g2 (SetTable.grown es1.size)
      refine ⟨_, ep + 1 + 1, _, g3, ?_⟩
      rw [if_pos rfl, hm, run_storeSet (h.put_self) ha (by rw [g3.size, List.length_cons]; unfold sizeLine; omega), put_put]
      rfl
  have gpl : GoodS ((hh, .str x tk) :: L) es1 { t1 with plain := false } := ⟨g'.1, g'.2⟩
  cases gv <;> (
    show ∃ es' ep' t', _ ∧ Option.bind (some ((), s)) _ = _
    simp only [Option.bind_some]
    cases hp : t1.plain with
    | false =>
      rw [if_neg Bool.false_ne_true]
      show ∃ es' ep' t', _ ∧ tRun S (storeSet a es1 t1 >>= _) s = _
      rw [tRun_bind']
      refine fin t1 g' _ _ fun s' => ?_
      simp only [if_true]
      generalize (relayAll t1 es1 (SetTable.grown es1.size)).2.2 = gv2
      cases gv2 <;> (show tRun S (storeSet _ _ _ >>= fun _ => pure (some true)) s' = _; rw [tRun_bind']; rfl)
    | true =>
      rw [if_pos rfl]
      show ∃ es' ep' t', _ ∧ tRun S (storeSet a es1 { t1 with plain := false } >>= _) s = _
      rw [tRun_bind']
      refine fin { t1 with plain := false } gpl _ _ fun s' => ?_
      simp only [Bool.false_eq_true, if_false]
      generalize (relayAll { t1 with plain := false } es1 (SetTable.grown es1.size)).2.2 = gv2
      cases gv2 <;> (show tRun S (storeSet _ _ _ >>= fun _ => pure (some true)) s' = _; rw [tRun_bind']; rfl))
end
end Mine
end
section
open PySem PySem.W PyProof.Rows PySem.Calls
set_option maxRecDepth 100000
namespace Mine
section
variable {S : Setting} {s : SharedT} {a : Nat} {es : Array (Int × Value)} {ep : Nat} {t : SetTable}
/-- the elements of our sets: strs, no two alike -/
noncomputable def Strs (L : List (Int × Value)) : Prop := (∀ e ∈ L, ∃ y u, e.2 = .str y u) ∧ L.length < 4000
theorem byScan_of {L : List (Int × Value)} {x : Str} {tk : Tok} (g : GoodS L es t) (hL : Strs L) : byScan (.str x tk) es = true := by
  unfold byScan
  have h1 : es.all (·.2.scannable) = true := by
    rw [← Array.all_toList, List.all_eq_true]
    intro e he
    obtain ⟨y, u, q⟩ := hL.1 e (g.1.mem_iff.mp he)
    rw [q]; rfl
  rw [h1]
  have : es.size < scanBound := by rw [g.size]; unfold scanBound; have := hL.2; omega
  simp [Value.scannable, this]
theorem run_addIn {L : List (Int × Value)} {x : Str} {tk : Tok} {hh : Int} {n : Nat} (h : AtS s a es ep t) (g : GoodS L es t) (ha : 11 ≤ a) (hL : Strs L) (hnew : ∀ e ∈ L, e.2.isStr x = false) :
    ∃ es' ep' t', GoodS ((hh, .str x tk) :: L) es' t' ∧ tRun S (setAddHashedIn a (.str x tk) hh (n + 1)) s = some (true, put s a (mkS es' ep' t')) := by
  obtain ⟨es', ep', t', g', e⟩ := run_addByScan (S := S) (hh := hh) (tk := tk) h g ha hL.1 hnew hL.2
  refine ⟨es', ep', t', g', ?_⟩
  unfold setAddHashedIn
  rw [tRun_bind', run_setState h g.2]
  simp only [Option.bind_some]
  rw [if_pos (byScan_of g hL), tRun_bind', e]
  rfl
theorem run_add {L : List (Int × Value)} {x : Str} {tk : Tok} {hh : Int} (h : AtS s a es ep t) (g : GoodS L es t) (ha : 11 ≤ a) (hL : Strs L) (hnew : ∀ e ∈ L, e.2.isStr x = false) :
    ∃ es' ep' t', GoodS ((hh, .str x tk) :: L) es' t' ∧ tRun S (setAddHashed a (.str x tk) hh) s = some (true, put s a (mkS es' ep' t')) := by
  unfold setAddHashed
  simp only [tRun_holding]
  exact run_addIn h g ha hL hnew
theorem eraseAt_perm {α : Type} {xs : Array α} {i : Nat} {x : α} (h : xs[i]? = some x) : xs.toList.Perm (x :: (SetTable.eraseAt xs i).toList) := by
  unfold SetTable.eraseAt
  obtain ⟨l⟩ := xs
  simp only [List.getElem?_toArray] at h
  simp only [List.size_toArray, Array.toList_append, Array.toList_extract, List.extract_eq_take_drop, Nat.sub_zero, List.drop_zero]
  have h2 : List.take (l.length - (i + 1)) (List.drop (i + 1) l) = List.drop (i + 1) l := List.take_of_length_le (by simp)
  rw [h2]
  obtain ⟨hi, rfl⟩ := List.getElem?_eq_some_iff.mp h
  have : l = List.take i l ++ l[i] :: List.drop (i + 1) l := by
    rw [List.getElem_cons_drop hi, List.take_append_drop]
  conv => lhs; rw [this]
  exact List.perm_middle
theorem eraseAt_size {α : Type} {xs : Array α} {i : Nat} {x : α} (h : xs[i]? = some x) : (SetTable.eraseAt xs i).size = xs.size - 1 := by
  have := (eraseAt_perm h).length_eq
  rw [List.length_cons, Array.length_toList, Array.length_toList] at this
  rw [this, Nat.add_sub_cancel]
theorem drop_fits {t : SetTable} {n i : Nat} (h : t.fits n = true) (hi : i < n) : (t.drop i).fits (n - 1) = true := by
  rw [fits_iff] at h ⊢
  obtain ⟨h1, h2⟩ := h
  unfold SetTable.drop
  have hj : t.place[i]? = some (t.place[i]'(by omega)) := Array.getElem?_eq_getElem (by omega)
  rw [hj]
  dsimp only
  have hs : (SetTable.eraseAt t.place i).size = n - 1 := by rw [eraseAt_size hj, h1]
  have hd : ∀ (xs : Array Nat) (p x : Nat), (SetTable.insertAt xs p x).size = xs.size + 1 := by
    intro xs p x
    have := (insertAt_perm xs p x).length_eq
    simpa using this
  refine ⟨hs, ?_⟩
  unfold SetTable.fill at h2 ⊢
  dsimp only
  rw [hs, hd]
  omega
end
section
variable {w : World} {s : SharedT} {a : Nat} {es : Array (Int × Value)} {ep : Nat} {t : SetTable}
noncomputable abbrev SW (w : World) : Setting := ⟨pw, w.params⟩
theorem run_richEqB (w : World) (b : Bool) (s : SharedT) (x y : Str) (u v : Tok) : tRun ⟨pw, (w.withFollow "special-get-raises" b).params⟩ (richCompare .Eq (.str x u) (.str y v)) s = some (.bool (x.cps.toList == y.cps.toList), s) := by
  cases b <;> kernel_rfl
theorem run_richEq (w : World) (s : SharedT) (x y : Str) (u v : Tok) : tRun (SW w) (richCompare .Eq (.str x u) (.str y v)) s = some (.bool (x.cps.toList == y.cps.toList), s) := by
  have := run_richEqB w (w.params.followText "special-get-raises") s x y u v
  rwa [World.withFollow_self] at this
theorem run_eqBool {x : Str} {u v : Tok} : tRun (SW w) (eqBool (.str x u) (.str x v)) s = some (true, s) := by
  unfold eqBool
  rw [tRun_holding]
  by_cases h : (Value.str x u == Value.str x v) = true
  · rw [if_pos h]; rfl
  · rw [if_neg h]
    show tRun (SW w) (richCompare .Eq (.str x u) (.str x v) >>= fun r => truthOfDropped r) s = _
    rw [tRun_bind', run_richEq]
    show tRun (SW w) (truthOfDropped (.bool (x.cps.toList == x.cps.toList))) s = _
    rw [beq_self_eq_true]
    rfl
theorem run_find {L : List (Int × Value)} {x : Str} {tk tk' : Tok} {hh : Int} (h : AtS s a es ep t) (g : GoodS L es t) (hL : Strs L) (e0 : Int × Value) (he0 : e0 ∈ L) (h0 : e0.2 = .str x tk') (hone : ∀ e ∈ L, e.2.isStr x = true → e = e0) :
    ∃ i, es[i]? = some e0 ∧ tRun (SW w) (setFind a (.str x tk) hh) s = some (some i, s) := by
  have hx : e0.2.isStr x = true := by rw [h0]; simp [Value.isStr]
  have hf : ∃ i, es.findIdx? (fun e => e.2.isStr x) = some i := by
    cases hq : es.findIdx? (fun e => e.2.isStr x) with
    | some i => exact ⟨i, rfl⟩
    | none =>
      rw [Array.findIdx?_eq_none_iff] at hq
      have := hq e0 (Array.mem_toList_iff.mp (g.1.mem_iff.mpr he0))
      rw [hx] at this; cases this
  obtain ⟨i, hi⟩ := hf
  obtain ⟨hlt, hp, _⟩ := Array.findIdx?_eq_some_iff_getElem.mp hi
  have hei : es[i]? = some e0 := by
    rw [Array.getElem?_eq_getElem hlt]
    exact congrArg some (hone _ (g.1.mem_iff.mp (Array.mem_toList_iff.mpr (Array.getElem_mem hlt))) hp)
  refine ⟨i, hei, ?_⟩
  unfold setFind setFindIn
  rw [tRun_bind', run_setState h g.2]
  simp only [Option.bind_some]
  rw [if_pos (byScan_of g hL)]
  simp only [tRun_bind', tRun_rule, Option.bind_some]
  have hs : tRun (SW w) (setScan a (.str x tk) hh false es) s = some (.found i, s) := by
    unfold setScan
    have h1 : es.all (fun e => isExactStrKey e.2) = true := by
      rw [← Array.all_toList, List.all_eq_true]
      intro e he
      obtain ⟨y, u, q⟩ := hL.1 e (g.1.mem_iff.mp he)
      rw [q]; rfl
    rw [h1]
    unfold setScanStrs
    dsimp only
    rw [if_pos rfl, hi]
    dsimp only
    rw [hei]
    obtain ⟨h', y⟩ := e0
    dsimp only at h0 ⊢
    subst h0
    rw [tRun_bind', run_setEpoch h g.2]
    simp only [Option.bind_some]
    rw [tRun_bind', run_eqBool]
    simp only [Option.bind_some, Bool.false_and, Bool.false_eq_true, if_false]
    rw [tRun_bind', run_setEpoch h g.2]
    simp only [Option.bind_some, bne_self_eq_false, Bool.false_eq_true, if_false, if_true]
    rfl
  rw [hs]
  rfl
theorem run_discard {L : List (Int × Value)} {x : Str} {tk tk' : Tok} {hh : Int} (h : AtS s a es ep t) (g : GoodS L es t) (ha : 11 ≤ a) (hL : Strs L) (e0 : Int × Value) (L' : List (Int × Value)) (hLe : L.Perm (e0 :: L')) (h0 : e0.2 = .str x tk') (hone : ∀ e ∈ L, e.2.isStr x = true → e = e0) :
    ∃ es' ep' t', GoodS L' es' t' ∧ tRun (SW w) (setDiscardHashed a (.str x tk) hh) s = some (true, put s a (mkS es' ep' t')) := by
  obtain ⟨i, hi, e⟩ := run_find (w := w) (tk := tk) (hh := hh) h g hL e0 (hLe.mem_iff.mpr (List.mem_cons_self)) h0 hone
  have hlt : i < es.size := (Array.getElem?_eq_some_iff.mp hi).1
  have hsz : (SetTable.eraseAt es i).size = es.size - 1 := eraseAt_size hi
  have g' : GoodS L' (SetTable.eraseAt es i) (t.drop i) := by
    refine ⟨?_, by rw [hsz]; exact drop_fits g.2 hlt⟩
    exact (((eraseAt_perm hi).symm.trans g.1).trans hLe).cons_inv
  refine ⟨_, ep + 1, _, g', ?_⟩
  unfold setDiscardHashed
  rw [tRun_bind', e]
  simp only [Option.bind_some]
  rw [tRun_bind', run_setState h g.2]
  simp only [Option.bind_some]
  rw [tRun_bind', run_storeSet h ha (by rw [hsz, g.size]; have := hL.2; unfold sizeLine; omega)]
  rfl
end
end Mine
end
section
open PySem PySem.W PyProof.Rows PySem.Calls
set_option maxRecDepth 100000
namespace Mine
noncomputable def nxt (mask i : Nat) : Nat := (i * 5 + 1) % (mask + 1)
noncomputable def itN (mask : Nat) : Nat → Nat → Nat
  | 0, i => i
  | n + 1, i => itN mask n (nxt mask i)
theorem itN_add (mask : Nat) : ∀ (m n i : Nat), itN mask (m + n) i = itN mask m (itN mask n i)
  | m, 0, i => rfl
  | m, n + 1, i => itN_add mask m n (nxt mask i)
noncomputable def orb (mask : Nat) : Nat → Nat → List Nat
  | 0, _ => []
  | n + 1, i => i :: orb mask n (nxt mask i)
theorem orb_mem {mask : Nat} : ∀ {N i j : Nat}, j ∈ orb mask N i → ∃ n, n < N ∧ itN mask n i = j
  | 0, _, _, h => by cases h
  | N + 1, i, j, h => by
    rcases List.mem_cons.mp h with rfl | h
    · exact ⟨0, Nat.succ_pos _, rfl⟩
    · obtain ⟨n, hn, e⟩ := orb_mem h
      exact ⟨n + 1, Nat.succ_lt_succ hn, e⟩
theorem orb7 : ((List.range 8).all fun j => (orb 7 8 0).contains j) = true := by decide +kernel
theorem orb127 : ((List.range 128).all fun j => (orb 127 128 0).contains j) = true := by decide +kernel
theorem orb255 : ((List.range 256).all fun j => (orb 255 256 0).contains j) = true := by decide +kernel
theorem back255 : itN 255 256 0 = 0 := by decide +kernel
theorem back7 : itN 7 8 0 = 0 := by decide +kernel
theorem back127 : itN 127 128 0 = 0 := by decide +kernel
theorem cover {mask : Nat} (hm : mask = 7 ∨ mask = 127 ∨ mask = 255) {i j : Nat} (hi : i ≤ mask) (hj : j ≤ mask) : ∃ n, n ≤ mask ∧ itN mask n i = j := by
  have h0 : ∀ x ≤ mask, ∃ n, n < mask + 1 ∧ itN mask n 0 = x := by
    intro x hx
    rcases hm with rfl | rfl | rfl
    · exact orb_mem (List.contains_iff_mem.mp (List.all_eq_true.mp orb7 x (List.mem_range.mpr (by omega))))
    · exact orb_mem (List.contains_iff_mem.mp (List.all_eq_true.mp orb127 x (List.mem_range.mpr (by omega))))
    · exact orb_mem (List.contains_iff_mem.mp (List.all_eq_true.mp orb255 x (List.mem_range.mpr (by omega))))
  have hb : itN mask (mask + 1) 0 = 0 := by
    rcases hm with rfl | rfl | rfl
    · exact back7
    · exact back127
    · exact back255
  obtain ⟨x, hx, ex⟩ := h0 i hi
  obtain ⟨y, hy, ey⟩ := h0 j hj
  by_cases h : x ≤ y
  · refine ⟨y - x, by omega, ?_⟩
    rw [← ex, ← itN_add, Nat.sub_add_cancel h]; exact ey
  · refine ⟨y + (mask + 1 - x), by omega, ?_⟩
    rw [itN_add, ← ex, ← itN_add mask (mask + 1 - x) x 0, Nat.sub_add_cancel (by omega), hb]; exact ey
noncomputable def sq (mask : Nat) : Nat → Nat × Nat → Nat × Nat
  | 0, p => p
  | n + 1, p => sq mask n (SetTable.leap mask p.1 p.2)
theorem sq_zero {mask : Nat} : ∀ (n i : Nat), (sq mask n (i, 0)).1 = itN mask n i
  | 0, i => rfl
  | n + 1, i => by
    show (sq mask n ((i * 5 + 1 + 0 / 32) % (mask + 1), 0 / 32)).1 = itN mask n (nxt mask i)
    simp only [Nat.zero_div, Nat.add_zero]
    exact sq_zero n _
theorem sq_add {mask : Nat} : ∀ (m n : Nat) (p : Nat × Nat), sq mask (n + m) p = sq mask m (sq mask n p)
  | m, 0, p => by rw [Nat.zero_add]; rfl
  | m, n + 1, p => by rw [show n + 1 + m = (n + m) + 1 by omega]; exact sq_add m n _
theorem sq_le {mask : Nat} : ∀ (n : Nat) (p : Nat × Nat), p.1 ≤ mask → (sq mask n p).1 ≤ mask
  | 0, _, h => h
  | n + 1, p, _ => sq_le n _ (by
    show (p.1 * 5 + 1 + p.2 / 32) % (mask + 1) ≤ mask
    exact Nat.le_of_lt_succ (Nat.mod_lt _ (Nat.succ_pos mask)))
theorem sq_snd {mask : Nat} : ∀ (n : Nat) (p : Nat × Nat), (sq mask n p).2 = p.2 / 32 ^ n
  | 0, p => by show p.2 = p.2 / 1; rw [Nat.div_one]
  | n + 1, p => by
    show (sq mask n (SetTable.leap mask p.1 p.2)).2 = _
    rw [sq_snd n]
    show p.2 / 32 / 32 ^ n = p.2 / 32 ^ (n + 1)
    rw [Nat.div_div_eq_div_mul, Nat.pow_succ, Nat.mul_comm 32]
theorem reach {mask : Nat} (hm : mask = 7 ∨ mask = 127 ∨ mask = 255) {i p j : Nat} (hi : i ≤ mask) (hp : p < 2 ^ 64) (hj : j ≤ mask) : ∃ n, n < SetTable.turns mask ∧ (sq mask n (i, p)).1 = j := by
  have h1 : (sq mask 13 (i, p)).2 = 0 := by
    rw [sq_snd]
    exact Nat.div_eq_of_lt (Nat.lt_of_lt_of_le hp (by decide))
  obtain ⟨n, hn, e⟩ := cover hm (sq_le 13 (i, p) hi) hj
  refine ⟨13 + n, by unfold SetTable.turns; omega, ?_⟩
  rw [sq_add]
  have : sq mask 13 (i, p) = ((sq mask 13 (i, p)).1, 0) := by rw [← h1]
  rw [this, sq_zero]
  exact e
theorem free_some {mask : Nat} {owner : Array (Option Nat)} : ∀ {fuel i p j : Nat}, SetTable.layClean.free mask owner fuel i p = some j → owner.getD j (some 0) = none
  | 0, _, _, _, h => by simp [SetTable.layClean.free] at h
  | fuel + 1, i, p, j, h => by
    unfold SetTable.layClean.free at h
    split at h
    · rename_i k hk
      cases h
      have := List.find?_some hk
      simpa using this
    · exact free_some h
theorem free_none {mask : Nat} {owner : Array (Option Nat)} : ∀ {fuel i p : Nat}, SetTable.layClean.free mask owner fuel i p = none → ∀ n < fuel, owner.getD (sq mask n (i, p)).1 (some 0) ≠ none
  | 0, _, _, _, n, hn => by omega
  | fuel + 1, i, p, h, n, hn => by
    unfold SetTable.layClean.free at h
    split at h
    · cases h
    · rename_i hk
      cases n with
      | zero =>
        rw [List.find?_eq_none] at hk
        have hz : 0 ∈ List.range (SetTable.runEnd mask i + 1 - i) := by
          rw [List.mem_range]
          unfold SetTable.runEnd
          split <;> omega
        have := hk 0 hz
        rw [Nat.add_zero] at this
        intro q
        rw [show (sq mask 0 (i, p)).1 = i from rfl] at q
        rw [q] at this
        exact this rfl
      | succ n => exact free_none h n (by omega)

noncomputable def liveOf (mask : Nat) (owner : Array (Option Nat)) : List Nat := (List.range (mask + 1)).filterMap fun j => owner.getD j none
theorem live_set {mask j k : Nat} {owner : Array (Option Nat)} (hs : owner.size = mask + 1) (hj : owner.getD j (some 0) = none) : (liveOf mask (owner.setIfInBounds j (some k))).Perm (k :: liveOf mask owner) ∧ j ≤ mask := by
  have hlt : j < owner.size := by
    by_cases h : j < owner.size
    · exact h
    · exfalso
      rw [Array.getD_eq_getD_getElem?, Array.getElem?_eq_none (by omega)] at hj
      cases hj
  have hj' : owner.getD j none = none := by
    rw [Array.getD_eq_getD_getElem?, Array.getElem?_eq_getElem hlt] at hj ⊢
    exact hj
  refine ⟨?_, by omega⟩
  unfold liveOf
  have hsplit : List.range (mask + 1) = List.range j ++ j :: (List.range (mask - j)).map (· + (j + 1)) := by
    have h1 : mask + 1 = (j + 1) + (mask - j) := by omega
    rw [h1, List.range_add, List.range_succ, List.append_assoc]
    simp only [List.cons_append, List.nil_append]
    congr 2
    refine List.map_congr_left fun x _ => by omega
  rw [hsplit, List.filterMap_append, List.filterMap_append, List.filterMap_cons, List.filterMap_cons]
  have e1 : (owner.setIfInBounds j (some k)).getD j none = some k := by
    rw [Array.getD_eq_getD_getElem?, Array.getElem?_setIfInBounds_self_of_lt hlt]; rfl
  have e2 : ∀ x, x ≠ j → (owner.setIfInBounds j (some k)).getD x none = owner.getD x none := by
    intro x hx
    rw [Array.getD_eq_getD_getElem?, Array.getD_eq_getD_getElem?, Array.getElem?_setIfInBounds_ne (Ne.symm hx)]
  rw [e1, hj']
  dsimp only
  have a1 : (List.range j).filterMap (fun x => (owner.setIfInBounds j (some k)).getD x none) = (List.range j).filterMap (fun x => owner.getD x none) := by
    have : ∀ l : List Nat, (∀ x ∈ l, x ≠ j) → l.filterMap (fun x => (owner.setIfInBounds j (some k)).getD x none) = l.filterMap (fun x => owner.getD x none) := by
      intro l hl
      induction l with
      | nil => rfl
      | cons x l ih =>
        rw [List.filterMap_cons, List.filterMap_cons, e2 x (hl x List.mem_cons_self), ih fun y hy => hl y (List.mem_cons_of_mem _ hy)]
    exact this _ fun x hx => by have := List.mem_range.mp hx; omega
  have a2 : ((List.range (mask - j)).map (· + (j + 1))).filterMap (fun x => (owner.setIfInBounds j (some k)).getD x none) = ((List.range (mask - j)).map (· + (j + 1))).filterMap (fun x => owner.getD x none) := by
    have : ∀ l : List Nat, (∀ x ∈ l, x ≠ j) → l.filterMap (fun x => (owner.setIfInBounds j (some k)).getD x none) = l.filterMap (fun x => owner.getD x none) := by
      intro l hl
      induction l with
      | nil => rfl
      | cons x l ih =>
        rw [List.filterMap_cons, List.filterMap_cons, e2 x (hl x List.mem_cons_self), ih fun y hy => hl y (List.mem_cons_of_mem _ hy)]
    refine this _ fun x hx => ?_
    obtain ⟨y, _, rfl⟩ := List.mem_map.mp hx
    omega
  rw [a1, a2]
  exact List.perm_middle
/-- a hole is left as long as fewer than mask + 1 places are taken -/
theorem hole {mask k : Nat} {owner : Array (Option Nat)} (hs : owner.size = mask + 1) (hp : (liveOf mask owner).Perm (List.range k)) (hk : k ≤ mask) : ∃ j, j ≤ mask ∧ owner.getD j (some 0) = none := by
  apply Classical.byContradiction
  intro hn
  have hall : ∀ j, j ≤ mask → ∃ x, owner.getD j none = some x := by
    intro j hj
    have h1 : owner.getD j (some 0) ≠ none := fun q => hn ⟨j, hj, q⟩
    have hlt : j < owner.size := by omega
    rw [Array.getD_eq_getD_getElem?, Array.getElem?_eq_getElem hlt] at h1 ⊢
    exact Option.ne_none_iff_exists'.mp h1
  have hl : (liveOf mask owner).length = mask + 1 := by
    unfold liveOf
    have : ∀ l : List Nat, (∀ x ∈ l, x ≤ mask) → (l.filterMap fun j => owner.getD j none).length = l.length := by
      intro l hl
      induction l with
      | nil => rfl
      | cons x l ih =>
        obtain ⟨y, hy⟩ := hall x (hl x List.mem_cons_self)
        rw [List.filterMap_cons, hy]
        dsimp only
        rw [List.length_cons, List.length_cons, ih fun z hz => hl z (List.mem_cons_of_mem _ hz)]
    rw [this _ fun x hx => by have := List.mem_range.mp hx; omega, List.length_range]
  have := hp.length_eq
  rw [hl, List.length_range] at this
  omega
theorem bits_lt (h : Int) : SetTable.bits h < 2 ^ 64 := by
  unfold SetTable.bits
  have h1 := Int.emod_nonneg h (show (2 ^ 64 : Int) ≠ 0 by decide)
  have h2 := Int.emod_lt_of_pos h (show (0 : Int) < 2 ^ 64 by decide)
  omega
theorem clean_ok {mask : Nat} (hm : mask = 7 ∨ mask = 127 ∨ mask = 255) : ∀ (hs : List Int) (k : Nat) (owner : Array (Option Nat)), owner.size = mask + 1 → (liveOf mask owner).Perm (List.range k) → k + hs.length ≤ mask →
    ∃ o', (hs.foldl (init := some (owner, k)) fun acc h => do
      let (owner, k) ← acc
      let j ← SetTable.layClean.free mask owner (SetTable.turns mask) (SetTable.bits h % (mask + 1)) (SetTable.bits h)
      pure (owner.setIfInBounds j (some k), k + 1)) = some (o', k + hs.length) ∧ o'.size = mask + 1 ∧ (liveOf mask o').Perm (List.range (k + hs.length))
  | [], k, owner, hs, hp, _ => ⟨owner, rfl, hs, hp⟩
  | h :: r, k, owner, hs, hp, hk => by
    rw [List.length_cons] at hk
    obtain ⟨j0, hj0, hn0⟩ := hole hs hp (by omega)
    have hf : ∃ j, SetTable.layClean.free mask owner (SetTable.turns mask) (SetTable.bits h % (mask + 1)) (SetTable.bits h) = some j := by
      cases hq : SetTable.layClean.free mask owner (SetTable.turns mask) (SetTable.bits h % (mask + 1)) (SetTable.bits h) with
      | some j => exact ⟨j, rfl⟩
      | none =>
        obtain ⟨n, hn, e⟩ := reach hm (i := SetTable.bits h % (mask + 1)) (Nat.le_of_lt_succ (Nat.mod_lt _ (Nat.succ_pos mask))) (bits_lt h) hj0
        exact absurd (by rw [e]; exact hn0) (free_none hq n hn)
    obtain ⟨j, hj⟩ := hf
    obtain ⟨l1, l2⟩ := live_set (k := k) hs (free_some hj)
    have hp' : (liveOf mask (owner.setIfInBounds j (some k))).Perm (List.range (k + 1)) := by
      refine l1.trans ?_
      rw [List.range_succ]
      exact (hp.cons k).trans (List.perm_append_singleton k _).symm
    obtain ⟨o', e, s', p'⟩ := clean_ok hm r (k + 1) (owner.setIfInBounds j (some k)) (by simpa using hs) hp' (by omega)
    refine ⟨o', ?_, s', ?_⟩
    · rw [List.foldl_cons, List.length_cons, show k + (r.length + 1) = k + 1 + r.length by omega, ← e]
      congr 1
      show (SetTable.layClean.free mask owner (SetTable.turns mask) (SetTable.bits h % (mask + 1)) (SetTable.bits h)).bind _ = _
      rw [hj]
      rfl
    · rw [List.length_cons, show k + (r.length + 1) = k + 1 + r.length by omega]; exact p'
theorem laid_ok {mask finger moves : Nat} {led plain : Bool} {hs : Array Int} (hm : mask = 7 ∨ mask = 127 ∨ mask = 255) (hn : hs.size ≤ mask) :
    ∃ t order, SetTable.laid mask finger moves led plain hs = some (t, order) ∧ order.toList.Perm (List.range hs.size) ∧ t.fits hs.size = true ∧ t.mask = mask ∧ t.place.size = hs.size ∧ t.dummies = #[] := by
  have h0 : (liveOf mask (Array.replicate (mask + 1) none)).Perm (List.range 0) := by
    have : liveOf mask (Array.replicate (mask + 1) none) = [] := by
      unfold liveOf
      rw [List.filterMap_eq_nil_iff]
      intro x hx
      rw [Array.getD_eq_getD_getElem?, Array.getElem?_replicate]
      split <;> rfl
    rw [this]; exact List.Perm.refl _
  obtain ⟨o', e, s', p'⟩ := clean_ok hm hs.toList 0 (Array.replicate (mask + 1) none) (by simp) h0 (by simpa using hn)
  have hc : SetTable.layClean mask hs = some o' := by
    unfold SetTable.layClean
    rw [← Array.foldl_toList, e]
    rfl
  unfold SetTable.laid
  rw [hc]
  have hl : ((List.range (mask + 1)).filterMap fun j => (o'.getD j none).map (j, ·)).map (·.2) = liveOf mask o' := by
    unfold liveOf
    rw [List.map_filterMap]
    congr 1
    funext j
    cases o'.getD j none <;> rfl
  have hlen : ((List.range (mask + 1)).filterMap fun j => (o'.getD j none).map (j, ·)).length = hs.size := by
    have := congrArg List.length hl
    rw [List.length_map] at this
    rw [this, p'.length_eq]
    simp
  refine ⟨_, _, rfl, ?_, ?_, rfl, ?_, rfl⟩
  · show (((List.range (mask + 1)).filterMap fun j => (o'.getD j none).map (j, ·)).map (·.2)).Perm _
    rw [hl]
    simpa using p'
  · rw [fits_iff]
    refine ⟨by simp only [List.size_toArray, List.length_map, hlen], ?_⟩
    show _ + _ ≤ mask
    simp only [List.size_toArray, List.length_map, hlen]
    simpa using hn
  · simp only [List.size_toArray, List.length_map, hlen]
end Mine
end
section
open PySem PySem.W PyProof.Rows PySem.Calls
set_option maxRecDepth 100000
namespace Mine
section
variable {S : Setting} {s : SharedT} {a b : Nat} {es : Array (Int × Value)} {ep epb : Nat} {t to : SetTable} {L : List (Int × Value)}
theorem reorder_perm {es : Array (Int × Value)} {order : Array Nat} (hp : order.toList.Perm (List.range es.size)) : (order.filterMap (es[·]?)).toList.Perm es.toList := by
  have h1 : (order.filterMap (es[·]?)).toList = order.toList.filterMap (es[·]?) := by simp
  rw [h1]
  refine (hp.filterMap _).trans ?_
  have h2 : (List.range es.size).filterMap (es[·]?) = es.toList := by
    have : ∀ l : List (Int × Value), (List.range l.length).filterMap (l[·]?) = l := by
      intro l
      induction l with
      | nil => rfl
      | cons a l ih =>
        rw [List.length_cons, List.range_succ_eq_map, List.filterMap_cons]
        simp only [List.getElem?_cons_zero]
        rw [List.filterMap_map]
        have h3 : ((fun i => (a :: l)[i]?) ∘ Nat.succ) = (l[·]?) := by
          funext i
          simp
        rw [h3, ih]
    simpa using this es.toList
  rw [h2]
theorem run_relay_empty (h : AtS s a #[] ep t) (ht : t.fits 0 = true) (ha : 11 ≤ a) {wanted : Nat} (hw : SetTable.sizeAbove wanted = 128) :
    ∃ t', t'.fits 0 = true ∧ t'.mask = 127 ∧ t'.place.size = 0 ∧ t'.dummies = #[] ∧ tRun S (setRelay a wanted) s = some ((), put s a (mkS #[] (ep + 1) t')) := by
  obtain ⟨t', order, e, hp, hf, hm, hpl, hd⟩ := laid_ok (mask := 127) (finger := t.finger) (moves := t.movedTo 127) (led := t.led) (plain := t.plain) (hs := (#[] : Array Int)) (.inr (.inl rfl)) (by decide)
  have ho : order = #[] := by
    have := hp.length_eq
    simp only [List.length_range, Array.length_toList] at this
    exact Array.eq_empty_of_size_eq_zero this
  subst ho
  refine ⟨t', hf, hm, hpl, hd, ?_⟩
  unfold setRelay
  rw [tRun_bind', run_setState h ht]
  simp only [Option.bind_some]
  rw [if_neg (by rw [hw]; decide)]
  have er : t.relaid ((#[] : Array (Int × Value)).map (·.1)) wanted = some (t', #[]) := by
    unfold SetTable.relaid
    rw [hw]
    rw [show (128 - 1 : Nat) = 127 from rfl, Array.map_empty]
    exact e
  rw [er]
  show tRun S (storeSet a #[] t') s = _
  exact run_storeSet h ha (by decide)
theorem run_mergeFrom (h : AtS s a #[] ep t) (ht : t.fits 0 = true) (hd : t.dummies = #[]) (hm : t.mask = 7 ∨ t.mask = 127) (hb : AtS s b es epb to) (g : GoodS L es to) (hne : a ≠ b) (hL : Strs L) (hle : L.length ≤ t.mask) (ha : 11 ≤ a) {each : Sem Unit}
    (hne0 : L ≠ []) : ∃ es' ep' t', GoodS L es' t' ∧ tRun S (do
      let (_, _, ts) ← setState a
      match ts.road to with
      | .slotForSlot => storeSet a es { to with finger := ts.finger, led := ts.led && to.led, moves := ts.moves, plain := ts.plain && to.plain }
      | .clean =>
        let (es, t) ← (do
          let some (t, order) := SetTable.laid ts.mask ts.finger ts.moves (led := ts.led && to.led) (plain := ts.plain && to.plain) (es.map (·.1)) | unsupported "internal:set-table-without-room"
          let es' := order.filterMap (es[·]?)
          if es'.size != es.size then unsupported "internal:set-table-lost-an-element"
          pure (es', t))
        storeSet a es t
      | .oneByOne =>
        for (h, x) in ← setWalkUnseen b [a] (some a) do
          let _ ← holding [x] (setAddHashed a x h)
          each
          if (← setState b).2.1 != epb then unsupported "set.changed-during-merge") s = some ((), put s a (mkS es' ep' t')) := by
  have hfill : t.fill = 0 := by
    have := (fits_iff.mp ht).1
    unfold SetTable.fill
    rw [this, hd]; rfl
  have hsz : es.size ≤ sizeLine := by rw [g.size]; have := hL.2; unfold sizeLine; omega
  rw [tRun_bind', run_setState h ht]
  simp only [Option.bind_some]
  have hr : t.road to = .slotForSlot ∨ t.road to = .clean := by
    unfold SetTable.road
    rw [hfill]
    simp only [bne_self_eq_false, Bool.false_eq_true, if_false]
    split
    · exact .inl rfl
    · exact .inr rfl
  rcases hr with hr | hr
  · rw [hr]
    dsimp only
    exact ⟨es, ep + 1, { to with finger := t.finger, led := t.led && to.led, moves := t.moves, plain := t.plain && to.plain }, ⟨g.1, g.2⟩, run_storeSet h ha hsz⟩
  · rw [hr]
    dsimp only
    obtain ⟨t', order, e, hp, hf, _⟩ := laid_ok (mask := t.mask) (finger := t.finger) (moves := t.moves) (led := t.led && to.led) (plain := t.plain && to.plain) (hs := es.map (·.1)) (hm.imp id .inl) (by rw [Array.size_map, g.size]; exact hle)
    rw [Array.size_map] at hp hf
    have hp2 := reorder_perm hp
    have hs2 : (order.filterMap (es[·]?)).size = es.size := by
      have := hp2.length_eq
      rwa [Array.length_toList, Array.length_toList] at this
    have g2 : GoodS L (order.filterMap (es[·]?)) t' := ⟨hp2.trans g.1, by rw [hs2]; exact hf⟩
    refine ⟨_, ep + 1, _, g2, ?_⟩
    rw [e]
    show tRun S ((if ((order.filterMap (es[·]?)).size != es.size) = true then _ else pure (order.filterMap (es[·]?), t')) >>= fun r => storeSet a r.1 r.2) s = _
    rw [hs2, bne_self_eq_false, if_neg Bool.false_ne_true]
    exact run_storeSet h ha (by rw [hs2]; exact hsz)
theorem run_merge (h : AtS s a #[] ep t) {led : Bool} (ht : t = SetTable.fresh 0 0 led) (hb : AtS s b es epb to) (g : GoodS L es to) (hne : a ≠ b) (hL : Strs L) (hn : L.length = 2 ∨ L.length = 32 ∨ L.length = 33) (ha : 11 ≤ a) {each : Sem Unit} :
    ∃ es' ep' t', GoodS L es' t' ∧ tRun S (setMerge a b each) s = some ((), put s a (mkS es' ep' t')) := by
  have hf : t.fits 0 = true := by subst ht; rfl
  have hne' : L ≠ [] := by rintro rfl; simp at hn
  have hemp : es.isEmpty = false := by
    have := g.size
    rw [Array.isEmpty_eq_false_iff]
    rintro rfl
    simp only [List.size_toArray, List.length_nil] at this
    exact hne' (List.length_eq_zero_iff.mp this.symm)
  have hab : (a == b) = false := by simpa using hne
  have hroom : (L.length = 2 ∧ tRun S (setRoomFor a es.size) s = some ((), s)) ∨ ∃ t1, L.length ≤ 33 ∧ t1.fits 0 = true ∧ t1.mask = 127 ∧ t1.dummies = #[] ∧ tRun S (setRoomFor a es.size) s = some ((), put s a (mkS #[] (ep + 1) t1)) := by
    unfold setRoomFor
    rw [tRun_bind', run_setState h hf]
    simp only [Option.bind_some]
    rw [g.size]
    rcases hn with hn | hn | hn
    · left
      rw [hn]; subst ht
      exact ⟨rfl, rfl⟩
    · right
      rw [hn]
      have e : t.roomFor 32 = some 64 := by subst ht; rfl
      rw [e]
      obtain ⟨t1, a1, a2, _, a4, a5⟩ := run_relay_empty (S := S) h hf ha (wanted := 64) (by decide +kernel)
      exact ⟨t1, by decide, a1, a2, a4, a5⟩
    · right
      rw [hn]
      have e : t.roomFor 33 = some 66 := by subst ht; rfl
      rw [e]
      obtain ⟨t1, a1, a2, _, a4, a5⟩ := run_relay_empty (S := S) h hf ha (wanted := 66) (by decide +kernel)
      exact ⟨t1, by decide, a1, a2, a4, a5⟩
  unfold setMerge
  rw [hab]
  simp only [Bool.false_eq_true, if_false]
  rw [tRun_bind', run_setState hb g.2]
  simp only [Option.bind_some]
  rw [hemp]
  simp only [Bool.false_eq_true, if_false]
  rw [tRun_bind']
  rcases hroom with ⟨h2, e⟩ | ⟨t1, hle, f1, m1, d1, e⟩
  · rw [e]
    simp only [Option.bind_some]
    exact run_mergeFrom h hf (by subst ht; rfl) (.inl (by subst ht; rfl)) hb g hne hL (by rw [h2]; subst ht; exact (by decide : 2 ≤ 7)) ha hne'
  · rw [e]
    simp only [Option.bind_some]
    obtain ⟨es', ep', t', g', e'⟩ := run_mergeFrom (S := S) (each := each) h.put_self f1 d1 (.inr m1) (hb.put_ne (Ne.symm hne)) g hne hL (by rw [m1]; omega) ha hne'
    rw [put_put] at e'
    exact ⟨es', ep', t', g', e'⟩
end
end Mine
end
section
open PySem PySem.W PyProof.Rows PySem.Calls PySem.Builtin
set_option maxRecDepth 100000
namespace Mine
section
variable {w : World} {S : Setting} {s : SharedT} {a b : Nat} {es eb : Array (Int × Value)} {ep epb : Nat} {t tb : SetTable} {L Lb : List (Int × Value)}
theorem run_forIn {α : Type} {f : α → PUnit → Sem (ForInStep PUnit)} (I : List α → SharedT → Prop) (step : ∀ x r s, I (x :: r) s → ∃ s', tRun S (f x ⟨⟩) s = some (.yield ⟨⟩, s') ∧ I r s') :
    ∀ (l : List α) (s : SharedT), I l s → ∃ s', tRun S (forIn l PUnit.unit f) s = some (⟨⟩, s') ∧ I [] s'
  | [], s, h => ⟨s, rfl, h⟩
  | x :: r, s, h => by
    obtain ⟨s1, e1, h1⟩ := step x r s h
    obtain ⟨s2, e2, h2⟩ := run_forIn I step r s1 h1
    refine ⟨s2, ?_, h2⟩
    rw [List.forIn_cons, tRun_bind', e1]
    exact e2
theorem run_typeOf (h : AtS s a es ep t) : tRun S (typeOf (.ref a)) s = some (.type "frozenset", s) := by
  show tRun S (Sem.load a _ .pure >>= fun o => pure o.cls) s = _
  rw [tRun_bind', run_load h]
  rfl
theorem run_isSet (h : AtS s a es ep t) : tRun S (isInstance (.ref a) (.type "set")) s = some (false, s) := by
  unfold isInstance
  rw [tRun_bind', run_typeOf h]
  simp only [Option.bind_some]
  rw [F.sub_frozenset_set]; rfl
theorem run_isFro (h : AtS s a es ep t) : tRun S (isInstance (.ref a) (.type "frozenset")) s = some (true, s) := by
  unfold isInstance
  rw [tRun_bind', run_typeOf h]
  simp only [Option.bind_some]
  rw [F.sub_frozenset_frozenset]; rfl
theorem run_isAnySet (h : AtS s a es ep t) : tRun S (Frozenset.isAnySet (.ref a)) s = some (true, s) := by
  unfold Frozenset.isAnySet orM
  rw [tRun_bind', run_isSet h]
  exact run_isFro h
theorem run_baseOf (h : AtS s a es ep t) : tRun S (Frozenset.baseOf a) s = some (.type "frozenset", s) := by
  unfold Frozenset.baseOf
  rw [tRun_bind', run_isSet h]
  rfl
noncomputable def alc (s : SharedT) (o : Obj) : SharedT := ⟨s.tree.ins s.n o, s.n + 1, s.life, s.gens, s.drawn, s.toks, s.os⟩
noncomputable def Ins (s : SharedT) : Prop := ∀ o, ((s.tree.ins s.n o).get s.n).isSome = true
theorem AtS.alc (h : AtS s a es ep t) (hI : Ins s) (o : Obj) : AtS (alc s o) a es ep t := ⟨Nat.lt_succ_of_lt h.1, by
  show (s.tree.ins s.n o).get a = _
  rw [BT.get_ins o s.tree s.n (hI o), if_neg (Nat.ne_of_lt h.1)]; exact h.2⟩
theorem AtS.new (hI : Ins s) {es : Array (Int × Value)} {ep : Nat} {t : SetTable} : AtS (Mine.alc s (mkS es ep t)) s.n es ep t := ⟨Nat.lt_succ_self _, by
  show (s.tree.ins s.n _).get s.n = _
  rw [BT.get_ins _ s.tree s.n (hI _), if_pos rfl]⟩
theorem run_newSet (hI : Ins s) : ∃ led, tRun S (newSet (.type "frozenset")) s = some (.ref s.n, alc s (mkS #[] 0 (.fresh 0 0 led))) := by
  refine ⟨!(S.params.followText "set-order"), ?_⟩
  have e := hI (mkS #[] 0 (.fresh 0 0 (!(S.params.followText "set-order"))))
  show (match ((s.tree.ins s.n (mkS #[] 0 (.fresh 0 0 (!(S.params.followText "set-order"))))).get s.n).isSome with | true => _ | false => _) = _
  rw [e]
  rfl
theorem run_copyOf (h : AtS s a es ep t) (g : GoodS L es t) (hL : Strs L) (hn : L.length = 2 ∨ L.length = 32 ∨ L.length = 33) (hI : Ins s) (h11 : 11 ≤ s.n) :
    ∃ led es' ep' t', GoodS L es' t' ∧ tRun S (Frozenset.copyOf a) s = some (.ref s.n, put (alc s (mkS #[] 0 (.fresh 0 0 led))) s.n (mkS es' ep' t')) := by
  obtain ⟨led, e⟩ := run_newSet (S := S) hI
  have hne : s.n ≠ a := Nat.ne_of_gt h.1
  obtain ⟨es', ep', t', g', e'⟩ := run_merge (S := S) (each := pure ()) (AtS.new (s := s) hI) rfl (h.alc hI _) g hne hL hn h11
  refine ⟨led, es', ep', t', g', ?_⟩
  unfold Frozenset.copyOf
  rw [tRun_bind', run_baseOf h]
  simp only [Option.bind_some]
  rw [tRun_bind', e]
  simp only [Option.bind_some]
  show tRun S (setMerge s.n a (pure ()) >>= fun _ => pure (Value.ref s.n)) _ = _
  rw [tRun_bind', e']
  rfl
/-- one element walked -/
theorem tRun_setsByText : tRun S setsByText s = some (S.params.followText "set-order", s) := rfl
theorem run_walk_one {x : Int × Value} (h : AtS s b #[x] epb tb) (hf : tb.fits 1 = true) : tRun S (setWalk b) s = some (#[x], s) := by
  unfold setWalk
  rw [tRun_bind', run_setState h hf]
  simp only [Option.bind_some]
  rw [tRun_bind', tRun_setsByText]
  simp only [Option.bind_some]
  split
  · have : pickOrder (S.params.setOrder b epb) #[x] = #[x] := by
      simp [pickOrder, pickOrder.go, Nat.mod_one]
    rw [tRun_bind', tRun_ask]
    simp only [Option.bind_some]
    rw [this]; rfl
  · cases h1 : tb.plain <;> cases h2 : tb.led <;> (
      obtain ⟨mask, place, dummies, finger, led, moves, plain⟩ := tb
      dsimp only at h1 h2
      subst h1; subst h2
      rfl)
theorem run_walkUnseen_one {x : Int × Value} {others : List Addr} {filled : Option Addr} (h : AtS s b #[x] epb tb) (hf : tb.fits 1 = true) : tRun S (setWalkUnseen b others filled) s = some (#[x], s) := by
  unfold setWalkUnseen
  rw [tRun_bind', run_setState h hf]
  simp only [Option.bind_some]
  rw [tRun_bind', tRun_setsByText]
  simp only [Option.bind_some]
  rw [if_pos (by simp), run_walk_one h hf]
end
end Mine
end
section
open PySem PySem.W PyProof.Rows PySem.Calls PySem.Builtin
set_option maxRecDepth 100000
namespace Mine
section
variable {w : World} {S : Setting} {s : SharedT} {a b : Nat} {es eb : Array (Int × Value)} {ep epb : Nat} {t tb : SetTable} {L Lb : List (Int × Value)}
theorem run_relay (h : AtS s a es ep t) (g : GoodS L es t) (ha : 11 ≤ a) (hL : Strs L) {wanted m : Nat} (hm : m = 7 ∨ m = 127 ∨ m = 255) (hw : SetTable.sizeAbove wanted = m + 1) (hle : L.length ≤ m) :
    ∃ es' ep' t', GoodS L es' t' ∧ tRun S (setRelay a wanted) s = some ((), put s a (mkS es' ep' t')) := by
  have hsz : es.size ≤ sizeLine := by rw [g.size]; have := hL.2; unfold sizeLine; omega
  obtain ⟨t', order, e, hp, hf, _⟩ := laid_ok (mask := m) (finger := t.finger) (moves := t.movedTo m) (led := t.led) (plain := t.plain) (hs := es.map (·.1)) hm (by rw [Array.size_map, g.size]; exact hle)
  rw [Array.size_map] at hp hf
  have hp2 := reorder_perm hp
  have hs2 : (order.filterMap (es[·]?)).size = es.size := by
    have := hp2.length_eq
    rwa [Array.length_toList, Array.length_toList] at this
  refine ⟨_, ep + 1, _, ⟨hp2.trans g.1, by rw [hs2]; exact hf⟩, ?_⟩
  unfold setRelay
  rw [tRun_bind', run_setState h g.2]
  simp only [Option.bind_some]
  rw [if_neg (by rw [hw]; rcases hm with rfl | rfl | rfl <;> decide)]
  have er : t.relaid (es.map (·.1)) wanted = some (t', order) := by
    unfold SetTable.relaid
    rw [hw, Nat.add_sub_cancel]; exact e
  rw [er]
  show tRun S ((if ((order.filterMap (es[·]?)).size != es.size) = true then _ else pure (order.filterMap (es[·]?), t')) >>= fun r => storeSet a r.1 r.2) s = _
  rw [hs2, bne_self_eq_false, if_neg Bool.false_ne_true]
  exact run_storeSet h ha (by rw [hs2]; exact hsz)
theorem run_unchanged {id : String} {was : Nat} (h : AtS s b eb epb tb) (hf : tb.fits eb.size = true) (hw : was = epb) : tRun S (Frozenset.unchanged id b was) s = some ((), s) := by
  subst hw
  unfold Frozenset.unchanged
  rw [tRun_bind', run_setEpoch h hf]
  simp only [Option.bind_some, bne_self_eq_false, Bool.false_eq_true, if_false]
  rfl
theorem run_mergeOne {id : String} {x : Str} {tk : Tok} {hh : Int} (h : AtS s a es ep t) (g : GoodS L es t) (ha : 11 ≤ a) (hb : AtS s b #[(hh, .str x tk)] epb tb) (gb : tb.fits 1 = true) (hne : a ≠ b) (hL : Strs L) (hn : L.length = 2 ∨ L.length = 32)
    (hnew : ∀ e ∈ L, e.2.isStr x = false) : ∃ es' ep' t', GoodS ((hh, .str x tk) :: L) es' t' ∧ tRun S (Frozenset.merge id a b) s = some ((), put s a (mkS es' ep' t')) := by
  have hab : (a == b) = false := by simpa using hne
  -- the room
  have hroom : ∃ es1 ep1 t1, GoodS L es1 t1 ∧ ∃ s1, tRun S (setRoomFor a 1) s = some ((), s1) ∧ AtS s1 a es1 ep1 t1 ∧ AtS s1 b #[(hh, .str x tk)] epb tb ∧ ∀ o, put s1 a o = put s a o := by
    unfold setRoomFor
    rw [tRun_bind', run_setState h g.2]
    simp only [Option.bind_some]
    have hps := (fits_iff.mp g.2).1
    cases hr : t.roomFor 1 with
    | none => exact ⟨es, ep, t, g, s, rfl, h, hb, fun _ => rfl⟩
    | some wanted =>
      have hwd : wanted = (L.length + 1) * 2 := by
        unfold SetTable.roomFor at hr
        split at hr
        · cases hr; rw [hps, g.size]
        · cases hr
      have hx : ∃ es1 ep1 t1, GoodS L es1 t1 ∧ tRun S (setRelay a wanted) s = some ((), put s a (mkS es1 ep1 t1)) := by
        rcases hn with hn | hn
        · exact run_relay h g ha hL (m := 7) (.inl rfl) (by rw [hwd, hn]; decide +kernel) (by omega)
        · exact run_relay h g ha hL (m := 127) (.inr (.inl rfl)) (by rw [hwd, hn]; decide +kernel) (by omega)
      obtain ⟨es1, ep1, t1, g1, e1⟩ := hx
      exact ⟨es1, ep1, t1, g1, _, e1, h.put_self, hb.put_ne (Ne.symm hne), fun _ => put_put⟩
  obtain ⟨es1, ep1, t1, g1, s1, e1, h1, hb1, hput⟩ := hroom
  obtain ⟨es2, ep2, t2, g2, e2⟩ := run_add (S := S) (hh := hh) (tk := tk) h1 g1 ha hL hnew
  refine ⟨es2, ep2, t2, g2, ?_⟩
  have hb2 : AtS (put s1 a (mkS es2 ep2 t2)) b #[(hh, .str x tk)] epb tb := hb1.put_ne (Ne.symm hne)
  have gb1 : tb.fits (#[(hh, Value.str x tk)] : Array (Int × Value)).size = true := gb
  unfold Frozenset.merge
  rw [tRun_bind', run_setEpoch hb gb1]
  simp only [Option.bind_some]
  unfold setMerge
  rw [hab]
  simp only [Bool.false_eq_true, if_false]
  rw [tRun_bind', run_setState hb gb1]
  simp only [Option.bind_some]
  rw [if_neg (by simp)]
  show tRun S (setRoomFor a 1 >>= _) s = _
  rw [tRun_bind', e1]
  simp only [Option.bind_some]
  rw [tRun_bind', run_setState h1 g1.2]
  simp only [Option.bind_some]
  have hr : t1.road tb = .oneByOne := by
    unfold SetTable.road
    have hp1 := (fits_iff.mp g1.2).1
    have : (t1.fill != 0) = true := by
      have : t1.fill ≠ 0 := by
        unfold SetTable.fill
        rw [hp1, g1.size]
        omega
      simpa using this
    rw [if_pos this]
  rw [hr]
  dsimp only
  rw [tRun_bind', run_walkUnseen_one hb1 gb, Option.bind_some]
  dsimp only
  rw [← hput]
  have hstep : tRun S (do
      let _ ← holding [Value.str x tk] (setAddHashed a (Value.str x tk) hh)
      Frozenset.unchanged id b epb
      if ((← setState b).2.1 != epb) = true then (do unsupported "set.changed-during-merge"; pure (ForInStep.yield PUnit.unit)) else pure (ForInStep.yield PUnit.unit)) s1 = some (ForInStep.yield PUnit.unit, put s1 a (mkS es2 ep2 t2)) := by
    rw [tRun_bind', tRun_holding, e2]
    simp only [Option.bind_some]
    rw [tRun_bind', run_unchanged hb2 gb1 rfl]
    simp only [Option.bind_some]
    rw [tRun_bind', run_setState hb2 gb1]
    simp only [Option.bind_some, bne_self_eq_false, Bool.false_eq_true, if_false]
    rfl
  rw [← Array.forIn_toList]
  show tRun S ((forIn [(hh, Value.str x tk)] PUnit.unit _) >>= _) s1 = _
  rw [tRun_bind', List.forIn_cons, tRun_bind']
  dsimp only
  rw [hstep]
  rfl
theorem run_or {x : Str} {tk : Tok} {hh : Int} (h : AtS s a es ep t) (g : GoodS L es t) (hb : AtS s b #[(hh, .str x tk)] epb tb) (gb : tb.fits 1 = true) (hne : a ≠ b) (hL : Strs L) (hn : L.length = 2 ∨ L.length = 32)
    (hnew : ∀ e ∈ L, e.2.isStr x = false) (hI : Ins s) (h11 : 11 ≤ s.n) :
    ∃ led es' ep' t', GoodS ((hh, .str x tk) :: L) es' t' ∧ tRun S (Builtin.«frozenset.__or__» ⟨[.ref a, .ref b], []⟩) s = some (.done (.ret (.ref s.n)), put (alc s (mkS #[] 0 (.fresh 0 0 led))) s.n (mkS es' ep' t')) := by
  obtain ⟨led, es1, ep1, t1, g1, e1⟩ := run_copyOf (S := S) h g hL (hn.imp id .inl) hI h11
  have hnb : s.n ≠ b := Nat.ne_of_gt hb.1
  have h1 : AtS (put (alc s (mkS #[] 0 (.fresh 0 0 led))) s.n (mkS es1 ep1 t1)) s.n es1 ep1 t1 := (AtS.new (s := s) hI).put_self
  have hb1 : AtS (put (alc s (mkS #[] 0 (.fresh 0 0 led))) s.n (mkS es1 ep1 t1)) b #[(hh, .str x tk)] epb tb := (hb.alc hI _).put_ne (Ne.symm hnb)
  obtain ⟨es2, ep2, t2, g2, e2⟩ := run_mergeOne (S := S) (id := "frozenset.__or__") h1 g1 h11 hb1 gb hnb hL hn hnew
  refine ⟨led, es2, ep2, t2, g2, ?_⟩
  rw [put_put] at e2
  unfold Builtin.«frozenset.__or__»
  change tRun S (Frozenset.slot1 "__or__" ⟨[.ref a, .ref b], []⟩ >>= _) s = _
  have e0 : tRun S (Frozenset.slot1 "__or__" ⟨[.ref a, .ref b], []⟩) s = some ((.ref a, .ref b), s) := rfl
  rw [tRun_bind', e0]
  simp only [Option.bind_some, Bool.false_eq_true, if_false]
  have e3 : tRun S (Frozenset.isAnySet (.ref a) <&&> Frozenset.isAnySet (.ref b)) s = some (true, s) := by
    unfold andM
    rw [tRun_bind', run_isAnySet h]
    exact run_isAnySet hb
  rw [tRun_bind', e3]
  simp only [Option.bind_some, Bool.not_true, Bool.false_eq_true, if_false]
  change tRun S ((Frozenset.copyOf a >>= _) >>= _) s = _
  rw [tRun_bind', tRun_bind', e1]
  simp only [Option.bind_some]
  have ea : ∀ (n : Nat) (s' : SharedT), tRun S (Frozenset.addrOf (.ref n)) s' = some (n, s') := fun _ _ => rfl
  rw [if_pos (by simpa using Ne.symm hne), tRun_bind', ea]
  simp only [Option.bind_some]
  rw [tRun_bind', tRun_holding]
  have e4 : tRun S (Frozenset.updateFrom "frozenset.__or__" s.n (.ref b)) (put (alc s (mkS #[] 0 (.fresh 0 0 led))) s.n (mkS es1 ep1 t1)) = some ((), put (alc s (mkS #[] 0 (.fresh 0 0 led))) s.n (mkS es2 ep2 t2)) := by
    unfold Frozenset.updateFrom
    rw [tRun_bind', run_isAnySet hb1]
    simp only [Option.bind_some, if_true]
    change tRun S (Frozenset.merge "frozenset.__or__" s.n b) _ = _
    exact e2
  rw [show (toString "frozenset." ++ toString "__or__" : String) = "frozenset.__or__" from rfl, e4]
  rfl
end
end Mine
end
section
open PySem PySem.W PyProof.Rows PySem.Calls PySem.Builtin
set_option maxRecDepth 100000
namespace Mine
section
variable {w : World} {S : Setting} {s : SharedT} {a b : Nat} {es eb : Array (Int × Value)} {ep epb : Nat} {t tb : SetTable} {L Lb : List (Int × Value)}
theorem run_forIn_same {α β : Type} {f : α → β → Sem (ForInStep β)} {c : β} : ∀ (l : List α), (∀ x ∈ l, f x c = pure (.yield c)) → tRun S (forIn l c f) s = some (c, s)
  | [], _ => rfl
  | x :: r, h => by
    rw [List.forIn_cons, h x List.mem_cons_self, tRun_bind']
    exact run_forIn_same r fun y hy => h y (List.mem_cons_of_mem _ hy)
theorem run_forIn_arr {α β : Type} {f : α → β → Sem (ForInStep β)} {c : β} (l : Array α) (h : ∀ x ∈ l.toList, f x c = pure (.yield c)) : tRun S (forIn l c f) s = some (c, s) := by
  rw [← Array.forIn_toList]
  exact run_forIn_same _ h
theorem pick_go_perm {α : Type} (next : Nat → Nat) : ∀ (fuel k : Nat) (left : List α) (out : Array α), left.length = fuel → (pickOrder.go next fuel k left out).toList.Perm (out.toList ++ left)
  | 0, k, left, out, h => by
    rw [List.length_eq_zero_iff.mp h, List.append_nil]
    exact List.Perm.refl _
  | fuel + 1, k, left, out, h => by
    unfold pickOrder.go
    have hlt : next k % left.length < left.length := Nat.mod_lt _ (by omega)
    rw [List.getElem?_eq_getElem hlt]
    dsimp only
    refine (pick_go_perm next fuel (k + 1) _ _ (by rw [List.length_eraseIdx_of_lt hlt]; omega)).trans ?_
    rw [Array.toList_push, List.append_assoc]
    refine List.Perm.append_left _ ?_
    rw [List.eraseIdx_eq_take_drop_succ]
    refine (List.perm_middle (l₁ := List.take (next k % left.length) left) (l₂ := List.drop (next k % left.length + 1) left)).symm.trans ?_
    rw [List.getElem_cons_drop hlt, List.take_append_drop]
theorem pick_perm {α : Type} (next : Nat → Nat) (xs : Array α) : (pickOrder next xs).toList.Perm xs.toList := by
  have := pick_go_perm next xs.size 0 xs.toList #[] (by simp)
  simpa [pickOrder] using this
theorem run_setsQuiet (h : AtS s a es ep t) (g : GoodS L es t) (hL : Strs L) (hb : AtS s b eb epb tb) (gb : GoodS Lb eb tb) (hLb : Strs Lb) : tRun S (setsQuiet [b, a]) s = some (true, s) := by
  unfold setsQuiet
  rw [tRun_bind', List.forIn_cons, tRun_bind', tRun_bind', run_setEntries hb gb.2]
  simp only [Option.bind_some]
  rw [tRun_bind', run_forIn_arr eb (fun e he => by
    obtain ⟨y, u, q⟩ := hLb.1 e (gb.1.mem_iff.mp he)
    obtain ⟨h', v⟩ := e
    dsimp only at q
    subst q
    rfl)]
  simp only [Option.bind_some]
  rw [tRun_pure]
  simp only [Option.bind_some]
  rw [List.forIn_cons, tRun_bind', tRun_bind', run_setEntries h g.2]
  simp only [Option.bind_some]
  rw [tRun_bind', run_forIn_arr es (fun e he => by
    obtain ⟨y, u, q⟩ := hL.1 e (g.1.mem_iff.mp he)
    obtain ⟨h', v⟩ := e
    dsimp only at q
    subst q
    rfl)]
  rfl
theorem run_walkUnseen (h : AtS s a es ep t) (g : GoodS L es t) (hL : Strs L) (hb : AtS s b eb epb tb) (gb : GoodS Lb eb tb) (hLb : Strs Lb) :
    ∃ eo, eo.toList.Perm Lb ∧ tRun S (setWalkUnseen b [a] none) s = some (eo, s) := by
  by_cases h1 : eb.size ≤ 1
  · by_cases h0 : eb.size = 0
    · have : eb = #[] := Array.eq_empty_of_size_eq_zero h0
      subst this
      refine ⟨#[], gb.1, ?_⟩
      unfold setWalkUnseen
      rw [tRun_bind', run_setState hb gb.2]
      simp only [Option.bind_some]
      rw [tRun_bind', tRun_setsByText]
      simp only [Option.bind_some]
      rw [if_pos (by simp)]
      unfold setWalk
      rw [tRun_bind', run_setState hb gb.2]
      simp only [Option.bind_some]
      rw [tRun_bind', tRun_setsByText]
      simp only [Option.bind_some]
      split
      · rfl
      · cases h1 : tb.plain <;> cases h2 : tb.led <;> (
          obtain ⟨mask, place, dummies, finger, led, moves, plain⟩ := tb
          dsimp only at h1 h2
          subst h1; subst h2
          rfl)
    · have h2 : eb.size = 1 := by omega
      obtain ⟨l⟩ := eb
      obtain ⟨x, rfl⟩ := List.length_eq_one_iff.mp h2
      exact ⟨#[x], gb.1, run_walkUnseen_one hb gb.2⟩
  · unfold setWalkUnseen
    rw [tRun_bind', run_setState hb gb.2]
    simp only [Option.bind_some]
    rw [tRun_bind', tRun_setsByText]
    simp only [Option.bind_some]
    have walk : (S.params.followText "set-order" || tb.led && tb.plain) = true → ∃ eo, eo.toList.Perm Lb ∧ tRun S (setWalk b) s = some (eo, s) := by
      intro hc
      unfold setWalk
      rw [tRun_bind', run_setState hb gb.2]
      simp only [Option.bind_some]
      rw [tRun_bind', tRun_setsByText]
      simp only [Option.bind_some]
      split
      · refine ⟨pickOrder (S.params.setOrder b epb) eb, (pick_perm _ _).trans gb.1, ?_⟩
        rw [tRun_bind', tRun_ask]; rfl
      · rename_i hq
        refine ⟨eb, gb.1, ?_⟩
        have hq' : S.params.followText "set-order" = false := by simpa using hq
        rw [hq', Bool.false_or, Bool.and_eq_true] at hc
        obtain ⟨hl, hp⟩ := hc
        obtain ⟨mask, place, dummies, finger, led, moves, plain⟩ := tb
        dsimp only at hl hp
        subst hl; subst hp
        rfl
    by_cases hc : (S.params.followText "set-order" || tb.led && tb.plain) = true
    · obtain ⟨eo, p, e⟩ := walk hc
      refine ⟨eo, p, ?_⟩
      rw [if_pos (by rw [hc]; rfl), e]
    · refine ⟨eb, gb.1, ?_⟩
      rw [if_neg (by simp only [Bool.not_eq_true] at hc; rw [hc]; simpa using h1), tRun_bind', run_setsQuiet h g hL hb gb hLb]
      rfl
theorem run_sizeOf (h : AtS s a es ep t) (hf : t.fits es.size = true) : tRun S (Frozenset.sizeOf a) s = some (es.size, s) := by
  unfold Frozenset.sizeOf
  rw [tRun_bind', run_setEntries h hf]; rfl
theorem run_tidy (h : AtS s a es ep t) (g : GoodS L es t) (ha : 11 ≤ a) (hL : Strs L) (hn : L.length = 31 ∨ L.length = 32) : ∃ es' ep' t', GoodS L es' t' ∧ ∃ s', tRun S (setTidy a) s = some ((), s') ∧ (s' = s ∧ es' = es ∧ ep' = ep ∧ t' = t ∨ s' = put s a (mkS es' ep' t')) := by
  unfold setTidy
  rw [tRun_bind', run_setState h g.2]
  simp only [Option.bind_some]
  cases hc : t.tooManyDummies with
  | false => exact ⟨es, ep, t, g, s, rfl, .inl ⟨rfl, rfl, rfl, rfl⟩⟩
  | true =>
    simp only [if_true]
    have hx : ∃ es' ep' t', GoodS L es' t' ∧ tRun S (setRelay a (SetTable.grown es.size)) s = some ((), put s a (mkS es' ep' t')) := by
      rcases hn with hn | hn
      · exact run_relay (S := S) h g ha hL (m := 127) (.inr (.inl rfl)) (by rw [g.size, hn]; decide +kernel) (by omega)
      · exact run_relay (S := S) h g ha hL (m := 255) (.inr (.inr rfl)) (by rw [g.size, hn]; decide +kernel) (by omega)
    obtain ⟨es', ep', t', g', e⟩ := hx
    exact ⟨es', ep', t', g', _, e, .inr rfl⟩
end
end Mine
end
section
open PySem PySem.W PyProof.Rows PySem.Calls PySem.Builtin
set_option maxRecDepth 100000
namespace Mine
/-- what is left of L when the elements of the second list have been thrown out one by one -/
inductive Drops : List (Int × Value) → List (Int × Value) → List (Int × Value) → Prop
  | nil (L : List (Int × Value)) : Drops L [] L
  | cons {L L' Lr r : List (Int × Value)} {x : Str} {tk tk' : Tok} {hh h' : Int} (hp : L.Perm ((h', .str x tk') :: L')) (hone : ∀ e ∈ L, e.2.isStr x = true → e = (h', .str x tk')) (rest : Drops L' r Lr) : Drops L ((hh, .str x tk) :: r) Lr
theorem set_id {o : Obj} : ∀ {T : BT} {a : Nat}, T.get a = some o → T.set a (fun _ => o) = T
  | .nil, _, _ => rfl
  | .node v l r, a, hg => by
    rw [BT.get_node] at hg
    rw [BT.set_node]
    by_cases h0 : a = 0
    · rw [if_pos h0] at hg ⊢; cases hg; rfl
    · rw [if_neg h0] at hg; rw [if_neg h0]
      by_cases q : a % 2 = 1
      · rw [if_pos q] at hg; rw [if_pos q, set_id hg]
      · rw [if_neg q] at hg; rw [if_neg q, set_id hg]
theorem put_id {s : SharedT} {a : Nat} {o : Obj} (h : s.tree.get a = some o) : put s a o = s := by
  unfold put
  rw [set_id h]
section
variable {w : World} {s : SharedT} {a b : Nat} {es eb : Array (Int × Value)} {ep epb : Nat} {t tb : SetTable} {L Lb Lr : List (Int × Value)}
theorem Strs.of_perm_cons {e : Int × Value} {L' : List (Int × Value)} (h : Strs L) (hp : L.Perm (e :: L')) : Strs L' := ⟨fun x hx => h.1 x (hp.mem_iff.mpr (List.mem_cons_of_mem _ hx)), by
  have := hp.length_eq
  rw [List.length_cons] at this
  have := h.2
  omega⟩
theorem run_drops {id : String} (hne : b ≠ a) (ha : 11 ≤ a) : ∀ (l : List (Int × Value)) (L : List (Int × Value)) (es : Array (Int × Value)) (ep : Nat) (t : SetTable) (s0 s : SharedT), Drops L l Lr → AtS s a es ep t → GoodS L es t → Strs L → AtS s b eb epb tb → tb.fits eb.size = true → (∀ o, put s a o = put s0 a o) →
    (s = s0 ∨ ∃ o, s = put s0 a o) →
    ∃ es' ep' t' s', GoodS Lr es' t' ∧ Strs Lr ∧ AtS s' a es' ep' t' ∧ AtS s' b eb epb tb ∧ (s' = s0 ∨ ∃ o, s' = put s0 a o) ∧ (∀ o, put s' a o = put s0 a o) ∧ tRun (SW w) (forIn l PUnit.unit fun x __s => do
      let _ ← holding [x.2] (setDiscardHashed a x.2 x.1)
      Frozenset.unchanged id b epb
      pure (ForInStep.yield PUnit.unit)) s = some (PUnit.unit, s') := by
  intro l
  induction l with
  | nil =>
    intro L es ep t s0 s hd h g hL hb hf hp hs
    cases hd
    exact ⟨es, ep, t, s, g, hL, h, hb, hs, hp, rfl⟩
  | cons x r ih =>
    intro L es ep t s0 s hd h g hL hb hf hp hs
    cases hd with
    | cons hperm hone rest =>
      rename_i L' y tk tk' hh h'
      obtain ⟨es1, ep1, t1, g1, e1⟩ := run_discard (w := w) (tk := tk) (hh := hh) h g ha hL _ L' hperm rfl hone
      obtain ⟨es2, ep2, t2, s2, g2, hL2, h2, hb2, hs2, hp2, e2⟩ := ih L' es1 ep1 t1 s0 (put s a (mkS es1 ep1 t1)) rest h.put_self g1 (hL.of_perm_cons hperm) (hb.put_ne hne) hf (fun o => put_put.trans (hp o)) (.inr ⟨_, hp _⟩)
      refine ⟨es2, ep2, t2, s2, g2, hL2, h2, hb2, hs2, hp2, ?_⟩
      rw [List.forIn_cons, tRun_bind', tRun_bind', tRun_holding, e1]
      simp only [Option.bind_some]
      rw [tRun_bind', run_unchanged (hb.put_ne hne) hf rfl]
      exact e2
theorem run_diffUpdate {id : String} (h : AtS s a es ep t) (g : GoodS L es t) (hL : Strs L) (hb : AtS s b eb epb tb) (gb : GoodS Lb eb tb) (hLb : Strs Lb) (hne : b ≠ a) (ha : 11 ≤ a) (hlb : Lb.length ≤ 2) (hl : 1 ≤ L.length) (hd : ∀ l, l.Perm Lb → Drops L l Lr) (hlr : Lr.length = 31 ∨ Lr.length = 32) :
    ∃ es' ep' t', GoodS Lr es' t' ∧ tRun (SW w) (Frozenset.differenceUpdate id a (.ref b)) s = some ((), put s a (mkS es' ep' t')) := by
  obtain ⟨eo, peo, eW⟩ := run_walkUnseen (S := SW w) h g hL hb gb hLb
  obtain ⟨es1, ep1, t1, s1, g1, hL1, h1, hb1, hs1, hp1, e1⟩ := run_drops (w := w) (id := id) hne ha eo.toList L es ep t s s (hd _ peo) h g hL hb gb.2 (fun _ => rfl) (.inl rfl)
  obtain ⟨es2, ep2, t2, g2, s2, e2, hs2⟩ := run_tidy (S := SW w) h1 g1 ha hL1 hlr
  have hfin : ∃ es' ep' t', GoodS Lr es' t' ∧ s2 = put s a (mkS es' ep' t') := by
    rcases hs2 with ⟨rfl, rfl, rfl, rfl⟩ | rfl
    · rcases hs1 with rfl | ⟨o, rfl⟩
      · exact ⟨es2, ep2, t2, g2, (put_id h1.2).symm⟩
      · have h3 : o = mkS es2 ep2 t2 := by
          have := h1.2
          rw [show (put s a o).tree = s.tree.set a (fun _ => o) from rfl, get_set_self h.2] at this
          exact Option.some.inj this
        exact ⟨es2, ep2, t2, g2, by rw [h3]⟩
    · exact ⟨es2, ep2, t2, g2, hp1 _⟩
  obtain ⟨es3, ep3, t3, g3, rfl⟩ := hfin
  refine ⟨es3, ep3, t3, g3, ?_⟩
  unfold Frozenset.differenceUpdate
  rw [if_neg (by simpa using hne), tRun_bind', run_isAnySet hb]
  simp only [Option.bind_some, if_true]
  have ea : ∀ (n : Nat) (s' : SharedT), tRun (SW w) (Frozenset.addrOf (.ref n)) s' = some (n, s') := fun _ _ => rfl
  rw [tRun_bind', ea]
  simp only [Option.bind_some]
  rw [tRun_bind', run_sizeOf hb gb.2]
  simp only [Option.bind_some]
  rw [tRun_bind', run_sizeOf h g.2]
  simp only [Option.bind_some]
  rw [if_neg (by rw [gb.size, g.size]; omega), tRun_bind', run_setEpoch hb gb.2]
  simp only [Option.bind_some]
  rw [tRun_bind', tRun_holding, tRun_bind', eW]
  simp only [Option.bind_some]
  rw [← Array.forIn_toList, tRun_bind']
  rw [e1]
  simp only [Option.bind_some]
  rw [tRun_pure]
  exact e2
theorem run_sub (h : AtS s a es ep t) (g : GoodS L es t) (hL : Strs L) (hn : L.length = 33) (hb : AtS s b eb epb tb) (gb : GoodS Lb eb tb) (hLb : Strs Lb) (hlb : Lb.length ≤ 2) (hd : ∀ l, l.Perm Lb → Drops L l Lr) (hlr : Lr.length = 31 ∨ Lr.length = 32) (hI : Ins s) (h11 : 11 ≤ s.n) :
    ∃ led es' ep' t', GoodS Lr es' t' ∧ tRun (SW w) (Builtin.«frozenset.__sub__» ⟨[.ref a, .ref b], []⟩) s = some (.done (.ret (.ref s.n)), put (alc s (mkS #[] 0 (.fresh 0 0 led))) s.n (mkS es' ep' t')) := by
  obtain ⟨led, es1, ep1, t1, g1, e1⟩ := run_copyOf (S := SW w) h g hL (.inr (.inr hn)) hI h11
  have hnb : s.n ≠ b := Nat.ne_of_gt hb.1
  have h1 : AtS (put (alc s (mkS #[] 0 (.fresh 0 0 led))) s.n (mkS es1 ep1 t1)) s.n es1 ep1 t1 := (AtS.new (s := s) hI).put_self
  have hb1 : AtS (put (alc s (mkS #[] 0 (.fresh 0 0 led))) s.n (mkS es1 ep1 t1)) b eb epb tb := (hb.alc hI _).put_ne (Ne.symm hnb)
  obtain ⟨es2, ep2, t2, g2, e2⟩ := run_diffUpdate (w := w) (id := "frozenset.__sub__") h1 g1 hL hb1 gb hLb (Ne.symm hnb) h11 hlb (by omega) hd hlr
  refine ⟨led, es2, ep2, t2, g2, ?_⟩
  rw [put_put] at e2
  unfold Builtin.«frozenset.__sub__»
  change tRun (SW w) (Frozenset.slot1 "__sub__" ⟨[.ref a, .ref b], []⟩ >>= _) s = _
  have e0 : tRun (SW w) (Frozenset.slot1 "__sub__" ⟨[.ref a, .ref b], []⟩) s = some ((.ref a, .ref b), s) := rfl
  rw [tRun_bind', e0]
  simp only [Option.bind_some, Bool.false_eq_true, if_false]
  have e3 : tRun (SW w) (Frozenset.isAnySet (.ref a) <&&> Frozenset.isAnySet (.ref b)) s = some (true, s) := by
    unfold andM
    rw [tRun_bind', run_isAnySet h]
    exact run_isAnySet hb
  have ea : ∀ (n : Nat) (s' : SharedT), tRun (SW w) (Frozenset.addrOf (.ref n)) s' = some (n, s') := fun _ _ => rfl
  rw [tRun_bind', e3]
  simp only [Option.bind_some, Bool.not_true, Bool.false_eq_true, if_false]
  rw [tRun_bind', ea]
  simp only [Option.bind_some]
  have e4 : tRun (SW w) (Frozenset.difference "frozenset.__sub__" a (.ref b)) s = some (.ref s.n, put (alc s (mkS #[] 0 (.fresh 0 0 led))) s.n (mkS es2 ep2 t2)) := by
    unfold Frozenset.difference
    dsimp only
    rw [tRun_bind', run_isAnySet hb]
    simp only [Option.bind_some, Bool.not_true, Bool.false_and, Bool.false_eq_true, if_false, if_true]
    rw [tRun_bind', ea]
    simp only [Option.bind_some]
    rw [tRun_bind', run_sizeOf hb gb.2]
    simp only [Option.bind_some]
    rw [tRun_bind', run_sizeOf h g.2]
    simp only [Option.bind_some]
    rw [if_pos (by rw [gb.size, g.size, hn]; omega), tRun_bind', tRun_rule]
    simp only [Option.bind_some]
    rw [tRun_bind', e1]
    simp only [Option.bind_some]
    rw [tRun_bind', ea]
    simp only [Option.bind_some]
    rw [tRun_bind', tRun_holding, e2]
    rfl
  rw [tRun_bind', show (toString "frozenset." ++ toString "__sub__" : String) = "frozenset.__sub__" from rfl, e4]
  rfl
end
end Mine
end
section
open PySem PySem.W PyProof.Rows PySem.Calls PySem.Builtin
set_option maxRecDepth 100000
namespace Mine
noncomputable def upTo (w : World) (stop : Thread → Bool) : Nat → SharedT → Thread → Option (SharedT × Thread)
  | 0, _, _ => none
  | n + 1, s, t => match stop t with
    | true => some (s, t)
    | false => match endAt 1 t with
      | some _ => none
      | none => match stepOk 11 ann0 t with
        | false => none
        | true => match stepT (denote treeTable) pw w s t with
          | some (s', t') => upTo w stop n s' t'
          | none => none
theorem upTo_go {w : World} {stop : Thread → Bool} : ∀ {n : Nat} {s s' : SharedT} {t t' : Thread}, upTo w stop n s t = some (s', t') → Go w s t s' t'
  | 0, _, _, _, _, h => by cases h
  | n + 1, s, s', t, t', h => by
    unfold upTo at h
    cases hq : stop t with
    | true => rw [hq] at h; cases h; exact Go.refl
    | false =>
      rw [hq] at h
      cases he : endAt 1 t with
      | some f => rw [he] at h; cases h
      | none =>
        rw [he] at h
        cases hk : stepOk 11 ann0 t with
        | false => rw [hk] at h; cases h
        | true =>
          rw [hk] at h
          cases hs : stepT (denote treeTable) pw w s t with
          | none => rw [hs] at h; cases h
          | some r => obtain ⟨s₂, t₂⟩ := r; rw [hs] at h; exact Go.step he hk hs (upTo_go h)
/-- stops where the thread stands in the built-in of that name -/
noncomputable def inB (x : String) (t : Thread) : Bool := match t.code with | .builtin nm _ => nm == x | _ => false
noncomputable def thr (r : Option (SharedT × Thread)) (d : Thread) : Thread := match r with | some x => x.2 | none => d
noncomputable def hdF (l : List Frame) : Frame := match l with | a :: _ => a | [] => topFrame q0
noncomputable def tlF (l : List Frame) : List Frame := match l with | _ :: r => r | [] => []
noncomputable def zset (z : Nat → Obj) (a : Nat) (o : Obj) : Nat → Obj := fun b => match Nat.beq b a with | true => o | false => z b
/-- an iterator over a str, its two fields -/
noncomputable def sD (d : Data) : Obj := ⟨.type "str_ascii_iterator", none, d, #[]⟩
noncomputable abbrev itD (x : Value) (i : Nat) : Data := .fields [x, .int i 0].toArray
noncomputable abbrev em (w : World) : Obj := mkS #[] 0 (.fresh 0 0 (!(w.params.followText "set-order")))
noncomputable abbrev TL (c : Code) (p : Pos) (l : List Frame) : Thread := ⟨denote treeTable c, c, p, l⟩
noncomputable abbrev cNext (i : Nat) : Code := .builtin "str_ascii_iterator.__next__" ⟨[.ref i], []⟩
noncomputable abbrev cFill (a i : Nat) : Code := .builtin "set.update.loop" ⟨[.ref a, .ref i], []⟩
noncomputable def tick (s : SharedT) : SharedT := ⟨s.tree, s.n, s.life, s.gens, s.drawn, s.toks + 1, s.os⟩
theorem AtS.tick {s : SharedT} {a : Nat} {es : Array (Int × Value)} {ep : Nat} {t : SetTable} (h : AtS s a es ep t) : AtS (tick s) a es ep t := h
theorem sem_bind_pure {α : Type} (t : Sem α) : t.bind .pure = t := by
  induction t with
  | pure | raise | unsupported | finish => rfl
  | _ => simp only [Sem.bind]; congr 1; funext x; rename_i ih; exact ih x
theorem tRun_go0 {w : World} {code : Code} {pos : Pos} {f1 f2 : Frame} {B : List Frame} {t : Sem PySem.Fin} {s s' : SharedT} {a : PySem.Fin} (h : tRun ⟨pw, w.params⟩ t s = some (a, s')) :
    Go w s ⟨t, code, pos, f1 :: f2 :: B⟩ s' ⟨.pure a, code, pos, f1 :: f2 :: B⟩ := by
  have := tRun_go (w := w) (K := .pure) (code := code) (pos := pos) (f1 := f1) (f2 := f2) (B := B) t s s' a h
  rwa [sem_bind_pure] at this
theorem run_loadO {S : Setting} {s : SharedT} {a : Nat} {o : Obj} (h : a < s.n) (g : s.tree.get a = some o) (ho : alive o = some o) (p : Option Value) {α : Type} (k : Obj → Sem α) : tRun S (Sem.load a p k) s = tRun S (k o) s := by
  have e : Nat.blt a s.n = true := Nat.ble_eq_true_of_le h
  exact ldO_is e g ho
theorem run_next {S : Setting} {s : SharedT} {a i c : Nat} {x : Str} {u : Tok} (h : a < s.n) (ha : 11 ≤ a) (g : s.tree.get a = some (sD (itD (.str x u) i))) (hc : x.cps[i]? = some c) :
    tRun S (Builtin.«str_ascii_iterator.__next__» ⟨[.ref a], []⟩) s = some (.done (.ret (.str ⟨#[c]⟩ s.toks)), tick (put s a (sD (itD (.str x u) (i + 1))))) := by
  unfold Builtin.«str_ascii_iterator.__next__»
  change tRun S (Sem.load a none _) s = _
  rw [run_loadO h g rfl]
  change tRun S (Sem.load a none _) s = _
  rw [run_loadO h g rfl]
  change tRun S (match x.cps[i]? with | some c => (setField (.ref a) 1 (rawInt ((i : Int) + 1)) >>= fun _ => retStr ⟨#[c]⟩) | none => _) s = _
  rw [hc]
  change tRun S (Sem.load a none _) s = _
  rw [run_loadO h g rfl]
  have e : Nat.blt a s.n = true := Nat.ble_eq_true_of_le h
  have e0 : Nat.ble 11 a = true := Nat.ble_eq_true_of_le ha
  change tRun S (Sem.update a none _ _) s = _
  have q : ∀ {β : Type} (f : Obj → Option β), gdO (Nat.ble 11 a) (ldO (Nat.blt a s.n) (s.tree.get a) f) = f (sD (itD (.str x u) i)) := fun f => by rw [e0, ldO_is e g rfl]; rfl
  refine (q _).trans ?_
  rw [set_const g]
  rfl
theorem run_pyHash {w : World} {x : Str} {u : Tok} {s : SharedT} : tRun (SW w) (pyHash (.str x u)) s = some (PyData.keyHash w.params x, tick s) :=
  byRow2 "special-get-raises" (P := fun w => tRun (SW w) (pyHash (.str x u)) s = some (PyData.keyHash w.params x, tick s)) (fun w => by kernel_rfl) (fun w => by kernel_rfl) w
theorem run_setAdd {w : World} {s : SharedT} {a : Nat} {es : Array (Int × Value)} {ep : Nat} {t : SetTable} {L : List (Int × Value)} {x : Str} {tk : Tok} (h : AtS s a es ep t) (g : GoodS L es t) (ha : 11 ≤ a) (hL : Strs L) (hnew : ∀ e ∈ L, e.2.isStr x = false) :
    ∃ es' ep' t', GoodS ((PyData.keyHash w.params x, .str x tk) :: L) es' t' ∧ tRun (SW w) (setAdd a (.str x tk)) s = some (true, put (tick s) a (mkS es' ep' t')) := by
  obtain ⟨es', ep', t', g', e⟩ := run_add (S := SW w) (tk := tk) (hh := PyData.keyHash w.params x) (AtS.tick h) g ha hL hnew
  refine ⟨es', ep', t', g', ?_⟩
  have q : tRun (SW w) (setAdd a (.str x tk)) s = (tRun (SW w) (pyHash (.str x tk)) s).bind fun r => tRun (SW w) (setAddHashed a (.str x tk) r.1) r.2 := by
    unfold setAdd
    rw [tRun_holding, tRun_bind']
  rw [q, run_pyHash, Option.bind_some]
  exact e
end Mine
end
section
open PySem PySem.W PyProof.Rows PySem.Calls PySem.Builtin
set_option maxRecDepth 100000
namespace Mine
/-- the parts of a str's iterator -/
noncomputable def strIt? : Obj → Option (String × Str × Tok × Nat)
  | ⟨.type nm, none, .fields ⟨[.str x u, .int (.ofNat k) 0]⟩, ⟨[]⟩⟩ => some (nm, x, u, k)
  | _ => none
theorem strIt?_some {o : Obj} {nm : String} {x : Str} {u : Tok} {k : Nat} (h : strIt? o = some (nm, x, u, k)) : o = ⟨.type nm, none, .fields ⟨[.str x u, .int (.ofNat k) 0]⟩, ⟨[]⟩⟩ := by
  obtain ⟨c, n, d, l⟩ := o
  cases c with
  | type t =>
    cases n with
    | none =>
      cases d with
      | fields a =>
        obtain ⟨a⟩ := a
        obtain ⟨l⟩ := l
        cases a with
        | nil => exact no_some h
        | cons a as =>
          cases a with
          | str y v =>
            cases as with
            | nil => exact no_some h
            | cons b bs =>
              cases b with
              | int i t =>
                cases i with
                | ofNat i =>
                  cases t with
                  | zero =>
                    cases bs with
                    | nil =>
                      cases l with
                      | nil => cases h; rfl
                      | cons => exact no_some h
                    | cons => exact no_some h
                  | succ => exact no_some h
                | negSucc => exact no_some h
              | _ => exact no_some h
          | _ => exact no_some h
      | _ => exact no_some h
    | some _ => exact no_some h
  | _ => exact no_some h
/-- a str walked by its iterator: the next char -/
noncomputable def nextAt? (i : Nat) (s : SharedT) : Option (Value × SharedT) :=
  gdO (Nat.blt i s.n) (gdO (Nat.ble 11 i) ((s.tree.get i).bind fun o => (strIt? o).bind fun r => if r.1 = "str_ascii_iterator" then (r.2.1.cps[r.2.2.2]?).bind fun c => some (.str ⟨#[c]⟩ s.toks, tick (put s i (sD (itD (.str r.2.1 r.2.2.1) (r.2.2.2 + 1))))) else none))
theorem nextAt?_some {i : Nat} {s s' : SharedT} {v : Value} (h : nextAt? i s = some (v, s')) :
    ∃ x u k c, Nat.blt i s.n = true ∧ Nat.ble 11 i = true ∧ s.tree.get i = some (sD (itD (.str x u) k)) ∧ x.cps[k]? = some c ∧ v = .str ⟨#[c]⟩ s.toks ∧ s' = tick (put s i (sD (itD (.str x u) (k + 1)))) := by
  obtain ⟨e1, h2⟩ := gdO_some h
  obtain ⟨e2, h3⟩ := gdO_some h2
  obtain ⟨o, e3, h4⟩ := Option.bind_eq_some_iff.mp h3
  obtain ⟨⟨nm, x, u, k⟩, e4, h5⟩ := Option.bind_eq_some_iff.mp h4
  have e5 := strIt?_some e4
  by_cases hn : nm = "str_ascii_iterator"
  · rw [if_pos hn] at h5
    obtain ⟨c, e6, h6⟩ := Option.bind_eq_some_iff.mp h5
    have h7 := Prod.mk.inj (Option.some.inj h6)
    subst hn
    exact ⟨x, u, k, c, e1, e2, e3.trans (congrArg some e5), e6, h7.1.symm, h7.2.symm⟩
  · rw [if_neg hn] at h5; cases h5
noncomputable def ref1? : Value → Option Nat
  | .ref i => some i
  | _ => none
theorem ref1?_some {v : Value} {i : Nat} (h : ref1? v = some i) : v = .ref i := by
  cases v with
  | ref j => cases h; rfl
  | _ => exact no_some h
noncomputable def atN (r : String × List Value) (s : SharedT) : Option (Value × SharedT) := match r.2 with
  | [] => none
  | a :: l => match l with
    | [] => (ref1? a).bind fun i => if r.1 = "str_ascii_iterator.__next__" then nextAt? i s else none
    | _ :: _ => none
noncomputable def atomB? (S : Setting) (c : Code) (s : SharedT) : Option (Value × SharedT) := match atom? S c s with
  | some r => some r
  | none => (blt? c).bind fun r => atN r s
theorem atom_lift {S : Setting} {c : Code} {s : SharedT} {r : Value × SharedT} (h : atom? S c s = some r) : atomB? S c s = some r := by
  unfold atomB?
  rw [h]
theorem atomB?_some {S : Setting} {c : Code} {s : SharedT} {r : Value × SharedT} (h : atomB? S c s = some r) : atom? S c s = some r ∨ ∃ i, c = .call (.builtin "str_ascii_iterator.__next__") ⟨[.ref i], []⟩ ∧ nextAt? i s = some r := by
  unfold atomB? at h
  cases e : atom? S c s with
  | some r' => rw [e] at h; exact .inl h
  | none =>
    rw [e] at h
    obtain ⟨⟨nm, as⟩, e1, h⟩ := Option.bind_eq_some_iff.mp h
    cases as with
    | nil => exact no_some h
    | cons a l =>
      cases l with
      | nil =>
        obtain ⟨i, e2, h⟩ := Option.bind_eq_some_iff.mp h
        have e3 := ref1?_some e2
        subst e3
        by_cases hn : nm = "str_ascii_iterator.__next__"
        · rw [if_pos hn] at h
          subst hn
          exact .inr ⟨i, blt?_some e1, h⟩
        · rw [if_neg hn] at h; exact no_some h
      | cons => exact no_some h
noncomputable def tRunB (S : Setting) {α : Type} : Sem α → SharedT → Option (α × SharedT)
  | .pure a, s => some (a, s)
  | .rule _ k, s => tRunB S (k ()) s
  | .point _ k, s => tRunB S (k ()) s
  | .ask k, s => tRunB S (k S) s
  | .load a _ k, s => ldO (Nat.blt a s.n) (s.tree.get a) fun o => tRunB S (k o) s
  | .update a _ f k, s => gdO (Nat.ble 11 a) (ldO (Nat.blt a s.n) (s.tree.get a) fun _ => tRunB S (k ()) ⟨s.tree.set a f, s.n, s.life, s.gens, s.drawn, s.toks, s.os⟩)
  | .alloc o k, s => gdO ((s.tree.ins s.n o).get s.n).isSome (tRunB S (k s.n) ⟨s.tree.ins s.n o, s.n + 1, s.life, s.gens, s.drawn, s.toks, s.os⟩)
  | .call c _ _ _ k, s => (atomB? S c s).bind fun r => tRunB S (k (.ok (.ret r.1))) r.2
  | .fresh k, s => tRunB S (k s.toks) ⟨s.tree, s.n, s.life, s.gens, s.drawn, s.toks + 1, s.os⟩
  | _, _ => none

theorem tRunB_bind {S : Setting} {α β : Type} {f : α → Sem β} : ∀ (t : Sem α) (s : SharedT), tRunB S (t.bind f) s = (tRunB S t s).bind fun r => tRunB S (f r.1) r.2 := by
  intro t
  induction t with
  | pure a => intro s; rfl
  | rule _ k ih => intro s; exact ih () s
  | point _ k ih => intro s; exact ih () s
  | ask k ih => intro s; exact ih _ s
  | load a p k ih =>
    intro s
    show ldO (Nat.blt a s.n) (s.tree.get a) (fun o => tRunB S ((k o).bind f) s) = (ldO (Nat.blt a s.n) (s.tree.get a) fun o => tRunB S (k o) s).bind _
    rw [ldO_bind]
    exact ldO_congr fun o => ih o s
  | update a p g k ih =>
    intro s
    show gdO (Nat.ble 11 a) (ldO (Nat.blt a s.n) (s.tree.get a) fun _ => tRunB S ((k ()).bind f) ⟨s.tree.set a g, s.n, s.life, s.gens, s.drawn, s.toks, s.os⟩) = (gdO (Nat.ble 11 a) (ldO (Nat.blt a s.n) (s.tree.get a) fun _ => tRunB S (k ()) ⟨s.tree.set a g, s.n, s.life, s.gens, s.drawn, s.toks, s.os⟩)).bind _
    rw [gdO_bind, ldO_bind, ih ()]
  | alloc o k ih =>
    intro s
    show gdO ((s.tree.ins s.n o).get s.n).isSome (tRunB S ((k s.n).bind f) _) = (gdO ((s.tree.ins s.n o).get s.n).isSome (tRunB S (k s.n) _)).bind _
    rw [gdO_bind, ih]
  | call c h g l k ih =>
    intro s
    show (atomB? S c s).bind (fun r => tRunB S ((k (.ok (.ret r.1))).bind f) r.2) = ((atomB? S c s).bind fun r => tRunB S (k (.ok (.ret r.1))) r.2).bind _
    cases atomB? S c s with
    | none => rfl
    | some r => exact ih _ _
  | fresh k ih => intro s; exact ih _ _
  | _ => intro s; rfl
theorem tRunB_bind' {S : Setting} {α β : Type} {t : Sem α} {f : α → Sem β} {s : SharedT} : tRunB S (t >>= f) s = (tRunB S t s).bind fun r => tRunB S (f r.1) r.2 := tRunB_bind t s
theorem tRunB_keep {S : Setting} {α : Type} (vs : List Value) : ∀ (t : Sem α) (s : SharedT), tRunB S (t.keep vs) s = tRunB S t s := by
  intro t
  induction t with
  | pure a => intro s; rfl
  | rule _ k ih => intro s; exact ih () s
  | point _ k ih => intro s; exact ih () s
  | ask k ih => intro s; exact ih _ s
  | load a p k ih => intro s; exact ldO_congr fun o => ih o s
  | update a p g k ih => intro s; exact congrArg (gdO _) (ldO_congr fun _ => ih () _)
  | alloc o k ih => intro s; exact congrArg (gdO _) (ih _ _)
  | call c h g l k ih =>
    intro s
    show (atomB? S c s).bind (fun r => tRunB S ((k (.ok (.ret r.1))).keep vs) r.2) = (atomB? S c s).bind fun r => tRunB S (k (.ok (.ret r.1))) r.2
    cases atomB? S c s with
    | none => rfl
    | some r => exact ih _ _
  | fresh k ih => intro s; exact ih _ _
  | _ => intro s; rfl
theorem tRunB_holding {S : Setting} {α : Type} {vs : List Value} {t : Sem α} {s : SharedT} : tRunB S (holding vs t) s = tRunB S t s := by
  unfold holding
  split
  · rfl
  · exact tRunB_keep _ _ _
theorem ldO_mono {β : Type} {b : Bool} {x : Option Obj} {f g : Obj → Option β} {r : β} (h : ldO b x f = some r) (k : ∀ o, f o = some r → g o = some r) : ldO b x g = some r := by
  obtain ⟨rfl, o, o', e2, e3, h⟩ := ldO_some h
  rw [ldO_is rfl e2 e3]
  exact k _ h
theorem gdO_mono {β : Type} {b : Bool} {x y : Option β} {r : β} (h : gdO b x = some r) (k : x = some r → y = some r) : gdO b y = some r := by
  obtain ⟨rfl, h⟩ := gdO_some h
  exact k h
theorem lift {S : Setting} {α : Type} : ∀ (t : Sem α) (s : SharedT) (r : α × SharedT), tRun S t s = some r → tRunB S t s = some r := by
  intro t
  induction t with
  | pure a => intro s r h; exact h
  | rule _ k ih => intro s r h; exact ih () s r h
  | point _ k ih => intro s r h; exact ih () s r h
  | ask k ih => intro s r h; exact ih _ s r h
  | load a p k ih => intro s r h; exact ldO_mono h fun o h => ih o s r h
  | update a p g k ih => intro s r h; exact gdO_mono h fun h => ldO_mono h fun _ h => ih () _ r h
  | alloc o k ih => intro s r h; exact gdO_mono h fun h => ih _ _ r h
  | call c hd g l k ih =>
    intro s r h
    obtain ⟨q, e, h⟩ := Option.bind_eq_some_iff.mp h
    exact Option.bind_eq_some_iff.mpr ⟨q, atom_lift e, ih _ _ r h⟩
  | fresh k ih => intro s r h; exact ih _ _ r h
  | _ => intro s r h; cases h
/-- a tree that loads one object alone -/
noncomputable def P0 (S : Setting) (i : Nat) (o : Obj) {α : Type} : Sem α → α → Prop
  | .pure a, b => a = b
  | .rule _ k, b => P0 S i o (k ()) b
  | .point _ k, b => P0 S i o (k ()) b
  | .ask k, b => P0 S i o (k S) b
  | .load a _ k, b => a = i ∧ P0 S i o (k o) b
  | _, _ => False
theorem P0.run {S : Setting} {i : Nat} {o : Obj} {s : SharedT} (h : i < s.n) (g : s.tree.get i = some o) (ho : alive o = some o) {α : Type} : ∀ (t : Sem α) (b : α), P0 S i o t b → tRun S t s = some (b, s) := by
  intro t
  induction t with
  | pure a => intro b q; cases q; rfl
  | rule _ k ih => intro b q; exact ih () b q
  | point _ k ih => intro b q; exact ih () b q
  | ask k ih => intro b q; exact ih _ b q
  | load a p k ih => intro b q; obtain ⟨rfl, q⟩ := q; rw [run_loadO h g ho]; exact ih _ b q
  | _ => intro b q; cases q
noncomputable def P1 (S : Setting) {α : Type} : Sem α → α → Prop
  | .pure a, b => a = b
  | .rule _ k, b => P1 S (k ()) b
  | .point _ k, b => P1 S (k ()) b
  | .ask k, b => P1 S (k S) b
  | _, _ => False
theorem P1.run {S : Setting} {α : Type} {s : SharedT} : ∀ (t : Sem α) (b : α), P1 S t b → tRun S t s = some (b, s) := by
  intro t
  induction t with
  | pure a => intro b q; cases q; rfl
  | rule _ k ih => intro b q; exact ih () b q
  | point _ k ih => intro b q; exact ih () b q
  | ask k ih => intro b q; exact ih _ b q
  | _ => intro b q; cases q
noncomputable def isNextOf (i : Nat) (c : Code) : Prop := blt? c = some ("str_ascii_iterator.__next__", [.ref i])
/-- and then walks the str -/
noncomputable def PB (S : Setting) (i : Nat) (o : Obj) (v : Value) {α : Type} : Sem α → α → Prop
  | .rule _ k, b => PB S i o v (k ()) b
  | .point _ k, b => PB S i o v (k ()) b
  | .ask k, b => PB S i o v (k S) b
  | .load a _ k, b => a = i ∧ PB S i o v (k o) b
  | .call c _ _ _ k, b => isNextOf i c ∧ P1 S (k (.ok (.ret v))) b
  | _, _ => False
theorem call_next0 (w : World) (i : Nat) (D : Data) : P0 (SW w) i (sD D) (denote treeTable (.call (.builtin "str_ascii_iterator.__next__") ⟨[.ref i], []⟩)) (.again (cNext i)) := by
  have e : P0 (SW w) i (sD D) (denote treeTable (.call (.builtin "str_ascii_iterator.__next__") ⟨[.ref i], []⟩)) (.again (cNext i)) = (i = i ∧ (PySem.Fin.again (cNext i)) = .again (cNext i)) := by kernel_rfl
  exact e.mpr ⟨rfl, rfl⟩
theorem pyNext_PB (w : World) (i : Nat) (D : Data) (v : Value) : PB (SW w) i (sD D) v (pyNext (.ref i)) (some v) := by
  have e : PB (SW w) i (sD D) v (pyNext (.ref i)) (some v) = (i = i ∧ (some ("str_ascii_iterator.__next__", [Value.ref i]) = some ("str_ascii_iterator.__next__", [Value.ref i])) ∧ some v = some v) := by kernel_rfl
  exact e.mpr ⟨rfl, rfl, rfl⟩
theorem PB.run {S : Setting} {i : Nat} {o : Obj} {v : Value} {s s' : SharedT} (h : i < s.n) (g : s.tree.get i = some o) (ho : alive o = some o) (en : nextAt? i s = some (v, s')) {α : Type} : ∀ (t : Sem α) (b : α), PB S i o v t b → tRunB S t s = some (b, s') := by
  intro t
  induction t with
  | rule _ k ih => intro b q; exact ih () b q
  | point _ k ih => intro b q; exact ih () b q
  | ask k ih => intro b q; exact ih _ b q
  | load a p k ih =>
    intro b q; obtain ⟨rfl, q⟩ := q
    have e : Nat.blt a s.n = true := Nat.ble_eq_true_of_le h
    exact (ldO_is e g ho).trans (ih _ b q)
  | call c hd g l k ih =>
    intro b q
    obtain ⟨q, q'⟩ := q
    have q := blt?_some q
    subst q
    have e : atomB? S (.call (.builtin "str_ascii_iterator.__next__") ⟨[.ref i], []⟩) s = some (v, s') := by
      show (if "str_ascii_iterator.__next__" = "str_ascii_iterator.__next__" then nextAt? i s else none) = _
      rw [if_pos rfl, en]
    show (atomB? S _ s).bind (fun r => tRunB S (k (.ok (.ret r.1))) r.2) = _
    rw [e]
    exact lift _ _ _ (P1.run _ _ q')
  | _ => intro b q; cases q
theorem call_next1 (w : World) (s : SharedT) (i : Nat) (k : Result → Sem Fin) (h : Option Value) (g : Bool) (l : List Value) (code : Code) (pos pos' : Pos) (kept : List Value) (f2 : Frame) (B : List Frame) :
   ∃ kept', Go w s ⟨.pure (.again (cNext i)), .call (.builtin "str_ascii_iterator.__next__") ⟨[.ref i], []⟩, pos', .ret k h g l code pos kept :: f2 :: B⟩ s ⟨Builtin.«str_ascii_iterator.__next__» ⟨[.ref i], []⟩, cNext i, pos', .ret k h g l code pos kept' :: f2 :: B⟩ := by
  obtain ⟨T, n, life, gens, drawn, toks, os⟩ := s
  exact ⟨(if l.contains borrowed then kept.takeWhile (· != .ellipsis) ++ unmarked [.ref i] else unmarked (kept ++ .builtin "str_ascii_iterator.__next__" :: [.ref i])), 1, by kernel_rfl⟩
theorem call_next (w : World) {s : SharedT} {i : Nat} {D : Data} (e : i < s.n) (g : s.tree.get i = some (sD D)) (ho : alive (sD D) = some (sD D)) (k : Result → Sem Fin) (h : Option Value) (g' : Bool) (l : List Value) (code : Code) (pos pos' : Pos) (kept : List Value) (f2 : Frame) (B : List Frame) :
   ∃ kept', Go w s ⟨denote treeTable (.call (.builtin "str_ascii_iterator.__next__") ⟨[.ref i], []⟩), .call (.builtin "str_ascii_iterator.__next__") ⟨[.ref i], []⟩, pos', .ret k h g' l code pos kept :: f2 :: B⟩
     s ⟨Builtin.«str_ascii_iterator.__next__» ⟨[.ref i], []⟩, cNext i, pos', .ret k h g' l code pos kept' :: f2 :: B⟩ := by
  obtain ⟨kept', G⟩ := call_next1 w s i k h g' l code pos pos' kept f2 B
  exact ⟨kept', Go.trans (tRun_go0 ((call_next0 w i D).run e g ho _ _)) G⟩
theorem ret_next (w : World) (s : SharedT) (v : Value) (k : Result → Sem Fin) (h : Option Value) (g : Bool) (l : List Value) (code : Code) (pos pos' : Pos) (kept : List Value) (f1 f2 : Frame) (B : List Frame) (c : Code) :
   Go w s ⟨.pure (.done (.ret v)), c, pos', .ret k h g l code pos kept :: f1 :: f2 :: B⟩
     s ⟨k (.ok (.ret v)), code, pos, f1 :: f2 :: B⟩ := ⟨1, by kernel_rfl⟩
theorem next_go {w : World} {i : Nat} {s s' : SharedT} {v : Value} (e : nextAt? i s = some (v, s')) (k : Result → Sem Fin) (h : Option Value) (g : Bool) (l : List Value) (code : Code) (pos pos' : Pos) (kept : List Value) (f1 f2 : Frame) (B : List Frame) :
    Go w s ⟨denote treeTable (.call (.builtin "str_ascii_iterator.__next__") ⟨[.ref i], []⟩), .call (.builtin "str_ascii_iterator.__next__") ⟨[.ref i], []⟩, pos', .ret k h g l code pos kept :: f1 :: f2 :: B⟩ s'
      ⟨k (.ok (.ret v)), code, pos, f1 :: f2 :: B⟩ := by
  obtain ⟨x, u, m, c, e1, e2, e3, e5, rfl, rfl⟩ := nextAt?_some e
  have := run_next (S := ⟨pw, w.params⟩) (Nat.le_of_ble_eq_true e1) (Nat.le_of_ble_eq_true e2) e3 e5
  obtain ⟨kept', G⟩ := call_next w (Nat.le_of_ble_eq_true e1) e3 rfl k h g l code pos pos' kept f1 (f2 :: B)
  exact Go.trans G (Go.trans (tRun_go0 this) (ret_next w _ _ k h g l code pos pos' kept' f1 f2 B _))
theorem tRunB_go {w : World} {α : Type} {K : α → Sem Fin} {code : Code} {pos : Pos} {f1 f2 : Frame} {B : List Frame} : ∀ (t : Sem α) (s s' : SharedT) (a : α), tRunB ⟨pw, w.params⟩ t s = some (a, s') →
    Go w s ⟨t.bind K, code, pos, f1 :: f2 :: B⟩ s' ⟨K a, code, pos, f1 :: f2 :: B⟩ := by
  intro t
  induction t with
  | pure b => intro s s' a h; cases h; exact Go.refl
  | rule _ k ih =>
    intro s s' a h
    exact Go.step (endAt_none (by intro f e; cases e)) rfl rfl (ih () s s' a h)
  | point _ k ih =>
    intro s s' a h
    exact Go.step (endAt_none (by intro f e; cases e)) rfl rfl (ih () s s' a h)
  | ask k ih =>
    intro s s' a h
    exact Go.step (endAt_none (by intro f e; cases e)) rfl rfl (ih _ s s' a h)
  | load b p k ih =>
    intro s s' a h
    obtain ⟨e1, o, o', e2, e3, h⟩ := ldO_some h
    refine Go.step (endAt_none (by intro f e; cases e)) rfl ?_ (ih _ s s' a h)
    obtain ⟨T, n, life, gens, drawn, toks, os⟩ := s
    simp only [Sem.bind, stepT, e1, e2, e3]
  | update b p g k ih =>
    intro s s' a h
    obtain ⟨e0, h⟩ := gdO_some h
    obtain ⟨e1, o, o', e2, e3, h⟩ := ldO_some h
    refine Go.step (endAt_none (by intro f e; cases e)) ?_ ?_ (ih () _ s' a h)
    · simp only [Sem.bind, stepOk, Thread.calm, Thread.atCollectorCode, Thread.atExit, Thread.yieldsInsideHandler, e0, Bool.true_or, Bool.not_false, Bool.and_self]
    · obtain ⟨T, n, life, gens, drawn, toks, os⟩ := s
      simp only [Sem.bind, stepT, e1, e2, e3]
  | alloc o k ih =>
    intro s s' a h
    obtain ⟨e1, h⟩ := gdO_some h
    refine Go.step (endAt_none (by intro f e; cases e)) rfl ?_ (ih _ _ s' a h)
    obtain ⟨T, n, life, gens, drawn, toks, os⟩ := s
    simp only [Sem.bind, stepT, e1]
  | fresh k ih =>
    intro s s' a h
    exact Go.step (endAt_none (by intro f e; cases e)) rfl rfl (ih _ _ s' a h)
  | call c hd g l k ih =>
    intro s s' a h
    obtain ⟨r, e1, h2⟩ := Option.bind_eq_some_iff.mp h
    rcases atomB?_some e1 with e1 | ⟨i, rfl, e1⟩
    · rcases atom?_some e1 with ⟨x, u, y, v, rfl, rfl⟩ | ⟨x, u, rfl, rfl⟩
      · refine Go.step (endAt_none (by intro f e; cases e)) rfl (s' := s) (t' := ⟨denote treeTable (.call (.builtin "str.__eq__") ⟨[.str x u, .str y v], []⟩), .call (.builtin "str.__eq__") ⟨[.str x u, .str y v], []⟩, pos, .ret (fun r => (k r).bind K) hd g l code pos ?kp :: f1 :: f2 :: B⟩) ?st (Go.trans ⟨2, eq_call w s x y u v _ _ _ _ _ _ _ ?kp f1 f2 B⟩ (ih _ s s' a h2))
        case st =>
          obtain ⟨T, n, life, gens, drawn, toks, os⟩ := s
          rfl
      · refine Go.step (endAt_none (by intro f e; cases e)) rfl (s' := s) (t' := ⟨denote treeTable (.call (.builtin "str.__hash__") ⟨[.str x u], []⟩), .call (.builtin "str.__hash__") ⟨[.str x u], []⟩, pos, .ret (fun r => (k r).bind K) hd g l code pos ?kq :: f1 :: f2 :: B⟩) ?st (Go.trans ⟨4, hash_call w s x u _ _ _ _ _ _ _ ?kq f1 f2 B⟩ (ih _ _ s' a h2))
        case st =>
          obtain ⟨T, n, life, gens, drawn, toks, os⟩ := s
          rfl
    · refine Go.step (endAt_none (by intro f e; cases e)) rfl (s' := s) (t' := ⟨denote treeTable (.call (.builtin "str_ascii_iterator.__next__") ⟨[.ref i], []⟩), .call (.builtin "str_ascii_iterator.__next__") ⟨[.ref i], []⟩, pos, .ret (fun r => (k r).bind K) hd g l code pos ?kr :: f1 :: f2 :: B⟩) ?st (Go.trans (next_go e1 _ _ _ _ _ _ _ ?kr f1 f2 B) (ih _ _ s' a h2))
      case st =>
        obtain ⟨T, n, life, gens, drawn, toks, os⟩ := s
        rfl
  | _ => intro s s' a h; cases h
end Mine
end
section
open PySem PySem.W PyProof.Rows PySem.Calls PySem.Builtin
set_option maxRecDepth 100000
namespace Mine
theorem run_turn {w : World} {s s1 : SharedT} {a i c u0 : Nat} {D : Data} {L : List (Int × Value)} {es : Array (Int × Value)} {ep : Nat} {t : SetTable}
    (hi : i < s.n) (gi : s.tree.get i = some (sD D)) (ho : alive (sD D) = some (sD D)) (en : nextAt? i s = some (.str ⟨#[c]⟩ u0, s1))
    (h : AtS s1 a es ep t) (g : GoodS L es t) (ha : 11 ≤ a) (hL : Strs L) (hnew : ∀ e ∈ L, e.2.isStr ⟨#[c]⟩ = false) :
    ∃ es' ep' t', GoodS ((PyData.keyHash w.params ⟨#[c]⟩, .str ⟨#[c]⟩ u0) :: L) es' t' ∧ tRunB (SW w) (Builtin.«set.update.loop» ⟨[.ref a, .ref i], []⟩) s = some (.again (cFill a i), put (tick s1) a (mkS es' ep' t')) := by
  obtain ⟨es', ep', t', g', e⟩ := run_setAdd (w := w) (tk := u0) h g ha hL hnew
  refine ⟨es', ep', t', g', ?_⟩
  have e2 := lift _ _ _ e
  unfold Builtin.«set.update.loop»
  simp only []
  rw [tRunB_bind', PB.run hi gi ho en _ _ (pyNext_PB w i D _)]
  simp only [Option.bind_some]
  change tRunB (SW w) (holding [_] (setAdd a _) >>= fun _ => again (.builtin "set.update.loop" ⟨[.ref a, .ref i], []⟩)) s1 = _
  rw [tRunB_bind', tRunB_holding, e2]
  rfl
noncomputable def chars (P : Params) (x : Str) (tk : Nat) : Nat → List (Int × Value)
  | 0 => []
  | n + 1 => (PyData.keyHash P ⟨#[x.cps.getD n 0]⟩, .str ⟨#[x.cps.getD n 0]⟩ (tk + 2 * n)) :: chars P x tk n
theorem chars_mem {P : Params} {x : Str} {tk : Nat} {e : Int × Value} : ∀ {n : Nat}, e ∈ chars P x tk n → ∃ k, k < n ∧ e = (PyData.keyHash P ⟨#[x.cps.getD k 0]⟩, .str ⟨#[x.cps.getD k 0]⟩ (tk + 2 * k))
  | n + 1, h => by
    rcases List.mem_cons.mp h with h | h
    · exact ⟨n, by omega, h⟩
    · obtain ⟨k, hk, e⟩ := chars_mem h; exact ⟨k, by omega, e⟩
theorem chars_length {P : Params} {x : Str} {tk : Nat} : ∀ {n : Nat}, (chars P x tk n).length = n
  | 0 => rfl
  | n + 1 => congrArg (· + 1) chars_length
/-- no char twice -/
noncomputable def once (x : Str) : Bool := (List.range x.cps.size).all fun n => (List.range n).all fun k => x.cps.getD k 0 != x.cps.getD n 0
theorem back {w : World} {s : SharedT} {id : String} {args : Args} {p : Pos} {f1 f2 : Frame} {B : List Frame} (h : (id.startsWith "lifetime.") = false) : Go w s ⟨.pure (.again (.builtin id args)), .builtin id args, p, f1 :: f2 :: B⟩ s (TL (.builtin id args) p (f1 :: f2 :: B)) := by
  refine Go.step (endAt_none (by intro f e; cases e)) ?_ (s' := s) ?_ Go.refl
  · simp only [stepOk, Thread.calm, Thread.atCollectorCode, Thread.yieldsInsideHandler, h, Bool.not_false, Bool.true_or, Bool.and_self]
  · obtain ⟨T, n, life, gens, drawn, toks, os⟩ := s
    rfl
theorem den_fill (a i : Nat) : denote treeTable (cFill a i) = Builtin.«set.update.loop» ⟨[.ref a, .ref i], []⟩ := by kernel_rfl
structure Fam (X : Obj → Obj → Nat → SharedT) (a i : Nat) : Prop where
  ha : 11 ≤ a
  hi : 11 ≤ i
  na : ∀ o p t, a < (X o p t).n
  ni : ∀ o p t, i < (X o p t).n
  ga : ∀ o p t, (X o p t).tree.get a = some o
  gi : ∀ o p t, (X o p t).tree.get i = some p
  pa : ∀ o p t o', put (X o p t) a o' = X o' p t
  pi : ∀ o p t p', put (X o p t) i p' = X o p' t
  tk : ∀ o p t, tick (X o p t) = X o p (t + 1)
  tt : ∀ o p t, (X o p t).toks = t
theorem fill {w : World} {X : Obj → Obj → Nat → SharedT} {a i : Nat} (F : Fam X a i) {x : Str} {u tk : Nat} {pL : Pos} {f1 f2 : Frame} {B : List Frame} (hx : x.cps.size < 4000) (ho : once x = true) (led : Bool) : ∀ n, n ≤ x.cps.size →
    ∃ es ep t, GoodS (chars w.params x tk n) es t ∧ Go w (X (mkS #[] 0 (.fresh 0 0 led)) (sD (itD (.str x u) 0)) tk) (TL (cFill a i) pL (f1 :: f2 :: B)) (X (mkS es ep t) (sD (itD (.str x u) n)) (tk + 2 * n)) (TL (cFill a i) pL (f1 :: f2 :: B))
  | 0, _ => ⟨#[], 0, .fresh 0 0 led, ⟨List.Perm.refl _, rfl⟩, Go.refl⟩
  | n + 1, hn => by
    obtain ⟨es, ep, t, g, G⟩ := fill F (B := B) (pL := pL) (f1 := f1) (f2 := f2) (tk := tk) (u := u) (w := w) hx ho led n (by omega)
    have hc : x.cps[n]? = some (x.cps.getD n 0) := by
      rw [Array.getD_eq_getD_getElem?, Array.getElem?_eq_getElem (by omega)]; rfl
    have en : nextAt? i (X (mkS es ep t) (sD (itD (.str x u) n)) (tk + 2 * n)) = some (.str ⟨#[x.cps.getD n 0]⟩ (tk + 2 * n), X (mkS es ep t) (sD (itD (.str x u) (n + 1))) (tk + 2 * n + 1)) := by
      unfold nextAt?
      have e1 : Nat.blt i (X (mkS es ep t) (sD (itD (.str x u) n)) (tk + 2 * n)).n = true := Nat.ble_eq_true_of_le (F.ni _ _ _)
      have e2 : Nat.ble 11 i = true := Nat.ble_eq_true_of_le F.hi
      rw [e1, e2, F.gi]
      change (if "str_ascii_iterator" = "str_ascii_iterator" then (x.cps[n]?).bind fun c => some (Value.str ⟨#[c]⟩ (X (mkS es ep t) (sD (itD (.str x u) n)) (tk + 2 * n)).toks, tick (put (X (mkS es ep t) (sD (itD (.str x u) n)) (tk + 2 * n)) i (sD (itD (.str x u) (n + 1))))) else none) = _
      rw [if_pos rfl, hc, Option.bind_some, F.pi, F.tk]
      simp only [F.tt]
    have hnew : ∀ e ∈ chars w.params x tk n, e.2.isStr ⟨#[x.cps.getD n 0]⟩ = false := by
      intro e he
      obtain ⟨k, hk, rfl⟩ := chars_mem he
      have h1 := List.all_eq_true.mp (List.all_eq_true.mp ho n (List.mem_range.mpr (by omega))) k (List.mem_range.mpr hk)
      simp only [Value.isStr]
      have h2 : x.cps.getD k 0 ≠ x.cps.getD n 0 := by simpa using h1
      show ((⟨#[x.cps.getD k 0]⟩ : Str) == ⟨#[x.cps.getD n 0]⟩) = false
      rw [beq_eq_false_iff_ne]
      intro q
      exact h2 (by have := congrArg (fun y : Str => y.cps.getD 0 0) q; simpa using this)
    obtain ⟨es', ep', t', g', e⟩ := run_turn (w := w) (F.ni _ _ _) (F.gi _ _ _) rfl en ⟨F.na _ _ _, F.ga _ _ _⟩ g F.ha ⟨fun e he => by obtain ⟨k, _, rfl⟩ := chars_mem he; exact ⟨_, _, rfl⟩, by rw [chars_length]; omega⟩ hnew
    refine ⟨es', ep', t', g', G.trans ?_⟩
    have G2 := tRunB_go (w := w) (K := .pure) (code := cFill a i) (pos := pL) (f1 := f1) (f2 := f2) (B := B) _ _ _ _ e
    rw [sem_bind_pure, F.tk, F.pa, ← den_fill] at G2
    exact G2.trans (back (by decide +kernel))
end Mine
end
section
open PySem PySem.W PyProof.Rows PySem.Calls PySem.Builtin
set_option maxRecDepth 100000
namespace Mine
/-- without the str x -/
noncomputable def dropS (x : Str) (L : List (Int × Value)) : List (Int × Value) := L.filter fun e => !e.2.isStr x
theorem drops_one {L Lr r : List (Int × Value)} {x : Str} {tk tk' : Tok} {hh h' : Int} (h1 : L.filter (fun e => e.2.isStr x) = [(h', .str x tk')]) (rest : Drops (dropS x L) r Lr) : Drops L ((hh, .str x tk) :: r) Lr := by
  refine .cons (h' := h') (tk' := tk') (L' := dropS x L) ?_ ?_ rest
  · have := (List.filter_append_perm (fun e : Int × Value => e.2.isStr x) L).symm
    rw [h1] at this
    exact this
  · intro e he hs
    have : e ∈ L.filter (fun e => e.2.isStr x) := List.mem_filter.mpr ⟨he, hs⟩
    rw [h1] at this
    simpa using this
theorem dropS_comm (x y : Str) (L : List (Int × Value)) : dropS x (dropS y L) = dropS y (dropS x L) := by
  unfold dropS
  simp only [List.filter_filter]
  congr 1
  funext e
  exact Bool.and_comm _ _
theorem perm_one {α : Type} {l : List α} {a : α} (h : l.Perm [a]) : l = [a] := List.perm_singleton.mp h
theorem perm_two {α : Type} {l : List α} {a b : α} (h : l.Perm [a, b]) : l = [a, b] ∨ l = [b, a] := by
  match l, h.length_eq with
  | [c, d], _ =>
    have hc : c = a ∨ c = b := by simpa using h.mem_iff.mp (List.mem_cons_self (a := c) (l := [d]))
    rcases hc with rfl | rfl
    · have := List.perm_singleton.mp ((List.perm_cons _).mp h)
      exact .inl (by rw [this])
    · have := List.perm_singleton.mp ((List.perm_cons _).mp (h.trans (List.Perm.swap _ _ _)))
      exact .inr (by rw [this])
theorem zset_self {z : Nat → Obj} {a : Nat} : zset z a (z a) = z := by
  funext b
  unfold zset
  cases h : Nat.beq b a with
  | true => rw [Nat.eq_of_beq_eq_true h]
  | false => rfl
theorem good_one {e : Int × Value} {es : Array (Int × Value)} {t : SetTable} (g : GoodS [e] es t) : es = #[e] ∧ t.fits 1 = true := by
  have h := perm_one g.1
  have h2 : es = #[e] := by rw [← Array.toArray_toList (xs := es), h]
  exact ⟨h2, by have := g.2; rw [h2] at this; exact this⟩
end Mine
end
section
open PySem PySem.W PyProof.Rows PySem.Calls PySem.Builtin
set_option maxRecDepth 100000
set_option maxHeartbeats 0
namespace Mine
noncomputable section
noncomputable abbrev P65 : Thread := piecesOf (stL 5) env0 cd0 ⟨19, 0, 19, 13⟩ [topFrame q0]
noncomputable abbrev l65 : Pos := ⟨20, 13, 20, 51⟩
noncomputable def rg (i : Nat) : Obj := ⟨.type "range_iterator", none, .fields [vI (.ofNat i) 0, vI (.ofNat (32 - i)) 0, vI (1) 0].toArray, [].toArray⟩
noncomputable def fr (P : Params) : Nat → Obj
  | 0 => ⟨.type "frame", none, .dict [eS P (sO ".0") 255 (.ref 59)].toArray 1, [].toArray⟩
  | i + 1 => ⟨.type "frame", none, .dict [eS P (sO ".0") 255 (.ref 59), eS P (sO "i") 259 (vI (.ofNat i) (258 + 4 * i))].toArray 2, [].toArray⟩
noncomputable def Y (w : World) (os : OsState) (z : Nat → Obj) (g : Array GenState) (i : Nat) (o : Obj) (t : Nat) : SharedT := S5L0 g w os (zset (zset (zset z 65 o) 59 (rg i)) 63 (fr w.params i)) t
noncomputable def R65 (w : World) (os : OsState) (z : Nat → Obj) : Option (SharedT × Thread) := upTo w (inB "set.update.loop") 300 (S4 w os z) P65
noncomputable def gns (r : Option (SharedT × Thread)) : Array GenState := match r with | some x => x.1.gens | none => #[]
noncomputable def G0 (w : World) (os : OsState) (z : Nat → Obj) : Array GenState := gns (R65 w os z)
noncomputable def SA65 (w : World) (os : OsState) (z : Nat → Obj) : List Frame := (thr (R65 w os z) P65).stack
noncomputable abbrev f165 (w : World) (os : OsState) (z : Nat → Obj) : Frame := hdF (SA65 w os z)
noncomputable abbrev f265 (w : World) (os : OsState) (z : Nat → Obj) : Frame := hdF (tlF (SA65 w os z))
noncomputable abbrev fB65 (w : World) (os : OsState) (z : Nat → Obj) : List Frame := tlF (tlF (SA65 w os z))
noncomputable def cGen : Code := .call (.builtin "generator.__next__") ⟨[.ref 64], []⟩
noncomputable def thG (w : World) (os : OsState) (z : Nat → Obj) (k : Result → Sem PySem.Fin) (h : Option Value) (g : Bool) (l : List Value) (kept : List Value) : Thread := ⟨denote treeTable cGen, cGen, l65, .ret k h g l (cFill 65 64) l65 kept :: f165 w os z :: f265 w os z :: fB65 w os z⟩
noncomputable def R0 (w : World) (os : OsState) (z : Nat → Obj) (k : Result → Sem PySem.Fin) (h : Option Value) (g : Bool) (l : List Value) (kept : List Value) (o : Obj) : Option (SharedT × Thread) := upTo w (inB "set.update.loop") 100 (Y w os z (G0 w os z) 0 o 258) (thG w os z k h g l kept)
noncomputable def G1 (w : World) (os : OsState) (z : Nat → Obj) : Array GenState := gns (R0 w os z (fun _ => .pure (.done (.ret .none))) none false [] [] (z 65))
noncomputable def thE (w : World) (os : OsState) (z : Nat → Obj) (k : Result → Sem PySem.Fin) (i : Nat) : Thread := ⟨k (.ok (.ret (.str ⟨#[i]⟩ (260 + 4 * i)))), cFill 65 64, l65, f165 w os z :: f265 w os z :: fB65 w os z⟩
noncomputable def atFill (a : Nat) (t : Thread) : Bool := match t.code with | .builtin nm ⟨[.ref b, _], _⟩ => nm == "set.update.loop" && Nat.beq b a | _ => false
noncomputable abbrev l70 : Pos := ⟨20, 54, 20, 73⟩
noncomputable def T70 : Str := Str.mk [127].toArray
noncomputable def zG (P : Params) (z : Nat → Obj) (o : Obj) : Nat → Obj := zset (zset (zset z 65 o) 59 (rg 32)) 63 (fr P 32)
noncomputable def X70 (w : World) (os : OsState) (z : Nat → Obj) (o p : Obj) (t : Nat) : SharedT := S5L1 w os (zset (zset z 70 o) 71 p) t
noncomputable def R70 (w : World) (os : OsState) (z : Nat → Obj) (o : Obj) : Option (SharedT × Thread) := upTo w (atFill 70) 400 (Y w os z (G1 w os z) 32 o 386) (TL (cFill 65 64) l65 (f165 w os z :: f265 w os z :: fB65 w os z))
noncomputable def SA70 (w : World) (os : OsState) (z : Nat → Obj) (o : Obj) : List Frame := (thr (R70 w os z o) P65).stack
noncomputable abbrev f170 (w : World) (os : OsState) (z : Nat → Obj) (o : Obj) : Frame := hdF (SA70 w os z o)
noncomputable abbrev f270 (w : World) (os : OsState) (z : Nat → Obj) (o : Obj) : Frame := hdF (tlF (SA70 w os z o))
noncomputable abbrev fB70 (w : World) (os : OsState) (z : Nat → Obj) (o : Obj) : List Frame := tlF (tlF (SA70 w os z o))
noncomputable def SO5 (w : World) (os : OsState) (z : Nat → Obj) (e0 : Array (Int × Value)) (p0 : Nat) (t0 : SetTable) (es : Array (Int × Value)) (ep : Nat) (t : SetTable) : List Frame := (thr (upTo w (inB "frozenset.__or__") 300 (X70 w os (zG w.params z (mkS e0 p0 t0)) (mkS es ep t) (sD (itD (.str T70 387) 1)) (388 + 2 * 1)) (TL (cFill 70 71) l70 (f170 w os z (mkS e0 p0 t0) :: f270 w os z (mkS e0 p0 t0) :: fB70 w os z (mkS e0 p0 t0)))) P65).stack
noncomputable abbrev g15 (w : World) (os : OsState) (z : Nat → Obj) (e0 : Array (Int × Value)) (p0 : Nat) (t0 : SetTable) (es : Array (Int × Value)) (ep : Nat) (t : SetTable) : Frame := hdF (SO5 w os z e0 p0 t0 es ep t)
noncomputable abbrev g25 (w : World) (os : OsState) (z : Nat → Obj) (e0 : Array (Int × Value)) (p0 : Nat) (t0 : SetTable) (es : Array (Int × Value)) (ep : Nat) (t : SetTable) : Frame := hdF (tlF (SO5 w os z e0 p0 t0 es ep t))
noncomputable abbrev gB5 (w : World) (os : OsState) (z : Nat → Obj) (e0 : Array (Int × Value)) (p0 : Nat) (t0 : SetTable) (es : Array (Int × Value)) (ep : Nat) (t : SetTable) : List Frame := tlF (tlF (SO5 w os z e0 p0 t0 es ep t))
noncomputable def Gn (w : World) (os : OsState) (z : Nat → Obj) : Nat → Array GenState
  | 0 => G0 w os z
  | _ + 1 => G1 w os z
noncomputable abbrev Turn (w : World) (os : OsState) (z : Nat → Obj) (k : Result → Sem PySem.Fin) (h : Option Value) (g : Bool) (l : List Value) (kept : List Value) (o : Obj) (i : Nat) : Prop := upTo w (inB "set.update.loop") 100 (Y w os z (Gn w os z i) i o (258 + 4 * i)) (thG w os z k h g l kept) = some (Y w os z (Gn w os z (i + 1)) (i + 1) o (258 + 4 * i + 3), thE w os z k i)
noncomputable def allTurns (w : World) (os : OsState) (z : Nat → Obj) (k : Result → Sem PySem.Fin) (h : Option Value) (g : Bool) (l : List Value) (kept : List Value) (o : Obj) : Prop := Turn w os z k h g l kept o 0 ∧ Turn w os z k h g l kept o 1 ∧ Turn w os z k h g l kept o 2 ∧ Turn w os z k h g l kept o 3 ∧ Turn w os z k h g l kept o 4 ∧ Turn w os z k h g l kept o 5 ∧ Turn w os z k h g l kept o 6 ∧ Turn w os z k h g l kept o 7 ∧ Turn w os z k h g l kept o 8 ∧ Turn w os z k h g l kept o 9 ∧ Turn w os z k h g l kept o 10 ∧ Turn w os z k h g l kept o 11 ∧ Turn w os z k h g l kept o 12 ∧ Turn w os z k h g l kept o 13 ∧ Turn w os z k h g l kept o 14 ∧ Turn w os z k h g l kept o 15 ∧ Turn w os z k h g l kept o 16 ∧ Turn w os z k h g l kept o 17 ∧ Turn w os z k h g l kept o 18 ∧ Turn w os z k h g l kept o 19 ∧ Turn w os z k h g l kept o 20 ∧ Turn w os z k h g l kept o 21 ∧ Turn w os z k h g l kept o 22 ∧ Turn w os z k h g l kept o 23 ∧ Turn w os z k h g l kept o 24 ∧ Turn w os z k h g l kept o 25 ∧ Turn w os z k h g l kept o 26 ∧ Turn w os z k h g l kept o 27 ∧ Turn w os z k h g l kept o 28 ∧ Turn w os z k h g l kept o 29 ∧ Turn w os z k h g l kept o 30 ∧ Turn w os z k h g l kept o 31
noncomputable def allP (w : World) (os : OsState) (z : Nat → Obj) (e0 : Array (Int × Value)) (p0 : Nat) (t0 : SetTable) (es : Array (Int × Value)) (ep : Nat) (t : SetTable) (o1 : Obj) (k : Result → Sem PySem.Fin) (h : Option Value) (g : Bool) (l : List Value) (kept : List Value) (o : Obj) : Prop := ((upTo w (inB "set.update.loop") 300 (S4 w os z) P65, R70 w os z (mkS e0 p0 t0), upTo w (inB "frozenset.__or__") 300 (X70 w os (zG w.params z (mkS e0 p0 t0)) (mkS es ep t) (sD (itD (.str T70 387) 1)) (388 + 2 * 1)) (TL (cFill 70 71) l70 (f170 w os z (mkS e0 p0 t0) :: f270 w os z (mkS e0 p0 t0) :: fB70 w os z (mkS e0 p0 t0))), segRunT treeTable pw w 11 ann0 1 300 (S5P3 w os (zset (zset (zset (zG w.params z (mkS e0 p0 t0)) 70 (mkS es ep t)) 71 (sD (itD .none 1))) 74 o1) 390) ⟨.pure (.done (.ret (.ref 74))), (.builtin "frozenset.__or__" ⟨[.ref 65, .ref 70], []⟩), ⟨20, 13, 20, 73⟩, g15 w os z e0 p0 t0 es ep t :: g25 w os z e0 p0 t0 es ep t :: gB5 w os z e0 p0 t0 es ep t⟩) = (some (Y w os z (G0 w os z) 0 (em w) 258, TL (cFill 65 64) l65 (f165 w os z :: f265 w os z :: fB65 w os z)), some (X70 w os (zG w.params z (mkS e0 p0 t0)) (em w) (sD (itD (.str T70 387) 0)) 388, TL (cFill 70 71) l70 (f170 w os z (mkS e0 p0 t0) :: f270 w os z (mkS e0 p0 t0) :: fB70 w os z (mkS e0 p0 t0))), some (S5O2 w os (zset (zset (zG w.params z (mkS e0 p0 t0)) 70 (mkS es ep t)) 71 (sD (itD .none 1))) 390, TL (.builtin "frozenset.__or__" ⟨[.ref 65, .ref 70], []⟩) ⟨20, 13, 20, 73⟩ (g15 w os z e0 p0 t0 es ep t :: g25 w os z e0 p0 t0 es ep t :: gB5 w os z e0 p0 t0 es ep t)), some (.next, S5 w os (zset (zset (zset (zG w.params z (mkS e0 p0 t0)) 70 (mkS es ep t)) 71 (sD (itD .none 1))) 74 o1), cd0, ⟨20, 0, 20, 10⟩))) ∧ allTurns w os z k h g l kept o
theorem all5 (w : World) (os : OsState) (z : Nat → Obj) (e0 : Array (Int × Value)) (p0 : Nat) (t0 : SetTable) (es : Array (Int × Value)) (ep : Nat) (t : SetTable) (o1 : Obj) (k : Result → Sem PySem.Fin) (h : Option Value) (g : Bool) (l : List Value) (kept : List Value) (o : Obj) : allP w os z e0 p0 t0 es ep t o1 k h g l kept o :=
  byRow2 "special-get-raises" (P := fun w => allP w os z e0 p0 t0 es ep t o1 k h g l kept o)
    (fun w => byRow2 "comprehension-iter-twice" (P := fun w => allP (w.withFollow "special-get-raises" false) os z e0 p0 t0 es ep t o1 k h g l kept o) (fun w => ⟨by kernel_rfl, by kernel_rfl, by kernel_rfl, by kernel_rfl, by kernel_rfl, by kernel_rfl, by kernel_rfl, by kernel_rfl, by kernel_rfl, by kernel_rfl, by kernel_rfl, by kernel_rfl, by kernel_rfl, by kernel_rfl, by kernel_rfl, by kernel_rfl, by kernel_rfl, by kernel_rfl, by kernel_rfl, by kernel_rfl, by kernel_rfl, by kernel_rfl, by kernel_rfl, by kernel_rfl, by kernel_rfl, by kernel_rfl, by kernel_rfl, by kernel_rfl, by kernel_rfl, by kernel_rfl, by kernel_rfl, by kernel_rfl, by kernel_rfl⟩) (fun w => ⟨by kernel_rfl, by kernel_rfl, by kernel_rfl, by kernel_rfl, by kernel_rfl, by kernel_rfl, by kernel_rfl, by kernel_rfl, by kernel_rfl, by kernel_rfl, by kernel_rfl, by kernel_rfl, by kernel_rfl, by kernel_rfl, by kernel_rfl, by kernel_rfl, by kernel_rfl, by kernel_rfl, by kernel_rfl, by kernel_rfl, by kernel_rfl, by kernel_rfl, by kernel_rfl, by kernel_rfl, by kernel_rfl, by kernel_rfl, by kernel_rfl, by kernel_rfl, by kernel_rfl, by kernel_rfl, by kernel_rfl, by kernel_rfl, by kernel_rfl⟩) w)
    (fun w => byRow2 "comprehension-iter-twice" (P := fun w => allP (w.withFollow "special-get-raises" true) os z e0 p0 t0 es ep t o1 k h g l kept o) (fun w => ⟨by kernel_rfl, by kernel_rfl, by kernel_rfl, by kernel_rfl, by kernel_rfl, by kernel_rfl, by kernel_rfl, by kernel_rfl, by kernel_rfl, by kernel_rfl, by kernel_rfl, by kernel_rfl, by kernel_rfl, by kernel_rfl, by kernel_rfl, by kernel_rfl, by kernel_rfl, by kernel_rfl, by kernel_rfl, by kernel_rfl, by kernel_rfl, by kernel_rfl, by kernel_rfl, by kernel_rfl, by kernel_rfl, by kernel_rfl, by kernel_rfl, by kernel_rfl, by kernel_rfl, by kernel_rfl, by kernel_rfl, by kernel_rfl, by kernel_rfl⟩) (fun w => ⟨by kernel_rfl, by kernel_rfl, by kernel_rfl, by kernel_rfl, by kernel_rfl, by kernel_rfl, by kernel_rfl, by kernel_rfl, by kernel_rfl, by kernel_rfl, by kernel_rfl, by kernel_rfl, by kernel_rfl, by kernel_rfl, by kernel_rfl, by kernel_rfl, by kernel_rfl, by kernel_rfl, by kernel_rfl, by kernel_rfl, by kernel_rfl, by kernel_rfl, by kernel_rfl, by kernel_rfl, by kernel_rfl, by kernel_rfl, by kernel_rfl, by kernel_rfl, by kernel_rfl, by kernel_rfl, by kernel_rfl, by kernel_rfl, by kernel_rfl⟩) w) w
theorem turns (w : World) (os : OsState) (z : Nat → Obj) (k : Result → Sem PySem.Fin) (h : Option Value) (g : Bool) (l : List Value) (kept : List Value) (o : Obj) : allTurns w os z k h g l kept o := (all5 w os z #[] 0 (.fresh 0 0 true) #[] 0 (.fresh 0 0 true) (.mk .none .none (.fields #[]) #[]) k h g l kept o).2
end
end Mine
end
section
open PySem PySem.W PyProof.Rows PySem.Calls PySem.Builtin
set_option maxRecDepth 100000
set_option maxHeartbeats 0
namespace Mine
noncomputable section
noncomputable def isGenOf (c : Code) : Prop := blt? c = some ("generator.__next__", [.ref 64])
/-- a tree that loads the generator alone, and then asks it -/
noncomputable def PG (S : Setting) (o : Obj) (v : Value) {α : Type} : Sem α → α → Prop
  | .rule _ k, b => PG S o v (k ()) b
  | .point _ k, b => PG S o v (k ()) b
  | .ask k, b => PG S o v (k S) b
  | .load a _ k, b => a = 64 ∧ PG S o v (k o) b
  | .call c _ _ _ k, b => isGenOf c ∧ P1 S (k (.ok (.ret v))) b
  | _, _ => False
theorem PG.go {w : World} {α : Type} {K : α → Sem PySem.Fin} {o : Obj} {v : Value} {p : Pos} {f1 f2 : Frame} {B : List Frame} {s s' : SharedT} (h : 64 < s.n) (g : s.tree.get 64 = some o) (ho : alive o = some o)
    (hcall : ∀ k h g l kept, Go w s ⟨denote treeTable cGen, cGen, p, .ret k h g l (cFill 65 64) p kept :: f1 :: f2 :: B⟩ s' ⟨k (.ok (.ret v)), cFill 65 64, p, f1 :: f2 :: B⟩) :
    ∀ (t : Sem α) (b : α), PG (SW w) o v t b → Go w s ⟨t.bind K, cFill 65 64, p, f1 :: f2 :: B⟩ s' ⟨K b, cFill 65 64, p, f1 :: f2 :: B⟩ := by
  intro t
  induction t with
  | rule _ k ih =>
    intro b q
    exact Go.step (endAt_none (by intro f e; cases e)) rfl rfl (ih () b q)
  | point _ k ih =>
    intro b q
    exact Go.step (endAt_none (by intro f e; cases e)) rfl rfl (ih () b q)
  | ask k ih =>
    intro b q
    exact Go.step (endAt_none (by intro f e; cases e)) rfl rfl (ih _ b q)
  | load a p k ih =>
    intro b q
    obtain ⟨rfl, q⟩ := q
    refine Go.step (endAt_none (by intro f e; cases e)) rfl ?_ (ih _ b q)
    have e1 : Nat.blt 64 s.n = true := Nat.ble_eq_true_of_le h
    obtain ⟨T, n, life, gens, drawn, toks, os⟩ := s
    simp only [Sem.bind, stepT, e1, g, ho]
  | call c hd g l k ih =>
    intro b q
    obtain ⟨q, q'⟩ := q
    have q := blt?_some q
    subst q
    refine Go.step (endAt_none (by intro f e; cases e)) rfl (s' := s) (t' := ⟨denote treeTable cGen, cGen, p, .ret (fun r => (k r).bind K) hd g l (cFill 65 64) p ?kr :: f1 :: f2 :: B⟩) ?st (Go.trans (hcall _ _ _ _ ?kr) (tRun_go _ _ _ _ (P1.run _ _ q')))
    case st =>
      obtain ⟨T, n, life, gens, drawn, toks, os⟩ := s
      rfl
  | _ => intro b q; cases q
theorem pyNext_PG (w : World) (v : Value) : PG (SW w) (o64v0 w.params) v (pyNext (.ref 64)) (some v) := by
  have e : PG (SW w) (o64v0 w.params) v (pyNext (.ref 64)) (some v) = (64 = 64 ∧ (some ("generator.__next__", [Value.ref 64]) = some ("generator.__next__", [Value.ref 64])) ∧ some v = some v) := by kernel_rfl
  exact e.mpr ⟨rfl, rfl, rfl⟩
theorem turn_at (w : World) (os : OsState) (z : Nat → Obj) (k : Result → Sem PySem.Fin) (h : Option Value) (g : Bool) (l : List Value) (kept : List Value) (o : Obj) : ∀ i, i < 32 → Turn w os z k h g l kept o i := by
  obtain ⟨h0, h1, h2, h3, h4, h5, h6, h7, h8, h9, h10, h11, h12, h13, h14, h15, h16, h17, h18, h19, h20, h21, h22, h23, h24, h25, h26, h27, h28, h29, h30, h31⟩ := turns w os z k h g l kept o
  intro i hi
  match i, hi with
  | 0, _ => exact h0
  | 1, _ => exact h1
  | 2, _ => exact h2
  | 3, _ => exact h3
  | 4, _ => exact h4
  | 5, _ => exact h5
  | 6, _ => exact h6
  | 7, _ => exact h7
  | 8, _ => exact h8
  | 9, _ => exact h9
  | 10, _ => exact h10
  | 11, _ => exact h11
  | 12, _ => exact h12
  | 13, _ => exact h13
  | 14, _ => exact h14
  | 15, _ => exact h15
  | 16, _ => exact h16
  | 17, _ => exact h17
  | 18, _ => exact h18
  | 19, _ => exact h19
  | 20, _ => exact h20
  | 21, _ => exact h21
  | 22, _ => exact h22
  | 23, _ => exact h23
  | 24, _ => exact h24
  | 25, _ => exact h25
  | 26, _ => exact h26
  | 27, _ => exact h27
  | 28, _ => exact h28
  | 29, _ => exact h29
  | 30, _ => exact h30
  | 31, _ => exact h31
  | n + 32, h => exact absurd h (by omega)
theorem get64 (w : World) (os : OsState) (z : Nat → Obj) (g : Array GenState) (i : Nat) (o : Obj) (t : Nat) : (Y w os z g i o t).tree.get 64 = some (o64v0 w.params) := by kernel_rfl
theorem get65 (w : World) (os : OsState) (z : Nat → Obj) (g : Array GenState) (i : Nat) (o : Obj) (t : Nat) : (Y w os z g i o t).tree.get 65 = some o := by kernel_rfl
theorem put65 (w : World) (os : OsState) (z : Nat → Obj) (g : Array GenState) (i : Nat) (o : Obj) (t : Nat) (o' : Obj) : put (tick (Y w os z g i o t)) 65 o' = Y w os z g i o' (t + 1) := by kernel_rfl
theorem nY (w : World) (os : OsState) (z : Nat → Obj) (g : Array GenState) (i : Nat) (o : Obj) (t : Nat) : (Y w os z g i o t).n = 66 := by kernel_rfl
noncomputable def rng (P : Params) : Nat → List (Int × Value)
  | 0 => []
  | n + 1 => (PyData.keyHash P ⟨#[n]⟩, .str ⟨#[n]⟩ (260 + 4 * n)) :: rng P n
theorem rng_mem {P : Params} {e : Int × Value} : ∀ {n : Nat}, e ∈ rng P n → ∃ k, k < n ∧ e = (PyData.keyHash P ⟨#[k]⟩, .str ⟨#[k]⟩ (260 + 4 * k))
  | n + 1, h => by
    rcases List.mem_cons.mp h with h | h
    · exact ⟨n, by omega, h⟩
    · obtain ⟨k, hk, e⟩ := rng_mem h; exact ⟨k, by omega, e⟩
theorem rng_length {P : Params} : ∀ {n : Nat}, (rng P n).length = n
  | 0 => rfl
  | _ + 1 => congrArg (· + 1) rng_length
theorem fillG (w : World) (os : OsState) (z : Nat → Obj) (led : Bool) : ∀ n, n ≤ 32 →
    ∃ es ep t, GoodS (rng w.params n) es t ∧ Go w (Y w os z (Gn w os z 0) 0 (mkS #[] 0 (.fresh 0 0 led)) 258) (TL (cFill 65 64) l65 (f165 w os z :: f265 w os z :: fB65 w os z)) (Y w os z (Gn w os z n) n (mkS es ep t) (258 + 4 * n)) (TL (cFill 65 64) l65 (f165 w os z :: f265 w os z :: fB65 w os z))
  | 0, _ => ⟨#[], 0, .fresh 0 0 led, ⟨List.Perm.refl _, rfl⟩, Go.refl⟩
  | n + 1, hn => by
    obtain ⟨es, ep, t, g, G⟩ := fillG w os z led n (by omega)
    have hnew : ∀ e ∈ rng w.params n, e.2.isStr ⟨#[n]⟩ = false := by
      intro e he
      obtain ⟨k, hk, rfl⟩ := rng_mem he
      show ((⟨#[k]⟩ : Str) == ⟨#[n]⟩) = false
      rw [beq_eq_false_iff_ne]
      intro q
      have := congrArg (fun y : Str => y.cps.getD 0 0) q
      simp at this
      omega
    have hS : Strs (rng w.params n) := ⟨fun e he => by obtain ⟨k, _, rfl⟩ := rng_mem he; exact ⟨_, _, rfl⟩, by rw [rng_length]; omega⟩
    have hat : AtS (Y w os z (Gn w os z (n + 1)) (n + 1) (mkS es ep t) (258 + 4 * n + 3)) 65 es ep t := ⟨by rw [nY]; decide, get65 _ _ _ _ _ _ _⟩
    obtain ⟨es', ep', t', g', e⟩ := run_setAdd (w := w) (x := ⟨#[n]⟩) (tk := 260 + 4 * n) hat g (by decide) hS hnew
    refine ⟨es', ep', t', g', G.trans ?_⟩
    have eL : denote treeTable (cFill 65 64) = (pyNext (.ref 64)).bind (fun r => match r with
      | some x => (holding [x] (setAdd 65 x)).bind fun _ => again (cFill 65 64)
      | _ => ret .none) := by
      rw [den_fill]; unfold Builtin.«set.update.loop»; rfl
    have G1' := PG.go (w := w) (K := fun r => match r with
      | some x => (holding [x] (setAdd 65 x)).bind fun _ => again (cFill 65 64)
      | _ => ret .none) (s := Y w os z (Gn w os z n) n (mkS es ep t) (258 + 4 * n)) (s' := Y w os z (Gn w os z (n + 1)) (n + 1) (mkS es ep t) (258 + 4 * n + 3)) (v := .str ⟨#[n]⟩ (260 + 4 * n)) (p := l65) (f1 := f165 w os z) (f2 := f265 w os z) (B := fB65 w os z) (by rw [nY]; decide) (get64 _ _ _ _ _ _ _) rfl
      (fun k h g l kept => upTo_go (turn_at w os z k h g l kept _ n (by omega))) _ _ (pyNext_PG w _)
    rw [← eL] at G1'
    refine G1'.trans ?_
    have e2 : tRun (SW w) (holding [Value.str ⟨#[n]⟩ (260 + 4 * n)] (setAdd 65 (.str ⟨#[n]⟩ (260 + 4 * n)))) (Y w os z (Gn w os z (n + 1)) (n + 1) (mkS es ep t) (258 + 4 * n + 3)) = some (true, Y w os z (Gn w os z (n + 1)) (n + 1) (mkS es' ep' t') (258 + 4 * (n + 1))) := by
      rw [tRun_holding, e, put65, show 258 + 4 * (n + 1) = 258 + 4 * n + 3 + 1 by omega]
    exact (tRun_go (w := w) (K := fun _ => again (cFill 65 64)) (code := cFill 65 64) (pos := l65) (f1 := f165 w os z) (f2 := f265 w os z) (B := fB65 w os z) _ _ _ _ e2).trans (back (by decide +kernel))
end
end Mine
end
section
open PySem PySem.W PyProof.Rows PySem.Calls PySem.Builtin
set_option maxRecDepth 100000
set_option maxHeartbeats 0
namespace Mine
noncomputable section

theorem Fm70 (w : World) (os : OsState) (z : Nat → Obj) : Fam (X70 w os z) 70 71 where
  ha := by decide
  hi := by decide
  na := fun o p t => Nat.le_of_ble_eq_true (by kernel_rfl)
  ni := fun o p t => Nat.le_of_ble_eq_true (by kernel_rfl)
  ga := fun o p t => by kernel_rfl
  gi := fun o p t => by kernel_rfl
  pa := fun o p t o' => by kernel_rfl
  pi := fun o p t p' => by kernel_rfl
  tk := fun o p t => by kernel_rfl
  tt := fun o p t => by kernel_rfl
theorem A65 (w : World) (os : OsState) (z : Nat → Obj) : upTo w (inB "set.update.loop") 300 (S4 w os z) P65 = some (Y w os z (G0 w os z) 0 (em w) 258, TL (cFill 65 64) l65 (f165 w os z :: f265 w os z :: fB65 w os z)) := (Prod.mk.inj (all5 w os z #[] 0 (.fresh 0 0 true) #[] 0 (.fresh 0 0 true) (.mk .none .none (.fields #[]) #[]) (fun _ => .pure (.done (.ret .none))) none false [] [] (.mk .none .none (.fields #[]) #[])).1).1
theorem A70 (w : World) (os : OsState) (z : Nat → Obj) (e0 : Array (Int × Value)) (p0 : Nat) (t0 : SetTable) : R70 w os z (mkS e0 p0 t0) = some (X70 w os (zG w.params z (mkS e0 p0 t0)) (em w) (sD (itD (.str T70 387) 0)) 388, TL (cFill 70 71) l70 (f170 w os z (mkS e0 p0 t0) :: f270 w os z (mkS e0 p0 t0) :: fB70 w os z (mkS e0 p0 t0))) := (Prod.mk.inj (Prod.mk.inj (all5 w os z e0 p0 t0 #[] 0 (.fresh 0 0 true) (.mk .none .none (.fields #[]) #[]) (fun _ => .pure (.done (.ret .none))) none false [] [] (.mk .none .none (.fields #[]) #[])).1).2).1
theorem C5 (w : World) (os : OsState) (z : Nat → Obj) (e0 : Array (Int × Value)) (p0 : Nat) (t0 : SetTable) (es : Array (Int × Value)) (ep : Nat) (t : SetTable) : upTo w (inB "frozenset.__or__") 300 (X70 w os (zG w.params z (mkS e0 p0 t0)) (mkS es ep t) (sD (itD (.str T70 387) 1)) (388 + 2 * 1)) (TL (cFill 70 71) l70 (f170 w os z (mkS e0 p0 t0) :: f270 w os z (mkS e0 p0 t0) :: fB70 w os z (mkS e0 p0 t0))) = some (S5O2 w os (zset (zset (zG w.params z (mkS e0 p0 t0)) 70 (mkS es ep t)) 71 (sD (itD .none 1))) 390, TL (.builtin "frozenset.__or__" ⟨[.ref 65, .ref 70], []⟩) ⟨20, 13, 20, 73⟩ (g15 w os z e0 p0 t0 es ep t :: g25 w os z e0 p0 t0 es ep t :: gB5 w os z e0 p0 t0 es ep t)) := (Prod.mk.inj (Prod.mk.inj (Prod.mk.inj (all5 w os z e0 p0 t0 es ep t (.mk .none .none (.fields #[]) #[]) (fun _ => .pure (.done (.ret .none))) none false [] [] (.mk .none .none (.fields #[]) #[])).1).2).2).1
theorem D5 (w : World) (os : OsState) (z : Nat → Obj) (e0 : Array (Int × Value)) (p0 : Nat) (t0 : SetTable) (es : Array (Int × Value)) (ep : Nat) (t : SetTable) (o : Obj) : Ends w (S5P3 w os (zset (zset (zset (zG w.params z (mkS e0 p0 t0)) 70 (mkS es ep t)) 71 (sD (itD .none 1))) 74 o) 390) ⟨.pure (.done (.ret (.ref 74))), (.builtin "frozenset.__or__" ⟨[.ref 65, .ref 70], []⟩), ⟨20, 13, 20, 73⟩, g15 w os z e0 p0 t0 es ep t :: g25 w os z e0 p0 t0 es ep t :: gB5 w os z e0 p0 t0 es ep t⟩ (S5 w os (zset (zset (zset (zG w.params z (mkS e0 p0 t0)) 70 (mkS es ep t)) 71 (sD (itD .none 1))) 74 o)) ⟨20, 0, 20, 10⟩ := ⟨300, (Prod.mk.inj (Prod.mk.inj (Prod.mk.inj (all5 w os z e0 p0 t0 es ep t o (fun _ => .pure (.done (.ret .none))) none false [] [] (.mk .none .none (.fields #[]) #[])).1).2).2).2⟩
theorem den5 : denote treeTable (.builtin "frozenset.__or__" ⟨[.ref 65, .ref 70], []⟩) = Builtin.«frozenset.__or__» ⟨[.ref 65, .ref 70], []⟩ := by kernel_rfl
theorem ins5 (w : World) (os : OsState) (z : Nat → Obj) : Ins (S5O2 w os z 390) := fun o => by kernel_rfl
theorem put5 (w : World) (os : OsState) (z : Nat → Obj) (o o' : Obj) : put (alc (S5O2 w os z 390) o) 74 o' = S5P3 w os (zset z 74 o') 390 := by kernel_rfl
theorem getA5 (w : World) (os : OsState) (z : Nat → Obj) : (S5O2 w os z 390).tree.get 65 = some (z 65) := by kernel_rfl
theorem getB5 (w : World) (os : OsState) (z : Nat → Obj) : (S5O2 w os z 390).tree.get 70 = some (z 70) := by kernel_rfl
end
end Mine
end
section
open PySem PySem.W PyProof.Rows PySem.Calls PySem.Builtin
set_option maxRecDepth 100000
set_option maxHeartbeats 0
namespace Mine
noncomputable section

/-! piece 9, the set 85 -/
noncomputable abbrev P85 : Thread := piecesOf (stL 9) env0 cd0 ⟨23, 0, 23, 25⟩ [topFrame q0]
noncomputable def T85 : Str := Str.mk [32, 9].toArray
noncomputable abbrev l85 : Pos := ⟨24, 10, 24, 26⟩
noncomputable def X85 (w : World) (os : OsState) (z : Nat → Obj) (o p : Obj) (t : Nat) : SharedT := S9L0 w os (zset (zset z 85 o) 86 p) t
noncomputable def SA85 (w : World) (os : OsState) (z : Nat → Obj) : List Frame := (thr (upTo w (inB "set.update.loop") 300 (S8 w os z) P85) P85).stack
noncomputable abbrev f185 (w : World) (os : OsState) (z : Nat → Obj) : Frame := hdF (SA85 w os z)
noncomputable abbrev f285 (w : World) (os : OsState) (z : Nat → Obj) : Frame := hdF (tlF (SA85 w os z))
noncomputable abbrev fB85 (w : World) (os : OsState) (z : Nat → Obj) : List Frame := tlF (tlF (SA85 w os z))
theorem Fm85 (w : World) (os : OsState) (z : Nat → Obj) : Fam (X85 w os z) 85 86 where
  ha := by decide
  hi := by decide
  na := fun o p t => Nat.le_of_ble_eq_true (by kernel_rfl)
  ni := fun o p t => Nat.le_of_ble_eq_true (by kernel_rfl)
  ga := fun o p t => by kernel_rfl
  gi := fun o p t => by kernel_rfl
  pa := fun o p t o' => by kernel_rfl
  pi := fun o p t p' => by kernel_rfl
  tk := fun o p t => by kernel_rfl
  tt := fun o p t => by kernel_rfl
noncomputable abbrev Q9 (w : World) (os : OsState) (z : Nat → Obj) (es : Array (Int × Value)) (ep : Nat) (t : SetTable) : Prop := (upTo w (inB "set.update.loop") 300 (S8 w os z) P85, segRunT treeTable pw w 11 ann0 1 400 (X85 w os z (mkS es ep t) (sD (itD (.str T85 402) 2)) (403 + 2 * 2)) (TL (cFill 85 86) l85 (f185 w os z :: f285 w os z :: fB85 w os z))) = (some (X85 w os z (em w) (sD (itD (.str T85 402) 0)) 403, TL (cFill 85 86) l85 (f185 w os z :: f285 w os z :: fB85 w os z)), some (.next, (S9 w os (zset (zset z 85 (mkS es ep t)) 86 (sD (itD .none 2)))), cd0, ⟨24, 0, 24, 7⟩))

/-! piece 16, the set 94 -/
noncomputable abbrev P94 : Thread := piecesOf (stL 16) env0 cd0 ⟨30, 0, 30, 9⟩ [topFrame q0]
noncomputable def T94 : Str := Str.mk [97, 98, 99, 100, 101, 102, 103, 104, 105, 106, 107, 108, 109, 110, 111, 112, 113, 114, 115, 116, 117, 118, 119, 120, 121, 122, 65, 66, 67, 68, 69, 70, 71, 72, 73, 74, 75, 76, 77, 78, 79, 80, 81, 82, 83, 84, 85, 86, 87, 88, 89, 90, 48, 49, 50, 51, 52, 53, 54, 55, 56, 57, 45, 95].toArray
noncomputable abbrev l94 : Pos := ⟨31, 17, 31, 57⟩
noncomputable def X94 (w : World) (os : OsState) (z : Nat → Obj) (o p : Obj) (t : Nat) : SharedT := S16L0 w os (zset (zset z 94 o) 95 p) t
noncomputable def SA94 (w : World) (os : OsState) (z : Nat → Obj) : List Frame := (thr (upTo w (inB "set.update.loop") 300 (S15 w os z) P94) P94).stack
noncomputable abbrev f194 (w : World) (os : OsState) (z : Nat → Obj) : Frame := hdF (SA94 w os z)
noncomputable abbrev f294 (w : World) (os : OsState) (z : Nat → Obj) : Frame := hdF (tlF (SA94 w os z))
noncomputable abbrev fB94 (w : World) (os : OsState) (z : Nat → Obj) : List Frame := tlF (tlF (SA94 w os z))
theorem Fm94 (w : World) (os : OsState) (z : Nat → Obj) : Fam (X94 w os z) 94 95 where
  ha := by decide
  hi := by decide
  na := fun o p t => Nat.le_of_ble_eq_true (by kernel_rfl)
  ni := fun o p t => Nat.le_of_ble_eq_true (by kernel_rfl)
  ga := fun o p t => by kernel_rfl
  gi := fun o p t => by kernel_rfl
  pa := fun o p t o' => by kernel_rfl
  pi := fun o p t p' => by kernel_rfl
  tk := fun o p t => by kernel_rfl
  tt := fun o p t => by kernel_rfl
noncomputable abbrev Q16 (w : World) (os : OsState) (z : Nat → Obj) (es : Array (Int × Value)) (ep : Nat) (t : SetTable) : Prop := (upTo w (inB "set.update.loop") 300 (S15 w os z) P94, segRunT treeTable pw w 11 ann0 1 400 (X94 w os z (mkS es ep t) (sD (itD (.str T94 427) 64)) (428 + 2 * 64)) (TL (cFill 94 95) l94 (f194 w os z :: f294 w os z :: fB94 w os z))) = (some (X94 w os z (em w) (sD (itD (.str T94 427) 0)) 428, TL (cFill 94 95) l94 (f194 w os z :: f294 w os z :: fB94 w os z)), some (.next, (S16 w os (zset (zset z 94 (mkS es ep t)) 95 (sD (itD .none 64)))), cd0, ⟨31, 0, 31, 14⟩))

/-! piece 17, the set 98 -/
noncomputable abbrev P98 : Thread := piecesOf (stL 17) env0 cd0 ⟨31, 0, 31, 14⟩ [topFrame q0]
noncomputable def T98 : Str := Str.mk [48, 49, 50, 51, 52, 53, 54, 55, 56, 57, 97, 98, 99, 100, 101, 102, 65, 66, 67, 68, 69, 70].toArray
noncomputable abbrev l98 : Pos := ⟨32, 17, 32, 37⟩
noncomputable def X98 (w : World) (os : OsState) (z : Nat → Obj) (o p : Obj) (t : Nat) : SharedT := S17L0 w os (zset (zset z 98 o) 99 p) t
noncomputable def SA98 (w : World) (os : OsState) (z : Nat → Obj) : List Frame := (thr (upTo w (inB "set.update.loop") 300 (S16 w os z) P98) P98).stack
noncomputable abbrev f198 (w : World) (os : OsState) (z : Nat → Obj) : Frame := hdF (SA98 w os z)
noncomputable abbrev f298 (w : World) (os : OsState) (z : Nat → Obj) : Frame := hdF (tlF (SA98 w os z))
noncomputable abbrev fB98 (w : World) (os : OsState) (z : Nat → Obj) : List Frame := tlF (tlF (SA98 w os z))
theorem Fm98 (w : World) (os : OsState) (z : Nat → Obj) : Fam (X98 w os z) 98 99 where
  ha := by decide
  hi := by decide
  na := fun o p t => Nat.le_of_ble_eq_true (by kernel_rfl)
  ni := fun o p t => Nat.le_of_ble_eq_true (by kernel_rfl)
  ga := fun o p t => by kernel_rfl
  gi := fun o p t => by kernel_rfl
  pa := fun o p t o' => by kernel_rfl
  pi := fun o p t p' => by kernel_rfl
  tk := fun o p t => by kernel_rfl
  tt := fun o p t => by kernel_rfl
noncomputable abbrev Q17 (w : World) (os : OsState) (z : Nat → Obj) (es : Array (Int × Value)) (ep : Nat) (t : SetTable) : Prop := (upTo w (inB "set.update.loop") 300 (S16 w os z) P98, segRunT treeTable pw w 11 ann0 1 400 (X98 w os z (mkS es ep t) (sD (itD (.str T98 423) 22)) (557 + 2 * 22)) (TL (cFill 98 99) l98 (f198 w os z :: f298 w os z :: fB98 w os z))) = (some (X98 w os z (em w) (sD (itD (.str T98 423) 0)) 557, TL (cFill 98 99) l98 (f198 w os z :: f298 w os z :: fB98 w os z)), some (.next, (S17 w os (zset (zset z 98 (mkS es ep t)) 99 (sD (itD .none 22)))), cd0, ⟨32, 0, 32, 14⟩))

/-! piece 6, the set 75 -/
noncomputable abbrev P75 : Thread := piecesOf (stL 6) env0 cd0 ⟨20, 0, 20, 10⟩ [topFrame q0]
noncomputable def T75 : Str := Str.mk [9].toArray
noncomputable abbrev l75 : Pos := ⟨21, 39, 21, 54⟩
noncomputable def X75 (w : World) (os : OsState) (z : Nat → Obj) (o p : Obj) (t : Nat) : SharedT := S6L0 w os (zset (zset z 75 o) 76 p) t
noncomputable def SA75 (w : World) (os : OsState) (z : Nat → Obj) : List Frame := (thr (upTo w (inB "set.update.loop") 300 (S5 w os z) P75) P75).stack
noncomputable abbrev f175 (w : World) (os : OsState) (z : Nat → Obj) : Frame := hdF (SA75 w os z)
noncomputable abbrev f275 (w : World) (os : OsState) (z : Nat → Obj) : Frame := hdF (tlF (SA75 w os z))
noncomputable abbrev fB75 (w : World) (os : OsState) (z : Nat → Obj) : List Frame := tlF (tlF (SA75 w os z))
theorem Fm75 (w : World) (os : OsState) (z : Nat → Obj) : Fam (X75 w os z) 75 76 where
  ha := by decide
  hi := by decide
  na := fun o p t => Nat.le_of_ble_eq_true (by kernel_rfl)
  ni := fun o p t => Nat.le_of_ble_eq_true (by kernel_rfl)
  ga := fun o p t => by kernel_rfl
  gi := fun o p t => by kernel_rfl
  pa := fun o p t o' => by kernel_rfl
  pi := fun o p t p' => by kernel_rfl
  tk := fun o p t => by kernel_rfl
  tt := fun o p t => by kernel_rfl
noncomputable def SO6 (w : World) (os : OsState) (z : Nat → Obj) (e0 : Array (Int × Value)) (p0 : Nat) (t0 : SetTable) (es : Array (Int × Value)) (ep : Nat) (t : SetTable) : List Frame := (thr (upTo w (inB "frozenset.__sub__") 300 (X75 w os (zset z 74 (mkS e0 p0 t0)) (mkS es ep t) (sD (itD (.str T75 391) 1)) (392 + 2 * 1)) (TL (cFill 75 76) l75 (f175 w os (zset z 74 (mkS e0 p0 t0)) :: f275 w os (zset z 74 (mkS e0 p0 t0)) :: fB75 w os (zset z 74 (mkS e0 p0 t0))))) P75).stack
noncomputable abbrev g16 (w : World) (os : OsState) (z : Nat → Obj) (e0 : Array (Int × Value)) (p0 : Nat) (t0 : SetTable) (es : Array (Int × Value)) (ep : Nat) (t : SetTable) : Frame := hdF (SO6 w os z e0 p0 t0 es ep t)
noncomputable abbrev g26 (w : World) (os : OsState) (z : Nat → Obj) (e0 : Array (Int × Value)) (p0 : Nat) (t0 : SetTable) (es : Array (Int × Value)) (ep : Nat) (t : SetTable) : Frame := hdF (tlF (SO6 w os z e0 p0 t0 es ep t))
noncomputable abbrev gB6 (w : World) (os : OsState) (z : Nat → Obj) (e0 : Array (Int × Value)) (p0 : Nat) (t0 : SetTable) (es : Array (Int × Value)) (ep : Nat) (t : SetTable) : List Frame := tlF (tlF (SO6 w os z e0 p0 t0 es ep t))
noncomputable abbrev Q6 (w : World) (os : OsState) (z : Nat → Obj) (e0 : Array (Int × Value)) (p0 : Nat) (t0 : SetTable) (es : Array (Int × Value)) (ep : Nat) (t : SetTable) (o : Obj) : Prop := (upTo w (inB "set.update.loop") 300 (S5 w os (zset z 74 (mkS e0 p0 t0))) P75, upTo w (inB "frozenset.__sub__") 300 (X75 w os (zset z 74 (mkS e0 p0 t0)) (mkS es ep t) (sD (itD (.str T75 391) 1)) (392 + 2 * 1)) (TL (cFill 75 76) l75 (f175 w os (zset z 74 (mkS e0 p0 t0)) :: f275 w os (zset z 74 (mkS e0 p0 t0)) :: fB75 w os (zset z 74 (mkS e0 p0 t0)))), segRunT treeTable pw w 11 ann0 1 300 (S6P2 w os (zset (zset (zset (zset z 74 (mkS e0 p0 t0)) 75 (mkS es ep t)) 76 (sD (itD .none 1))) 79 o) 394) ⟨.pure (.done (.ret (.ref 79))), (.builtin "frozenset.__sub__" ⟨[.ref 74, .ref 75], []⟩), ⟨21, 26, 21, 54⟩, g16 w os z e0 p0 t0 es ep t :: g26 w os z e0 p0 t0 es ep t :: gB6 w os z e0 p0 t0 es ep t⟩) = (some (X75 w os (zset z 74 (mkS e0 p0 t0)) (em w) (sD (itD (.str T75 391) 0)) 392, TL (cFill 75 76) l75 (f175 w os (zset z 74 (mkS e0 p0 t0)) :: f275 w os (zset z 74 (mkS e0 p0 t0)) :: fB75 w os (zset z 74 (mkS e0 p0 t0)))), some (S6O1 w os (zset (zset (zset z 74 (mkS e0 p0 t0)) 75 (mkS es ep t)) 76 (sD (itD .none 1))) 394, TL (.builtin "frozenset.__sub__" ⟨[.ref 74, .ref 75], []⟩) ⟨21, 26, 21, 54⟩ (g16 w os z e0 p0 t0 es ep t :: g26 w os z e0 p0 t0 es ep t :: gB6 w os z e0 p0 t0 es ep t)), some (.next, S6 w os (zset (zset (zset (zset z 74 (mkS e0 p0 t0)) 75 (mkS es ep t)) 76 (sD (itD .none 1))) 79 o), cd0, ⟨21, 0, 21, 23⟩))

/-! piece 7, the set 80 -/
noncomputable abbrev P80 : Thread := piecesOf (stL 7) env0 cd0 ⟨21, 0, 21, 23⟩ [topFrame q0]
noncomputable def T80 : Str := Str.mk [9, 10].toArray
noncomputable abbrev l80 : Pos := ⟨22, 49, 22, 66⟩
noncomputable def X80 (w : World) (os : OsState) (z : Nat → Obj) (o p : Obj) (t : Nat) : SharedT := S7L0 w os (zset (zset z 80 o) 81 p) t
noncomputable def SA80 (w : World) (os : OsState) (z : Nat → Obj) : List Frame := (thr (upTo w (inB "set.update.loop") 300 (S6 w os z) P80) P80).stack
noncomputable abbrev f180 (w : World) (os : OsState) (z : Nat → Obj) : Frame := hdF (SA80 w os z)
noncomputable abbrev f280 (w : World) (os : OsState) (z : Nat → Obj) : Frame := hdF (tlF (SA80 w os z))
noncomputable abbrev fB80 (w : World) (os : OsState) (z : Nat → Obj) : List Frame := tlF (tlF (SA80 w os z))
theorem Fm80 (w : World) (os : OsState) (z : Nat → Obj) : Fam (X80 w os z) 80 81 where
  ha := by decide
  hi := by decide
  na := fun o p t => Nat.le_of_ble_eq_true (by kernel_rfl)
  ni := fun o p t => Nat.le_of_ble_eq_true (by kernel_rfl)
  ga := fun o p t => by kernel_rfl
  gi := fun o p t => by kernel_rfl
  pa := fun o p t o' => by kernel_rfl
  pi := fun o p t p' => by kernel_rfl
  tk := fun o p t => by kernel_rfl
  tt := fun o p t => by kernel_rfl
noncomputable def SO7 (w : World) (os : OsState) (z : Nat → Obj) (e0 : Array (Int × Value)) (p0 : Nat) (t0 : SetTable) (es : Array (Int × Value)) (ep : Nat) (t : SetTable) : List Frame := (thr (upTo w (inB "frozenset.__sub__") 300 (X80 w os (zset z 74 (mkS e0 p0 t0)) (mkS es ep t) (sD (itD (.str T80 395) 2)) (396 + 2 * 2)) (TL (cFill 80 81) l80 (f180 w os (zset z 74 (mkS e0 p0 t0)) :: f280 w os (zset z 74 (mkS e0 p0 t0)) :: fB80 w os (zset z 74 (mkS e0 p0 t0))))) P80).stack
noncomputable abbrev g17 (w : World) (os : OsState) (z : Nat → Obj) (e0 : Array (Int × Value)) (p0 : Nat) (t0 : SetTable) (es : Array (Int × Value)) (ep : Nat) (t : SetTable) : Frame := hdF (SO7 w os z e0 p0 t0 es ep t)
noncomputable abbrev g27 (w : World) (os : OsState) (z : Nat → Obj) (e0 : Array (Int × Value)) (p0 : Nat) (t0 : SetTable) (es : Array (Int × Value)) (ep : Nat) (t : SetTable) : Frame := hdF (tlF (SO7 w os z e0 p0 t0 es ep t))
noncomputable abbrev gB7 (w : World) (os : OsState) (z : Nat → Obj) (e0 : Array (Int × Value)) (p0 : Nat) (t0 : SetTable) (es : Array (Int × Value)) (ep : Nat) (t : SetTable) : List Frame := tlF (tlF (SO7 w os z e0 p0 t0 es ep t))
noncomputable abbrev Q7 (w : World) (os : OsState) (z : Nat → Obj) (e0 : Array (Int × Value)) (p0 : Nat) (t0 : SetTable) (es : Array (Int × Value)) (ep : Nat) (t : SetTable) (o : Obj) : Prop := (upTo w (inB "set.update.loop") 300 (S6 w os (zset z 74 (mkS e0 p0 t0))) P80, upTo w (inB "frozenset.__sub__") 300 (X80 w os (zset z 74 (mkS e0 p0 t0)) (mkS es ep t) (sD (itD (.str T80 395) 2)) (396 + 2 * 2)) (TL (cFill 80 81) l80 (f180 w os (zset z 74 (mkS e0 p0 t0)) :: f280 w os (zset z 74 (mkS e0 p0 t0)) :: fB80 w os (zset z 74 (mkS e0 p0 t0)))), segRunT treeTable pw w 11 ann0 1 300 (S7P2 w os (zset (zset (zset (zset z 74 (mkS e0 p0 t0)) 80 (mkS es ep t)) 81 (sD (itD .none 2))) 84 o) 400) ⟨.pure (.done (.ret (.ref 84))), (.builtin "frozenset.__sub__" ⟨[.ref 74, .ref 80], []⟩), ⟨22, 36, 22, 66⟩, g17 w os z e0 p0 t0 es ep t :: g27 w os z e0 p0 t0 es ep t :: gB7 w os z e0 p0 t0 es ep t⟩) = (some (X80 w os (zset z 74 (mkS e0 p0 t0)) (em w) (sD (itD (.str T80 395) 0)) 396, TL (cFill 80 81) l80 (f180 w os (zset z 74 (mkS e0 p0 t0)) :: f280 w os (zset z 74 (mkS e0 p0 t0)) :: fB80 w os (zset z 74 (mkS e0 p0 t0)))), some (S7O1 w os (zset (zset (zset z 74 (mkS e0 p0 t0)) 80 (mkS es ep t)) 81 (sD (itD .none 2))) 400, TL (.builtin "frozenset.__sub__" ⟨[.ref 74, .ref 80], []⟩) ⟨22, 36, 22, 66⟩ (g17 w os z e0 p0 t0 es ep t :: g27 w os z e0 p0 t0 es ep t :: gB7 w os z e0 p0 t0 es ep t)), some (.next, S7 w os (zset (zset (zset (zset z 74 (mkS e0 p0 t0)) 80 (mkS es ep t)) 81 (sD (itD .none 2))) 84 o), cd0, ⟨22, 0, 22, 33⟩))

/-! piece 10, the set 89 -/
noncomputable abbrev P89 : Thread := piecesOf (stL 10) env0 cd0 ⟨24, 0, 24, 7⟩ [topFrame q0]
noncomputable def T89 : Str := Str.mk [10].toArray
noncomputable abbrev l89 : Pos := ⟨25, 32, 25, 47⟩
noncomputable def X89 (w : World) (os : OsState) (z : Nat → Obj) (o p : Obj) (t : Nat) : SharedT := S10L0 w os (zset (zset z 89 o) 90 p) t
noncomputable def SA89 (w : World) (os : OsState) (z : Nat → Obj) : List Frame := (thr (upTo w (inB "set.update.loop") 300 (S9 w os z) P89) P89).stack
noncomputable abbrev f189 (w : World) (os : OsState) (z : Nat → Obj) : Frame := hdF (SA89 w os z)
noncomputable abbrev f289 (w : World) (os : OsState) (z : Nat → Obj) : Frame := hdF (tlF (SA89 w os z))
noncomputable abbrev fB89 (w : World) (os : OsState) (z : Nat → Obj) : List Frame := tlF (tlF (SA89 w os z))
theorem Fm89 (w : World) (os : OsState) (z : Nat → Obj) : Fam (X89 w os z) 89 90 where
  ha := by decide
  hi := by decide
  na := fun o p t => Nat.le_of_ble_eq_true (by kernel_rfl)
  ni := fun o p t => Nat.le_of_ble_eq_true (by kernel_rfl)
  ga := fun o p t => by kernel_rfl
  gi := fun o p t => by kernel_rfl
  pa := fun o p t o' => by kernel_rfl
  pi := fun o p t p' => by kernel_rfl
  tk := fun o p t => by kernel_rfl
  tt := fun o p t => by kernel_rfl
noncomputable def SO10 (w : World) (os : OsState) (z : Nat → Obj) (e0 : Array (Int × Value)) (p0 : Nat) (t0 : SetTable) (es : Array (Int × Value)) (ep : Nat) (t : SetTable) : List Frame := (thr (upTo w (inB "frozenset.__or__") 300 (X89 w os (zset z 85 (mkS e0 p0 t0)) (mkS es ep t) (sD (itD (.str T89 408) 1)) (409 + 2 * 1)) (TL (cFill 89 90) l89 (f189 w os (zset z 85 (mkS e0 p0 t0)) :: f289 w os (zset z 85 (mkS e0 p0 t0)) :: fB89 w os (zset z 85 (mkS e0 p0 t0))))) P89).stack
noncomputable abbrev g110 (w : World) (os : OsState) (z : Nat → Obj) (e0 : Array (Int × Value)) (p0 : Nat) (t0 : SetTable) (es : Array (Int × Value)) (ep : Nat) (t : SetTable) : Frame := hdF (SO10 w os z e0 p0 t0 es ep t)
noncomputable abbrev g210 (w : World) (os : OsState) (z : Nat → Obj) (e0 : Array (Int × Value)) (p0 : Nat) (t0 : SetTable) (es : Array (Int × Value)) (ep : Nat) (t : SetTable) : Frame := hdF (tlF (SO10 w os z e0 p0 t0 es ep t))
noncomputable abbrev gB10 (w : World) (os : OsState) (z : Nat → Obj) (e0 : Array (Int × Value)) (p0 : Nat) (t0 : SetTable) (es : Array (Int × Value)) (ep : Nat) (t : SetTable) : List Frame := tlF (tlF (SO10 w os z e0 p0 t0 es ep t))
noncomputable abbrev Q10 (w : World) (os : OsState) (z : Nat → Obj) (e0 : Array (Int × Value)) (p0 : Nat) (t0 : SetTable) (es : Array (Int × Value)) (ep : Nat) (t : SetTable) (o : Obj) : Prop := (upTo w (inB "set.update.loop") 300 (S9 w os (zset z 85 (mkS e0 p0 t0))) P89, upTo w (inB "frozenset.__or__") 300 (X89 w os (zset z 85 (mkS e0 p0 t0)) (mkS es ep t) (sD (itD (.str T89 408) 1)) (409 + 2 * 1)) (TL (cFill 89 90) l89 (f189 w os (zset z 85 (mkS e0 p0 t0)) :: f289 w os (zset z 85 (mkS e0 p0 t0)) :: fB89 w os (zset z 85 (mkS e0 p0 t0)))), segRunT treeTable pw w 11 ann0 1 300 (S10P2 w os (zset (zset (zset (zset z 85 (mkS e0 p0 t0)) 89 (mkS es ep t)) 90 (sD (itD .none 1))) 93 o) 411) ⟨.pure (.done (.ret (.ref 93))), (.builtin "frozenset.__or__" ⟨[.ref 85, .ref 89], []⟩), ⟨25, 22, 25, 47⟩, g110 w os z e0 p0 t0 es ep t :: g210 w os z e0 p0 t0 es ep t :: gB10 w os z e0 p0 t0 es ep t⟩) = (some (X89 w os (zset z 85 (mkS e0 p0 t0)) (em w) (sD (itD (.str T89 408) 0)) 409, TL (cFill 89 90) l89 (f189 w os (zset z 85 (mkS e0 p0 t0)) :: f289 w os (zset z 85 (mkS e0 p0 t0)) :: fB89 w os (zset z 85 (mkS e0 p0 t0)))), some (S10O1 w os (zset (zset (zset z 85 (mkS e0 p0 t0)) 89 (mkS es ep t)) 90 (sD (itD .none 1))) 411, TL (.builtin "frozenset.__or__" ⟨[.ref 85, .ref 89], []⟩) ⟨25, 22, 25, 47⟩ (g110 w os z e0 p0 t0 es ep t :: g210 w os z e0 p0 t0 es ep t :: gB10 w os z e0 p0 t0 es ep t)), some (.next, S10 w os (zset (zset (zset (zset z 85 (mkS e0 p0 t0)) 89 (mkS es ep t)) 90 (sD (itD .none 1))) 93 o), cd0, ⟨25, 0, 25, 19⟩))
theorem sets (w : World) (os : OsState) (z : Nat → Obj) (e0 : Array (Int × Value)) (p0 : Nat) (t0 : SetTable) (es : Array (Int × Value)) (ep : Nat) (t : SetTable) (o : Obj) : Q9 w os z es ep t ∧ Q16 w os z es ep t ∧ Q17 w os z es ep t ∧ Q6 w os z e0 p0 t0 es ep t o ∧ Q7 w os z e0 p0 t0 es ep t o ∧ Q10 w os z e0 p0 t0 es ep t o :=
  byRow2 "special-get-raises" (P := fun w => Q9 w os z es ep t ∧ Q16 w os z es ep t ∧ Q17 w os z es ep t ∧ Q6 w os z e0 p0 t0 es ep t o ∧ Q7 w os z e0 p0 t0 es ep t o ∧ Q10 w os z e0 p0 t0 es ep t o) (fun w => ⟨by kernel_rfl, by kernel_rfl, by kernel_rfl, by kernel_rfl, by kernel_rfl, by kernel_rfl⟩) (fun w => ⟨by kernel_rfl, by kernel_rfl, by kernel_rfl, by kernel_rfl, by kernel_rfl, by kernel_rfl⟩) w
theorem AE85 (w : World) (os : OsState) (z : Nat → Obj) (es ep t) : Q9 w os z es ep t := (sets w os z #[] 0 (.fresh 0 0 true) es ep t (.mk .none .none (.fields #[]) #[])).1
theorem F85 (w : World) (os : OsState) (z : Nat → Obj) : ∃ es ep t, GoodS (chars w.params T85 403 2) es t ∧ Go w (S8 w os z) P85 (X85 w os z (mkS es ep t) (sD (itD (.str T85 402) 2)) (403 + 2 * 2)) (TL (cFill 85 86) l85 (f185 w os z :: f285 w os z :: fB85 w os z)) := by
  obtain ⟨es, ep, t, g, G⟩ := fill (w := w) (Fm85 w os z) (x := T85) (u := 402) (tk := 403) (pL := l85) (f1 := f185 w os z) (f2 := f285 w os z) (B := fB85 w os z) (by decide +kernel) (by kernel_rfl) (!(w.params.followText "set-order")) 2 (by decide +kernel)
  exact ⟨es, ep, t, g, (upTo_go (Prod.mk.inj (AE85 w os z #[] 0 (.fresh 0 0 true))).1).trans G⟩
theorem pc9 (w : World) (os : OsState) (z : Nat → Obj) : ∃ es ep t, GoodS (chars w.params T85 403 2) es t ∧ Ends w (S8 w os z) P85 (S9 w os (zset (zset z 85 (mkS es ep t)) 86 (sD (itD .none 2)))) ⟨24, 0, 24, 7⟩ := by
  obtain ⟨es, ep, t, g, G⟩ := F85 w os z
  exact ⟨es, ep, t, g, G.ends ⟨400, (Prod.mk.inj (AE85 w os z es ep t)).2⟩⟩
theorem AE94 (w : World) (os : OsState) (z : Nat → Obj) (es ep t) : Q16 w os z es ep t := (sets w os z #[] 0 (.fresh 0 0 true) es ep t (.mk .none .none (.fields #[]) #[])).2.1
theorem F94 (w : World) (os : OsState) (z : Nat → Obj) : ∃ es ep t, GoodS (chars w.params T94 428 64) es t ∧ Go w (S15 w os z) P94 (X94 w os z (mkS es ep t) (sD (itD (.str T94 427) 64)) (428 + 2 * 64)) (TL (cFill 94 95) l94 (f194 w os z :: f294 w os z :: fB94 w os z)) := by
  obtain ⟨es, ep, t, g, G⟩ := fill (w := w) (Fm94 w os z) (x := T94) (u := 427) (tk := 428) (pL := l94) (f1 := f194 w os z) (f2 := f294 w os z) (B := fB94 w os z) (by decide +kernel) (by kernel_rfl) (!(w.params.followText "set-order")) 64 (by decide +kernel)
  exact ⟨es, ep, t, g, (upTo_go (Prod.mk.inj (AE94 w os z #[] 0 (.fresh 0 0 true))).1).trans G⟩
theorem pc16 (w : World) (os : OsState) (z : Nat → Obj) : ∃ es ep t, GoodS (chars w.params T94 428 64) es t ∧ Ends w (S15 w os z) P94 (S16 w os (zset (zset z 94 (mkS es ep t)) 95 (sD (itD .none 64)))) ⟨31, 0, 31, 14⟩ := by
  obtain ⟨es, ep, t, g, G⟩ := F94 w os z
  exact ⟨es, ep, t, g, G.ends ⟨400, (Prod.mk.inj (AE94 w os z es ep t)).2⟩⟩
theorem AE98 (w : World) (os : OsState) (z : Nat → Obj) (es ep t) : Q17 w os z es ep t := (sets w os z #[] 0 (.fresh 0 0 true) es ep t (.mk .none .none (.fields #[]) #[])).2.2.1
theorem F98 (w : World) (os : OsState) (z : Nat → Obj) : ∃ es ep t, GoodS (chars w.params T98 557 22) es t ∧ Go w (S16 w os z) P98 (X98 w os z (mkS es ep t) (sD (itD (.str T98 423) 22)) (557 + 2 * 22)) (TL (cFill 98 99) l98 (f198 w os z :: f298 w os z :: fB98 w os z)) := by
  obtain ⟨es, ep, t, g, G⟩ := fill (w := w) (Fm98 w os z) (x := T98) (u := 423) (tk := 557) (pL := l98) (f1 := f198 w os z) (f2 := f298 w os z) (B := fB98 w os z) (by decide +kernel) (by kernel_rfl) (!(w.params.followText "set-order")) 22 (by decide +kernel)
  exact ⟨es, ep, t, g, (upTo_go (Prod.mk.inj (AE98 w os z #[] 0 (.fresh 0 0 true))).1).trans G⟩
theorem pc17 (w : World) (os : OsState) (z : Nat → Obj) : ∃ es ep t, GoodS (chars w.params T98 557 22) es t ∧ Ends w (S16 w os z) P98 (S17 w os (zset (zset z 98 (mkS es ep t)) 99 (sD (itD .none 22)))) ⟨32, 0, 32, 14⟩ := by
  obtain ⟨es, ep, t, g, G⟩ := F98 w os z
  exact ⟨es, ep, t, g, G.ends ⟨400, (Prod.mk.inj (AE98 w os z es ep t)).2⟩⟩
theorem ACD6 (w : World) (os : OsState) (z : Nat → Obj) (e0 : Array (Int × Value)) (p0 : Nat) (t0 : SetTable) (es : Array (Int × Value)) (ep : Nat) (t : SetTable) (o : Obj) : Q6 w os z e0 p0 t0 es ep t o := (sets w os z e0 p0 t0 es ep t o).2.2.2.1
theorem C6 (w : World) (os : OsState) (z : Nat → Obj) (e0 : Array (Int × Value)) (p0 : Nat) (t0 : SetTable) (es : Array (Int × Value)) (ep : Nat) (t : SetTable) : upTo w (inB "frozenset.__sub__") 300 (X75 w os (zset z 74 (mkS e0 p0 t0)) (mkS es ep t) (sD (itD (.str T75 391) 1)) (392 + 2 * 1)) (TL (cFill 75 76) l75 (f175 w os (zset z 74 (mkS e0 p0 t0)) :: f275 w os (zset z 74 (mkS e0 p0 t0)) :: fB75 w os (zset z 74 (mkS e0 p0 t0)))) = some (S6O1 w os (zset (zset (zset z 74 (mkS e0 p0 t0)) 75 (mkS es ep t)) 76 (sD (itD .none 1))) 394, TL (.builtin "frozenset.__sub__" ⟨[.ref 74, .ref 75], []⟩) ⟨21, 26, 21, 54⟩ (g16 w os z e0 p0 t0 es ep t :: g26 w os z e0 p0 t0 es ep t :: gB6 w os z e0 p0 t0 es ep t)) := (Prod.mk.inj (Prod.mk.inj (ACD6 w os z e0 p0 t0 es ep t (.mk .none .none (.fields #[]) #[]))).2).1
theorem D6 (w : World) (os : OsState) (z : Nat → Obj) (e0 : Array (Int × Value)) (p0 : Nat) (t0 : SetTable) (es : Array (Int × Value)) (ep : Nat) (t : SetTable) (o : Obj) : Ends w (S6P2 w os (zset (zset (zset (zset z 74 (mkS e0 p0 t0)) 75 (mkS es ep t)) 76 (sD (itD .none 1))) 79 o) 394) ⟨.pure (.done (.ret (.ref 79))), (.builtin "frozenset.__sub__" ⟨[.ref 74, .ref 75], []⟩), ⟨21, 26, 21, 54⟩, g16 w os z e0 p0 t0 es ep t :: g26 w os z e0 p0 t0 es ep t :: gB6 w os z e0 p0 t0 es ep t⟩ (S6 w os (zset (zset (zset (zset z 74 (mkS e0 p0 t0)) 75 (mkS es ep t)) 76 (sD (itD .none 1))) 79 o)) ⟨21, 0, 21, 23⟩ :=
  ⟨300, (Prod.mk.inj (Prod.mk.inj (ACD6 w os z e0 p0 t0 es ep t o)).2).2⟩
theorem den6 : denote treeTable (.builtin "frozenset.__sub__" ⟨[.ref 74, .ref 75], []⟩) = Builtin.«frozenset.__sub__» ⟨[.ref 74, .ref 75], []⟩ := by kernel_rfl
theorem ins6 (w : World) (os : OsState) (z : Nat → Obj) : Ins (S6O1 w os z 394) := fun o => by kernel_rfl
theorem put6 (w : World) (os : OsState) (z : Nat → Obj) (o o' : Obj) : put (alc (S6O1 w os z 394) o) 79 o' = S6P2 w os (zset z 79 o') 394 := by kernel_rfl
theorem getA6 (w : World) (os : OsState) (z : Nat → Obj) : (S6O1 w os z 394).tree.get 74 = some (z 74) := by kernel_rfl
theorem getB6 (w : World) (os : OsState) (z : Nat → Obj) : (S6O1 w os z 394).tree.get 75 = some (z 75) := by kernel_rfl
theorem F75 (w : World) (os : OsState) (z : Nat → Obj) (e0 : Array (Int × Value)) (p0 : Nat) (t0 : SetTable) : ∃ es ep t, GoodS (chars w.params T75 392 1) es t ∧ Go w (S5 w os (zset z 74 (mkS e0 p0 t0))) P75 (X75 w os (zset z 74 (mkS e0 p0 t0)) (mkS es ep t) (sD (itD (.str T75 391) 1)) (392 + 2 * 1)) (TL (cFill 75 76) l75 (f175 w os (zset z 74 (mkS e0 p0 t0)) :: f275 w os (zset z 74 (mkS e0 p0 t0)) :: fB75 w os (zset z 74 (mkS e0 p0 t0)))) := by
  obtain ⟨es, ep, t, g, G⟩ := fill (w := w) (Fm75 w os (zset z 74 (mkS e0 p0 t0))) (x := T75) (u := 391) (tk := 392) (pL := l75) (f1 := f175 w os (zset z 74 (mkS e0 p0 t0))) (f2 := f275 w os (zset z 74 (mkS e0 p0 t0))) (B := fB75 w os (zset z 74 (mkS e0 p0 t0))) (by decide +kernel) (by kernel_rfl) (!(w.params.followText "set-order")) 1 (by decide +kernel)
  exact ⟨es, ep, t, g, (upTo_go (Prod.mk.inj (ACD6 w os z e0 p0 t0 #[] 0 (.fresh 0 0 true) (.mk .none .none (.fields #[]) #[]))).1).trans G⟩
theorem ACD7 (w : World) (os : OsState) (z : Nat → Obj) (e0 : Array (Int × Value)) (p0 : Nat) (t0 : SetTable) (es : Array (Int × Value)) (ep : Nat) (t : SetTable) (o : Obj) : Q7 w os z e0 p0 t0 es ep t o := (sets w os z e0 p0 t0 es ep t o).2.2.2.2.1
theorem C7 (w : World) (os : OsState) (z : Nat → Obj) (e0 : Array (Int × Value)) (p0 : Nat) (t0 : SetTable) (es : Array (Int × Value)) (ep : Nat) (t : SetTable) : upTo w (inB "frozenset.__sub__") 300 (X80 w os (zset z 74 (mkS e0 p0 t0)) (mkS es ep t) (sD (itD (.str T80 395) 2)) (396 + 2 * 2)) (TL (cFill 80 81) l80 (f180 w os (zset z 74 (mkS e0 p0 t0)) :: f280 w os (zset z 74 (mkS e0 p0 t0)) :: fB80 w os (zset z 74 (mkS e0 p0 t0)))) = some (S7O1 w os (zset (zset (zset z 74 (mkS e0 p0 t0)) 80 (mkS es ep t)) 81 (sD (itD .none 2))) 400, TL (.builtin "frozenset.__sub__" ⟨[.ref 74, .ref 80], []⟩) ⟨22, 36, 22, 66⟩ (g17 w os z e0 p0 t0 es ep t :: g27 w os z e0 p0 t0 es ep t :: gB7 w os z e0 p0 t0 es ep t)) := (Prod.mk.inj (Prod.mk.inj (ACD7 w os z e0 p0 t0 es ep t (.mk .none .none (.fields #[]) #[]))).2).1
theorem D7 (w : World) (os : OsState) (z : Nat → Obj) (e0 : Array (Int × Value)) (p0 : Nat) (t0 : SetTable) (es : Array (Int × Value)) (ep : Nat) (t : SetTable) (o : Obj) : Ends w (S7P2 w os (zset (zset (zset (zset z 74 (mkS e0 p0 t0)) 80 (mkS es ep t)) 81 (sD (itD .none 2))) 84 o) 400) ⟨.pure (.done (.ret (.ref 84))), (.builtin "frozenset.__sub__" ⟨[.ref 74, .ref 80], []⟩), ⟨22, 36, 22, 66⟩, g17 w os z e0 p0 t0 es ep t :: g27 w os z e0 p0 t0 es ep t :: gB7 w os z e0 p0 t0 es ep t⟩ (S7 w os (zset (zset (zset (zset z 74 (mkS e0 p0 t0)) 80 (mkS es ep t)) 81 (sD (itD .none 2))) 84 o)) ⟨22, 0, 22, 33⟩ :=
  ⟨300, (Prod.mk.inj (Prod.mk.inj (ACD7 w os z e0 p0 t0 es ep t o)).2).2⟩
theorem den7 : denote treeTable (.builtin "frozenset.__sub__" ⟨[.ref 74, .ref 80], []⟩) = Builtin.«frozenset.__sub__» ⟨[.ref 74, .ref 80], []⟩ := by kernel_rfl
theorem ins7 (w : World) (os : OsState) (z : Nat → Obj) : Ins (S7O1 w os z 400) := fun o => by kernel_rfl
theorem put7 (w : World) (os : OsState) (z : Nat → Obj) (o o' : Obj) : put (alc (S7O1 w os z 400) o) 84 o' = S7P2 w os (zset z 84 o') 400 := by kernel_rfl
theorem getA7 (w : World) (os : OsState) (z : Nat → Obj) : (S7O1 w os z 400).tree.get 74 = some (z 74) := by kernel_rfl
theorem getB7 (w : World) (os : OsState) (z : Nat → Obj) : (S7O1 w os z 400).tree.get 80 = some (z 80) := by kernel_rfl
theorem F80 (w : World) (os : OsState) (z : Nat → Obj) (e0 : Array (Int × Value)) (p0 : Nat) (t0 : SetTable) : ∃ es ep t, GoodS (chars w.params T80 396 2) es t ∧ Go w (S6 w os (zset z 74 (mkS e0 p0 t0))) P80 (X80 w os (zset z 74 (mkS e0 p0 t0)) (mkS es ep t) (sD (itD (.str T80 395) 2)) (396 + 2 * 2)) (TL (cFill 80 81) l80 (f180 w os (zset z 74 (mkS e0 p0 t0)) :: f280 w os (zset z 74 (mkS e0 p0 t0)) :: fB80 w os (zset z 74 (mkS e0 p0 t0)))) := by
  obtain ⟨es, ep, t, g, G⟩ := fill (w := w) (Fm80 w os (zset z 74 (mkS e0 p0 t0))) (x := T80) (u := 395) (tk := 396) (pL := l80) (f1 := f180 w os (zset z 74 (mkS e0 p0 t0))) (f2 := f280 w os (zset z 74 (mkS e0 p0 t0))) (B := fB80 w os (zset z 74 (mkS e0 p0 t0))) (by decide +kernel) (by kernel_rfl) (!(w.params.followText "set-order")) 2 (by decide +kernel)
  exact ⟨es, ep, t, g, (upTo_go (Prod.mk.inj (ACD7 w os z e0 p0 t0 #[] 0 (.fresh 0 0 true) (.mk .none .none (.fields #[]) #[]))).1).trans G⟩
theorem ACD10 (w : World) (os : OsState) (z : Nat → Obj) (e0 : Array (Int × Value)) (p0 : Nat) (t0 : SetTable) (es : Array (Int × Value)) (ep : Nat) (t : SetTable) (o : Obj) : Q10 w os z e0 p0 t0 es ep t o := (sets w os z e0 p0 t0 es ep t o).2.2.2.2.2
theorem C10 (w : World) (os : OsState) (z : Nat → Obj) (e0 : Array (Int × Value)) (p0 : Nat) (t0 : SetTable) (es : Array (Int × Value)) (ep : Nat) (t : SetTable) : upTo w (inB "frozenset.__or__") 300 (X89 w os (zset z 85 (mkS e0 p0 t0)) (mkS es ep t) (sD (itD (.str T89 408) 1)) (409 + 2 * 1)) (TL (cFill 89 90) l89 (f189 w os (zset z 85 (mkS e0 p0 t0)) :: f289 w os (zset z 85 (mkS e0 p0 t0)) :: fB89 w os (zset z 85 (mkS e0 p0 t0)))) = some (S10O1 w os (zset (zset (zset z 85 (mkS e0 p0 t0)) 89 (mkS es ep t)) 90 (sD (itD .none 1))) 411, TL (.builtin "frozenset.__or__" ⟨[.ref 85, .ref 89], []⟩) ⟨25, 22, 25, 47⟩ (g110 w os z e0 p0 t0 es ep t :: g210 w os z e0 p0 t0 es ep t :: gB10 w os z e0 p0 t0 es ep t)) := (Prod.mk.inj (Prod.mk.inj (ACD10 w os z e0 p0 t0 es ep t (.mk .none .none (.fields #[]) #[]))).2).1
theorem D10 (w : World) (os : OsState) (z : Nat → Obj) (e0 : Array (Int × Value)) (p0 : Nat) (t0 : SetTable) (es : Array (Int × Value)) (ep : Nat) (t : SetTable) (o : Obj) : Ends w (S10P2 w os (zset (zset (zset (zset z 85 (mkS e0 p0 t0)) 89 (mkS es ep t)) 90 (sD (itD .none 1))) 93 o) 411) ⟨.pure (.done (.ret (.ref 93))), (.builtin "frozenset.__or__" ⟨[.ref 85, .ref 89], []⟩), ⟨25, 22, 25, 47⟩, g110 w os z e0 p0 t0 es ep t :: g210 w os z e0 p0 t0 es ep t :: gB10 w os z e0 p0 t0 es ep t⟩ (S10 w os (zset (zset (zset (zset z 85 (mkS e0 p0 t0)) 89 (mkS es ep t)) 90 (sD (itD .none 1))) 93 o)) ⟨25, 0, 25, 19⟩ :=
  ⟨300, (Prod.mk.inj (Prod.mk.inj (ACD10 w os z e0 p0 t0 es ep t o)).2).2⟩
theorem den10 : denote treeTable (.builtin "frozenset.__or__" ⟨[.ref 85, .ref 89], []⟩) = Builtin.«frozenset.__or__» ⟨[.ref 85, .ref 89], []⟩ := by kernel_rfl
theorem ins10 (w : World) (os : OsState) (z : Nat → Obj) : Ins (S10O1 w os z 411) := fun o => by kernel_rfl
theorem put10 (w : World) (os : OsState) (z : Nat → Obj) (o o' : Obj) : put (alc (S10O1 w os z 411) o) 93 o' = S10P2 w os (zset z 93 o') 411 := by kernel_rfl
theorem getA10 (w : World) (os : OsState) (z : Nat → Obj) : (S10O1 w os z 411).tree.get 85 = some (z 85) := by kernel_rfl
theorem getB10 (w : World) (os : OsState) (z : Nat → Obj) : (S10O1 w os z 411).tree.get 89 = some (z 89) := by kernel_rfl
theorem F89 (w : World) (os : OsState) (z : Nat → Obj) (e0 : Array (Int × Value)) (p0 : Nat) (t0 : SetTable) : ∃ es ep t, GoodS (chars w.params T89 409 1) es t ∧ Go w (S9 w os (zset z 85 (mkS e0 p0 t0))) P89 (X89 w os (zset z 85 (mkS e0 p0 t0)) (mkS es ep t) (sD (itD (.str T89 408) 1)) (409 + 2 * 1)) (TL (cFill 89 90) l89 (f189 w os (zset z 85 (mkS e0 p0 t0)) :: f289 w os (zset z 85 (mkS e0 p0 t0)) :: fB89 w os (zset z 85 (mkS e0 p0 t0)))) := by
  obtain ⟨es, ep, t, g, G⟩ := fill (w := w) (Fm89 w os (zset z 85 (mkS e0 p0 t0))) (x := T89) (u := 408) (tk := 409) (pL := l89) (f1 := f189 w os (zset z 85 (mkS e0 p0 t0))) (f2 := f289 w os (zset z 85 (mkS e0 p0 t0))) (B := fB89 w os (zset z 85 (mkS e0 p0 t0))) (by decide +kernel) (by kernel_rfl) (!(w.params.followText "set-order")) 1 (by decide +kernel)
  exact ⟨es, ep, t, g, (upTo_go (Prod.mk.inj (ACD10 w os z e0 p0 t0 #[] 0 (.fresh 0 0 true) (.mk .none .none (.fields #[]) #[]))).1).trans G⟩
end
end Mine
end
section
open PySem PySem.W PyProof.Rows PySem.Calls PySem.Builtin
set_option maxRecDepth 100000
set_option maxHeartbeats 0
namespace Mine
noncomputable section
noncomputable def one (P : Params) (c : Nat) (t : Nat) : Int × Value := (PyData.keyHash P ⟨#[c]⟩, .str ⟨#[c]⟩ t)
noncomputable def L74 (P : Params) : List (Int × Value) := one P 127 388 :: rng P 32
theorem strs_rng (P : Params) : Strs (rng P 32) := ⟨fun e he => by obtain ⟨k, _, rfl⟩ := rng_mem he; exact ⟨_, _, rfl⟩, by rw [rng_length]; omega⟩
theorem strs_chars (P : Params) (x : Str) (tk n : Nat) (h : n < 4000) : Strs (chars P x tk n) := ⟨fun e he => by obtain ⟨k, _, rfl⟩ := chars_mem he; exact ⟨_, _, rfl⟩, by rw [chars_length]; exact h⟩
theorem strs_L74 (P : Params) : Strs (L74 P) := ⟨fun e he => by
  rcases List.mem_cons.mp he with rfl | he
  · exact ⟨_, _, rfl⟩
  · exact (strs_rng P).1 e he, by show (rng P 32).length + 1 < 4000; rw [rng_length]; omega⟩
theorem pc5 (w : World) (os : OsState) (z : Nat → Obj) : ∃ z' es ep t, Ends w (S4 w os z) P65 (S5 w os z') ⟨20, 0, 20, 10⟩ ∧ z' 74 = mkS es ep t ∧ GoodS (L74 w.params) es t := by
  obtain ⟨e0, p0, t0, g0, G0⟩ := fillG w os z (!(w.params.followText "set-order")) 32 (by decide)
  obtain ⟨e1, p1, t1, g1, G1'⟩ := fill (w := w) (Fm70 w os (zG w.params z (mkS e0 p0 t0))) (x := T70) (u := 387) (tk := 388) (pL := l70) (f1 := f170 w os z (mkS e0 p0 t0)) (f2 := f270 w os z (mkS e0 p0 t0)) (B := fB70 w os z (mkS e0 p0 t0)) (by decide +kernel) (by kernel_rfl) (!(w.params.followText "set-order")) 1 (by decide +kernel)
  obtain ⟨rfl, gf⟩ := good_one (e := one w.params 127 388) g1
  have hA : AtS (S5O2 w os (zset (zset (zG w.params z (mkS e0 p0 t0)) 70 (mkS #[one w.params 127 388] p1 t1)) 71 (sD (itD .none 1))) 390) 65 e0 p0 t0 := ⟨Nat.le_of_ble_eq_true (by kernel_rfl), by rw [getA5]; rfl⟩
  have hB : AtS (S5O2 w os (zset (zset (zG w.params z (mkS e0 p0 t0)) 70 (mkS #[one w.params 127 388] p1 t1)) 71 (sD (itD .none 1))) 390) 70 #[one w.params 127 388] p1 t1 := ⟨Nat.le_of_ble_eq_true (by kernel_rfl), by rw [getB5]; rfl⟩
  obtain ⟨led, es, ep, t, g, e⟩ := run_or (S := SW w) hA g0 hB gf (by decide) (strs_rng w.params) (.inr rng_length) (by
    intro e he
    obtain ⟨k, hk, rfl⟩ := rng_mem he
    show ((⟨#[k]⟩ : Str) == ⟨#[127]⟩) = false
    rw [beq_eq_false_iff_ne]
    intro q
    have := congrArg (fun y : Str => y.cps.getD 0 0) q
    simp at this
    omega) (ins5 w os _) (Nat.le_of_ble_eq_true (by kernel_rfl))
  have eN : (S5O2 w os (zset (zset (zG w.params z (mkS e0 p0 t0)) 70 (mkS #[one w.params 127 388] p1 t1)) 71 (sD (itD .none 1))) 390).n = 74 := rfl
  rw [eN, put5] at e
  have G2 := tRun_go0 (w := w) (code := .builtin "frozenset.__or__" ⟨[.ref 65, .ref 70], []⟩) (pos := ⟨20, 13, 20, 73⟩) (f1 := g15 w os z e0 p0 t0 #[one w.params 127 388] p1 t1) (f2 := g25 w os z e0 p0 t0 #[one w.params 127 388] p1 t1) (B := gB5 w os z e0 p0 t0 #[one w.params 127 388] p1 t1) e
  rw [← den5] at G2
  refine ⟨_, es, ep, t, ((upTo_go (A65 w os z)).trans (G0.trans ((upTo_go (A70 w os z e0 p0 t0)).trans (G1'.trans ((upTo_go (C5 w os z e0 p0 t0 _ p1 t1)).trans G2))))).ends (D5 w os z e0 p0 t0 _ p1 t1 _), rfl, g⟩

theorem pc9' (w : World) (os : OsState) (z : Nat → Obj) : ∃ z' es ep t, Ends w (S8 w os z) P85 (S9 w os z') ⟨24, 0, 24, 7⟩ ∧ z' 85 = mkS es ep t ∧ GoodS (chars w.params T85 403 2) es t ∧ z' 79 = z 79 := by
  obtain ⟨es, ep, t, g, G⟩ := pc9 w os z
  exact ⟨_, es, ep, t, G, rfl, g, rfl⟩
theorem pc16' (w : World) (os : OsState) (z : Nat → Obj) : ∃ z' es ep t, Ends w (S15 w os z) P94 (S16 w os z') ⟨31, 0, 31, 14⟩ ∧ z' 94 = mkS es ep t ∧ GoodS (chars w.params T94 428 64) es t ∧ z' 79 = z 79 ∧ z' 85 = z 85 := by
  obtain ⟨es, ep, t, g, G⟩ := pc16 w os z
  exact ⟨_, es, ep, t, G, rfl, g, rfl, rfl⟩
theorem pc17' (w : World) (os : OsState) (z : Nat → Obj) : ∃ z', Ends w (S16 w os z) P98 (S17 w os z') ⟨32, 0, 32, 14⟩ ∧ z' 79 = z 79 ∧ z' 85 = z 85 ∧ z' 94 = z 94 := by
  obtain ⟨es, ep, t, g, G⟩ := pc17 w os z
  exact ⟨_, G, rfl, rfl, rfl⟩
theorem pc10 (w : World) (os : OsState) (z : Nat → Obj) {e0 : Array (Int × Value)} {p0 : Nat} {t0 : SetTable} (hz : z 85 = mkS e0 p0 t0) (g0 : GoodS (chars w.params T85 403 2) e0 t0) :
    ∃ z', Ends w (S9 w os z) P89 (S10 w os z') ⟨25, 0, 25, 19⟩ ∧ z' 85 = z 85 ∧ z' 79 = z 79 := by
  have ez : z = zset z 85 (mkS e0 p0 t0) := by rw [← hz, zset_self]
  rw [ez]
  obtain ⟨e1, p1, t1, g1, G1'⟩ := F89 w os z e0 p0 t0
  obtain ⟨rfl, gf⟩ := good_one (e := one w.params 10 409) g1
  have hA : AtS (S10O1 w os (zset (zset (zset z 85 (mkS e0 p0 t0)) 89 (mkS #[one w.params 10 409] p1 t1)) 90 (sD (itD .none 1))) 411) 85 e0 p0 t0 := ⟨Nat.le_of_ble_eq_true (by kernel_rfl), by rw [getA10]; rfl⟩
  have hB : AtS (S10O1 w os (zset (zset (zset z 85 (mkS e0 p0 t0)) 89 (mkS #[one w.params 10 409] p1 t1)) 90 (sD (itD .none 1))) 411) 89 #[one w.params 10 409] p1 t1 := ⟨Nat.le_of_ble_eq_true (by kernel_rfl), by rw [getB10]; rfl⟩
  obtain ⟨led, es, ep, t, g, e⟩ := run_or (S := SW w) hA g0 hB gf (by decide) (strs_chars _ _ _ _ (by decide)) (.inl chars_length) (by
    have h : ((chars w.params T85 403 2).all fun e => !e.2.isStr ⟨#[10]⟩) = true := by kernel_rfl
    intro e he
    simpa using List.all_eq_true.mp h e he) (ins10 w os _) (Nat.le_of_ble_eq_true (by kernel_rfl))
  have eN : (S10O1 w os (zset (zset (zset z 85 (mkS e0 p0 t0)) 89 (mkS #[one w.params 10 409] p1 t1)) 90 (sD (itD .none 1))) 411).n = 93 := rfl
  rw [eN, put10] at e
  have G2 := tRun_go0 (w := w) (code := .builtin "frozenset.__or__" ⟨[.ref 85, .ref 89], []⟩) (pos := ⟨25, 22, 25, 47⟩) (f1 := g110 w os z e0 p0 t0 #[one w.params 10 409] p1 t1) (f2 := g210 w os z e0 p0 t0 #[one w.params 10 409] p1 t1) (B := gB10 w os z e0 p0 t0 #[one w.params 10 409] p1 t1) e
  rw [← den10] at G2
  exact ⟨_, (G1'.trans ((upTo_go (C10 w os z e0 p0 t0 _ p1 t1)).trans G2)).ends (D10 w os z e0 p0 t0 _ p1 t1 _), rfl, rfl⟩
noncomputable def L79 (P : Params) : List (Int × Value) := dropS ⟨#[9]⟩ (L74 P)
theorem pc6 (w : World) (os : OsState) (z : Nat → Obj) {e0 : Array (Int × Value)} {p0 : Nat} {t0 : SetTable} (hz : z 74 = mkS e0 p0 t0) (g0 : GoodS (L74 w.params) e0 t0) :
    ∃ z' es ep t, Ends w (S5 w os z) P75 (S6 w os z') ⟨21, 0, 21, 23⟩ ∧ z' 74 = z 74 ∧ z' 79 = mkS es ep t ∧ GoodS (L79 w.params) es t := by
  have ez : z = zset z 74 (mkS e0 p0 t0) := by rw [← hz, zset_self]
  rw [ez]
  obtain ⟨e1, p1, t1, g1, G1'⟩ := F75 w os z e0 p0 t0
  have hA : AtS (S6O1 w os (zset (zset (zset z 74 (mkS e0 p0 t0)) 75 (mkS e1 p1 t1)) 76 (sD (itD .none 1))) 394) 74 e0 p0 t0 := ⟨Nat.le_of_ble_eq_true (by kernel_rfl), by rw [getA6]; rfl⟩
  have hB : AtS (S6O1 w os (zset (zset (zset z 74 (mkS e0 p0 t0)) 75 (mkS e1 p1 t1)) 76 (sD (itD .none 1))) 394) 75 e1 p1 t1 := ⟨Nat.le_of_ble_eq_true (by kernel_rfl), by rw [getB6]; rfl⟩
  have hf : (L74 w.params).filter (fun e => e.2.isStr ⟨#[9]⟩) = [one w.params 9 296] := by kernel_rfl
  obtain ⟨led, es, ep, t, g, e⟩ := run_sub (w := w) (Lr := L79 w.params) hA g0 (strs_L74 _) (by kernel_rfl) hB g1 (strs_chars _ _ _ _ (by decide)) (by rw [chars_length]; decide) (by
    intro l hl
    obtain rfl := perm_one (a := one w.params 9 392) hl
    exact drops_one hf (.nil _)) (.inr (by kernel_rfl)) (ins6 w os _) (Nat.le_of_ble_eq_true (by kernel_rfl))
  have eN : (S6O1 w os (zset (zset (zset z 74 (mkS e0 p0 t0)) 75 (mkS e1 p1 t1)) 76 (sD (itD .none 1))) 394).n = 79 := rfl
  rw [eN, put6] at e
  have G2 := tRun_go0 (w := w) (code := .builtin "frozenset.__sub__" ⟨[.ref 74, .ref 75], []⟩) (pos := ⟨21, 26, 21, 54⟩) (f1 := g16 w os z e0 p0 t0 e1 p1 t1) (f2 := g26 w os z e0 p0 t0 e1 p1 t1) (B := gB6 w os z e0 p0 t0 e1 p1 t1) e
  rw [← den6] at G2
  exact ⟨_, es, ep, t, (G1'.trans ((upTo_go (C6 w os z e0 p0 t0 _ p1 t1)).trans G2)).ends (D6 w os z e0 p0 t0 _ p1 t1 _), rfl, rfl, g⟩
theorem pc7 (w : World) (os : OsState) (z : Nat → Obj) {e0 : Array (Int × Value)} {p0 : Nat} {t0 : SetTable} (hz : z 74 = mkS e0 p0 t0) (g0 : GoodS (L74 w.params) e0 t0) :
    ∃ z', Ends w (S6 w os z) P80 (S7 w os z') ⟨22, 0, 22, 33⟩ ∧ z' 79 = z 79 := by
  have ez : z = zset z 74 (mkS e0 p0 t0) := by rw [← hz, zset_self]
  rw [ez]
  obtain ⟨e1, p1, t1, g1, G1'⟩ := F80 w os z e0 p0 t0
  have hA : AtS (S7O1 w os (zset (zset (zset z 74 (mkS e0 p0 t0)) 80 (mkS e1 p1 t1)) 81 (sD (itD .none 2))) 400) 74 e0 p0 t0 := ⟨Nat.le_of_ble_eq_true (by kernel_rfl), by rw [getA7]; rfl⟩
  have hB : AtS (S7O1 w os (zset (zset (zset z 74 (mkS e0 p0 t0)) 80 (mkS e1 p1 t1)) 81 (sD (itD .none 2))) 400) 80 e1 p1 t1 := ⟨Nat.le_of_ble_eq_true (by kernel_rfl), by rw [getB7]; rfl⟩
  have h9 : (L74 w.params).filter (fun e => e.2.isStr ⟨#[9]⟩) = [one w.params 9 296] := by kernel_rfl
  have h10 : (L74 w.params).filter (fun e => e.2.isStr ⟨#[10]⟩) = [one w.params 10 300] := by kernel_rfl
  have h9' : (dropS ⟨#[10]⟩ (L74 w.params)).filter (fun e => e.2.isStr ⟨#[9]⟩) = [one w.params 9 296] := by kernel_rfl
  have h10' : (dropS ⟨#[9]⟩ (L74 w.params)).filter (fun e => e.2.isStr ⟨#[10]⟩) = [one w.params 10 300] := by kernel_rfl
  obtain ⟨led, es, ep, t, g, e⟩ := run_sub (w := w) (Lr := dropS ⟨#[9]⟩ (dropS ⟨#[10]⟩ (L74 w.params))) hA g0 (strs_L74 _) (by kernel_rfl) hB g1 (strs_chars _ _ _ _ (by decide)) (by rw [chars_length]; decide) (by
    intro l hl
    rcases perm_two (a := one w.params 10 398) (b := one w.params 9 396) hl with rfl | rfl
    · exact drops_one h10 (drops_one h9' (.nil _))
    · exact drops_one h9 (drops_one h10' (by rw [dropS_comm]; exact .nil _))) (.inl (by kernel_rfl)) (ins7 w os _) (Nat.le_of_ble_eq_true (by kernel_rfl))
  have eN : (S7O1 w os (zset (zset (zset z 74 (mkS e0 p0 t0)) 80 (mkS e1 p1 t1)) 81 (sD (itD .none 2))) 400).n = 84 := rfl
  rw [eN, put7] at e
  have G2 := tRun_go0 (w := w) (code := .builtin "frozenset.__sub__" ⟨[.ref 74, .ref 80], []⟩) (pos := ⟨22, 36, 22, 66⟩) (f1 := g17 w os z e0 p0 t0 e1 p1 t1) (f2 := g27 w os z e0 p0 t0 e1 p1 t1) (B := gB7 w os z e0 p0 t0 e1 p1 t1) e
  rw [← den7] at G2
  exact ⟨_, (G1'.trans ((upTo_go (C7 w os z e0 p0 t0 _ p1 t1)).trans G2)).ends (D7 w os z e0 p0 t0 _ p1 t1 _), rfl⟩
end
end Mine
end
section
open PySem PySem.W PyProof.Rows PySem.Calls
set_option maxRecDepth 100000
set_option maxHeartbeats 0
namespace Mine
noncomputable section
theorem pc0 (w : World) (os : OsState) (z : Nat → Obj) : segRunT treeTable pw w 11 ann0 1 30 (Sb w os z) (piecesOf (stL 0) env0 cd0 ⟨0, 0, 0, 0⟩ [topFrame q0]) = some (.next, S0 w os z, cd0, ⟨1, 0, 3, 12⟩) := by kernel_rfl
noncomputable abbrev Qpc1 (w : World) (os : OsState) (z : Nat → Obj) : Prop := segRunT treeTable pw w 11 ann0 1 279 (S0 w os z) (piecesOf (stL 1) env0 cd0 ⟨1, 0, 3, 12⟩ [topFrame q0]) = some (.next, S1 w os z, cd0, ⟨4, 0, 9, 34⟩)
noncomputable abbrev Qpc13 (w : World) (os : OsState) (z : Nat → Obj) : Prop := segRunT treeTable pw w 11 ann0 1 19 (S12 w os z) (piecesOf (stL 13) env0 cd0 ⟨27, 0, 27, 15⟩ [topFrame q0]) = some (.next, S13 w os z, cd0, ⟨28, 0, 28, 13⟩)
noncomputable abbrev Qpc15 (w : World) (os : OsState) (z : Nat → Obj) : Prop := segRunT treeTable pw w 11 ann0 1 25 (S14 w os z) (piecesOf (stL 15) env0 cd0 ⟨29, 0, 29, 6⟩ [topFrame q0]) = some (.next, S15 w os z, cd0, ⟨30, 0, 30, 9⟩)
noncomputable abbrev Qpc19 (w : World) (os : OsState) (z : Nat → Obj) : Prop := segRunT treeTable pw w 11 ann0 1 37 (S18 w os z) (piecesOf (stL 19) env0 cd0 ⟨33, 0, 33, 8⟩ [topFrame q0]) = some (.next, S19 w os z, cd0, ⟨34, 0, 34, 16⟩)
noncomputable abbrev Qpc22 (w : World) (os : OsState) (z : Nat → Obj) : Prop := segRunT treeTable pw w 11 ann0 1 190 (S21 w os z) (piecesOf (stL 22) env0 cd0 ⟨36, 0, 36, 29⟩ [topFrame q0]) = some (.next, S22 w os z, cd0, ⟨37, 0, 38, 58⟩)
noncomputable abbrev Qpc38 (w : World) (os : OsState) (z : Nat → Obj) : Prop := segRunT treeTable pw w 11 ann0 1 210 (S37 w os z) (piecesOf (stL 38) env0 cd0 ⟨184, 0, 184, 8⟩ [topFrame q0]) = some (.next, S38 w os z, cd0, ⟨185, 0, 188, 16⟩)
noncomputable abbrev Qpc40 (w : World) (os : OsState) (z : Nat → Obj) : Prop := segRunT treeTable pw w 11 ann0 1 310 (S39 w os z) (piecesOf (stL 40) env0 cd0 ⟨189, 0, 189, 8⟩ [topFrame q0]) = some (.next, S40 w os z, cd0, ⟨190, 0, 204, 16⟩)
theorem pcA (w : World) (os : OsState) (z : Nat → Obj) : Qpc1 w os z ∧ Qpc13 w os z ∧ Qpc15 w os z ∧ Qpc19 w os z ∧ Qpc22 w os z ∧ Qpc38 w os z ∧ Qpc40 w os z := ⟨by kernel_rfl, by kernel_rfl, by kernel_rfl, by kernel_rfl, by kernel_rfl, by kernel_rfl, by kernel_rfl⟩
theorem pc1 (w : World) (os : OsState) (z : Nat → Obj) : segRunT treeTable pw w 11 ann0 1 279 (S0 w os z) (piecesOf (stL 1) env0 cd0 ⟨1, 0, 3, 12⟩ [topFrame q0]) = some (.next, S1 w os z, cd0, ⟨4, 0, 9, 34⟩) := (pcA w os z).1
theorem pc13 (w : World) (os : OsState) (z : Nat → Obj) : segRunT treeTable pw w 11 ann0 1 19 (S12 w os z) (piecesOf (stL 13) env0 cd0 ⟨27, 0, 27, 15⟩ [topFrame q0]) = some (.next, S13 w os z, cd0, ⟨28, 0, 28, 13⟩) := (pcA w os z).2.1
theorem pc15 (w : World) (os : OsState) (z : Nat → Obj) : segRunT treeTable pw w 11 ann0 1 25 (S14 w os z) (piecesOf (stL 15) env0 cd0 ⟨29, 0, 29, 6⟩ [topFrame q0]) = some (.next, S15 w os z, cd0, ⟨30, 0, 30, 9⟩) := (pcA w os z).2.2.1
theorem pc19 (w : World) (os : OsState) (z : Nat → Obj) : segRunT treeTable pw w 11 ann0 1 37 (S18 w os z) (piecesOf (stL 19) env0 cd0 ⟨33, 0, 33, 8⟩ [topFrame q0]) = some (.next, S19 w os z, cd0, ⟨34, 0, 34, 16⟩) := (pcA w os z).2.2.2.1
theorem pc22 (w : World) (os : OsState) (z : Nat → Obj) : segRunT treeTable pw w 11 ann0 1 190 (S21 w os z) (piecesOf (stL 22) env0 cd0 ⟨36, 0, 36, 29⟩ [topFrame q0]) = some (.next, S22 w os z, cd0, ⟨37, 0, 38, 58⟩) := (pcA w os z).2.2.2.2.1
theorem pc38 (w : World) (os : OsState) (z : Nat → Obj) : segRunT treeTable pw w 11 ann0 1 210 (S37 w os z) (piecesOf (stL 38) env0 cd0 ⟨184, 0, 184, 8⟩ [topFrame q0]) = some (.next, S38 w os z, cd0, ⟨185, 0, 188, 16⟩) := (pcA w os z).2.2.2.2.2.1
theorem pc40 (w : World) (os : OsState) (z : Nat → Obj) : segRunT treeTable pw w 11 ann0 1 310 (S39 w os z) (piecesOf (stL 40) env0 cd0 ⟨189, 0, 189, 8⟩ [topFrame q0]) = some (.next, S40 w os z, cd0, ⟨190, 0, 204, 16⟩) := (pcA w os z).2.2.2.2.2.2
theorem pc2 (w : World) (os : OsState) (z : Nat → Obj) : segRunT treeTable pw w 11 ann0 1 32 (S1 w os z) (piecesOf (stL 2) env0 cd0 ⟨4, 0, 9, 34⟩ [topFrame q0]) = some (.next, S2 w os z, cd0, ⟨10, 0, 17, 20⟩) := by kernel_rfl
theorem pc3 (w : World) (os : OsState) (z : Nat → Obj) : segRunT treeTable pw w 11 ann0 1 10 (S2 w os z) (piecesOf (stL 3) env0 cd0 ⟨10, 0, 17, 20⟩ [topFrame q0]) = some (.next, S3 w os z, cd0, ⟨18, 0, 18, 8⟩) := by kernel_rfl
theorem pc4 (w : World) (os : OsState) (z : Nat → Obj) : segRunT treeTable pw w 11 ann0 1 10 (S3 w os z) (piecesOf (stL 4) env0 cd0 ⟨18, 0, 18, 8⟩ [topFrame q0]) = some (.next, S4 w os z, cd0, ⟨19, 0, 19, 13⟩) := by kernel_rfl
-- set piece 5: steps 2079 from ⟨19, 0, 19, 13⟩ to ⟨20, 0, 20, 10⟩
-- set piece 6: steps 129 from ⟨20, 0, 20, 10⟩ to ⟨21, 0, 21, 23⟩
-- set piece 7: steps 164 from ⟨21, 0, 21, 23⟩ to ⟨22, 0, 22, 33⟩
theorem pc8 (w : World) (os : OsState) (z : Nat → Obj) : segRunT treeTable pw w 11 ann0 1 11 (S7 w os z) (piecesOf (stL 8) env0 cd0 ⟨22, 0, 22, 33⟩ [topFrame q0]) = some (.next, S8 w os z, cd0, ⟨23, 0, 23, 25⟩) := by kernel_rfl
-- set piece 9: steps 96 from ⟨23, 0, 23, 25⟩ to ⟨24, 0, 24, 7⟩
-- set piece 10: steps 114 from ⟨24, 0, 24, 7⟩ to ⟨25, 0, 25, 19⟩
theorem pc11 (w : World) (os : OsState) (z : Nat → Obj) : segRunT treeTable pw w 11 ann0 1 10 (S10 w os z) (piecesOf (stL 11) env0 cd0 ⟨25, 0, 25, 19⟩ [topFrame q0]) = some (.next, S11 w os z, cd0, ⟨26, 0, 26, 15⟩) := by kernel_rfl
theorem pc12 (w : World) (os : OsState) (z : Nat → Obj) : segRunT treeTable pw w 11 ann0 1 10 (S11 w os z) (piecesOf (stL 12) env0 cd0 ⟨26, 0, 26, 15⟩ [topFrame q0]) = some (.next, S12 w os z, cd0, ⟨27, 0, 27, 15⟩) := by kernel_rfl
theorem pc14 (w : World) (os : OsState) (z : Nat → Obj) : segRunT treeTable pw w 11 ann0 1 10 (S13 w os z) (piecesOf (stL 14) env0 cd0 ⟨28, 0, 28, 13⟩ [topFrame q0]) = some (.next, S14 w os z, cd0, ⟨29, 0, 29, 6⟩) := by kernel_rfl
-- set piece 16: steps 1480 from ⟨30, 0, 30, 9⟩ to ⟨31, 0, 31, 14⟩
-- set piece 17: steps 541 from ⟨31, 0, 31, 14⟩ to ⟨32, 0, 32, 14⟩
theorem pc18 (w : World) (os : OsState) (z : Nat → Obj) : segRunT treeTable pw w 11 ann0 1 10 (S17 w os z) (piecesOf (stL 18) env0 cd0 ⟨32, 0, 32, 14⟩ [topFrame q0]) = some (.next, S18 w os z, cd0, ⟨33, 0, 33, 8⟩) := by kernel_rfl
theorem pc20 (w : World) (os : OsState) (z : Nat → Obj) : segRunT treeTable pw w 11 ann0 1 10 (S19 w os z) (piecesOf (stL 20) env0 cd0 ⟨34, 0, 34, 16⟩ [topFrame q0]) = some (.next, S20 w os z, cd0, ⟨35, 0, 35, 8⟩) := by kernel_rfl
noncomputable abbrev Qpc21false (w : World) (os : OsState) (z : Nat → Obj) : Prop := segRunT treeTable pw (w.withFollow "special-get-raises" false) 11 ann0 1 156 (S20 (w.withFollow "special-get-raises" false) os z) (piecesOf (stL 21) env0 cd0 ⟨35, 0, 35, 8⟩ [topFrame q0]) = some (.next, S21 (w.withFollow "special-get-raises" false) os z, cd0, ⟨36, 0, 36, 29⟩)
noncomputable abbrev Qpc52false (w : World) (os : OsState) (z : Nat → Obj) : Prop := segRunT treeTable pw (w.withFollow "special-get-raises" false) 11 ann0 1 354 (S51 (w.withFollow "special-get-raises" false) os z) (piecesOf (stL 52) env0 cd0 ⟨291, 0, 299, 42⟩ [topFrame q0]) = some (.next, S52 (w.withFollow "special-get-raises" false) os z, cd0, ⟨300, 0, 300, 16⟩)
noncomputable abbrev Qpc21true (w : World) (os : OsState) (z : Nat → Obj) : Prop := segRunT treeTable pw (w.withFollow "special-get-raises" true) 11 ann0 1 156 (S20 (w.withFollow "special-get-raises" true) os z) (piecesOf (stL 21) env0 cd0 ⟨35, 0, 35, 8⟩ [topFrame q0]) = some (.next, S21 (w.withFollow "special-get-raises" true) os z, cd0, ⟨36, 0, 36, 29⟩)
noncomputable abbrev Qpc52true (w : World) (os : OsState) (z : Nat → Obj) : Prop := segRunT treeTable pw (w.withFollow "special-get-raises" true) 11 ann0 1 354 (S51 (w.withFollow "special-get-raises" true) os z) (piecesOf (stL 52) env0 cd0 ⟨291, 0, 299, 42⟩ [topFrame q0]) = some (.next, S52 (w.withFollow "special-get-raises" true) os z, cd0, ⟨300, 0, 300, 16⟩)
theorem pcB (w : World) (os : OsState) (z : Nat → Obj) : Qpc21false w os z ∧ Qpc52false w os z ∧ Qpc21true w os z ∧ Qpc52true w os z := ⟨by kernel_rfl, by kernel_rfl, by kernel_rfl, by kernel_rfl⟩
theorem pc21false (w : World) (os : OsState) (z : Nat → Obj) : segRunT treeTable pw (w.withFollow "special-get-raises" false) 11 ann0 1 156 (S20 (w.withFollow "special-get-raises" false) os z) (piecesOf (stL 21) env0 cd0 ⟨35, 0, 35, 8⟩ [topFrame q0]) = some (.next, S21 (w.withFollow "special-get-raises" false) os z, cd0, ⟨36, 0, 36, 29⟩) := (pcB w os z).1
theorem pc52false (w : World) (os : OsState) (z : Nat → Obj) : segRunT treeTable pw (w.withFollow "special-get-raises" false) 11 ann0 1 354 (S51 (w.withFollow "special-get-raises" false) os z) (piecesOf (stL 52) env0 cd0 ⟨291, 0, 299, 42⟩ [topFrame q0]) = some (.next, S52 (w.withFollow "special-get-raises" false) os z, cd0, ⟨300, 0, 300, 16⟩) := (pcB w os z).2.1
theorem pc21true (w : World) (os : OsState) (z : Nat → Obj) : segRunT treeTable pw (w.withFollow "special-get-raises" true) 11 ann0 1 156 (S20 (w.withFollow "special-get-raises" true) os z) (piecesOf (stL 21) env0 cd0 ⟨35, 0, 35, 8⟩ [topFrame q0]) = some (.next, S21 (w.withFollow "special-get-raises" true) os z, cd0, ⟨36, 0, 36, 29⟩) := (pcB w os z).2.2.1
theorem pc52true (w : World) (os : OsState) (z : Nat → Obj) : segRunT treeTable pw (w.withFollow "special-get-raises" true) 11 ann0 1 354 (S51 (w.withFollow "special-get-raises" true) os z) (piecesOf (stL 52) env0 cd0 ⟨291, 0, 299, 42⟩ [topFrame q0]) = some (.next, S52 (w.withFollow "special-get-raises" true) os z, cd0, ⟨300, 0, 300, 16⟩) := (pcB w os z).2.2.2
theorem pc23 (w : World) (os : OsState) (z : Nat → Obj) : segRunT treeTable pw w 11 ann0 1 32 (S22 w os z) (piecesOf (stL 23) env0 cd0 ⟨37, 0, 38, 58⟩ [topFrame q0]) = some (.next, S23 w os z, cd0, ⟨39, 0, 45, 14⟩) := by kernel_rfl
theorem pc24 (w : World) (os : OsState) (z : Nat → Obj) : segRunT treeTable pw w 11 ann0 1 35 (S23 w os z) (piecesOf (stL 24) env0 cd0 ⟨39, 0, 45, 14⟩ [topFrame q0]) = some (.next, S24 w os z, cd0, ⟨46, 0, 57, 18⟩) := by kernel_rfl
theorem pc25 (w : World) (os : OsState) (z : Nat → Obj) : segRunT treeTable pw w 11 ann0 1 34 (S24 w os z) (piecesOf (stL 25) env0 cd0 ⟨46, 0, 57, 18⟩ [topFrame q0]) = some (.next, S25 w os z, cd0, ⟨58, 0, 75, 43⟩) := by kernel_rfl
theorem pc26 (w : World) (os : OsState) (z : Nat → Obj) : segRunT treeTable pw w 11 ann0 1 33 (S25 w os z) (piecesOf (stL 26) env0 cd0 ⟨58, 0, 75, 43⟩ [topFrame q0]) = some (.next, S26 w os z, cd0, ⟨76, 0, 89, 76⟩) := by kernel_rfl
theorem pc27 (w : World) (os : OsState) (z : Nat → Obj) : segRunT treeTable pw w 11 ann0 1 31 (S26 w os z) (piecesOf (stL 27) env0 cd0 ⟨76, 0, 89, 76⟩ [topFrame q0]) = some (.next, S27 w os z, cd0, ⟨90, 0, 92, 53⟩) := by kernel_rfl
theorem pc28 (w : World) (os : OsState) (z : Nat → Obj) : segRunT treeTable pw w 11 ann0 1 39 (S27 w os z) (piecesOf (stL 28) env0 cd0 ⟨90, 0, 92, 53⟩ [topFrame q0]) = some (.next, S28 w os z, cd0, ⟨93, 0, 115, 76⟩) := by kernel_rfl
theorem pc29 (w : World) (os : OsState) (z : Nat → Obj) : segRunT treeTable pw w 11 ann0 1 31 (S28 w os z) (piecesOf (stL 29) env0 cd0 ⟨93, 0, 115, 76⟩ [topFrame q0]) = some (.next, S29 w os z, cd0, ⟨116, 0, 117, 59⟩) := by kernel_rfl
theorem pc30 (w : World) (os : OsState) (z : Nat → Obj) : segRunT treeTable pw w 11 ann0 1 34 (S29 w os z) (piecesOf (stL 30) env0 cd0 ⟨116, 0, 117, 59⟩ [topFrame q0]) = some (.next, S30 w os z, cd0, ⟨118, 0, 126, 30⟩) := by kernel_rfl
theorem pc31 (w : World) (os : OsState) (z : Nat → Obj) : segRunT treeTable pw w 11 ann0 1 32 (S30 w os z) (piecesOf (stL 31) env0 cd0 ⟨118, 0, 126, 30⟩ [topFrame q0]) = some (.next, S31 w os z, cd0, ⟨127, 0, 131, 40⟩) := by kernel_rfl
theorem pc32 (w : World) (os : OsState) (z : Nat → Obj) : segRunT treeTable pw w 11 ann0 1 38 (S31 w os z) (piecesOf (stL 32) env0 cd0 ⟨127, 0, 131, 40⟩ [topFrame q0]) = some (.next, S32 w os z, cd0, ⟨132, 0, 161, 16⟩) := by kernel_rfl
theorem pc33 (w : World) (os : OsState) (z : Nat → Obj) : segRunT treeTable pw w 11 ann0 1 34 (S32 w os z) (piecesOf (stL 33) env0 cd0 ⟨132, 0, 161, 16⟩ [topFrame q0]) = some (.next, S33 w os z, cd0, ⟨162, 0, 175, 64⟩) := by kernel_rfl
theorem pc34 (w : World) (os : OsState) (z : Nat → Obj) : segRunT treeTable pw w 11 ann0 1 30 (S33 w os z) (piecesOf (stL 34) env0 cd0 ⟨162, 0, 175, 64⟩ [topFrame q0]) = some (.next, S34 w os z, cd0, ⟨176, 0, 177, 67⟩) := by kernel_rfl
theorem pc35 (w : World) (os : OsState) (z : Nat → Obj) : segRunT treeTable pw w 11 ann0 1 10 (S34 w os z) (piecesOf (stL 35) env0 cd0 ⟨176, 0, 177, 67⟩ [topFrame q0]) = some (.next, S35 w os z, cd0, ⟨178, 0, 178, 8⟩) := by kernel_rfl
theorem pc36 (w : World) (os : OsState) (z : Nat → Obj) : segRunT treeTable pw w 11 ann0 1 32 (S35 w os z) (piecesOf (stL 36) env0 cd0 ⟨178, 0, 178, 8⟩ [topFrame q0]) = some (.next, S36 w os z, cd0, ⟨179, 0, 183, 12⟩) := by kernel_rfl
theorem pc37 (w : World) (os : OsState) (z : Nat → Obj) : segRunT treeTable pw w 11 ann0 1 10 (S36 w os z) (piecesOf (stL 37) env0 cd0 ⟨179, 0, 183, 12⟩ [topFrame q0]) = some (.next, S37 w os z, cd0, ⟨184, 0, 184, 8⟩) := by kernel_rfl
theorem pc39 (w : World) (os : OsState) (z : Nat → Obj) : segRunT treeTable pw w 11 ann0 1 10 (S38 w os z) (piecesOf (stL 39) env0 cd0 ⟨185, 0, 188, 16⟩ [topFrame q0]) = some (.next, S39 w os z, cd0, ⟨189, 0, 189, 8⟩) := by kernel_rfl
theorem pc41 (w : World) (os : OsState) (z : Nat → Obj) : segRunT treeTable pw w 11 ann0 1 30 (S40 w os z) (piecesOf (stL 41) env0 cd0 ⟨190, 0, 204, 16⟩ [topFrame q0]) = some (.next, S41 w os z, cd0, ⟨205, 0, 207, 16⟩) := by kernel_rfl
theorem pc42 (w : World) (os : OsState) (z : Nat → Obj) : segRunT treeTable pw w 11 ann0 1 10 (S41 w os z) (piecesOf (stL 42) env0 cd0 ⟨205, 0, 207, 16⟩ [topFrame q0]) = some (.next, S42 w os z, cd0, ⟨208, 0, 208, 8⟩) := by kernel_rfl
theorem pc43 (w : World) (os : OsState) (z : Nat → Obj) : segRunT treeTable pw w 11 ann0 1 33 (S42 w os z) (piecesOf (stL 43) env0 cd0 ⟨208, 0, 208, 8⟩ [topFrame q0]) = some (.next, S43 w os z, cd0, ⟨209, 0, 224, 177⟩) := by kernel_rfl
theorem pc44 (w : World) (os : OsState) (z : Nat → Obj) : segRunT treeTable pw w 11 ann0 1 10 (S43 w os z) (piecesOf (stL 44) env0 cd0 ⟨209, 0, 224, 177⟩ [topFrame q0]) = some (.next, S44 w os z, cd0, ⟨225, 0, 225, 8⟩) := by kernel_rfl
theorem pc45 (w : World) (os : OsState) (z : Nat → Obj) : segRunT treeTable pw w 11 ann0 1 38 (S44 w os z) (piecesOf (stL 45) env0 cd0 ⟨225, 0, 225, 8⟩ [topFrame q0]) = some (.next, S45 w os z, cd0, ⟨226, 0, 242, 21⟩) := by kernel_rfl
theorem pc46 (w : World) (os : OsState) (z : Nat → Obj) : segRunT treeTable pw w 11 ann0 1 34 (S45 w os z) (piecesOf (stL 46) env0 cd0 ⟨226, 0, 242, 21⟩ [topFrame q0]) = some (.next, S46 w os z, cd0, ⟨243, 0, 253, 83⟩) := by kernel_rfl
theorem pc47 (w : World) (os : OsState) (z : Nat → Obj) : segRunT treeTable pw w 11 ann0 1 10 (S46 w os z) (piecesOf (stL 47) env0 cd0 ⟨243, 0, 253, 83⟩ [topFrame q0]) = some (.next, S47 w os z, cd0, ⟨254, 0, 254, 8⟩) := by kernel_rfl
theorem pc48 (w : World) (os : OsState) (z : Nat → Obj) : segRunT treeTable pw w 11 ann0 1 30 (S47 w os z) (piecesOf (stL 48) env0 cd0 ⟨254, 0, 254, 8⟩ [topFrame q0]) = some (.next, S48 w os z, cd0, ⟨255, 0, 259, 18⟩) := by kernel_rfl
theorem pc49 (w : World) (os : OsState) (z : Nat → Obj) : segRunT treeTable pw w 11 ann0 1 35 (S48 w os z) (piecesOf (stL 49) env0 cd0 ⟨255, 0, 259, 18⟩ [topFrame q0]) = some (.next, S49 w os z, cd0, ⟨260, 0, 280, 15⟩) := by kernel_rfl
theorem pc50 (w : World) (os : OsState) (z : Nat → Obj) : segRunT treeTable pw w 11 ann0 1 35 (S49 w os z) (piecesOf (stL 50) env0 cd0 ⟨260, 0, 280, 15⟩ [topFrame q0]) = some (.next, S50 w os z, cd0, ⟨281, 0, 290, 23⟩) := by kernel_rfl
theorem pc51 (w : World) (os : OsState) (z : Nat → Obj) : segRunT treeTable pw w 11 ann0 1 32 (S50 w os z) (piecesOf (stL 51) env0 cd0 ⟨281, 0, 290, 23⟩ [topFrame q0]) = some (.next, S51 w os z, cd0, ⟨291, 0, 299, 42⟩) := by kernel_rfl
theorem pc53 (w : World) (os : OsState) (z : Nat → Obj) : segRunT treeTable pw w 11 ann0 1 10 (S52 w os z) (piecesOf (stL 53) env0 cd0 ⟨300, 0, 300, 16⟩ [topFrame q0]) = some (.next, S53 w os z, cd0, ⟨301, 0, 301, 8⟩) := by kernel_rfl
theorem pc54 (w : World) (os : OsState) (z : Nat → Obj) : segRunT treeTable pw w 11 ann0 1 27 (S53 w os z) (piecesOf (stL 54) env0 cd0 ⟨301, 0, 301, 8⟩ [topFrame q0]) = some (.next, S54 w os z, cd0, ⟨302, 0, 304, 69⟩) := by kernel_rfl
theorem pc55 (w : World) (os : OsState) (z : Nat → Obj) : segRunT treeTable pw w 11 ann0 1 34 (S54 w os z) (piecesOf (stL 55) env0 cd0 ⟨302, 0, 304, 69⟩ [topFrame q0]) = some (.next, S55 w os z, cd0, ⟨305, 0, 313, 23⟩) := by kernel_rfl
theorem pc56 (w : World) (os : OsState) (z : Nat → Obj) : segRunT treeTable pw w 11 ann0 1 27 (S55 w os z) (piecesOf (stL 56) env0 cd0 ⟨305, 0, 313, 23⟩ [topFrame q0]) = some (.next, S56 w os z, cd0, ⟨314, 0, 319, 48⟩) := by kernel_rfl
theorem pc57 (w : World) (os : OsState) (z : Nat → Obj) : segRunT treeTable pw w 11 ann0 1 35 (S56 w os z) (piecesOf (stL 57) env0 cd0 ⟨314, 0, 319, 48⟩ [topFrame q0]) = some (.next, S57 w os z, cd0, ⟨320, 0, 326, 51⟩) := by kernel_rfl
theorem pc58 (w : World) (os : OsState) (z : Nat → Obj) : segRunT treeTable pw w 11 ann0 1 27 (S57 w os z) (piecesOf (stL 58) env0 cd0 ⟨320, 0, 326, 51⟩ [topFrame q0]) = some (.next, S58 w os z, cd0, ⟨327, 0, 332, 60⟩) := by kernel_rfl
theorem pc59 (w : World) (os : OsState) (z : Nat → Obj) : segRunT treeTable pw w 11 ann0 1 36 (S58 w os z) (piecesOf (stL 59) env0 cd0 ⟨327, 0, 332, 60⟩ [topFrame q0]) = some (.next, S59 w os z, cd0, ⟨333, 0, 345, 36⟩) := by kernel_rfl
theorem pc60 (w : World) (os : OsState) (z : Nat → Obj) : segRunT treeTable pw w 11 ann0 1 31 (S59 w os z) (piecesOf (stL 60) env0 cd0 ⟨333, 0, 345, 36⟩ [topFrame q0]) = some (.next, S60 w os z, cd0, ⟨346, 0, 350, 19⟩) := by kernel_rfl
theorem pc61 (w : World) (os : OsState) (z : Nat → Obj) : segRunT treeTable pw w 11 ann0 1 27 (S60 w os z) (piecesOf (stL 61) env0 cd0 ⟨346, 0, 350, 19⟩ [topFrame q0]) = some (.next, S61 w os z, cd0, ⟨351, 0, 366, 57⟩) := by kernel_rfl
theorem pc62 (w : World) (os : OsState) (z : Nat → Obj) : segRunT treeTable pw w 11 ann0 1 27 (S61 w os z) (piecesOf (stL 62) env0 cd0 ⟨351, 0, 366, 57⟩ [topFrame q0]) = some (.next, S62 w os z, cd0, ⟨367, 0, 369, 30⟩) := by kernel_rfl

end
end Mine
end
section
open PySem PySem.W PyProof.Rows PySem.Calls PySem.Builtin
set_option maxRecDepth 100000
set_option maxHeartbeats 0
namespace Mine
noncomputable section
noncomputable def TopTo (w : World) (s : SharedT) (p : Pos) (k : Nat) (r : Shared) : Prop := ∃ N, topRun treeTable pw w 11 ann0 N s.abs (restOf (pw.main.body.drop k) env0 cd0 p [topFrame q0]) = some r
theorem Ends.app {w : World} {s s' : SharedT} {p p' : Pos} {k : Nat} {r : Shared} (h : Ends w s (piecesOf (stL k) env0 cd0 p [topFrame q0]) s' p') (t : TopTo w s' p' (k + 1) r) : TopTo w s p k r := by
  obtain ⟨n, h⟩ := h
  obtain ⟨N, t⟩ := t
  refine ⟨n + N, ?_⟩
  have e : pw.main.body.drop k = stL k ++ pw.main.body.drop (k + 1) := by
    unfold stL
    rw [← List.drop_drop, List.take_append_drop]
  rw [e]
  exact piece_app (segRun_of h) t
theorem btI : behindTheImports pw = pw.main.body := by kernel_rfl
theorem preT (w : World) (os : OsState) (z : Nat → Obj) : topGo treeTable pw w 11 ann0 12 ⟨boot_heap w.params, Array.mk [], boot_drawn, boot_toks, os⟩ (topStub pw) = some ((Sb w os z).abs, ⟨denote treeTable (.body (behindTheImports pw) env0), cd0, q0, [topFrame q0]⟩) := by kernel_rfl
theorem blkT (w : World) (os : OsState) (z : Nat → Obj) : segRunT treeTable pw w 11 ann0 1 1 (Sb w os z) (blockOf (behindTheImports pw) env0 cd0 q0 [topFrame q0]) = some (.next, Sb w os z, cd0, q0) := by kernel_rfl
theorem finT (w : World) (os : OsState) (z : Nat → Obj) : topRun treeTable pw w 11 ann0 2 (S62 w os z).abs (restOf (pw.main.body.drop 63) env0 cd0 ⟨367, 0, 369, 30⟩ [topFrame q0]) = some (S62 w os z).abs := by kernel_rfl
/-- what the sets of the text hold -/
structure Sets (P : Params) (z : Nat → Obj) : Prop where
  ill : ∃ es ep t, z 79 = mkS es ep t ∧ GoodS (L79 P) es t
  ws : ∃ es ep t, z 85 = mkS es ep t ∧ GoodS (chars P T85 403 2) es t
  bare : ∃ es ep t, z 94 = mkS es ep t ∧ GoodS (chars P T94 428 64) es t
theorem tops (w : World) (os : OsState) : ∃ z, Sets w.params z ∧ ∃ N, topRun treeTable pw w 11 ann0 N ⟨boot_heap w.params, Array.mk [], boot_drawn, boot_toks, os⟩ (topStub pw) = some (S62 w os z).abs := by
  obtain ⟨z5, e5, p5, t5, E5, h5, g5⟩ := pc5 w os (fun _ => default)
  obtain ⟨z6, e6, p6, t6, E6, h6a, h6, g6⟩ := pc6 w os z5 h5 g5
  obtain ⟨z7, E7, h7⟩ := pc7 w os z6 (h6a.trans h5) g5
  obtain ⟨z9, e9, p9, t9, E9, h9, g9, h9a⟩ := pc9' w os z7
  obtain ⟨z10, E10, h10, h10a⟩ := pc10 w os z9 h9 g9
  obtain ⟨z16, e16, p16, t16, E16, h16, g16, h16a, h16b⟩ := pc16' w os z10
  obtain ⟨z17, E17, h17a, h17b, h17c⟩ := pc17' w os z16
  refine ⟨z17, ⟨⟨e6, p6, t6, by rw [h17a, h16a, h10a, h9a, h7, h6], g6⟩, ⟨e9, p9, t9, by rw [h17b, h16b, h10, h9], g9⟩, ⟨e16, p16, t16, by rw [h17c, h16], g16⟩⟩, ?_⟩
  have T63 : TopTo w (S62 w os z17) ⟨367, 0, 369, 30⟩ 63 (S62 w os z17).abs := ⟨2, finT w os z17⟩
  have T62 : TopTo w (S61 w os z17) ⟨351, 0, 366, 57⟩ 62 (S62 w os z17).abs := Ends.app ⟨27, pc62 w os z17⟩ T63
  have T61 : TopTo w (S60 w os z17) ⟨346, 0, 350, 19⟩ 61 (S62 w os z17).abs := Ends.app ⟨27, pc61 w os z17⟩ T62
  have T60 : TopTo w (S59 w os z17) ⟨333, 0, 345, 36⟩ 60 (S62 w os z17).abs := Ends.app ⟨31, pc60 w os z17⟩ T61
  have T59 : TopTo w (S58 w os z17) ⟨327, 0, 332, 60⟩ 59 (S62 w os z17).abs := Ends.app ⟨36, pc59 w os z17⟩ T60
  have T58 : TopTo w (S57 w os z17) ⟨320, 0, 326, 51⟩ 58 (S62 w os z17).abs := Ends.app ⟨27, pc58 w os z17⟩ T59
  have T57 : TopTo w (S56 w os z17) ⟨314, 0, 319, 48⟩ 57 (S62 w os z17).abs := Ends.app ⟨35, pc57 w os z17⟩ T58
  have T56 : TopTo w (S55 w os z17) ⟨305, 0, 313, 23⟩ 56 (S62 w os z17).abs := Ends.app ⟨27, pc56 w os z17⟩ T57
  have T55 : TopTo w (S54 w os z17) ⟨302, 0, 304, 69⟩ 55 (S62 w os z17).abs := Ends.app ⟨34, pc55 w os z17⟩ T56
  have T54 : TopTo w (S53 w os z17) ⟨301, 0, 301, 8⟩ 54 (S62 w os z17).abs := Ends.app ⟨27, pc54 w os z17⟩ T55
  have T53 : TopTo w (S52 w os z17) ⟨300, 0, 300, 16⟩ 53 (S62 w os z17).abs := Ends.app ⟨10, pc53 w os z17⟩ T54
  have T52 : TopTo w (S51 w os z17) ⟨291, 0, 299, 42⟩ 52 (S62 w os z17).abs := Ends.app ⟨354, byRow2 "special-get-raises" (P := fun w => segRunT treeTable pw w 11 ann0 1 354 (S51 w os z17) (piecesOf (stL 52) env0 cd0 ⟨291, 0, 299, 42⟩ [topFrame q0]) = some (.next, S52 w os z17, cd0, ⟨300, 0, 300, 16⟩)) (fun w => pc52false w os z17) (fun w => pc52true w os z17) w⟩ T53
  have T51 : TopTo w (S50 w os z17) ⟨281, 0, 290, 23⟩ 51 (S62 w os z17).abs := Ends.app ⟨32, pc51 w os z17⟩ T52
  have T50 : TopTo w (S49 w os z17) ⟨260, 0, 280, 15⟩ 50 (S62 w os z17).abs := Ends.app ⟨35, pc50 w os z17⟩ T51
  have T49 : TopTo w (S48 w os z17) ⟨255, 0, 259, 18⟩ 49 (S62 w os z17).abs := Ends.app ⟨35, pc49 w os z17⟩ T50
  have T48 : TopTo w (S47 w os z17) ⟨254, 0, 254, 8⟩ 48 (S62 w os z17).abs := Ends.app ⟨30, pc48 w os z17⟩ T49
  have T47 : TopTo w (S46 w os z17) ⟨243, 0, 253, 83⟩ 47 (S62 w os z17).abs := Ends.app ⟨10, pc47 w os z17⟩ T48
  have T46 : TopTo w (S45 w os z17) ⟨226, 0, 242, 21⟩ 46 (S62 w os z17).abs := Ends.app ⟨34, pc46 w os z17⟩ T47
  have T45 : TopTo w (S44 w os z17) ⟨225, 0, 225, 8⟩ 45 (S62 w os z17).abs := Ends.app ⟨38, pc45 w os z17⟩ T46
  have T44 : TopTo w (S43 w os z17) ⟨209, 0, 224, 177⟩ 44 (S62 w os z17).abs := Ends.app ⟨10, pc44 w os z17⟩ T45
  have T43 : TopTo w (S42 w os z17) ⟨208, 0, 208, 8⟩ 43 (S62 w os z17).abs := Ends.app ⟨33, pc43 w os z17⟩ T44
  have T42 : TopTo w (S41 w os z17) ⟨205, 0, 207, 16⟩ 42 (S62 w os z17).abs := Ends.app ⟨10, pc42 w os z17⟩ T43
  have T41 : TopTo w (S40 w os z17) ⟨190, 0, 204, 16⟩ 41 (S62 w os z17).abs := Ends.app ⟨30, pc41 w os z17⟩ T42
  have T40 : TopTo w (S39 w os z17) ⟨189, 0, 189, 8⟩ 40 (S62 w os z17).abs := Ends.app ⟨310, pc40 w os z17⟩ T41
  have T39 : TopTo w (S38 w os z17) ⟨185, 0, 188, 16⟩ 39 (S62 w os z17).abs := Ends.app ⟨10, pc39 w os z17⟩ T40
  have T38 : TopTo w (S37 w os z17) ⟨184, 0, 184, 8⟩ 38 (S62 w os z17).abs := Ends.app ⟨210, pc38 w os z17⟩ T39
  have T37 : TopTo w (S36 w os z17) ⟨179, 0, 183, 12⟩ 37 (S62 w os z17).abs := Ends.app ⟨10, pc37 w os z17⟩ T38
  have T36 : TopTo w (S35 w os z17) ⟨178, 0, 178, 8⟩ 36 (S62 w os z17).abs := Ends.app ⟨32, pc36 w os z17⟩ T37
  have T35 : TopTo w (S34 w os z17) ⟨176, 0, 177, 67⟩ 35 (S62 w os z17).abs := Ends.app ⟨10, pc35 w os z17⟩ T36
  have T34 : TopTo w (S33 w os z17) ⟨162, 0, 175, 64⟩ 34 (S62 w os z17).abs := Ends.app ⟨30, pc34 w os z17⟩ T35
  have T33 : TopTo w (S32 w os z17) ⟨132, 0, 161, 16⟩ 33 (S62 w os z17).abs := Ends.app ⟨34, pc33 w os z17⟩ T34
  have T32 : TopTo w (S31 w os z17) ⟨127, 0, 131, 40⟩ 32 (S62 w os z17).abs := Ends.app ⟨38, pc32 w os z17⟩ T33
  have T31 : TopTo w (S30 w os z17) ⟨118, 0, 126, 30⟩ 31 (S62 w os z17).abs := Ends.app ⟨32, pc31 w os z17⟩ T32
  have T30 : TopTo w (S29 w os z17) ⟨116, 0, 117, 59⟩ 30 (S62 w os z17).abs := Ends.app ⟨34, pc30 w os z17⟩ T31
  have T29 : TopTo w (S28 w os z17) ⟨93, 0, 115, 76⟩ 29 (S62 w os z17).abs := Ends.app ⟨31, pc29 w os z17⟩ T30
  have T28 : TopTo w (S27 w os z17) ⟨90, 0, 92, 53⟩ 28 (S62 w os z17).abs := Ends.app ⟨39, pc28 w os z17⟩ T29
  have T27 : TopTo w (S26 w os z17) ⟨76, 0, 89, 76⟩ 27 (S62 w os z17).abs := Ends.app ⟨31, pc27 w os z17⟩ T28
  have T26 : TopTo w (S25 w os z17) ⟨58, 0, 75, 43⟩ 26 (S62 w os z17).abs := Ends.app ⟨33, pc26 w os z17⟩ T27
  have T25 : TopTo w (S24 w os z17) ⟨46, 0, 57, 18⟩ 25 (S62 w os z17).abs := Ends.app ⟨34, pc25 w os z17⟩ T26
  have T24 : TopTo w (S23 w os z17) ⟨39, 0, 45, 14⟩ 24 (S62 w os z17).abs := Ends.app ⟨35, pc24 w os z17⟩ T25
  have T23 : TopTo w (S22 w os z17) ⟨37, 0, 38, 58⟩ 23 (S62 w os z17).abs := Ends.app ⟨32, pc23 w os z17⟩ T24
  have T22 : TopTo w (S21 w os z17) ⟨36, 0, 36, 29⟩ 22 (S62 w os z17).abs := Ends.app ⟨190, pc22 w os z17⟩ T23
  have T21 : TopTo w (S20 w os z17) ⟨35, 0, 35, 8⟩ 21 (S62 w os z17).abs := Ends.app ⟨156, byRow2 "special-get-raises" (P := fun w => segRunT treeTable pw w 11 ann0 1 156 (S20 w os z17) (piecesOf (stL 21) env0 cd0 ⟨35, 0, 35, 8⟩ [topFrame q0]) = some (.next, S21 w os z17, cd0, ⟨36, 0, 36, 29⟩)) (fun w => pc21false w os z17) (fun w => pc21true w os z17) w⟩ T22
  have T20 : TopTo w (S19 w os z17) ⟨34, 0, 34, 16⟩ 20 (S62 w os z17).abs := Ends.app ⟨10, pc20 w os z17⟩ T21
  have T19 : TopTo w (S18 w os z17) ⟨33, 0, 33, 8⟩ 19 (S62 w os z17).abs := Ends.app ⟨37, pc19 w os z17⟩ T20
  have T18 : TopTo w (S17 w os z17) ⟨32, 0, 32, 14⟩ 18 (S62 w os z17).abs := Ends.app ⟨10, pc18 w os z17⟩ T19
  have T17 : TopTo w (S16 w os z16) ⟨31, 0, 31, 14⟩ 17 (S62 w os z17).abs := Ends.app E17 T18
  have T16 : TopTo w (S15 w os z10) ⟨30, 0, 30, 9⟩ 16 (S62 w os z17).abs := Ends.app E16 T17
  have T15 : TopTo w (S14 w os z10) ⟨29, 0, 29, 6⟩ 15 (S62 w os z17).abs := Ends.app ⟨25, pc15 w os z10⟩ T16
  have T14 : TopTo w (S13 w os z10) ⟨28, 0, 28, 13⟩ 14 (S62 w os z17).abs := Ends.app ⟨10, pc14 w os z10⟩ T15
  have T13 : TopTo w (S12 w os z10) ⟨27, 0, 27, 15⟩ 13 (S62 w os z17).abs := Ends.app ⟨19, pc13 w os z10⟩ T14
  have T12 : TopTo w (S11 w os z10) ⟨26, 0, 26, 15⟩ 12 (S62 w os z17).abs := Ends.app ⟨10, pc12 w os z10⟩ T13
  have T11 : TopTo w (S10 w os z10) ⟨25, 0, 25, 19⟩ 11 (S62 w os z17).abs := Ends.app ⟨10, pc11 w os z10⟩ T12
  have T10 : TopTo w (S9 w os z9) ⟨24, 0, 24, 7⟩ 10 (S62 w os z17).abs := Ends.app E10 T11
  have T9 : TopTo w (S8 w os z7) ⟨23, 0, 23, 25⟩ 9 (S62 w os z17).abs := Ends.app E9 T10
  have T8 : TopTo w (S7 w os z7) ⟨22, 0, 22, 33⟩ 8 (S62 w os z17).abs := Ends.app ⟨11, pc8 w os z7⟩ T9
  have T7 : TopTo w (S6 w os z6) ⟨21, 0, 21, 23⟩ 7 (S62 w os z17).abs := Ends.app E7 T8
  have T6 : TopTo w (S5 w os z5) ⟨20, 0, 20, 10⟩ 6 (S62 w os z17).abs := Ends.app E6 T7
  have T5 : TopTo w (S4 w os (fun _ => default)) ⟨19, 0, 19, 13⟩ 5 (S62 w os z17).abs := Ends.app E5 T6
  have T4 : TopTo w (S3 w os (fun _ => default)) ⟨18, 0, 18, 8⟩ 4 (S62 w os z17).abs := Ends.app ⟨10, pc4 w os (fun _ => default)⟩ T5
  have T3 : TopTo w (S2 w os (fun _ => default)) ⟨10, 0, 17, 20⟩ 3 (S62 w os z17).abs := Ends.app ⟨10, pc3 w os (fun _ => default)⟩ T4
  have T2 : TopTo w (S1 w os (fun _ => default)) ⟨4, 0, 9, 34⟩ 2 (S62 w os z17).abs := Ends.app ⟨32, pc2 w os (fun _ => default)⟩ T3
  have T1 : TopTo w (S0 w os (fun _ => default)) ⟨1, 0, 3, 12⟩ 1 (S62 w os z17).abs := Ends.app ⟨279, pc1 w os (fun _ => default)⟩ T2
  have T0 : TopTo w (Sb w os (fun _ => default)) ⟨0, 0, 0, 0⟩ 0 (S62 w os z17).abs := Ends.app ⟨30, pc0 w os (fun _ => default)⟩ T1
  obtain ⟨N, h⟩ := T0
  refine ⟨12 + (1 + N), go_top (preT w os (fun _ => default)) ?_⟩
  refine piece_block (segRun_of (blkT w os (fun _ => default))) ?_
  rw [btI]
  exact h
end
end Mine
end
section
open PySem PySem.W PyProof.Rows PySem.Calls
set_option maxRecDepth 100000
set_option maxHeartbeats 0
namespace Mine
noncomputable section
/-- the program seen as its law alone -/
noncomputable def qv : Program := { pw with main := { pw.main with body := pw.main.body.drop 62 } }
noncomputable abbrev LS : List Str := [Str.ofString "_wall", Str.ofString "_WallAttr", Str.ofString "_pe_doc", Str.ofString "MAX_KEY_PARTS", Str.ofString "ASCII_CTRL", Str.ofString "ILLEGAL_BASIC_STR_CHARS", Str.ofString "ILLEGAL_MULTILINE_BASIC_STR_CHARS", Str.ofString "ILLEGAL_LITERAL_STR_CHARS", Str.ofString "TOML_WS", Str.ofString "TOML_WS_AND_NEWLINE", Str.ofString "ascii_lowercase", Str.ofString "ascii_uppercase", Str.ofString "ascii_letters", Str.ofString "digits", Str.ofString "hexdigits", Str.ofString "BARE_KEY_CHARS", Str.ofString "HEXDIGIT_CHARS", Str.ofString "MappingProxyType", Str.ofString "BASIC_STR_ESCAPE_REPLACEMENTS", Str.ofString "TOMLDecodeError", Str.ofString "skip_chars", Str.ofString "skip_until", Str.ofString "parse_key", Str.ofString "parse_key_part", Str.ofString "parse_one_line_basic_str", Str.ofString "parse_basic_str_escape", Str.ofString "parse_basic_str_escape_multiline", Str.ofString "parse_hex_char", Str.ofString "parse_literal_str", Str.ofString "parse_basic_str", Str.ofString "suffixed_err", Str.ofString "is_unicode_scalar_value", Str.ofString "_plain_name", Str.ofString "ABCMeta", Str.ofString "_ABCLike", Str.ofString "_abc_plain_meta", Str.ofString "fspath", Str.ofString "_splitext", Str.ofString "_check_arg_types", Str.ofString "_get_sep", Str.ofString "join", Str.ofString "split", Str.ofString "splitext", Str.ofString "_law_path", Str.ofString "_law_names", Str.ofString "_law_cut", Str.ofString "_law_peeled", Str.ofString "_law_plain", Str.ofString "_law_due", Str.ofString "_law_read", Str.ofString "_law_holds"]
theorem look0 (w : World) (os : OsState) (z : Nat → Obj) : (staticsOk (importedModules pw.main.body) (boot_heap w.params) (S62 w os z).abs.heap && namesBound pw (S62 w os z).abs.heap && gensDone (S62 w os z).abs && laidKept (boot_heap w.params) (S62 w os z).abs.heap) = true := by kernel_rfl
theorem look1 (w : World) (os : OsState) (z : Nat → Obj) : openSeen qv LS (importedModules pw.main.body) (fun _ => true) false (S62 w os z).abs = openGood qv LS := by kernel_rfl
theorem size0 (w : World) : ((boot_heap w.params).isNs mainGlobals && (#[] : Array GenState).size == 0, (boot_heap w.params).objs.size, (boot_heap w.params).nsMap mainGlobals "__annotations__") = (true, 11, ann0) := by kernel_rfl
theorem open0 : ∀ w : World, (fencedOpening treeTable pw w 600).map (fun s => (s.heap, s.gens, s.drawn, s.toks)) = some (boot_heap w.params, Array.mk [], boot_drawn, boot_toks) :=
  boot_open (p := pw) (by rfl) (by rfl) (fun s => by rfl)
end
end Mine
end
section
open PySem PySem.W PyProof.Rows PySem.Calls
set_option maxRecDepth 100000
set_option maxHeartbeats 0
namespace Mine
noncomputable section
noncomputable def KF (P : Params) : Frag := (nat_lit 2, boot_o_2 P) :: (nat_lit 3, d3 P (vS "law_ij0142_01" 979) 60 61) :: (nat_lit 15, o15v0 P) :: (nat_lit 17, o17v0 P) :: (nat_lit 18, o18v0 P) :: (nat_lit 20, o20v0 P) :: (nat_lit 21, o21v0 P) :: (nat_lit 103, o103v0 P) :: (nat_lit 104, o104v0 P) :: (nat_lit 105, o105v0 P) :: (nat_lit 112, o112v0 P) :: (nat_lit 113, o113v0 P) :: (nat_lit 114, o114v0 P) :: (nat_lit 115, o115v0 P) :: (nat_lit 118, o118v0 P) :: (nat_lit 120, o120v0 P) :: (nat_lit 121, o121v0 P) :: (nat_lit 123, o123v0 P) :: (nat_lit 124, o124v0 P) :: (nat_lit 125, o125v0 P) :: (nat_lit 127, o127v0 P) :: (nat_lit 128, o128v0 P) :: (nat_lit 130, o130v0 P) :: (nat_lit 131, o131v0 P) :: (nat_lit 132, o132v0 P) :: (nat_lit 134, o134v0 P) :: (nat_lit 135, o135v0 P) :: (nat_lit 137, o137v0 P) :: (nat_lit 138, o138v0 P) :: (nat_lit 139, o139v0 P) :: (nat_lit 141, o141v0 P) :: (nat_lit 142, o142v0 P) :: (nat_lit 144, o144v0 P) :: (nat_lit 145, o145v0 P) :: (nat_lit 146, o146v0 P) :: (nat_lit 148, o148v0 P) :: (nat_lit 149, o149v0 P) :: (nat_lit 151, o151v0 P) :: (nat_lit 152, o152v0 P) :: (nat_lit 153, o153v0 P) :: (nat_lit 154, o154v0 P) :: (nat_lit 156, o156v0 P) :: (nat_lit 157, o157v0 P) :: (nat_lit 159, o159v0 P) :: (nat_lit 160, o160v0 P) :: (nat_lit 161, o161v0 P) :: (nat_lit 163, o163v0 P) :: (nat_lit 164, o164v0 P) :: (nat_lit 166, o166v0 P) :: (nat_lit 167, o167v0 P) :: (nat_lit 168, o168v0 P) :: (nat_lit 170, o170v0 P) :: (nat_lit 171, o171v0 P) :: (nat_lit 173, o173v0 P) :: (nat_lit 174, o174v0 P) :: (nat_lit 175, o175v0 P) :: (nat_lit 177, o177v0 P) :: (nat_lit 178, o178v0 P) :: (nat_lit 180, o180v0 P) :: (nat_lit 181, o181v0 P) :: (nat_lit 182, o182v0 P) :: (nat_lit 184, o184v0 P) :: (nat_lit 185, o185v0 P) :: (nat_lit 187, o187v0 P) :: (nat_lit 188, o188v0 P) :: (nat_lit 189, o189v0 P) :: (nat_lit 191, o191v0 P) :: (nat_lit 192, o192v0 P) :: (nat_lit 194, o194v0 P) :: (nat_lit 195, o195v0 P) :: (nat_lit 196, o196v0 P) :: (nat_lit 198, o198v0 P) :: (nat_lit 199, o199v0 P) :: (nat_lit 201, o201v0 P) :: (nat_lit 202, o202v0 P) :: (nat_lit 203, o203v0 P) :: (nat_lit 205, o205v0 P) :: (nat_lit 206, o206v0 P) :: (nat_lit 208, o208v0 P) :: (nat_lit 209, o209v0 P) :: (nat_lit 210, o210v0 P) :: (nat_lit 217, o217v0 P) :: (nat_lit 219, o219v0 P) :: (nat_lit 220, o220v0 P) :: (nat_lit 222, o222v0 P) :: (nat_lit 223, o223v0 P) :: (nat_lit 224, o224v0 P) :: (nat_lit 225, o225v0 P) :: (nat_lit 226, o226v1 P) :: (nat_lit 229, o229v0 P) :: (nat_lit 236, o236v0 P) :: (nat_lit 238, o238v0 P) :: (nat_lit 239, o239v0 P) :: (nat_lit 241, o241v0 P) :: (nat_lit 242, o242v0 P) :: (nat_lit 243, o243v0 P) :: (nat_lit 245, o245v0 P) :: (nat_lit 246, o246v0 P) :: (nat_lit 248, o248v0 P) :: (nat_lit 249, o249v0 P) :: (nat_lit 250, o250v0 P) :: (nat_lit 252, o252v0 P) :: (nat_lit 253, o253v0 P) :: (nat_lit 255, o255v0 P) :: (nat_lit 256, o256v0 P) :: (nat_lit 257, o257v0 P) :: (nat_lit 258, o258v0 P) :: (nat_lit 259, o259v0 P) :: (nat_lit 262, o262v0 P) :: (nat_lit 264, o264v0 P) :: (nat_lit 265, o265v0 P) :: (nat_lit 267, o267v0 P) :: (nat_lit 268, o268v0 P) :: (nat_lit 269, o269v0 P) :: (nat_lit 271, o271v0 P) :: (nat_lit 272, o272v0 P) :: (nat_lit 274, o274v0 P) :: (nat_lit 275, o275v0 P) :: (nat_lit 276, o276v0 P) :: (nat_lit 278, o278v0 P) :: (nat_lit 279, o279v0 P) :: (nat_lit 281, o281v0 P) :: (nat_lit 282, o282v0 P) :: (nat_lit 283, o283v0 P) :: (nat_lit 285, o285v0 P) :: (nat_lit 286, o286v0 P) :: (nat_lit 288, o288v0 P) :: (nat_lit 289, o289v0 P) :: (nat_lit 290, o290v0 P) :: (nat_lit 292, o292v0 P) :: (nat_lit 293, o293v0 P) :: (nat_lit 295, o295v0 P) :: (nat_lit 296, o296v0 P) :: (nat_lit 297, o297v0 P) :: (nat_lit 299, o299v0 P) :: (nat_lit 300, o300v0 P) :: (nat_lit 302, o302v0 P) :: (nat_lit 303, o303v0 P) :: (nat_lit 304, o304v0 P) :: (nat_lit 306, o306v0 P) :: (nat_lit 307, o307v0 P) :: (nat_lit 309, o309v0 P) :: (nat_lit 310, o310v0 P) :: (nat_lit 311, o311v0 P) :: (nat_lit 313, o313v0 P) :: (nat_lit 314, o314v0 P) :: (nat_lit 316, o316v0 P) :: (nat_lit 317, o317v1 P) :: (nat_lit 321, o321v0 P) :: (nat_lit 324, o324v0 P) :: (nat_lit 325, o325v0 P) :: (nat_lit 326, o326v0 P) :: (nat_lit 328, o328v0 P) :: (nat_lit 329, o329v0 P) :: (nat_lit 331, o331v0 P) :: (nat_lit 332, o332v0 P) :: (nat_lit 333, o333v0 P) :: (nat_lit 336, o336v0 P) :: (nat_lit 337, o337v0 P) :: (nat_lit 338, o338v0 P) :: (nat_lit 340, o340v0 P) :: (nat_lit 341, o341v0 P) :: (nat_lit 343, o343v0 P) :: (nat_lit 344, o344v0 P) :: (nat_lit 345, o345v0 P) :: (nat_lit 348, o348v0 P) :: (nat_lit 349, o349v0 P) :: (nat_lit 350, o350v0 P) :: (nat_lit 352, o352v0 P) :: (nat_lit 353, o353v0 P) :: (nat_lit 355, o355v0 P) :: (nat_lit 356, o356v0 P) :: (nat_lit 357, o357v0 P) :: (nat_lit 359, o359v0 P) :: (nat_lit 360, o360v0 P) :: (nat_lit 362, o362v0 P) :: (nat_lit 363, o363v0 P) :: (nat_lit 364, o364v0 P) :: (nat_lit 367, o367v0 P) :: (nat_lit 368, o368v0 P) :: (nat_lit 369, o369v0 P) :: (nat_lit 372, o372v0 P) :: (nat_lit 373, o373v0 P) :: []
noncomputable def KA : List Addr := [2, 3, 15, 17, 18, 20, 21, 103, 104, 105, 112, 113, 114, 115, 118, 120, 121, 123, 124, 125, 127, 128, 130, 131, 132, 134, 135, 137, 138, 139, 141, 142, 144, 145, 146, 148, 149, 151, 152, 153, 154, 156, 157, 159, 160, 161, 163, 164, 166, 167, 168, 170, 171, 173, 174, 175, 177, 178, 180, 181, 182, 184, 185, 187, 188, 189, 191, 192, 194, 195, 196, 198, 199, 201, 202, 203, 205, 206, 208, 209, 210, 217, 219, 220, 222, 223, 224, 225, 226, 229, 236, 238, 239, 241, 242, 243, 245, 246, 248, 249, 250, 252, 253, 255, 256, 257, 258, 259, 262, 264, 265, 267, 268, 269, 271, 272, 274, 275, 276, 278, 279, 281, 282, 283, 285, 286, 288, 289, 290, 292, 293, 295, 296, 297, 299, 300, 302, 303, 304, 306, 307, 309, 310, 311, 313, 314, 316, 317, 321, 324, 325, 326, 328, 329, 331, 332, 333, 336, 337, 338, 340, 341, 343, 344, 345, 348, 349, 350, 352, 353, 355, 356, 357, 359, 360, 362, 363, 364, 367, 368, 369, 372, 373]
theorem KF_in (w : World) (os : OsState) (z : Nat → Obj) : (KF w.params).In (S62 w os z).abs.heap := by
  have e1 : KA = (KF w.params).map (·.1) := by kernel_rfl
  have e2 : KA.map (S62 w os z).abs.heap.get? = (KF w.params).map (fun p => some p.2) := by kernel_rfl
  exact Frag.in_of e1 e2
theorem get79 (w : World) (os : OsState) (z : Nat → Obj) : (S62 w os z).abs.heap.get? 79 = alive (z 79) := by kernel_rfl
theorem get85 (w : World) (os : OsState) (z : Nat → Obj) : (S62 w os z).abs.heap.get? 85 = alive (z 85) := by kernel_rfl
theorem get94 (w : World) (os : OsState) (z : Nat → Obj) : (S62 w os z).abs.heap.get? 94 = alive (z 94) := by kernel_rfl
end
end Mine
end
section
open PySem PySem.W PyProof.Rows PySem.Calls
set_option maxRecDepth 100000
set_option maxHeartbeats 0
namespace Mine
abbrev row : OpenRow := PySem.Challenge.rw_ij0142_01.row
/-- what the walk may read of the text's own objects -/
noncomputable def SetsIn (P : Params) (h : Heap) : Prop :=
  (∃ es ep t, h.get? 79 = some (mkS es ep t) ∧ GoodS (L79 P) es t) ∧ (∃ es ep t, h.get? 85 = some (mkS es ep t) ∧ GoodS (chars P T85 403 2) es t) ∧
    ∃ es ep t, h.get? 94 = some (mkS es ep t) ∧ GoodS (chars P T94 428 64) es t
noncomputable def YW (w : World) (h : Heap) : Prop := (KF w.params).In h ∧ SetsIn w.params h
noncomputable abbrev XW : (Str → Option Value) → Heap → Prop := fun _ _ => True
theorem YW.keeps {w : World} {h h' : Heap} (Y : YW w h) (k : ∀ b o, h.get? b = some o → h'.get? b = some o) : YW w h' := by
  obtain ⟨a, ⟨e1, p1, t1, g1, q1⟩, ⟨e2, p2, t2, g2, q2⟩, e3, p3, t3, g3, q3⟩ := Y
  exact ⟨a.keeps k, ⟨e1, p1, t1, k _ _ g1, q1⟩, ⟨e2, p2, t2, k _ _ g2, q2⟩, e3, p3, t3, k _ _ g3, q3⟩
theorem YW_of (w : World) (os : OsState) (z : Nat → Obj) (s : Sets w.params z) : YW w (S62 w os z).abs.heap := by
  obtain ⟨⟨e1, p1, t1, g1, q1⟩, ⟨e2, p2, t2, g2, q2⟩, e3, p3, t3, g3, q3⟩ := s
  exact ⟨KF_in w os z, ⟨e1, p1, t1, by rw [get79, g1]; rfl, q1⟩, ⟨e2, p2, t2, by rw [get85, g2]; rfl, q2⟩, e3, p3, t3, by rw [get94, g3]; rfl, q3⟩
end Mine
end
section
open PySem PySem.W PyProof.Rows PySem.Calls
set_option maxRecDepth 100000
set_option maxHeartbeats 0
namespace Mine
end Mine
end
section
open PySem PySem.W PyProof.Rows PySem.Calls
set_option maxRecDepth 100000
set_option maxHeartbeats 0
namespace Mine
theorem get190 (w : World) (os : OsState) (z : Nat → Obj) : (S62 w os z).abs.heap.get? 190 = some (tabObj #[]) := by kernel_rfl
noncomputable def YW2 (w : World) (h : Heap) : Prop := YW w h ∧ h.get? 190 = some (tabObj #[])
theorem YW2.keeps {w : World} {h h' : Heap} (Y : YW2 w h) (k : ∀ b o, h.get? b = some o → h'.get? b = some o) : YW2 w h' := ⟨Y.1.keeps k, k _ _ Y.2⟩
theorem YW2_of (w : World) (os : OsState) (z : Nat → Obj) (s : Sets w.params z) : YW2 w (S62 w os z).abs.heap := ⟨YW_of w os z s, get190 w os z⟩
theorem after_top2 (w : World) : (∃ s, AfterRun (opening pw) w s) ∧ ∀ s, AfterRun (opening pw) w s → ∃ s₀, fenceModules? pw s = some s₀ ∧ s₀.gens = #[] ∧ ∃ s₁, TopRan pw w s₀ s₁ ∧ s₁.asleep ∧ leftWithCleanup s₁.gens = false ∧
    s₁.heap.isNs mainGlobals = true ∧ Ground qv LS [] XW w s₁ (s₁.heap.nsMap mainGlobals) (s₁.heap.nsMap builtinsNs) s₁.heap ∧ YW2 w s₁.heap := by
  obtain ⟨s₀, ho, e0⟩ := Option.map_eq_some_iff.mp (open0 w)
  rw [← table_eq_tree] at ho
  obtain ⟨s, hi, hf⟩ := Option.bind_eq_some_iff.mp ho
  have A := AfterImport.of_importEnds hi
  refine ⟨⟨s, A⟩, fun s' hs' => ?_⟩
  obtain rfl : s' = s := AfterImport.unique hs' A
  have z0 : s₀.asleep := Shared.asleep_of_life (fence_lifeW hf) A.life
  obtain ⟨h0, gs0, d0, k0, os⟩ := s₀
  simp only [Prod.mk.injEq] at e0
  obtain ⟨rfl, rfl, rfl, rfl⟩ := e0
  obtain ⟨z, S, N, r⟩ := tops w os
  rw [← table_eq_tree] at r
  have sz := size0 w
  simp only [Prod.mk.injEq, Bool.and_eq_true] at sz
  obtain ⟨⟨hg0, _⟩, hsz, hann⟩ := sz
  obtain ⟨hrun, hlife, hos, hold⟩ := topRun_spec _ _ _ _ z0 r
  obtain ⟨hl, hlk⟩ := Bool.and_eq_true_iff.mp (look0 w os z)
  obtain ⟨hl, hgd⟩ := Bool.and_eq_true_iff.mp hl
  obtain ⟨hst, hnb⟩ := Bool.and_eq_true_iff.mp hl
  obtain ⟨G, hgn, hns, h3, h4, h5, h6⟩ := ground_of_open (w := w) (XP := XW) (fun _ _ => trivial) (by decide +kernel) (look1 w os z)
  refine ⟨_, hf, rfl, _, ⟨hrun, hlife, Shared.rest_eq hos, fun b o hb hn => hold b o (hsz ▸ Heap.lt_size hb) (fun q => hn (.inl q)) (fun q => hn (.inr (.inl q))) (fun q => hn (.inr (.inr ?_))) hb, h3, statics_of_ok hst, h4, h5, h6, gens_of_done hgd, names_of_bound hnb, laid_of_kept hlk⟩,
    Shared.asleep_of_life hlife z0, by simpa using hgn, hns, G, YW2_of w os z S⟩
  exact (Pin.globalOf_eq hg0 _).trans (hann.trans q)
theorem ends_G {c : ClaimW} {s₀ s₁ s' : Shared} {args : List WData} {vs : List Value} {as : List Addr} {r : Result} (hsame : c.same = none) (hwi : c.within = []) (hi : ∀ a b, c.ident a b = true)
    (hrd : ReadsAllW c.records (classAt s₀.heap) s₁.heap vs args as) (hold : ∀ a ∈ as, ∃ o, s₁.heap.get? a = some o) (hos₁ : s₁.os = s₀.os)
    (g : GoodWG c (classAt s₀.heap) (ExcName.means s₀.heap) args { s₁ with gens := #[] } r s') : c.Ends s₀ args vs s₁ r s' ∧ s'.os = s₀.os ∧ AllBare s'.gens := by
  obtain ⟨hcase, hK, hos, hg'⟩ := g
  refine ⟨?_, hos.trans hos₁, hg'⟩
  rcases hcase with ⟨v, d, bs, rfl, hnr, hrv, hpost, hun⟩ | ⟨e, ob, cls, rfl, he, hcls, hpr, hnew⟩
  · exact .inl ⟨v, rfl, hnr, ⟨d, args, bs, as, hrv, hrd.keepsK fun b o e hc => hK.get_of_cls e hc, hpost, fun hu => ⟨(hun hu).1, (hun hu).2, fun a ha hb' => by
      obtain ⟨o, ho⟩ := hold a hb'
      have := (hun hu).2 a ha
      rw [show s₁.heap.get? a = none from this] at ho; cases ho⟩, fun _ _ => hi _ _⟩, (fun i hi' => by rw [hsame] at hi'; cases hi'), (fun b o hb' _ _ => hK.old b o hb'), fun i hi' => by rw [hwi] at hi'; cases hi'⟩
  · exact .inr ⟨e, ob, cls, rfl, he, hcls, hpr, hnew, fun b o hb' => hK.old b o hb'⟩
/-- the law's walk, all that is left to show -/
noncomputable abbrev WalkL2 (d : DefRec) (kwd : List (Str × Expr)) : Prop :=
  ∀ (w : World) (s₀ s₁ : Shared) (mg mb : Str → Option Value), Ground qv LS row.toRowW.records XW w s₀ mg mb s₁.heap → YW2 w s₁.heap → ∀ (a : Addr) (o : Obj) (pm cd doc dV kV : Value), s₁.heap.get? a = some o →
    o.data = .func { docDef d.name d.params d.body d.scope pm cd doc with defaults := dV, kwdefaults := kV } → s₁.heap.CodeRec cd d.name → Dflts mg s₁.heap d.params kwd dV kV → mg d.name = some (.ref a) → s₁.gens = #[] →
    ∀ (args : List WData) (vals : List Value) (as : List Addr), row.toRowW.claim.pre args = true → WData.layableAll args = true → ReadsAllW row.toRowW.records (classAt s₀.heap) s₁.heap vals args as → WellAll w.params s₁.heap vals args → (∀ a ∈ as, (a == sysModules) = false) →
      wpAny (model row.toRowW.prog w) callerA (PySem.call (.ref a) vals) (fun v s' => GoodWG row.toRowW.claim (classAt s₀.heap) (ExcName.means s₀.heap) args s₁ (.ok (.ret v)) s' ∧ s'.gens = #[])
        (fun e s' => GoodWG row.toRowW.claim (classAt s₀.heap) (ExcName.means s₀.heap) args s₁ (.error e) s' ∧ s'.gens = #[]) s₁
theorem row_holds2 {d : DefRec} {kwd : List (Str × Expr)} (hdef : defOf qv row.name = some (d, kwd)) (hp : row.prog.theDef row.name = some (d.params, d.body, d.scope)) (hk : kwWritten? d.params.kwonlyargs d.params.kw_defaults = some kwd)
    (k1 : row.wellSaid = true) (k2 : (chainsOk qv && opensWell row.prog && (frees row.toRowW && row.within.isEmpty)) = true) (hb : row.prog.bare) (hw : row.toRowW.promised) (walk : WalkL2 d kwd) : row.Holds := by
  obtain ⟨k2, k3⟩ := Bool.and_eq_true_iff.mp k2
  obtain ⟨_, k4⟩ := Bool.and_eq_true_iff.mp k2
  obtain ⟨k5, k6⟩ := Bool.and_eq_true_iff.mp k3
  obtain ⟨hsame, hu, ha, hap, hm⟩ := frees_parts k5
  have hi := ident_freeW hu ha hap
  refine ⟨k1, hw, ⟨hb, k4, rfl⟩, hw.witness, fun w => ?_⟩
  obtain ⟨some_, all_⟩ := after_top2 w
  refine ⟨some_, fun s hs => ?_⟩
  obtain ⟨s₀, hf, hg0, t, hT, hz, hcl, hns, G, Y⟩ := all_ s hs
  refine ⟨s₀, hf, hg0, t, hT, fun n hn => ?_, fun x hx => (nomatch hx), fun x hx => (nomatch hx), ?_⟩
  · obtain rfl : n = row.name := by split at hn <;> simp_all
    exact pinned_of_view hns G hdef hp hk
  · refine ClaimW.callFrom_of_specN (c := row.toRowW.claim) hz hcl fun args hpre hlay ord hord => ?_
    obtain ⟨⟨vs, u⟩, hl⟩ := Option.isSome_iff_exists.mp (layAllW_isSome (P := w.params) (ord := ord) G.has args row.toRowW.args t (pre_splitW hpre).1)
    have keeps := layAllW_keeps _ _ _ hl
    have rest := layAllW_rest _ _ _ hl
    obtain ⟨as, hrd, hin, hold⟩ := reads_layAllW hord _ _ _ hl hlay u.heap (fun _ _ e => e)
    have G' := G.keeps (fun _ _ _ _ _ => trivial) keeps
    obtain ⟨a, o, pm, cd, doc, dV, kV, h1, h2, h3, h4, h5⟩ := G'.fn hdef
    have e := defOf_name hdef
    have h := walk w t { u with gens := #[] } _ _ G' (Y.keeps keeps) a o pm cd doc dV kV h2 h3 h4 h5 (e ▸ h1) rfl args vs as hpre hlay hrd (well_layAllW hord args t _ hl _ fun _ _ e => e)
      (fun b hb' => beq_eq_false_iff_ne.mpr fun q => by have := (hin.2.2 b hb').1; subst q; exact absurd G.low (Nat.not_lt.mpr this))
    refine ⟨vs, u, hl, ?_⟩
    show wpAny (model row.prog w) callerA (do match ← nsGet mainNs row.name with
      | some f => do ret (← PySem.call f vs)
      | none => unsupported "claim.caller:no-such-global") _ _ _
    refine wpAny_bind (wpAny_nsGet G'.T.g ?_)
    rw [h1]
    refine wpAny_bind (wpAny_mono h (fun v s' g => wpAny_pure ⟨_, rfl, ?_⟩) fun e s' g => ?_)
    · have q := ends_G (c := row.toRowW.claim) hsame (List.isEmpty_iff.mp k6) hi hrd hold rest.2.2.1 g.1
      exact ⟨q.1, q.2.1, g.2, fun x => (nomatch x)⟩
    · have q := ends_G (c := row.toRowW.claim) hsame (List.isEmpty_iff.mp k6) hi hrd hold rest.2.2.1 g.1
      exact ⟨q.1, q.2.1, g.2, fun x => (nomatch x)⟩
end Mine
end
section
open PySem PySem.W PyProof.Rows PySem.Calls
set_option maxRecDepth 100000
set_option maxHeartbeats 0
namespace Mine
noncomputable abbrev PGm : Program := PySem.Challenge.rw_ij0142_01.row.prog
theorem froz_of {w : World} {h : Heap} {a : Addr} {L : List (Int × Value)} {es : Array (Int × Value)} {ep : Nat} {t : SetTable} (ho : h.get? a = some (mkS es ep t)) (g : GoodS L es t)
    (hL : ∀ e ∈ L, ∃ y u, e = (PyData.keyHash w.params y, .str y u)) : FrozAt (strKind PGm w) h a (fun y => L.any fun e => e.2.isStr y) L.length := by
  refine ⟨es, ep, t, ho, fun e he => ?_, fun k => ?_, g.size, g.2⟩
  · obtain ⟨y, u, rfl⟩ := hL e (g.1.mem_iff.mp he)
    exact ⟨⟨y, by simp [PySem.strKind, Value.isStrOf], rfl⟩, rfl⟩
  · rw [List.any_eq_true]
    constructor
    · rintro ⟨e, he, hk⟩
      refine ⟨e, g.1.mem_iff.mpr he, ?_⟩
      obtain ⟨y, u, rfl⟩ := hL e he
      exact hk
    · rintro ⟨e, he, hk⟩
      have he := g.1.mem_iff.mp he
      refine ⟨e, he, ?_⟩
      obtain ⟨y, u, rfl⟩ := hL e he
      exact hk
end Mine
end
section
open PySem PySem.W PyProof.Rows PySem.Calls
set_option maxRecDepth 100000
set_option maxHeartbeats 8000000
namespace Mine
end Mine
end
section
open PySem PySem.W PyProof.Rows PySem.Calls PySem.Spec
set_option maxRecDepth 100000
set_option maxHeartbeats 8000000
namespace Mine
section
variable {prog : Program} {w : World} {A₀ : Around} {E : Value → Shared → Prop} {s' : Shared} {base g g₀ h : Heap} {outer : List Env} {L a e : Addr} {m : Str → Option Value} {name : Str} {scope : Scope} {cd : Value}
  {b₀ : Stmt} {suite : List Stmt} {pos np : Pos} {rest : List ExceptHandler} {Q : Flow → Shared → Prop} {news : List (Addr × Obj)} {K₁ : Frag}
  {p : Program} {loose : List Str} {mean : ExcName → Option Value} {mg mb : Str → Option Value} {x : Str} {X T' : String}
/-- an exception that the interpreter has raised here, caught here, the def called from anywhere -/
theorem caught_here (hx : Heap.NewExc h s'.heap e X) (F : Fr g L h m) (N : News g L h news) (K : Below A₀ base outer g) (XB : K₁.In base) (TB : Top p loose mean mg mb base)
    (D : KtsDicts (outer.filterMap (·.frame)) g) (T0 : KtsTurn (outer.filterMap (·.frame)) g₀ g)
    (ex : nsIn K₁ mainGlobals x = some none) (hv : bootBuiltins x = some (.type T')) (hn' : x ≠ "__name__")
    (hexc : isSubtype (.type T') (.type "BaseException") = pure true) (hnt : isSubtype (.type ((Manifest.find? T').elim "type" fun y => y.metatype)) (.type "tuple") = pure false) (hsub : isSubtype (.type X) (.type T') = pure true)
    (k : ∀ h' g', KtsTurn (outer.filterMap (·.frame)) g₀ g' → Fr g' L h' m → News g' L h' news → Below A₀ base outer g' → K₁.In g' → Top p loose mean mg mb g' → KtsDicts (outer.filterMap (·.frame)) g' →
      wpAny (model prog w) ((A₀.deeper (envOf name scope L a cd)).mark (some (.ref e))) (execs (b₀ :: suite) (envOf name scope L a cd)) Q E { s' with heap := h' })
    (hk : scope.kind = .function := by rfl) (hxk : (envOf name scope L a cd).kindOf x = some .globalImplicit := by rfl) (hd : (x == ("__debug__" : Str)) = false := by decide)
    (hE : PassesOwnAt (model prog w) ((A₀.deeper (envOf name scope L a cd)).mark (some (.ref e))) (A₀.deeper (envOf name scope L a cd)) (envOf name scope L a cd) E := by passes_own) :
    wpAny (model prog w) (A₀.deeper (envOf name scope L a cd)) (noteFrame (.ref e) (envOf name scope L a cd))
      (fun _ s₂ => wpAny (model prog w) (A₀.deeper (envOf name scope L a cd)) (setFlight (.ref e) none) (fun _ s₃ =>
        wpAny (model prog w) (A₀.deeper (envOf name scope L a cd)) (handleBy (.ref e) (envOf name scope L a cd) (.ExceptHandler (some (.Name x np)) none (b₀ :: suite) pos :: rest)) Q E s₃) E s₂) E s' := by
  have K' := K.push (name := name) (a := a) (cd := cd) F hk
  have hin : ∀ env ∈ (envOf name scope L a cd :: outer), ∀ b, env.frame = some b → b ∈ (envOf name scope L a cd :: outer).filterMap (·.frame) := fun env he b hb => List.mem_filterMap.mpr ⟨env, he, hb⟩
  obtain ⟨ob, tp, he, hcls, hdt⟩ := hx.there
  have hen : (hideAll h ((envOf name scope L a cd :: outer).filterMap (·.frame))).get? e = none := by
    cases q : (hideAll h ((envOf name scope L a cd :: outer).filterMap (·.frame))).get? e with
    | none => rfl
    | some o => have := of_hideAll _ q; rw [hx.new] at this; cases this
  have hBG : ∀ b o, h.get? b = some o → b ∉ (envOf name scope L a cd :: outer).filterMap (·.frame) → (hideAll h ((envOf name scope L a cd :: outer).filterMap (·.frame))).get? b = some o := fun b o q nm => hideAll_get _ q nm
  have hl : ∀ q ∈ news, (hideAll h ((envOf name scope L a cd :: outer).filterMap (·.frame))).get? q.1 = some q.2 := fun q hq => by
    refine hideAll_get _ (N q hq).1 fun hm => ?_
    obtain ⟨env, he, hf⟩ := List.mem_filterMap.mp hm
    rcases List.mem_cons.mp he with rfl | he
    · exact (N q hq).2.1 (Option.some.inj hf).symm
    · obtain ⟨o, ho, _⟩ := (K.frames.mem (List.mem_filterMap.mpr ⟨env, he, hf⟩)).2
      rw [(N q hq).2.2] at ho; cases ho
  have hsm : h.UpToSlots s'.heap := Heap.UpToSlots.of_keeps hx.keeps
  unfold noteFrame
  simp only [show (envOf name scope L a cd).frame = some L from rfl]
  refine wpAny_bind (wpAny_field he hdt (x := .none) rfl ?_)
  rw [if_neg (by decide)]
  refine wpAny_entryW (a0 := tp) (base := hideAll h ((envOf name scope L a cd :: outer).filterMap (·.frame))) (Around.frames_deeper K.stack) ((funFrames_hide K'.frames hin).of_keeps fun b o hb _ => ⟨o, hx.keeps b o hb, rfl⟩) rfl he (fun b o hb => hx.keeps b o (of_hideAll _ hb)) hen hdt (by show 1 < 6; decide) rfl fun h₄ hN => ?_
  obtain ⟨n1, n2, n3, hsm₄⟩ := hN
  rw [hcls] at n3
  have hheld₄ : Heap.HeldW (hideAll h ((envOf name scope L a cd :: outer).filterMap (·.frame))) (envOf name scope L a cd :: outer) e (.type X) tp L h₄ := ⟨n1, hen, n2, n3⟩
  refine wpAny_landsW hheld₄ fun h₅ hheld hsm₅' => ?_
  have hsm₄ : s'.heap.UpToSlots h₄ := hsm₄
  have hsm₅ := hsm₄.trans hsm₅'
  obtain ⟨g₅, T₅, F₅, K₅⟩ := kts_ground K F hBG hheld.1 (hsm.trans hsm₅)
  have X₅ : K₁.In g₅ := XB.keeps K₅.stays
  have P₅ : TopRead p loose mg mb g₅ := topRead_of (TB.keeps K₅.stays)
  obtain ⟨ob', hob, hobc⟩ := hheld.there
  refine wpAny_handleBy_builtin (X := X) (T := T') (b := true) hexc hnt hsub (name_B F₅ X₅ P₅ ex hv hn' ⟨rfl, ⟨ob', hob, hobc⟩, ?_⟩ hk hxk hd)
  refine lands_againW hheld fun h₆ hfl₆ hsm₆ => ?_
  obtain ⟨g₆, T₆, F₆, K₆⟩ := kts_ground K F hBG hfl₆.1 ((hsm.trans hsm₅).trans hsm₆)
  have hL : (hideAll h ((envOf name scope L a cd :: outer).filterMap (·.frame))).get? L = none := by
    obtain ⟨_, ⟨L', _, hf, hn', _⟩, _⟩ := n2
    obtain rfl : L = L' := Option.some.inj hf
    exact hn'
  have Nl : News g₆ L h₆ news := fun q hq => ⟨hfl₆.1 _ _ (hl q hq), (fun z => by have := hl q hq; rw [z, hL] at this; cases this), T₆.none_ _ (N q hq).2.2⟩
  exact wpAny_passesOwnAt hE (k h₆ g₆ (T0.trans T₆) F₆ Nl K₆ (XB.keeps K₆.stays) (TB.keeps K₆.stays) (D.turn T₆))
end
end Mine
end
section
open PySem PySem.W PyProof.Rows PySem.Calls
set_option maxRecDepth 100000
set_option maxHeartbeats 8000000
namespace Mine
section
variable {prog : Program} {w : World} {A : Around} {E : Value → Shared → Prop} {s : Shared}
noncomputable def hashNone : Int := 0xFCA86420
theorem pyHash_none {Q : Int → Shared → Prop} (h : Q hashNone { s with toks := s.toks + 1 }) : wpAny (model prog w) A (pyHash .none) Q E s := by
  have hT : s.TypeIs .none "NoneType" := rfl
  show wpAny _ _ (pyHashByItsType .none) Q E s
  unfold pyHashByItsType
  have hv : [Value.none].any Value.onHeap = false := rfl
  refine wpAny_bind ?_
  rw [cRoomFor, if_neg (by rw [hv]; exact Bool.false_ne_true)]; refine wpAny_pure ?_
  refine wpAny_bind (wpAny_specialOf hT F.slot_NoneType_hash.lookup ?_)
  show wpAny _ _ (if (some (Value.builtin "NoneType.__hash__") == some Value.none) = true then _ else _) Q E s
  rw [if_neg (by rw [beq_builtin_none]; exact Bool.false_ne_true)]
  refine wpAny_bind (wpAny_specialOf hT F.slot_NoneType_hash.lookup ?_)
  show wpAny _ _ (callSpecialIfBoundUnlessNone? .none "__hash__" _ >>= _) Q E s
  refine wpAny_bind (wpAny_callSpecialIfBoundUnlessNone?_slot hT F.slot_NoneType_hash
    (wpAny_call_entry F.slot_NoneType_hash hT F.entry_NoneType_hash
      (show wpAny _ _ (do ret (← mkInt hashNone)) _ _ s from wpAny_ret_mkInt ?_) (F.args_NoneType_hash_1 _)))
  exact wpAny_pure h
theorem eqBool_str_none {a : Str} {t : Tok} {Q : Bool → Shared → Prop} (h : Q false s) : wpAny (model prog w) A (eqBool (.str a t) .none) Q E s := by
  unfold eqBool
  try with_reducible refine wpAny_holding ?_
  show wpAny _ _ (if (Value.str a t == Value.none) = true then _ else _) Q E s
  rw [if_neg (by simp)]
  exact wpAny_bind (EqNone.eq_str_none (wpAny_truthy_bool h))
theorem eqBool_none_str {a : Str} {t : Tok} {Q : Bool → Shared → Prop} (h : Q false s) : wpAny (model prog w) A (eqBool .none (.str a t)) Q E s := by
  unfold eqBool
  try with_reducible refine wpAny_holding ?_
  show wpAny _ _ (if (Value.none == Value.str a t) = true then _ else _) Q E s
  rw [if_neg (by simp)]
  exact wpAny_bind (EqNone.eq_none_str (wpAny_truthy_bool h))
theorem eqBool_none {Q : Bool → Shared → Prop} (h : Q true s) : wpAny (model prog w) A (eqBool .none .none) Q E s := by
  unfold eqBool
  try with_reducible refine wpAny_holding ?_
  show wpAny _ _ (if (Value.none == Value.none) = true then _ else _) Q E s
  rw [if_pos (by decide)]
  exact wpAny_bind (wpAny_rule (wpAny_pure h))
end
noncomputable def isOpt : Option Str → Value → Bool
  | some x, .str y _ => y == x
  | none, .none => true
  | _, _ => false
theorem isOpt_some {x : Str} {v : Value} (h : isOpt (some x) v = true) : ∃ t, v = .str x t := by
  cases v <;> simp_all [isOpt]
theorem isOpt_none {v : Value} (h : isOpt none v = true) : v = .none := by
  cases v <;> simp_all [isOpt]
/-- keys: None, or a str -/
noncomputable def optKind (prog : Program) (w : World) : KeyKind prog w (Option Str) where
  is := isOpt
  hash := fun k => match k with | some x => hashStr w x | none => hashNone
  inj := fun v a b ha hb => by
    cases a <;> cases b
    · rfl
    · have := isOpt_none ha; subst this; simp [isOpt] at hb
    · have := isOpt_none hb; subst this; simp [isOpt] at ha
    · obtain ⟨t, rfl⟩ := isOpt_some ha
      obtain ⟨u, h⟩ := isOpt_some hb
      injection h with h; rw [h]
  byValue := fun k v h => by
    cases k
    · have := isOpt_none h; subst this; rfl
    · obtain ⟨t, rfl⟩ := isOpt_some h; rfl
  pyHash := fun {_ _ _ k _ _} hv h => by
    cases k
    · have := isOpt_none hv; subst this; exact pyHash_none h
    · obtain ⟨t, rfl⟩ := isOpt_some hv; exact wpAny_pyHash_str h
  eqBool := fun {_ _ _ a b _ _ _} hu hv h => by
    cases a <;> cases b
    · have := isOpt_none hu; subst this; have := isOpt_none hv; subst this; exact eqBool_none (by simpa using h)
    · have := isOpt_none hu; subst this; obtain ⟨t, rfl⟩ := isOpt_some hv; exact eqBool_none_str (by simpa using h)
    · have := isOpt_none hv; subst this; obtain ⟨t, rfl⟩ := isOpt_some hu; exact eqBool_str_none (by simpa using h)
    · obtain ⟨t, rfl⟩ := isOpt_some hu; obtain ⟨u, rfl⟩ := isOpt_some hv
      exact wpAny_eqBool_str (by simpa using h)
  «strs» := fun k x t v h => by
    cases k
    · simp [isOpt] at h
    · obtain ⟨u, hu⟩ := isOpt_some h
      injection hu with hx
      subst hx
      cases v <;> rfl
theorem isOpt_eq {y : Str} {v : Value} : isOpt (some y) v = Value.isStrOf y v := by cases v <;> rfl
theorem optIs {prog : Program} {w : World} {k : Option Str} {v : Value} : (optKind prog w).is k v = isOpt k v := rfl
theorem strIs {prog : Program} {w : World} {k : Str} {v : Value} : (PySem.strKind prog w).is k v = Value.isStrOf k v := rfl
/-- a set of strs, asked for None -/
theorem froz_opt {w : World} {h : Heap} {a : Addr} {S : Str → Bool} {n : Nat} (x : FrozAt (PySem.strKind PGm w) h a S n) : FrozAt (optKind PGm w) h a (fun k => match k with | some y => S y | none => false) n := by
  obtain ⟨es, ep, t, ho, hel, hm, hn, hf⟩ := x
  refine ⟨es, ep, t, ho, fun e he => ?_, fun k => ?_, hn, hf⟩
  · obtain ⟨⟨y, hy, hh⟩, hs⟩ := hel e he
    exact ⟨⟨some y, by rw [optIs, isOpt_eq, ← strIs (prog := PGm) (w := w)]; exact hy, hh⟩, hs⟩
  · cases k with
    | some y =>
      simp only [optIs, isOpt_eq]
      exact hm y
    | none =>
      constructor
      · intro q; cases q
      · rintro ⟨e, he, q⟩
        obtain ⟨⟨y, hy, _⟩, _⟩ := hel e he
        obtain ⟨t', q'⟩ := Value.isStrOf_shape hy
        rw [optIs, q'] at q
        cases q
end Mine
end
section
open PySem PySem.W PyProof.Rows PySem.Calls PySem.Spec
set_option maxRecDepth 100000
set_option maxHeartbeats 4000000
namespace Mine
/-- the place behind the signs of a kind from a place on -/
noncomputable def runS (S : Nat → Bool) (cs : List Nat) (i : Nat) : Nat := i + ((cs.drop i).takeWhile S).length
theorem runS_in {S : Nat → Bool} {cs : List Nat} {i c : Nat} (h : cs[i]? = some c) (hc : S c = true) : runS S cs (i + 1) = runS S cs i := by
  unfold runS
  obtain ⟨hl, rfl⟩ := List.getElem?_eq_some_iff.mp h
  rw [List.drop_eq_getElem_cons hl, List.takeWhile_cons, if_pos hc, List.length_cons]; omega
theorem runS_out {S : Nat → Bool} {cs : List Nat} {i c : Nat} (h : cs[i]? = some c) (hc : S c = false) : runS S cs i = i := by
  unfold runS
  obtain ⟨hl, rfl⟩ := List.getElem?_eq_some_iff.mp h
  rw [List.drop_eq_getElem_cons hl, List.takeWhile_cons, if_neg (by rw [hc]; exact Bool.false_ne_true)]; rfl
theorem runS_end {S : Nat → Bool} {cs : List Nat} {i : Nat} (h : cs.length ≤ i) : runS S cs i = i := by
  unfold runS
  rw [List.drop_eq_nil_of_le h]; rfl
theorem item_at {x : Str} {k : Int} (h0 : 0 ≤ k) (h1 : k < (x.length : Int)) : ∃ c, x.cps.toList[k.toNat]? = some c ∧ Txt.item x k = ⟨#[c]⟩ := by
  have hl : k.toNat < x.cps.size := by have : (x.length : Int) = (x.cps.size : Int) := rfl; omega
  have h2 : ¬ k < 0 := by omega
  refine ⟨x.cps[k.toNat], by simp [hl], ?_⟩
  unfold Txt.item Txt.charAt
  have e : seqIndex? k x.length = some k.toNat := by
    unfold seqIndex?
    simp [h2, h0, h1]
  simp [e, hl]
theorem skip_step {S : Str → Bool} {x : Str} {k : Int} {i : Nat} (h0 : 0 ≤ k) (h1 : k < (x.length : Int)) (hS : S (Txt.item x k) = true) (e : runS (fun c => S ⟨#[c]⟩) x.cps.toList k.toNat = runS (fun c => S ⟨#[c]⟩) x.cps.toList i) :
    runS (fun c => S ⟨#[c]⟩) x.cps.toList (k + 1).toNat = runS (fun c => S ⟨#[c]⟩) x.cps.toList i := by
  obtain ⟨c, hc, q⟩ := item_at h0 h1
  rw [q] at hS
  rw [← e, show (k + 1).toNat = k.toNat + 1 by omega]
  exact runS_in hc hS
theorem skip_out {S : Str → Bool} {x : Str} {k : Int} {i : Nat} (h0 : 0 ≤ k) (h1 : k < (x.length : Int)) (hS : S (Txt.item x k) = false) (e : runS (fun c => S ⟨#[c]⟩) x.cps.toList k.toNat = runS (fun c => S ⟨#[c]⟩) x.cps.toList i) :
    k = (runS (fun c => S ⟨#[c]⟩) x.cps.toList i : Nat) := by
  obtain ⟨c, hc, q⟩ := item_at h0 h1
  rw [q] at hS
  rw [← e, runS_out hc hS]
  omega
theorem skip_end {S : Str → Bool} {x : Str} {k : Int} {i : Nat} (h0 : 0 ≤ k) (h1 : k < -(x.length : Int) ∨ (x.length : Int) ≤ k) (e : runS (fun c => S ⟨#[c]⟩) x.cps.toList k.toNat = runS (fun c => S ⟨#[c]⟩) x.cps.toList i) :
    k = (runS (fun c => S ⟨#[c]⟩) x.cps.toList i : Nat) := by
  rw [← e, runS_end (by have : (x.length : Int) = (x.cps.toList.length : Int) := by simp [Str.length]
                        omega)]
  omega
theorem q_int {Q : Value → Shared → Prop} {y z : Int} {t : Tok} {s : Shared} (h : Q (.int z t) s) (e : y = z) : Q (.int y t) s := e ▸ h
theorem froz_keeps {prog : Program} {w : World} {K : Type} [DecidableEq K] {knd : KeyKind prog w K} {h h' : Heap} {a : Addr} {S : K → Bool} {n : Nat} (k : ∀ b o, h.get? b = some o → h'.get? b = some o) (x : FrozAt knd h a S n) : FrozAt knd h' a S n := by
  obtain ⟨es, ep, t, ho, r⟩ := x
  exact ⟨es, ep, t, k _ _ ho, r⟩

/-! the sets of signs -/
noncomputable def wsL : List Nat := [9, 32]
noncomputable def bareL : List Nat := [95, 45, 57, 56, 55, 54, 53, 52, 51, 50, 49, 48, 90, 89, 88, 87, 86, 85, 84, 83, 82, 81, 80, 79, 78, 77, 76, 75, 74, 73, 72, 71, 70, 69, 68, 67, 66, 65, 122, 121, 120, 119, 118, 117, 116, 115, 114, 113, 112, 111, 110, 109, 108, 107, 106, 105, 104, 103, 102, 101, 100, 99, 98, 97]
noncomputable def ctlL : List Nat := [127, 31, 30, 29, 28, 27, 26, 25, 24, 23, 22, 21, 20, 19, 18, 17, 16, 15, 14, 13, 12, 11, 10, 8, 7, 6, 5, 4, 3, 2, 1, 0]
noncomputable def inL (l : List Nat) (y : Str) : Bool := l.any fun c => (⟨#[c]⟩ : Str) == y
structure SetsF (w : World) (h : Heap) : Prop where
  ctl : FrozAt (PySem.strKind PGm w) h 79 (inL ctlL) 32
  ws : FrozAt (PySem.strKind PGm w) h 85 (inL wsL) 2
  bare : FrozAt (PySem.strKind PGm w) h 94 (inL bareL) 64
theorem SetsF.keeps {w : World} {h h' : Heap} (k : ∀ b o, h.get? b = some o → h'.get? b = some o) (x : SetsF w h) : SetsF w h' := ⟨froz_keeps k x.ctl, froz_keeps k x.ws, froz_keeps k x.bare⟩
theorem inL_one {l : List Nat} {c : Nat} : inL l ⟨#[c]⟩ = l.contains c := by
  unfold inL
  induction l with
  | nil => rfl
  | cons a r ih =>
    rw [List.any_cons, List.contains_cons, ih]
    congr 1
    rw [Bool.eq_iff_iff, beq_iff_eq, beq_iff_eq]
    constructor
    · intro q; injection q with q; simp at q; exact q.symm
    · intro q; rw [q]
theorem any_ws (P : Params) : (fun y => (chars P T85 403 2).any fun e => e.2.isStr y) = inL wsL := by
  funext y; rfl
theorem any_bare (P : Params) : (fun y => (chars P T94 428 64).any fun e => e.2.isStr y) = inL bareL := by
  funext y; rfl
theorem any_ctl (P : Params) : (fun y => (L79 P).any fun e => e.2.isStr y) = inL ctlL := by
  have e : (L79 P).map (·.2) = ctlL.map (fun c => Value.str ⟨#[c]⟩ (if c = 127 then 388 else 260 + 4 * c)) := by
    unfold L79 L74 dropS
    have : ∀ l : List (Int × Value), (l.filter fun e => !e.2.isStr ⟨#[9]⟩).map (·.2) = (l.map (·.2)).filter fun v => !v.isStr ⟨#[9]⟩ := by
      intro l; rw [List.filter_map]; rfl
    rw [this]
    rfl
  funext y
  have e2 : (L79 P).any (fun e => e.2.isStr y) = ((L79 P).map (·.2)).any fun v => v.isStr y := by rw [List.any_map]; rfl
  rw [e2, e, List.any_map]
  rfl
end Mine
end
section
open PySem PySem.W PyProof.Rows PySem.Calls PySem.Spec
set_option maxRecDepth 100000
set_option maxHeartbeats 4000000
namespace Mine
theorem froz_eq {prog : Program} {w : World} {K : Type} [DecidableEq K] {knd : KeyKind prog w K} {h : Heap} {a : Addr} {S S' : K → Bool} {n n' : Nat} (x : FrozAt knd h a S n) (e : S = S') (e' : n = n') : FrozAt knd h a S' n' := e ▸ e' ▸ x
theorem SetsF.of {w : World} {h : Heap} (s : SetsIn w.params h) : SetsF w h := by
  obtain ⟨⟨e1, p1, t1, g1, q1⟩, ⟨e2, p2, t2, g2, q2⟩, e3, p3, t3, g3, q3⟩ := s
  refine ⟨froz_eq (froz_of g1 q1 ?_) (any_ctl _) (by kernel_rfl), froz_eq (froz_of g2 q2 ?_) (any_ws _) (chars_length ..), froz_eq (froz_of g3 q3 ?_) (any_bare _) (chars_length ..)⟩
  · intro e he
    have he := (List.mem_filter.mp he).1
    rcases List.mem_cons.mp he with rfl | he
    · exact ⟨_, _, rfl⟩
    · obtain ⟨k, _, rfl⟩ := rng_mem he; exact ⟨_, _, rfl⟩
  · intro e he
    obtain ⟨k, _, rfl⟩ := chars_mem he; exact ⟨_, _, rfl⟩
  · intro e he
    obtain ⟨k, _, rfl⟩ := chars_mem he; exact ⟨_, _, rfl⟩
noncomputable def looseM : List Str := looseW qv LS ++ (recsOf qv).map (·.name) ++ (litsOf qv).map (·.1) ++ (clssOf qv (looseW qv LS)).map (·.name)
noncomputable abbrev TopM (mean : ExcName → Option Value) (mg mb : Str → Option Value) (h : Heap) : Prop := Top topProg looseM mean mg mb h
noncomputable abbrev frs (l : List Env) : List Addr := l.filterMap (·.frame)
noncomputable abbrev Ar (dp un : Nat) (gd : Option (List Code)) (l : List Env) : Around := { handled := none, depth := dp, frames := some l, guards := gd, units := un }
/-- the ground on which a called def stands -/
structure Gd (w : World) (mean : ExcName → Option Value) (mg mb : Str → Option Value) (A : Around) (base : Heap) (l : List Env) (g : Heap) : Prop where
  B : Below A base l g
  X : (KF w.params).In g
  T : TopM mean mg mb g
  S : SetsF w g
  D : KtsDicts (frs l) g
  XB : (KF w.params).In base
  TB : TopM mean mg mb base
  SB : SetsF w base
/-- new objects on a ground -/
noncomputable def NG (g h : Heap) (news : List (Addr × Obj)) : Prop := ∀ p ∈ news, h.get? p.1 = some p.2 ∧ g.get? p.1 = none
structure On (g h : Heap) : Prop where
  keep : ∀ b o, g.get? b = some o → h.get? b = some o
  size : g.objs.size ≤ h.objs.size
/-- the nested code's table -/
noncomputable def Qn : Str := Str.ofString "suffixed_err.<locals>.coord_repr"
inductive TabSt : List (Addr × Obj) → Prop where
  | none : TabSt [(190, tabObj #[])]
  | made (c' : Addr) (oc : Obj) (vs : Array Value) (t : Tok) : oc.data = .fields vs → vs[1]? = some (.str Qn t) → TabSt [(c', oc), (190, tabObj #[rawInt 166, rawInt 4, .ref c'])]
noncomputable def RetP (g : Heap) (s : Shared) (R : Value → List (Addr × Obj) → Prop) (Q : Value → Shared → Prop) : Prop :=
  ∀ v res h' tk', R v res → On g h' → NG g h' res → Q v { s with heap := h', toks := tk' }
noncomputable def RetT (w : World) (mean : ExcName → Option Value) (mg mb : Str → Option Value) (A : Around) (base : Heap) (l : List Env) (g : Heap) (s : Shared) (R : Value → List (Addr × Obj) → Prop) (Q : Value → Shared → Prop) : Prop :=
  ∀ v res g' h' tk' pn', R v res → KtsTurn (frs l) g g' → Gd w mean mg mb A base l g' → On g' h' → TabSt pn' → NG g' h' (res ++ pn') → Q v { s with heap := h', toks := tk' }
noncomputable def RaiT (w : World) (mean : ExcName → Option Value) (mg mb : Str → Option Value) (A : Around) (base : Heap) (l : List Env) (g : Heap) (s : Shared) (E : Value → Shared → Prop) : Prop :=
  ∀ e t vs g' h' tk' pn', KtsTurn (frs l) g g' → Gd w mean mg mb A base l g' → TabSt pn' → RaisedS base g' l e (.ref 114) t vs pn' h' → g'.UpToSlots h' → E (.ref e) { s with heap := h', toks := tk' }
/-- a pure call -/
noncomputable def ConP (w : World) (dd du : Nat) (f : Addr) (args : List Value) (kw : List (Str × Value)) (pre : Heap → Prop) (R : Value → List (Addr × Obj) → Prop) : Prop :=
  ∀ (mean : ExcName → Option Value) (mg mb : Str → Option Value) (dp un : Nat) (gd : Option (List Code)) (l : List Env) (base g : Heap) (s : Shared) (Q E : Value → Shared → Prop),
    Gd w mean mg mb (Ar dp un gd l) base l g → On g s.heap → dp + dd < recursionLimit → un + du < cLine → pre g →
    RetP g s R Q →
    wpAny (model PGm w) (Ar dp un gd l) (call (.ref f) args kw) Q E s
/-- a call that may catch, that may touch the table, that may raise -/
noncomputable def ConT (w : World) (dd du : Nat) (f : Addr) (args : List Value) (kw : List (Str × Value)) (pre : Heap → Prop) (R : Value → List (Addr × Obj) → Prop) (X : Prop) : Prop :=
  ∀ (mean : ExcName → Option Value) (mg mb : Str → Option Value) (dp un : Nat) (gd : Option (List Code)) (l : List Env) (base g : Heap) (s : Shared) (Q E : Value → Shared → Prop) (pn : List (Addr × Obj)),
    Gd w mean mg mb (Ar dp un gd l) base l g → On g s.heap → dp + dd < recursionLimit → un + du < cLine → pre g → TabSt pn → NG g s.heap pn →
    RetT w mean mg mb (Ar dp un gd l) base l g s R Q → (X → RaiT w mean mg mb (Ar dp un gd l) base l g s E) →
    wpAny (model PGm w) (Ar dp un gd l) (call (.ref f) args kw) Q E s
section
variable {w : World} {mean : ExcName → Option Value} {mg mb : Str → Option Value} {A : Around} {base g : Heap} {l : List Env} {R : Result → Shared → Prop} {s : Shared} {pn : List (Addr × Obj)}
  {name qual : Str} {params : Arguments} {body : List Stmt} {scope : Scope} {dV kV doc pm cdv ct oc : Value} {an od : Option Addr} {osl : Array (Option Value)} {f : Addr} {args : Args} {binds : List (Str × Value)}
theorem enter (G : Gd w mean mg mb A base l g) (O : On g s.heap) (N : NG g s.heap pn)
    (ho : (KF w.params).lookup f = some ⟨oc, od, .func (fnOf name qual params body scope dV kV doc pm an cdv ct), osl⟩) (hcd : codeIn (KF w.params) cdv qual = true) (hroom : A.depth < recursionLimit)
    (hbind : BindsTo s (fnOf name qual params body scope dV kV doc pm an cdv ct) args binds) (hloc : ∀ y ∈ binds, scope.names.lookup y.1 = some .local)
    (h : ∀ L' h₁, Fr g L' h₁ (fun y => binds.reverse.lookup y) → News g L' h₁ pn → L' = s.heap.objs.size →
      wpAny (model PGm w) (A.deeper (envOf qual scope L' f cdv)) (execs body (envOf qual scope L' f cdv))
        (fun fl s' => R (.ok (.ret (match fl with | .ret v => v | _ => .none))) s')
        (fun e s' => wpAny (model PGm w) (A.deeper (envOf qual scope L' f cdv)) (leaving (envOf qual scope L' f cdv) e) (fun _ s'' => R (.error e) s'') (fun e' s'' => R (.error e') s'') s')
        { s with heap := h₁, toks := s.toks + binds.length })
    (hco : scope.isCoroutine = false) (hgen : scope.isGenerator = false) (hk : scope.kind = .function)
    (hcell : ∀ x ∈ scope.names, x.2 ≠ .cell) : codeAny (model PGm w) A (.call (.ref f) args) R s := by
  have X := G.X.keeps O.keep
  refine codeAny_call_def (fd := fnOf name qual params body scope dV kV doc pm an cdv ct) (body := body) (binds := binds) hroom (X _ _ ho) rfl (G.T.nolimit.keeps O.keep) (codeRec_of X hcd) rfl hbind hcell hloc (fun h₁ hns hk₁ => ?_) hco hgen hk
  exact h _ h₁ ⟨hns, fun b o e => hk₁ b o (O.keep b o e), O.size⟩ (fun p hp => ⟨hk₁ _ _ (N p hp).1, Nat.ne_of_lt (Heap.lt_size (N p hp).1), (N p hp).2⟩) rfl
end
section
variable {A₀ A : Around} {base h₀ : Heap} {outer : List Env} {L a : Addr} {m : Str → Option Value} {cn : Str} {cs : Scope} {ccd : Value} {h : Heap}
/-- the caller's ground, when the called def's ground has turned -/
theorem turn_back {g g' : Heap} (B : Below A₀ base outer h₀) (F : Fr h₀ L g m) (T : KtsTurn (frs (envOf cn cs L a ccd :: outer)) g g') :
    ∃ h₀', KtsTurn (frs outer) h₀ h₀' ∧ Fr h₀' L g' m ∧ Below A₀ base outer h₀' := by
  obtain ⟨oL, es, ep, hLg, hLd, hr⟩ := F.ns
  have nL₀ : h₀.get? L = none := kts_self F
  obtain ⟨sl, hs⟩ := T.up hLg
  obtain ⟨T₁, S₁⟩ := kts_turn_at (h := g') (fs := frs outer) (g := h₀)
    (fun b hb => by
      obtain ⟨_, o, ho', _⟩ := B.frames.mem hb
      exact ⟨o, ho'⟩)
    (fun b o e nmem => T.other b o (F.keep b o e) (fun q => by
      rcases kts_mem q with z | z
      · rw [z, nL₀] at e
        cases e
      · exact nmem z))
    (fun b o e hm => T.up (F.keep b o e))
  exact ⟨_, T₁, ⟨⟨_, es, ep, hs, hLd, hr⟩, S₁, by rw [T₁.size]; exact F.above⟩, ⟨B.stack, fun b o e => T₁.other b o (B.stays b o e) (fun hm => by
    rw [(B.frames.mem hm).1] at e
    cases e), B.frames.of_keeps fun b o e _ => by
    obtain ⟨sl', hs'⟩ := T₁.up e
    exact ⟨_, hs', rfl⟩⟩⟩
end
section
variable {w : World} {mean : ExcName → Option Value} {mg mb : Str → Option Value} {A₀ A : Around} {base h₀ : Heap} {outer : List Env} {L a : Addr} {m : Str → Option Value} {cn : Str} {cs : Scope} {ccd : Value} {s : Shared} {Q E : Value → Shared → Prop}
  {dd du dp un : Nat} {gd : Option (List Code)} {f : Addr} {args : List Value} {kw : List (Str × Value)} {pre : Heap → Prop} {R : Value → List (Addr × Obj) → Prop} {X : Prop} {news pn rest : List (Addr × Obj)}
theorem gd_at (hA : A = Ar dp un gd (envOf cn cs L a ccd :: outer)) (hck : cs.kind = .function) (G : Gd w mean mg mb A₀ base outer h₀) (F : Fr h₀ L s.heap m) (N : News h₀ L s.heap news) :
    Gd w mean mg mb A base (envOf cn cs L a ccd :: outer) (hideAll s.heap (news.map (·.1))) ∧ Fr h₀ L (hideAll s.heap (news.map (·.1))) m ∧ On (hideAll s.heap (news.map (·.1))) s.heap ∧ NG (hideAll s.heap (news.map (·.1))) s.heap news := by
  subst hA
  obtain ⟨oL, es, ep, hLg, hLd, hN, hNs, st, B₂⟩ := kts_enter (A := Ar dp un gd (envOf cn cs L a ccd :: outer)) (cn := cn) (cs := cs) (a := a) (ccd := ccd) G.B F N rfl hck
  refine ⟨⟨B₂, G.X.keeps st, G.T.keeps st, G.S.keeps st, fun b hb => ?_, G.XB, G.TB, G.SB⟩, ⟨hN _ hLg, st, F.above⟩, ⟨fun b o e => of_hideAll _ e, Nat.le_of_eq (hideAll_size _ _)⟩, fun p hp => ⟨(N p hp).1, hideAll_none _ (List.mem_map_of_mem hp)⟩⟩
  rcases kts_mem hb with rfl | hb
  · exact ⟨oL, es, ep, hLg, hLd⟩
  · obtain ⟨o, es', n', ho', hd'⟩ := G.D b hb
    exact ⟨o, es', n', st b o ho', hd'⟩
theorem call_p (C : ConP w dd du f args kw pre R) (hA : A = Ar dp un gd (envOf cn cs L a ccd :: outer)) (hck : cs.kind = .function) (G : Gd w mean mg mb A₀ base outer h₀) (F : Fr h₀ L s.heap m) (N : News h₀ L s.heap news)
    (hd : dp + dd < recursionLimit) (hu : un + du < cLine) (hpre : pre s.heap)
    (k : ∀ v res h' tk', R v res → Fr h₀ L h' m → News h₀ L h' (res ++ news) → (∀ p ∈ news, ∀ q ∈ res, p.1 ≠ q.1) → Q v { s with heap := h', toks := tk' }) :
    wpAny (model PGm w) A (call (.ref f) args kw) Q E s := by
  obtain ⟨G₁, F₁, O₁, N₁⟩ := gd_at hA hck G F (News.nil : News h₀ L s.heap [])
  subst hA
  refine C mean mg mb dp un gd _ base _ s Q E G₁ O₁ hd hu hpre fun v res h' tk' hr O' N' => k v res h' tk' hr ⟨?_, fun b o e => O'.keep b o (F.keep b o e), F.above⟩ (fun p hp => ?_) (fun p hp q hq e => ?_)
  · obtain ⟨o, es, ep, e, r⟩ := F.ns
    exact ⟨o, es, ep, O'.keep _ _ e, r⟩
  · rcases List.mem_append.mp hp with hp | hp
    · refine ⟨(N' p hp).1, fun q => ?_, ?_⟩
      · obtain ⟨o, es, ep, e, r⟩ := F.ns
        have := (N' p hp).2
        rw [q] at this
        exact absurd (e.symm.trans this) (by simp)
      · exact kts_none (fun b o e => F.keep b o e) (N' p hp).2
    · exact ⟨O'.keep _ _ (N p hp).1, (N p hp).2⟩
  · have h1 := (N p hp).1
    have h2 := (N' q hq).2
    rw [← e] at h2
    exact absurd (h1.symm.trans h2) (by simp)
/-- objects that are no code and no table -/
noncomputable def plainO (o : Obj) : Bool := !(o.cls == .none) && (match o.data with | .fields vs => (match (vs[1]? : Option Value) with | some (Value.str _ _) => false | _ => true) | _ => true)
theorem tab_off {p q : Addr × Obj} (T : TabSt pn) (hq : q ∈ pn) (hp : plainO p.2 = true) {h : Heap} (e1 : h.get? p.1 = some p.2) (e2 : h.get? q.1 = some q.2) : p.1 ≠ q.1 := by
  intro e
  rw [e, e2] at e1
  have e1 := Option.some.inj e1
  cases T with
  | none =>
    simp only [List.mem_singleton] at hq
    subst hq
    rw [← e1] at hp
    exact absurd hp (by simp [plainO])
  | made c' oc vs t h2 h3 =>
    simp only [List.mem_cons, List.not_mem_nil, or_false] at hq
    rcases hq with rfl | rfl
    · rw [← e1] at hp
      simp [plainO, h2, h3] at hp
    · rw [← e1] at hp
      exact absurd hp (by simp [plainO])
theorem call_t (C : ConT w dd du f args kw pre R X) (hA : A = Ar dp un gd (envOf cn cs L a ccd :: outer)) (hck : cs.kind = .function) (G : Gd w mean mg mb A₀ base outer h₀) (F : Fr h₀ L s.heap m) (N : News h₀ L s.heap news) (T : TabSt pn)
    (hpn : ∀ p ∈ pn, p ∈ news) (hrest : ∀ p ∈ rest, p ∈ news) (hpl : ∀ p ∈ rest, plainO p.2 = true) (hd : dp + dd < recursionLimit) (hu : un + du < cLine) (hpre : pre (hideAll s.heap (pn.map (·.1))))
    (k : ∀ v res h₀' h' tk' pn', R v res → KtsTurn (frs outer) h₀ h₀' → Gd w mean mg mb A₀ base outer h₀' → Fr h₀' L h' m → TabSt pn' → News h₀' L h' (res ++ (rest ++ pn')) → (∀ p ∈ rest, ∀ q ∈ res ++ pn', p.1 ≠ q.1) → Q v { s with heap := h', toks := tk' })
    (kE : X → ∀ e t vs g' h₀' h' tk' pn', KtsTurn (frs outer) h₀ h₀' → Gd w mean mg mb A₀ base outer h₀' → Fr h₀' L g' m → TabSt pn' → RaisedS base g' (envOf cn cs L a ccd :: outer) e (.ref 114) t vs pn' h' → g'.UpToSlots h' → E (.ref e) { s with heap := h', toks := tk' }) :
    wpAny (model PGm w) A (call (.ref f) args kw) Q E s := by
  have Np : News h₀ L s.heap pn := fun p hp => N p (hpn p hp)
  obtain ⟨G₁, F₁, O₁, N₁⟩ := gd_at hA hck G F Np
  subst hA
  have up : ∀ {g'}, KtsTurn (frs (envOf cn cs L a ccd :: outer)) (hideAll s.heap (pn.map (·.1))) g' → ∃ h₀', KtsTurn (frs outer) h₀ h₀' ∧ Fr h₀' L g' m ∧ Gd w mean mg mb A₀ base outer h₀' := by
    intro g' T'
    obtain ⟨h₀', T₂, F₂, B₂⟩ := turn_back G.B F₁ T'
    exact ⟨h₀', T₂, F₂, ⟨B₂, G.XB.keeps B₂.stays, G.TB.keeps B₂.stays, G.SB.keeps B₂.stays, G.D.turn T₂, G.XB, G.TB, G.SB⟩⟩
  refine C mean mg mb dp un gd _ base _ s Q E pn G₁ O₁ hd hu hpre T N₁ (fun v res g' h' tk' pn' hr T' G' O' Tp' N' => ?_) (fun x e t vs g' h' tk' pn' T' G' Tp' Rz U => ?_)
  · obtain ⟨h₀', T₂, F₂, G₂⟩ := up T'
    have kp : ∀ p ∈ rest, g'.get? p.1 = some p.2 := fun p hp => by
      refine T'.other _ _ (hideAll_get _ (N p (hrest p hp)).1 fun hm => ?_) fun hm => ?_
      · obtain ⟨q, hq, e⟩ := List.mem_map.mp hm
        exact tab_off T hq (hpl p hp) (N p (hrest p hp)).1 (N q (hpn q hq)).1 e.symm
      · rcases kts_mem hm with z | z
        · exact (N p (hrest p hp)).2.1 z
        · obtain ⟨_, o, ho', _⟩ := G.B.frames.mem z
          rw [(N p (hrest p hp)).2.2] at ho'
          cases ho'
    refine k v res h₀' h' tk' pn' hr T₂ G₂ ⟨?_, fun b o e => O'.keep b o (F₂.keep b o e), F₂.above⟩ Tp' (fun p hp => ?_) (fun p hp q hq e => ?_)
    · obtain ⟨o, es, ep, e, r⟩ := F₂.ns
      exact ⟨o, es, ep, O'.keep _ _ e, r⟩
    · rcases (by simpa [or_left_comm] using hp : p ∈ rest ∨ p ∈ res ∨ p ∈ pn') with hp | hp
      · exact ⟨O'.keep _ _ (kp p hp), (N p (hrest p hp)).2.1, T₂.none_ _ (N p (hrest p hp)).2.2⟩
      · have N' := N' p (List.mem_append.mpr hp)
        refine ⟨N'.1, fun q => ?_, kts_none (fun b o e => F₂.keep b o e) N'.2⟩
        obtain ⟨o, es, ep, e, r⟩ := F₂.ns
        have := N'.2
        rw [q] at this
        exact absurd (e.symm.trans this) (by simp)
    · have h1 := kp p hp
      have h2 := (N' q hq).2
      rw [← e] at h2
      exact absurd (h1.symm.trans h2) (by simp)
  · obtain ⟨h₀', T₂, F₂, G₂⟩ := up T'
    exact kE x e t vs g' h₀' h' tk' pn' T₂ G₂ F₂ Tp' Rz U
end
section
variable {w : World} {mean : ExcName → Option Value} {mg mb : Str → Option Value} {A₀ A : Around} {base h₀ : Heap} {outer : List Env} {L a : Addr} {m : Str → Option Value} {cn : Str} {cs : Scope} {ccd : Value} {s : Shared} {Q E : Value → Shared → Prop}
  {dd du dp un : Nat} {gd : Option (List Code)} {f : Addr} {args : List Value} {kw : List (Str × Value)} {pre : Heap → Prop} {R : Value → List (Addr × Obj) → Prop} {X : Prop} {pn rest : List (Addr × Obj)}
theorem call_t2 (C : ConT w dd du f args kw pre R X) (F : Fr h₀ L s.heap m) (N : News h₀ L s.heap (rest ++ pn)) (Tp : TabSt pn) (hA : A = Ar dp un gd (envOf cn cs L a ccd :: outer)) (hck : cs.kind = .function)
    (B : Below A₀ base outer h₀) (Xg : (KF w.params).In h₀) (T : TopM mean mg mb h₀) (S : SetsF w h₀) (D : KtsDicts (frs outer) h₀) (XB : (KF w.params).In base) (TB : TopM mean mg mb base) (SB : SetsF w base)
    (hpl : ∀ p ∈ rest, plainO p.2 = true) (hd : dp + dd < recursionLimit) (hu : un + du < cLine) (hpre : pre (hideAll s.heap (pn.map (·.1))))
    (k : ∀ v res h₀' h' tk' pn', R v res → KtsTurn (frs outer) h₀ h₀' → Gd w mean mg mb A₀ base outer h₀' → Fr h₀' L h' m → TabSt pn' → News h₀' L h' (res ++ (rest ++ pn')) → (∀ p ∈ rest, ∀ q ∈ res ++ pn', p.1 ≠ q.1) → Q v { s with heap := h', toks := tk' })
    (kE : X → ∀ e t vs g' h₀' h' tk' pn', KtsTurn (frs outer) h₀ h₀' → Gd w mean mg mb A₀ base outer h₀' → Fr h₀' L g' m → TabSt pn' → RaisedS base g' (envOf cn cs L a ccd :: outer) e (.ref 114) t vs pn' h' → g'.UpToSlots h' → E (.ref e) { s with heap := h', toks := tk' }) :
    wpAny (model PGm w) A (call (.ref f) args kw) Q E s :=
  call_t C hA hck ⟨B, Xg, T, S, D, XB, TB, SB⟩ F N Tp (fun _ hp => List.mem_append_right _ hp) (fun _ hp => List.mem_append_left _ hp) hpl hd hu hpre k kE
theorem call_p2 (C : ConP w dd du f args kw pre R) (F : Fr h₀ L s.heap m) (N : News h₀ L s.heap rest) (hA : A = Ar dp un gd (envOf cn cs L a ccd :: outer)) (hck : cs.kind = .function)
    (B : Below A₀ base outer h₀) (Xg : (KF w.params).In h₀) (T : TopM mean mg mb h₀) (S : SetsF w h₀) (D : KtsDicts (frs outer) h₀) (XB : (KF w.params).In base) (TB : TopM mean mg mb base) (SB : SetsF w base)
    (hd : dp + dd < recursionLimit) (hu : un + du < cLine) (hpre : pre s.heap)
    (k : ∀ v res h' tk', R v res → Fr h₀ L h' m → News h₀ L h' (res ++ rest) → (∀ p ∈ rest, ∀ q ∈ res, p.1 ≠ q.1) → Q v { s with heap := h', toks := tk' }) :
    wpAny (model PGm w) A (call (.ref f) args kw) Q E s :=
  call_p C hA hck ⟨B, Xg, T, S, D, XB, TB, SB⟩ F N hd hu hpre k
end
section
variable {prog : Program} {w : World} {A : Around} {E : Value → Shared → Prop} {s : Shared} {env : Env} {test : PySem.Expr} {body : List Stmt} {pos : Pos} {Q : Flow → Shared → Prop}
noncomputable def WEnd (I : Nat → Shared → Prop) (Q : Flow → Shared → Prop) (n : Nat) (f : Flow) (s₃ : Shared) : Prop :=
  match f with
  | .next | .cont => ∃ n', n' < n ∧ I n' s₃
  | .brk => Q .next s₃
  | .ret v => Q (.ret v) s₃
theorem while_I (I : Nat → Shared → Prop) (n₀ : Nat) (h0 : I n₀ s)
    (turn : ∀ n s₁, I n s₁ → wpAny (model prog w) A (isTrue test env (eval test env)) (fun b s₂ => if b = true then wpAny (model prog w) A (execs body env) (WEnd I Q n) E s₂ else Q .next s₂) E s₁)
    (hE : PassesOwn (model prog w) A env E := by passes_own) : wpAny (model prog w) A (exec (.While test body [] pos) env) Q E s := by
  refine wpAny_While (codeAny_whileLoop I (fun n s' hI => ?_) n₀ h0)
  refine wpAny_mono (turn n s' hI) (fun b s₂ h₂ => ?_) hE
  cases b with
  | false =>
    simp only [Bool.false_eq_true, if_false] at h₂ ⊢
    exact wpAny_execs_nil h₂
  | true =>
    simp only [if_true] at h₂ ⊢
    refine wpAny_mono h₂ (fun f s₃ h₃ => ?_) hE
    cases f <;> exact h₃
theorem fr_kst {h₀ h : Heap} {L : Addr} {m : Str → Option Value} (ps : List (Str × Value)) (h1 : ∀ p ∈ ps, m p.1 = some p.2) (F : Fr h₀ L h m) : Fr h₀ L h (kstB m ps) := by
  have e : kstB m ps = m := funext fun y => kstB_eq h1 fun _ => rfl
  rw [e]; exact F
theorem fr1 {h₀ h : Heap} {L : Addr} {m : Str → Option Value} {x1 : Str} {v1 : Value} (F : Fr h₀ L h m) (e1 : m x1 = some v1) : Fr h₀ L h (fun y => if y = x1 then some v1 else m y) :=
  fr_kst [(x1, v1)] (List.forall_mem_cons.mpr ⟨e1, List.forall_mem_nil _⟩) F
theorem fr2 {h₀ h : Heap} {L : Addr} {m : Str → Option Value} {x1 x2 : Str} {v1 v2 : Value} (F : Fr h₀ L h m) (e1 : m x1 = some v1) (e2 : m x2 = some v2) : Fr h₀ L h (fun y => if y = x1 then some v1 else if y = x2 then some v2 else m y) :=
  fr_kst [(x1, v1), (x2, v2)] (List.forall_mem_cons.mpr ⟨e1, List.forall_mem_cons.mpr ⟨e2, List.forall_mem_nil _⟩⟩) F
theorem fr3 {h₀ h : Heap} {L : Addr} {m : Str → Option Value} {x1 x2 x3 : Str} {v1 v2 v3 : Value} (F : Fr h₀ L h m) (e1 : m x1 = some v1) (e2 : m x2 = some v2) (e3 : m x3 = some v3) : Fr h₀ L h (fun y => if y = x1 then some v1 else if y = x2 then some v2 else if y = x3 then some v3 else m y) :=
  fr_kst [(x1, v1), (x2, v2), (x3, v3)] (List.forall_mem_cons.mpr ⟨e1, List.forall_mem_cons.mpr ⟨e2, List.forall_mem_cons.mpr ⟨e3, List.forall_mem_nil _⟩⟩⟩) F
theorem fr4 {h₀ h : Heap} {L : Addr} {m : Str → Option Value} {x1 x2 x3 x4 : Str} {v1 v2 v3 v4 : Value} (F : Fr h₀ L h m) (e1 : m x1 = some v1) (e2 : m x2 = some v2) (e3 : m x3 = some v3) (e4 : m x4 = some v4) : Fr h₀ L h (fun y => if y = x1 then some v1 else if y = x2 then some v2 else if y = x3 then some v3 else if y = x4 then some v4 else m y) :=
  fr_kst [(x1, v1), (x2, v2), (x3, v3), (x4, v4)] (List.forall_mem_cons.mpr ⟨e1, List.forall_mem_cons.mpr ⟨e2, List.forall_mem_cons.mpr ⟨e3, List.forall_mem_cons.mpr ⟨e4, List.forall_mem_nil _⟩⟩⟩⟩) F
theorem fr5 {h₀ h : Heap} {L : Addr} {m : Str → Option Value} {x1 x2 x3 x4 x5 : Str} {v1 v2 v3 v4 v5 : Value} (F : Fr h₀ L h m) (e1 : m x1 = some v1) (e2 : m x2 = some v2) (e3 : m x3 = some v3) (e4 : m x4 = some v4) (e5 : m x5 = some v5) : Fr h₀ L h (fun y => if y = x1 then some v1 else if y = x2 then some v2 else if y = x3 then some v3 else if y = x4 then some v4 else if y = x5 then some v5 else m y) :=
  fr_kst [(x1, v1), (x2, v2), (x3, v3), (x4, v4), (x5, v5)] (List.forall_mem_cons.mpr ⟨e1, List.forall_mem_cons.mpr ⟨e2, List.forall_mem_cons.mpr ⟨e3, List.forall_mem_cons.mpr ⟨e4, List.forall_mem_cons.mpr ⟨e5, List.forall_mem_nil _⟩⟩⟩⟩⟩) F
theorem fr6 {h₀ h : Heap} {L : Addr} {m : Str → Option Value} {x1 x2 x3 x4 x5 x6 : Str} {v1 v2 v3 v4 v5 v6 : Value} (F : Fr h₀ L h m) (e1 : m x1 = some v1) (e2 : m x2 = some v2) (e3 : m x3 = some v3) (e4 : m x4 = some v4) (e5 : m x5 = some v5) (e6 : m x6 = some v6) : Fr h₀ L h (fun y => if y = x1 then some v1 else if y = x2 then some v2 else if y = x3 then some v3 else if y = x4 then some v4 else if y = x5 then some v5 else if y = x6 then some v6 else m y) :=
  fr_kst [(x1, v1), (x2, v2), (x3, v3), (x4, v4), (x5, v5), (x6, v6)] (List.forall_mem_cons.mpr ⟨e1, List.forall_mem_cons.mpr ⟨e2, List.forall_mem_cons.mpr ⟨e3, List.forall_mem_cons.mpr ⟨e4, List.forall_mem_cons.mpr ⟨e5, List.forall_mem_cons.mpr ⟨e6, List.forall_mem_nil _⟩⟩⟩⟩⟩⟩) F
theorem fr7 {h₀ h : Heap} {L : Addr} {m : Str → Option Value} {x1 x2 x3 x4 x5 x6 x7 : Str} {v1 v2 v3 v4 v5 v6 v7 : Value} (F : Fr h₀ L h m) (e1 : m x1 = some v1) (e2 : m x2 = some v2) (e3 : m x3 = some v3) (e4 : m x4 = some v4) (e5 : m x5 = some v5) (e6 : m x6 = some v6) (e7 : m x7 = some v7) : Fr h₀ L h (fun y => if y = x1 then some v1 else if y = x2 then some v2 else if y = x3 then some v3 else if y = x4 then some v4 else if y = x5 then some v5 else if y = x6 then some v6 else if y = x7 then some v7 else m y) :=
  fr_kst [(x1, v1), (x2, v2), (x3, v3), (x4, v4), (x5, v5), (x6, v6), (x7, v7)] (List.forall_mem_cons.mpr ⟨e1, List.forall_mem_cons.mpr ⟨e2, List.forall_mem_cons.mpr ⟨e3, List.forall_mem_cons.mpr ⟨e4, List.forall_mem_cons.mpr ⟨e5, List.forall_mem_cons.mpr ⟨e6, List.forall_mem_cons.mpr ⟨e7, List.forall_mem_nil _⟩⟩⟩⟩⟩⟩⟩) F
end
section
variable {w : World} {mean : ExcName → Option Value} {mg mb : Str → Option Value} {A : Around} {base g g' h' : Heap} {l : List Env} {R : Value → List (Addr × Obj) → Prop} {Q E : Value → Shared → Prop} {s : Shared} {pn res news : List (Addr × Obj)} {L : Addr} {m : Str → Option Value} {tk : Nat} {v : Value}
theorem on_fr (F : Fr g L h' m) : On g h' := ⟨F.keep, Nat.le_of_lt (Nat.lt_of_le_of_lt F.above F.ns.lt)⟩
theorem ng_news (N : News g L h' news) : NG g h' news := fun p hp => ⟨(N p hp).1, (N p hp).2.2⟩
theorem out_p (hret : RetP g s R Q) (hr : R v res) (F : Fr g L h' m) (N : News g L h' news) (hs : ∀ p ∈ res, p ∈ news) : Q v { s with heap := h', toks := tk } :=
  hret _ _ _ _ hr (on_fr F) fun p hp => ng_news N p (hs p hp)
theorem out_t (hret : RetT w mean mg mb A base l g s R Q) (hr : R v res) (T0 : KtsTurn (frs l) g g') (F : Fr g' L h' m) (N : News g' L h' news) (B : Below A base l g') (D : KtsDicts (frs l) g') (XB : (KF w.params).In base) (TB : TopM mean mg mb base) (SB : SetsF w base) (Tp : TabSt pn) (h1 : ∀ p ∈ res, p ∈ news) (h2 : ∀ p ∈ pn, p ∈ news) :
    Q v { s with heap := h', toks := tk } :=
  hret _ _ _ _ _ _ hr T0 ⟨B, XB.keeps B.stays, TB.keeps B.stays, SB.keeps B.stays, D, XB, TB, SB⟩ (on_fr F) Tp fun p hp => ng_news N p ((List.mem_append.mp hp).elim (h1 p) (h2 p))
end
end Mine
end
namespace Mine
theorem lt_hd {a b c m : Nat} (h : a + b < m) (k : Nat.ble c b = true) : a + c < m := Nat.lt_of_le_of_lt (Nat.add_le_add_left (Nat.le_of_ble_eq_true k) a) h
theorem lt_hd1 {a b c d m : Nat} (h : a + b < m) (k : Nat.ble (d + c) b = true) : a + d + c < m := Nat.add_assoc a d c ▸ lt_hd h k
def Blk (P : Prop) : Prop := P
theorem blk {P : Prop} (h : Blk P) : P := h
end Mine
local macro_rules | `(tactic| walk_at $s:str) => `(tactic| k_extra $s)
set_option hygiene false in
local macro_rules | `(tactic| k_room) => `(tactic| exact (show dp + 1 < recursionLimit from Nat.lt_of_le_of_lt (Nat.add_le_add_left (by decide) dp) hd))
section
open PySem PySem.W PyProof.Rows PySem.Calls PySem.Spec PySem.Builtin PySem.Builtin.Str
set_option maxRecDepth 100000
namespace Mine
theorem no_at {x : Str} {c : Nat} (h : c ∉ x.cps.toList) (i : Nat) : subAt x ⟨#[c]⟩ i = false := by
  cases e : subAt x ⟨#[c]⟩ i with
  | false => rfl
  | true =>
    unfold subAt at e
    have e := eq_of_beq e
    have hm : c ∈ (x.cps.extract i (i + 1)) := by
      have : x.cps.extract i (i + (⟨#[c]⟩ : Str).length) = #[c] := e
      rw [show (⟨#[c]⟩ : Str).length = 1 from rfl] at this
      rw [this]; simp
    obtain ⟨k, hk, e2⟩ := Array.mem_extract_iff_getElem.mp hm
    exact absurd (by rw [← e2]; simp) h
theorem occ_no {x y : Str} (h : ∀ i, subAt x y i = false) (lo hi lim : Nat) : occurrences x y lo hi lim = [] := by
  rw [StrLaws.occ_eq]
  generalize List.range' lo (hi + 1 - lo) = l
  suffices H : ∀ (l : List Nat) (k : Nat), (forIn (m := Id) l ((#[] : Array Nat), k) (StrLaws.occBody x y hi lim)).run.fst = #[] by rw [H]
  intro l
  induction l with
  | nil => intro k; rfl
  | cons i r ih =>
    intro k
    have hi' : ¬ ((((#[] : Array Nat).size < lim ∧ k ≤ i) ∧ i + y.length ≤ hi) ∧ subAt x y i = true) := fun c => by rw [h i] at c; cases c.2
    simp only [List.forIn_cons, StrLaws.occBody, if_neg hi']
    exact ih k
section
variable {prog : Program} {w : World} {A : Around} {E : Value → Shared → Prop} {s : Shared} {x y : Str} {t u v v' : Tok} {i j : Int} {Q : Value → Shared → Prop}
theorem gives_count4 (x y : Str) (i j : Int) (t u v v' : Tok) : Gives («str.count» ⟨[.str x t, .str y u, .int i v, .int j v'], []⟩) (.int (occurrences x y (fromIndex x.length i) (min (fromIndex x.length j) x.length) (x.length + 1)).length) := by
  show Gives (retInt (occurrences x y (fromIndex x.length i) (min (fromIndex x.length j) x.length) (x.length + 1)).length) _
  exact .of_eq rfl
theorem count4_no (h : ∀ i, subAt x y i = false) (hq : Q (.int 0 s.toks) { s with toks := s.toks + 1 }) : wpAny (model prog w) A (call (.builtin "str.count") [.str x t, .str y u, .int i v, .int j v']) Q E s := by
  refine call_gives F.slot_str_count (typeIs_str _ _ _) F.entry_str_count (F.args_str_count_4 _ _ _ _) (gives_count4 x y i j t u v v') ?_
  rw [occ_no h]
  exact hq
end
theorem call_exc {w : World} {A : Around} {E : Value → Shared → Prop} {s : Shared} {v : Value} {Q : Value → Shared → Prop} (X : (KF w.params).In s.heap)
    (hq : ∀ h' e, Heap.MadeExcOf s.heap h' e (.ref 114) [v] → Q (.ref e) { s with heap := h' }) : wpAny (model PGm w) A (call (.ref 114) [v]) Q E s := by
  obtain ⟨h, g, d, t, os⟩ := s
  have hC := X 114 (o114v0 w.params) (by kernel_rfl)
  have hN := X 113 (o113v0 w.params) (by kernel_rfl)
  refine wpAny_call_exc_sub (N := 113) (mN := fun n => nsFind [eS w.params (sO "__module__") 637 (vS "cpy313.tomllib._parser" 606), eS w.params (sO "__firstlineno__") 641 (vI (37) 640), eS w.params (sO "__doc__") 643 (.str (dc 22) 642), eS w.params (sO "__static_attributes__") 645 (.ref 112), eS w.params (sO "__weakref__") 647 (.ref 115)].toArray n) PySem.F.excBase_ValueError hC ⟨_, _, _, hN, rfl, ?_, fun _ => rfl⟩ ?_ hq
  · intro e he
    simp only [List.mem_toArray, List.mem_cons, List.not_mem_nil, or_false] at he
    rcases he with rfl | rfl | rfl | rfl | rfl <;> exact ⟨_, _, rfl⟩
  · rfl
noncomputable def excO (t : Addr) : Obj := { cls := .ref 114, data := .fields #[.ref t, .none, .none, .none, .bool false, .none] }
noncomputable def tupO (vs : List Value) : Obj := { cls := .type "tuple", data := .seq vs.toArray }
theorem call_excK {w : World} {A : Around} {E : Value → Shared → Prop} {s : Shared} {v : Value} {Q : Value → Shared → Prop} {h₀ : Heap} {L : Addr} {m : Str → Option Value} {news : List (Addr × Obj)} (X : (KF w.params).In h₀) (F : Fr h₀ L s.heap m) (N : News h₀ L s.heap news)
    (hq : ∀ h' e t, Fr h₀ L h' m → News h₀ L h' ((e, excO t) :: (t, tupO [v]) :: news) → Q (.ref e) { s with heap := h' }) : wpAny (model PGm w) A (call (.ref 114) [v]) Q E s := by
  refine call_exc (X.keeps F.keep) fun h' e hm => ?_
  obtain ⟨t, h1, h2, h3⟩ := hm.there
  obtain ⟨o, es, ep, e', r⟩ := F.ns
  have off : ∀ {b : Addr}, s.heap.get? b = none → b ≠ L ∧ h₀.get? b = none := fun {b} hb => ⟨fun q => by (rw [q] at hb; exact absurd (e'.symm.trans hb) (by simp)), kts_none F.keep hb⟩
  refine hq h' e t ⟨⟨o, es, ep, hm.keeps _ _ e', r⟩, fun b o q => hm.keeps _ _ (F.keep b o q), F.above⟩ fun p hp => ?_
  rcases List.mem_cons.mp hp with rfl | hp
  · exact ⟨h1, off hm.new⟩
  rcases List.mem_cons.mp hp with rfl | hp
  · exact ⟨h3, off h2⟩
  · exact ⟨hm.keeps _ _ (N p hp).1, (N p hp).2⟩
/-- an exception of the ledger, seen as newly made -/
theorem made_of {h₀ h : Heap} {L e t : Addr} {m : Str → Option Value} {vs : List Value} {news : List (Addr × Obj)} (F : Fr h₀ L h m) (N : News h₀ L h ((e, excO t) :: (t, tupO vs) :: news)) (hoff : ∀ p ∈ news, p.1 ≠ e ∧ p.1 ≠ t) :
    ∃ h', Fr h₀ L h' m ∧ News h₀ L h' news ∧ Heap.MadeExcOf h' h e (.ref 114) vs := by
  have he := N _ (.head _)
  have ht := N _ (.tail _ (.head _))
  have hne : ∀ {b : Addr} {o : Obj}, h.get? b = some o → b ≠ e → b ≠ t → (hideAll h [e, t]).get? b = some o := fun q h1 h2 => hideAll_get _ q (by simp [h1, h2])
  obtain ⟨o, es, ep, e', r⟩ := F.ns
  refine ⟨hideAll h [e, t], ⟨⟨o, es, ep, hne e' (Ne.symm he.2.1) (Ne.symm ht.2.1), r⟩, fun b o q => hne (F.keep b o q) (fun z => ?_) (fun z => ?_), F.above⟩, fun p hp => ⟨hne (N p (.tail _ (.tail _ hp))).1 (hoff p hp).1 (hoff p hp).2, (N p (.tail _ (.tail _ hp))).2⟩,
    ⟨fun b o q => of_hideAll _ q, hideAll_none _ (by simp), t, he.1, hideAll_none _ (by simp), ht.1⟩⟩
  · rw [z, he.2.2] at q; cases q
  · rw [z, ht.2.2] at q; cases q
theorem raise_of {w : World} {A : Around} {E : Value → Shared → Prop} {s : Shared} {env : Env} {e : PySem.Expr} {pos : Pos} {Q : Flow → Shared → Prop} (hh : A.handled = none)
    (h : wpAny (model PGm w) A (eval e env) (fun v s₁ => ∃ a t, v = .ref a ∧ s₁.heap.get? 114 = some (o114v0 w.params) ∧ s₁.heap.get? a = some (excO t) ∧ E (.ref a) s₁) E s) :
    wpAny (model PGm w) A (exec (.Raise (some e) none pos) env) Q E s := by
  rw [arm_exec_Raise]
  refine wpAny_bind (wpAny_standAt ?_)
  refine wpAny_raiseStmt_made_sub (C := 114) (nm := sO "TOMLDecodeError") (q := sO "TOMLDecodeError") (N := 113) (bs := [.type "ValueError"]) (hdct := true) (sn := []) (sub := []) (ab := false) (col := none) (dd := none) (k0 := some (.ref 105)) (k1 := none) (k2 := some (vS "TOMLDecodeError" 630)) (k3 := some (vS "TOMLDecodeError" 638)) (k5 := some (.bool true)) (newId := "ValueError.__new__") PySem.F.excBase_ValueError.hasBase hh ?_
  refine wpAny_bind (wpAny_mono h (fun v s₁ h₁ => ?_) fun _ _ x => x)
  obtain ⟨a, t, rfl, hC, he, hE⟩ := h₁
  exact wpAny_bind (wpAny_standAt (wpAny_pure ⟨a, t, rfl, hC, he, hE⟩))
theorem leave_err {M : Model} {A₀ : Around} {E : Value → Shared → Prop} {s' : Shared} {base g : Heap} {outer : List Env} {L a e t : Addr} {m : Str → Option Value} {name : Str} {scope : Scope} {cd : Value} {vs : List Value} {pn rest : List (Addr × Obj)} {Q : Unit → Shared → Prop}
    (B : Below A₀ base outer g) (F : Fr g L s'.heap m) (N : News g L s'.heap ((e, excO t) :: (t, tupO vs) :: (rest ++ pn))) (Tp : TabSt pn) (hQ : ∀ h' t, RaisedS base g outer e (.ref 114) t vs pn h' → g.UpToSlots h' → Q () { s' with heap := h' }) (hk : scope.kind = .function) :
    wpAny M (A₀.deeper (envOf name scope L a cd)) (leaving (envOf name scope L a cd) (.ref e)) Q E s' := by
  have N₂ : News g L s'.heap ((e, excO t) :: (t, tupO vs) :: pn) := fun p hp => by
    rcases List.mem_cons.mp hp with rfl | hp
    · exact N _ (.head _)
    rcases List.mem_cons.mp hp with rfl | hp
    · exact N _ (.tail _ (.head _))
    · exact N _ (.tail _ (.tail _ (List.mem_append_right _ hp)))
  obtain ⟨h₁, F₁, N₁, hm⟩ := made_of F N₂ fun p hp => ⟨(tab_off (p := (e, excO t)) Tp hp rfl (N₂ _ (.head _)).1 (N₂ _ (.tail _ (.tail _ hp))).1).symm, (tab_off (p := (t, tupO vs)) Tp hp rfl (N₂ _ (.tail _ (.head _))).1 (N₂ _ (.tail _ (.tail _ hp))).1).symm⟩
  exact leave_raiseS B hm F₁ N₁ (fun h' t R _ U => hQ h' t R U) hk
theorem noI_tuple_add : typeLookup (.type "tuple") (dunderI "add") = pure none := by rw [typeLookup_type, builtinLookup_eq_fast]; kernel_rfl
theorem iadd_tups {prog : Program} {w : World} {A : Around} {E : Value → Shared → Prop} {s : Shared} {h₀ : Heap} {L a b : Addr} {m : Str → Option Value} {news : List (Addr × Obj)} {vs ws : List Value} {Q : Value → Shared → Prop} (F : Fr h₀ L s.heap m) (N : News h₀ L s.heap news)
    (h1 : (a, tupO vs) ∈ news) (h2 : (b, tupO ws) ∈ news) (hv : vs ≠ []) (hw : ws ≠ []) (hsz : vs.length + ws.length ≤ sizeLine)
    (h : ∀ h' c, Fr h₀ L h' m → News h₀ L h' ((c, tupO (vs ++ ws)) :: news) → Q (.ref c) { s with heap := h' }) : wpAny (model prog w) A (inplaceOp .Add (.ref a) (.ref b)) Q E s := by
  have ho := (N _ h1).1
  have ho2 := (N _ h2).1
  have e : vs.toArray ++ ws.toArray = (vs ++ ws).toArray := by simp
  refine inplaceOp_concat ⟨_, ho, rfl⟩ ⟨_, ho2, rfl⟩ noI_tuple_add noFill_tuple_add seq_tuple_add (call_meets PySem.F.slot_tuple_add ⟨_, ho, rfl⟩ PySem.F.entry_tuple_add (PySem.F.args_tuple_add_2 _ _)
        (tuple_addW2 a b vs.toArray ws.toArray 0 0 none none #[] #[] (by simpa using hv) (by simpa using hw) (by rw [List.size_toArray, List.size_toArray]; exact hsz)) ⟨ho, ho2, ?_⟩)
  rw [e]
  exact h _ _ (F.push _) (News.push F N _)
theorem len_tup {prog : Program} {w : World} {A : Around} {E : Value → Shared → Prop} {s : Shared} {h₀ : Heap} {L a : Addr} {news : List (Addr × Obj)} {vs : List Value} {k : Int} {Q : Value → Shared → Prop} (N : News h₀ L s.heap news)
    (h1 : (a, tupO vs) ∈ news) (hk : (vs.length : Int) = k) (hz : k ≤ 4000) (h : Q (.int k (s.toks + 1)) { s with toks := s.toks + 1 + 1 }) : wpAny (model prog w) A (call (.builtin "len") [.ref a]) Q E s := by
  refine len_tuple (items := vs.toArray) ⟨_, (N _ h1).1, rfl, _, rfl⟩ (by simp; omega) ?_
  rw [show ((vs.toArray.size : Nat) : Int) = k by simpa using hk]
  exact h
end Mine
end
section
open PySem PySem.W PyProof.Rows PySem.Calls PySem.Spec
set_option maxRecDepth 100000
namespace Mine
section
variable {prog : Program} {w : World} {A : Around} {E : Value → Shared → Prop}
theorem sub_str_str : isSubtype (.type "str") (.type "str") = pure true := by rw [isSubtype_type]; kernel_rfl
theorem kind_issub_nested : builtinKind "issubclass.nested" = none := by decide +kernel
theorem plain_issub_nested : plainId "issubclass.nested" = true := by decide +kernel
theorem args_issub_nested (a b c : Value) : argsOk "issubclass.nested" ⟨[a, b, c], []⟩ := by unfold argsOk; kernel_rfl
theorem issub_inner {s : Shared} {Q : Value → Shared → Prop} (hq : Q (.bool true) s) : wpAny (model prog w) A (call (.builtin "issubclass.nested") [.type "str", .type "str", rawInt (0 + 1)]) Q E s := by
  refine Calls.call_function_entry kind_issub_nested plain_issub_nested F.entry_issubclass_nested (args_issub_nested _ _ _) ?_
  obtain ⟨h, g, d, t, os⟩ := s
  have f1 := sub_str_str
  repeat (any_goals (first | assumption | (rw [f1]) | wp_step))
  exact ⟨_, rfl, hq⟩
theorem issub_nested {s : Shared} {tp : Addr} {tk : Tok} {cs : List Value} {Q : Fin → Shared → Prop} (htp : s.heap.get? tp = some { cls := .type "tuple", data := .seq cs.toArray }) (hcs : cs = [.type "str", .type "bytes"]) (hq : Q (.done (.ret (.bool true))) s) :
    wpAny (model prog w) A (Builtin.«issubclass.nested» ⟨[.type "str", .ref tp, .int 0 tk], []⟩) Q E s := by
  obtain ⟨h, g, d, t, os⟩ := s
  have hT2 : (⟨h, g, d, t, os⟩ : Shared).TypeIs (.ref tp) "tuple" := ⟨_, htp, rfl⟩
  have f1 := F.isi_sub_tuple
  repeat (any_goals (first | assumption | wp_step))
  refine wpAny_arrayLoop ?_
  simp only [Option.getD_some, List.toList_toArray]
  subst hcs
  rw [List.forIn_cons]
  refine wpAny_bind (wpAny_bind (issub_inner ?_))
  show wpAny _ _ (truthy (.bool true) >>= _) _ _ _
  refine wpAny_bind (m := truthy (.bool true)) (wpAny_pure ?_)
  refine wpAny_bind (wpAny_pure (wpAny_pure (wpAny_pure ?_)))
  repeat (any_goals (first | assumption | wp_step))
theorem issub_str {s : Shared} {tp : Addr} {Q : Value → Shared → Prop} (htp : s.heap.get? tp = some { cls := .type "tuple", data := .seq #[.type "str", .type "bytes"] }) (hq : Q (.bool true) s) :
    wpAny (model prog w) A (call (.builtin "issubclass") [.type "str", .ref tp]) Q E s :=
  call_issubclass (S := fun _ R s => s.heap.get? tp = some { cls := .type "tuple", data := .seq #[.type "str", .type "bytes"] } ∧ R (.ok (.ret (.bool true))) s) (fun _ _ _ _ _ hs => issubclass_outer (issub_nested hs.1 rfl hs.2)) ⟨htp, hq⟩
end
end Mine
end
section
open PySem PySem.W PyProof.Rows PySem.Calls PySem.Spec PySem.Builtin PySem.Builtin.Str
namespace Mine
/-- a text's signs -/
noncomputable abbrev tl (x : Str) : List Nat := x.cps.toList
noncomputable def sL (l : List Nat) : Str := ⟨l.toArray⟩
theorem tl_sL (l : List Nat) : tl (sL l) = l := rfl
theorem sL_tl (x : Str) : sL (tl x) = x := rfl
theorem len_tl (x : Str) : x.length = (tl x).length := by simp [Str.length]
theorem len_sL (l : List Nat) : (sL l).length = l.length := by simp [Str.length, sL]
theorem sL_inj {a b : List Nat} : sL a = sL b ↔ a = b := by
  constructor
  · intro h; have := congrArg tl h; simpa [tl_sL] using this
  · intro h; rw [h]
theorem sL_app (a b : List Nat) : sL a ++ sL b = sL (a ++ b) := by
  apply Str.ext'
  show (sL a ++ sL b).cps = _
  rw [Str.cps_append]
  simp [sL]
theorem str_eq {x y : Str} : x = y ↔ tl x = tl y := by
  constructor
  · intro h; rw [h]
  · intro h; rw [← sL_tl x, ← sL_tl y, h]
theorem beq_tl (x y : Str) : (x == y) = (tl x == tl y) := by
  rw [Bool.eq_iff_iff, beq_iff_eq, beq_iff_eq]; exact str_eq
/-- the piece from i to j -/
noncomputable def cut (l : List Nat) (i j : Nat) : List Nat := (l.drop i).take (j - i)
theorem toNat_diff {i j : Int} (h0 : 0 ≤ i) (h1 : i ≤ j) : (j - i).toNat = j.toNat - i.toNat := by
  obtain ⟨a, rfl⟩ := Int.eq_ofNat_of_zero_le h0
  obtain ⟨b, rfl⟩ := Int.eq_ofNat_of_zero_le (Int.le_trans h0 h1)
  exact Int.toNat_sub b a
theorem slice_cut {x : Str} {i j : Int} (h0 : 0 ≤ i) (h1 : i ≤ j) (h2 : j ≤ x.length) : Txt.slice x (some i) (some j) = sL (cut (tl x) i.toNat j.toNat) := by
  have h2' : j ≤ x.cps.toList.length := by rw [len_tl] at h2; exact h2
  have := StrLaws.sliceText_plain (x := x) ⟨h0, h1, h2'⟩
  rw [show Txt.slice x (some i) (some j) = StrLaws.sliceText x (some i) (some j) from rfl, this]
  unfold sL cut
  rw [toNat_diff h0 h1]
theorem slice_to {x : Str} {j : Int} (h1 : 0 ≤ j) (h2 : j ≤ x.length) : Txt.slice x none (some j) = sL ((tl x).take j.toNat) := by
  have h2' : j ≤ x.cps.toList.length := by rw [len_tl] at h2; exact h2
  have := StrLaws.sliceText_to (x := x) ⟨h1, h2'⟩
  rw [show Txt.slice x none (some j) = StrLaws.sliceText x none (some j) from rfl, this]
  unfold sL
  simp
theorem slice_from {x : Str} {i : Int} (h1 : 0 ≤ i) (h2 : i ≤ x.length) : Txt.slice x (some i) none = sL ((tl x).drop i.toNat) := by
  have h2' : i ≤ x.cps.toList.length := by rw [len_tl] at h2; exact h2
  have := StrLaws.sliceText_from (x := x) ⟨h1, h2'⟩
  rw [show Txt.slice x (some i) none = StrLaws.sliceText x (some i) none from rfl, this]
  unfold sL
  rw [List.take_of_length_le (by simp; omega)]
theorem empty_add (x : Str) : Str.empty ++ x = x := by
  rw [← sL_tl x, show Str.empty = sL [] from rfl, sL_app]; rfl
end Mine
end
section
open PySem PySem.W PyProof.Rows PySem.Calls PySem.Spec
set_option maxRecDepth 100000
namespace Mine
noncomputable def Same (x : Value) (v : Value) (res : List (Addr × Obj)) : Prop := v = x ∧ res = []
set_option maxHeartbeats 1000000 in
theorem c_fspath (w : World) (x : Str) (t : Tok) : ConP w 20 200 275 [.str x t] [] (fun _ => True) (Same (.str x t)) := by
  intro mean mg mb dp un gd l base g s Q E G O hd hu _ hret
  obtain ⟨B, X, T, S, D, XB, TB, SB⟩ := G
  ((have fill : (KF w.params).In g → PySem.Challenge.rw_ij0142_01.row.prog = PySem.Challenge.rw_ij0142_01.row.prog → True := by (k_fill; intros; trivial)); clear fill; k_with_none)
  k_with "call builtin:issubclass" => k_dflt (refine' issub_str (News.get (by assumption) (by k_mem)) ?_)
  ((have Sc := SetsF.ctl S); (have Sw := SetsF.ws S); (have Sb := SetsF.bare S); (have N : NG g s.heap [] := fun _ h => nomatch h); refine wpAny_call ?_; k_dflt (refine' enter ⟨B, X, T, S, D, XB, TB, SB⟩ O N ?k6 ?k7 ?k8 ?k9 ?kB ?_ ?c2 ?c3 ?c4 ?c5; (case k6 => k_is); (case k7 => k_is); (case k8 => exact Nat.lt_of_le_of_lt (Nat.le_add_right _ _) hd); (case k9 => first | exact binds_K (by k_in) rfl (by k_is) rfl rfl rfl | exact BindsTo.of_eq rfl | fail "m_pure: no rule for these arguments"); (case kB => exact locs rfl); (case c2 => exact rfl); (case c3 => exact rfl); (case c4 => exact rfl); (case c5 => decide); k_whole; intro L' h' F' N' lL'; (try dsimp only); (try k_fold)))
  k_steps
  exact out_p hret ⟨rfl, rfl⟩ (by assumption) (by assumption) (fun _ h => nomatch h)
set_option maxHeartbeats 1000000 in
theorem c_sep (w : World) (x : Str) (t : Tok) : ConP w 20 200 296 [.str x t] [] (fun _ => True) (fun v res => (∃ t', v = .str (Str.ofString "/") t') ∧ res = []) := by
  intro mean mg mb dp un gd l base g s Q E G O hd hu _ hret
  obtain ⟨B, X, T, S, D, XB, TB, SB⟩ := G
  ((have fill : (KF w.params).In g → PySem.Challenge.rw_ij0142_01.row.prog = PySem.Challenge.rw_ij0142_01.row.prog → True := by (k_fill; intros; trivial)); clear fill; k_with_none)
  ((have Sc := SetsF.ctl S); (have Sw := SetsF.ws S); (have Sb := SetsF.bare S); (have N : NG g s.heap [] := fun _ h => nomatch h); refine wpAny_call ?_; k_dflt (refine' enter ⟨B, X, T, S, D, XB, TB, SB⟩ O N ?k6 ?k7 ?k8 ?k9 ?kB ?_ ?c2 ?c3 ?c4 ?c5; (case k6 => k_is); (case k7 => k_is); (case k8 => exact Nat.lt_of_le_of_lt (Nat.le_add_right _ _) hd); (case k9 => first | exact binds_K (by k_in) rfl (by k_is) rfl rfl rfl | exact BindsTo.of_eq rfl | fail "m_pure: no rule for these arguments"); (case kB => exact locs rfl); (case c2 => exact rfl); (case c3 => exact rfl); (case c4 => exact rfl); (case c5 => decide); k_whole; intro L' h' F' N' lL'; (try dsimp only); (try k_fold)))
  k_steps
  exact out_p hret ⟨⟨_, rfl⟩, rfl⟩ (by assumption) (by assumption) (fun _ h => nomatch h)
end Mine
end
section
open PySem PySem.W PyProof.Rows PySem.Calls PySem.Spec PySem.Builtin PySem.Builtin.Str
set_option maxRecDepth 100000
namespace Mine
noncomputable def rst (p : Nat → Bool) (l : List Nat) : List Nat := (l.reverse.dropWhile p).reverse
theorem dropWhile_drop (p : Nat → Bool) (l : List Nat) : l.dropWhile p = l.drop (l.takeWhile p).length := by
  induction l with
  | nil => rfl
  | cons a r ih =>
    rw [List.dropWhile_cons, List.takeWhile_cons]
    split
    · rw [List.length_cons, List.drop_succ_cons]; exact ih
    · rfl
theorem rst_take (p : Nat → Bool) (l : List Nat) : rst p l = l.take (l.length - (l.reverse.takeWhile p).length) := by
  unfold rst
  rw [dropWhile_drop, List.drop_reverse, List.reverse_reverse]
theorem strip_l (x : Str) (p : Nat → Bool) : Txt.stripBy p true false x = sL ((tl x).dropWhile p) := by
  unfold Txt.stripBy
  have e : PySem.stripped p true false x = sL ((tl x).dropWhile p) := by
    rw [str_eq, tl_sL]
    unfold PySem.stripped
    rw [show tl (strSub x (stripLo p true x) (stripHi p false x (stripLo p true x))) = (x.cps.toList.drop (stripLo p true x)).take (stripHi p false x (stripLo p true x) - stripLo p true x) from StrLaws.strSub_toList ..]
    unfold stripLo stripHi
    simp only [if_true, Bool.false_eq_true, if_false]
    rw [dropWhile_drop, List.take_of_length_le (by simp [Str.length])]
  split
  · rename_i h
    rw [← e]
    unfold PySem.stripped
    unfold stripSame at h
    simp only [Bool.and_eq_true, beq_iff_eq] at h
    rw [h.1] at *
    rw [h.2]
    rw [str_eq, show tl (strSub x 0 x.length) = (x.cps.toList.drop 0).take (x.length - 0) from StrLaws.strSub_toList ..]
    simp only [List.drop_zero, Nat.sub_zero]
    rw [List.take_of_length_le (by simp [Str.length])]
  · exact e
theorem strip_r (x : Str) (p : Nat → Bool) : Txt.stripBy p false true x = sL (rst p (tl x)) := by
  unfold Txt.stripBy
  have e : PySem.stripped p false true x = sL (rst p (tl x)) := by
    rw [str_eq, tl_sL]
    unfold PySem.stripped
    rw [show tl (strSub x (stripLo p false x) (stripHi p true x (stripLo p false x))) = (x.cps.toList.drop (stripLo p false x)).take (stripHi p true x (stripLo p false x) - stripLo p false x) from StrLaws.strSub_toList ..]
    unfold stripLo stripHi
    simp only [if_true, Bool.false_eq_true, if_false, List.drop_zero, Nat.sub_zero]
    rw [rst_take, len_tl]
  split
  · rename_i h
    rw [← e]
    unfold PySem.stripped
    unfold stripSame at h
    simp only [Bool.and_eq_true, beq_iff_eq] at h
    rw [h.1] at *
    rw [h.2]
    rw [str_eq, show tl (strSub x 0 x.length) = (x.cps.toList.drop 0).take (x.length - 0) from StrLaws.strSub_toList ..]
    simp only [List.drop_zero, Nat.sub_zero]
    rw [List.take_of_length_le (by simp [Str.length])]
  · exact e
theorem strip_lr (x : Str) (p : Nat → Bool) : Txt.stripBy p true true x = sL (rst p ((tl x).dropWhile p)) := by
  unfold Txt.stripBy
  have e : PySem.stripped p true true x = sL (rst p ((tl x).dropWhile p)) := by
    rw [str_eq, tl_sL]
    unfold PySem.stripped
    rw [show tl (strSub x (stripLo p true x) (stripHi p true x (stripLo p true x))) = (x.cps.toList.drop (stripLo p true x)).take (stripHi p true x (stripLo p true x) - stripLo p true x) from StrLaws.strSub_toList ..]
    unfold stripLo stripHi
    simp only [if_true]
    rw [rst_take, dropWhile_drop, List.length_drop, len_tl]
    congr 1
    have := (List.takeWhile_sublist p (l := tl x)).length_le
    dsimp only [tl] at *
    omega
  split
  · rename_i h
    rw [← e]
    unfold PySem.stripped
    unfold stripSame at h
    simp only [Bool.and_eq_true, beq_iff_eq] at h
    rw [h.1] at *
    rw [h.2]
    rw [str_eq, show tl (strSub x 0 x.length) = (x.cps.toList.drop 0).take (x.length - 0) from StrLaws.strSub_toList ..]
    simp only [List.drop_zero, Nat.sub_zero]
    rw [List.take_of_length_le (by simp [Str.length])]
  · exact e
theorem at_one {x : Str} {c i : Nat} : StrLaws.At x ⟨#[c]⟩ x.length i ↔ (tl x)[i]? = some c := by
  unfold StrLaws.At
  rw [StrLaws.subAt_eq]
  show i + 1 ≤ x.length ∧ ((tl x).drop i).take 1 == [c] ↔ _
  rw [len_tl]
  constructor
  · rintro ⟨h1, h2⟩
    have h2 := eq_of_beq h2
    have hl : i < (tl x).length := h1
    rw [List.drop_eq_getElem_cons hl] at h2
    simp at h2
    rw [List.getElem?_eq_getElem hl]
    simpa using h2
  · intro h
    obtain ⟨hl, hc⟩ := List.getElem?_eq_some_iff.mp h
    refine ⟨hl, ?_⟩
    rw [List.drop_eq_getElem_cons hl, hc]
    simp
/-- the place behind the last c -/
noncomputable def lastAft (c : Nat) (l : List Nat) : Nat := l.length - (l.reverse.takeWhile (· != c)).length
theorem takeWhile_self {p : Nat → Bool} {l : List Nat} (h : ∀ a ∈ l, p a = true) : l.takeWhile p = l := by
  induction l with
  | nil => rfl
  | cons a r ih => rw [List.takeWhile_cons, if_pos (h a (.head _)), ih fun b hb => h b (.tail _ hb)]
theorem lastAft_none {c : Nat} {l : List Nat} (h : c ∉ l) : lastAft c l = 0 := by
  unfold lastAft
  have : l.reverse.takeWhile (· != c) = l.reverse := by
    refine takeWhile_self fun a ha => ?_
    have : a ≠ c := fun q => h (by rw [← q]; exact List.mem_reverse.mp ha)
    simpa using this
  rw [this]; simp
theorem lastAft_some {c : Nat} {a b : List Nat} (h : c ∉ b) : lastAft c (a ++ c :: b) = a.length + 1 := by
  unfold lastAft
  have h2 : b.reverse.takeWhile (· != c) = b.reverse := by
    refine takeWhile_self fun x hx => ?_
    have : x ≠ c := fun q => h (by rw [← q]; exact List.mem_reverse.mp hx)
    simpa using this
  have : (a ++ c :: b).reverse.takeWhile (· != c) = b.reverse := by
    rw [List.reverse_append, List.reverse_cons, List.append_assoc, List.takeWhile_append, h2]
    simp
  rw [this]
  simp
  omega
theorem rfind_one (x : Str) (c : Nat) : Txt.rfind x ⟨#[c]⟩ + 1 = (lastAft c (tl x) : Nat) := by
  unfold Txt.rfind
  rcases StrLaws.last_spec x ⟨#[c]⟩ with ⟨h1, h2⟩ | ⟨i, h1, h2, h3⟩
  · rw [h1]
    have : c ∉ tl x := fun hm => by
      obtain ⟨k, hk⟩ := List.mem_iff_getElem?.mp hm
      exact h2 k (at_one.mpr hk)
    rw [lastAft_none this]; rfl
  · rw [h1]
    have hc := at_one.mp h2
    obtain ⟨hl, hv⟩ := List.getElem?_eq_some_iff.mp hc
    have e : tl x = (tl x).take i ++ c :: (tl x).drop (i + 1) := by
      rw [← hv, List.getElem_cons_drop, List.take_append_drop]
    have hn : c ∉ (tl x).drop (i + 1) := fun hm => by
      obtain ⟨k, hk⟩ := List.mem_iff_getElem?.mp hm
      rw [List.getElem?_drop] at hk
      exact h3 (i + 1 + k) (by omega) (at_one.mpr hk)
    rw [e, lastAft_some hn, List.length_take]
    have : min i (tl x).length = i := by omega
    rw [this]; simp
theorem mul_one (c : Nat) (n : Int) : Txt.mul ⟨#[c]⟩ n = sL (List.replicate n.toNat c) := by
  unfold Txt.mul
  split
  · rename_i h
    rw [show n.toNat = 0 by omega]; rfl
  · split
    · rename_i h1 h2
      have : n = 1 := by simpa [Str.length] using h2
      subst this; rfl
    · rw [str_eq, tl_sL]
      show ((List.replicate n.toNat #[c]).foldl (· ++ ·) #[]).toList = _
      have : ∀ (k : Nat) (a : Array Nat), ((List.replicate k #[c]).foldl (· ++ ·) a).toList = a.toList ++ List.replicate k c := by
        intro k
        induction k with
        | zero => intro a; simp
        | succ k ih => intro a; rw [List.replicate_succ, List.foldl_cons, ih]; simp [List.replicate_succ]
      rw [this]; simp
end Mine
end
section
open PySem PySem.W PyProof.Rows PySem.Calls PySem.Spec PySem.Builtin PySem.Builtin.Str
set_option maxRecDepth 100000
namespace Mine
noncomputable def sl (c : Nat) : Bool := c == 47
noncomputable def splitT (l : List Nat) : List Nat := l.drop (lastAft 47 l)
noncomputable def splitH (l : List Nat) : List Nat := if rst sl (l.take (lastAft 47 l)) = [] then l.take (lastAft 47 l) else rst sl (l.take (lastAft 47 l))
theorem lastAft_le {c : Nat} {l : List Nat} : lastAft c l ≤ l.length := by unfold lastAft; omega
theorem chars_one (c : Nat) : (fun a => (⟨#[c]⟩ : Str).cps.contains a) = (fun a => a == c) := by
  funext a
  rw [Bool.eq_iff_iff]; simp
theorem rstrip_one (x : Str) (c : Nat) : Txt.rstripChars x ⟨#[c]⟩ = sL (rst (· == c) (tl x)) := by
  show Txt.stripBy (fun a => (⟨#[c]⟩ : Str).cps.contains a) false true x = _
  rw [chars_one]; exact strip_r _ _
theorem rst_nil {p : Nat → Bool} {l : List Nat} : rst p l = [] ↔ ∀ a ∈ l, p a = true := by
  unfold rst
  rw [List.reverse_eq_nil_iff]
  have : ∀ l : List Nat, l.dropWhile p = [] ↔ ∀ a ∈ l, p a = true := by
    intro l
    induction l with
    | nil => simp
    | cons a r ih =>
      rw [List.dropWhile_cons]
      split
      · rename_i h; rw [ih]; simp [h]
      · rename_i h; simp [h]
  rw [this]; simp
theorem all_rep {c : Nat} {l : List Nat} : (∀ a ∈ l, (a == c) = true) ↔ l = List.replicate l.length c := by
  rw [List.eq_replicate_iff]
  simp
section
variable {x : Str}
theorem sl_to : Txt.slice x none (some (Txt.rfind x (Str.ofString "/") + 1)) = sL ((tl x).take (lastAft 47 (tl x))) := by
  have e : Txt.rfind x (Str.ofString "/") + 1 = (lastAft 47 (tl x) : Nat) := rfind_one x 47
  rw [e, slice_to (by omega) (by have := lastAft_le (c := 47) (l := tl x); rw [len_tl]; omega), Int.toNat_natCast]
theorem splitD : Txt.slice x (some (Txt.rfind x (Str.ofString "/") + 1)) none = sL (splitT (tl x)) := by
  have e : Txt.rfind x (Str.ofString "/") + 1 = (lastAft 47 (tl x) : Nat) := rfind_one x 47
  rw [e, slice_from (by omega) (by have := lastAft_le (c := 47) (l := tl x); rw [len_tl]; omega), Int.toNat_natCast]; rfl
theorem split_mul (l : List Nat) : Txt.mul (Str.ofString "/") ((sL l).length : Int) = sL (List.replicate l.length 47) := by
  rw [show Str.ofString "/" = ⟨#[47]⟩ from rfl, mul_one, len_sL, Int.toNat_natCast]
theorem splitA (h : (Txt.slice x none (some (Txt.rfind x (Str.ofString "/") + 1)) != Txt.mul (Str.ofString "/") ((Txt.slice x none (some (Txt.rfind x (Str.ofString "/") + 1))).length : Int)) = true) :
    Txt.rstripChars (Txt.slice x none (some (Txt.rfind x (Str.ofString "/") + 1))) (Str.ofString "/") = sL (splitH (tl x)) := by
  rw [sl_to, split_mul] at h
  rw [sl_to, show Str.ofString "/" = ⟨#[47]⟩ from rfl, rstrip_one, tl_sL]
  unfold splitH
  rw [if_neg]
  · rfl
  · intro q
    have := all_rep.mp (rst_nil.mp q)
    rw [this] at h
    simp at h
theorem splitB (h : (Txt.slice x none (some (Txt.rfind x (Str.ofString "/") + 1)) != Txt.mul (Str.ofString "/") ((Txt.slice x none (some (Txt.rfind x (Str.ofString "/") + 1))).length : Int)) = false) :
    Txt.slice x none (some (Txt.rfind x (Str.ofString "/") + 1)) = sL (splitH (tl x)) := by
  rw [sl_to, split_mul] at h
  rw [sl_to]
  have h := sL_inj.mp (of_decide_eq_true (by simpa [bne] using h : decide (_ = _) = true))
  unfold splitH
  rw [if_pos]
  exact rst_nil.mpr (all_rep.mpr (by simpa using h))
theorem splitC (h : ((Txt.slice x none (some (Txt.rfind x (Str.ofString "/") + 1))).length : Int) = 0) : Txt.slice x none (some (Txt.rfind x (Str.ofString "/") + 1)) = sL (splitH (tl x)) := by
  rw [sl_to, len_sL] at h
  rw [sl_to]
  have : (tl x).take (lastAft 47 (tl x)) = [] := by rw [← List.length_eq_zero_iff]; omega
  unfold splitH
  rw [this]
  rfl
end
end Mine
end
section
open PySem PySem.W PyProof.Rows PySem.Calls PySem.Spec
set_option maxRecDepth 100000
namespace Mine
noncomputable def Two (a b : List Nat) (v : Value) (res : List (Addr × Obj)) : Prop := ∃ r t t', v = .ref r ∧ res = [(r, tupO [.str (sL a) t, .str (sL b) t'])]
theorem two_end {g h' : Heap} {L r : Addr} {m : Str → Option Value} {s : Shared} {Q : Value → Shared → Prop} {a b : List Nat} {A B : Str} {t t' : Tok} {rest : List (Addr × Obj)} {tk : Nat} (hret : RetP g s (Two a b) Q) (F : Fr g L h' m)
    (N : News g L h' ((r, { cls := .type "tuple", data := .seq #[.str A t, .str B t'] }) :: rest)) (eA : A = sL a) (eB : B = sL b) : Q (.ref r) { s with heap := h', toks := tk } := by
  subst eA eB
  exact out_p hret ⟨r, t, t', rfl, rfl⟩ F N fun p hp => (List.mem_singleton.mp hp) ▸ .head _
set_option maxHeartbeats 2000000 in
theorem c_split (w : World) (x : Str) (t : Tok) (hx : x.length ≤ 900) : ConP w 40 400 310 [.str x t] [] (fun _ => True) (Two (splitH (tl x)) (splitT (tl x))) := by
  intro mean mg mb dp un gd l base g s Q E G O hd hu _ hret
  obtain ⟨B, X, T, S, D, XB, TB, SB⟩ := G
  ((have fill : (KF w.params).In g → PySem.Challenge.rw_ij0142_01.row.prog = PySem.Challenge.rw_ij0142_01.row.prog → True := by (k_fill; intros; trivial)); clear fill; k_with_none)
  k_with "call ref" => (refine blk ?_)
  k_with "call ref" => k_dflt ((refine' call_p2 (c_fspath w x _) (by assumption) (by assumption) (by exact rfl) (by exact rfl) (by assumption) (by assumption) (by assumption) (by assumption) (by assumption) XB TB SB (by (first | exact lt_hd1 hd rfl | exact lt_hd hd rfl | (have hd9 := hd; (try dsimp only [Ar]); omega))) (by (first | exact lt_hd1 hu rfl | exact lt_hd hu rfl | (have hu9 := hu; (try dsimp only [Ar]); omega))) trivial ?_); (intro v' res' h' tk' hr' F' N' hne'; (try simp only [List.cons_append, List.nil_append] at N')); (obtain ⟨rfl, rfl⟩ := hr'); (try simp only [List.cons_append, List.nil_append] at N'); (try dsimp only))
  k_with "call ref" => k_dflt ((refine' call_p2 (c_sep w x _) (by assumption) (by assumption) (by exact rfl) (by exact rfl) (by assumption) (by assumption) (by assumption) (by assumption) (by assumption) XB TB SB (by (first | exact lt_hd1 hd rfl | exact lt_hd hd rfl | (have hd9 := hd; (try dsimp only [Ar]); omega))) (by (first | exact lt_hd1 hu rfl | exact lt_hd hu rfl | (have hu9 := hu; (try dsimp only [Ar]); omega))) trivial ?_); (intro v' res' h' tk' hr' F' N' hne'; (try simp only [List.cons_append, List.nil_append] at N')); (obtain ⟨⟨t', rfl⟩, rfl⟩ := hr'); (try simp only [List.cons_append, List.nil_append] at N'); (try dsimp only))
  ((have Sc := SetsF.ctl S); (have Sw := SetsF.ws S); (have Sb := SetsF.bare S); (have N : NG g s.heap [] := fun _ h => nomatch h); refine wpAny_call ?_; k_dflt (refine' enter ⟨B, X, T, S, D, XB, TB, SB⟩ O N ?k6 ?k7 ?k8 ?k9 ?kB ?_ ?c2 ?c3 ?c4 ?c5; (case k6 => k_is); (case k7 => k_is); (case k8 => exact Nat.lt_of_le_of_lt (Nat.le_add_right _ _) hd); (case k9 => first | exact binds_K (by k_in) rfl (by k_is) rfl rfl rfl | exact BindsTo.of_eq rfl | fail "m_pure: no rule for these arguments"); (case kB => exact locs rfl); (case c2 => exact rfl); (case c3 => exact rfl); (case c4 => exact rfl); (case c5 => decide); k_whole; intro L' h' F' N' lL'; (try dsimp only); (try k_fold)))
  k_steps
  · exact two_end hret (by assumption) (by assumption) (splitA (by assumption)) splitD
  · exact two_end hret (by assumption) (by assumption) (splitB (by assumption)) splitD
  · exact two_end hret (by assumption) (by assumption) (splitC (by assumption)) splitD
end Mine
end
section
open PySem PySem.W PyProof.Rows PySem.Calls PySem.Spec PySem.Builtin PySem.Builtin.Str
set_option maxRecDepth 100000
namespace Mine
noncomputable def hasExt (l : List Nat) : Bool := decide (lastAft 47 l < lastAft 46 l) && (cut l (lastAft 47 l) (lastAft 46 l - 1)).any (· != 46)
noncomputable def extF (l : List Nat) : List Nat := if hasExt l then l.take (lastAft 46 l - 1) else l
noncomputable def extE (l : List Nat) : List Nat := if hasExt l then l.drop (lastAft 46 l - 1) else []
theorem slice_one {x : Str} {i : Nat} {c : Nat} (h : (tl x)[i]? = some c) : Txt.slice x (some (i : Int)) (some ((i : Int) + 1)) = sL [c] := by
  obtain ⟨hl, hc⟩ := List.getElem?_eq_some_iff.mp h
  rw [slice_cut (by omega) (by omega) (by rw [len_tl]; omega)]
  congr 1
  unfold cut
  rw [show ((i : Int) + 1).toNat = i + 1 by omega, Int.toNat_natCast, show i + 1 - i = 1 by omega, List.drop_eq_getElem_cons hl, hc]
  simp
theorem cut_mem {l : List Nat} {a b c : Nat} : c ∈ cut l a b ↔ ∃ i, a ≤ i ∧ i < b ∧ l[i]? = some c := by
  unfold cut
  rw [List.mem_iff_getElem?]
  constructor
  · rintro ⟨k, hk⟩
    rw [List.getElem?_take] at hk
    split at hk
    · rw [List.getElem?_drop] at hk
      exact ⟨a + k, by omega, by omega, hk⟩
    · cases hk
  · rintro ⟨i, h1, h2, h3⟩
    refine ⟨i - a, ?_⟩
    rw [List.getElem?_take, if_pos (by omega), List.getElem?_drop, show a + (i - a) = i by omega, h3]
section
variable {x : Str}
theorem dix : Txt.rfind x (Str.ofString ".") + 1 = (lastAft 46 (tl x) : Nat) := rfind_one x 46
theorem six : Txt.rfind x (Str.ofString "/") + 1 = (lastAft 47 (tl x) : Nat) := rfind_one x 47
theorem ext_found {n : Int} (h0 : 0 ≤ n) (h1 : Txt.rfind x (Str.ofString "/") + 1 + 1 * n < Txt.rfind x (Str.ofString "."))
    (h2 : (Txt.slice x (some (Txt.rfind x (Str.ofString "/") + 1 + 1 * n)) (some (Txt.rfind x (Str.ofString "/") + 1 + 1 * n + 1)) != Str.ofString ".") = true) : hasExt (tl x) = true := by
  have d := dix (x := x)
  rw [six] at h1 h2
  have dl := lastAft_le (c := 46) (l := tl x)
  have e : ((lastAft 47 (tl x) : Nat) : Int) + 1 * n = ((lastAft 47 (tl x) + n.toNat : Nat) : Int) := by omega
  rw [e] at h1 h2
  have hl : lastAft 47 (tl x) + n.toNat < (tl x).length := by omega
  have hc := List.getElem?_eq_getElem hl
  rw [slice_one hc] at h2
  unfold hasExt
  rw [Bool.and_eq_true]
  refine ⟨by simp; omega, ?_⟩
  rw [List.any_eq_true]
  refine ⟨_, cut_mem.mpr ⟨_, Nat.le_add_right _ _, by omega, hc⟩, ?_⟩
  simp only [bne_iff_ne, ne_eq] at h2 ⊢
  intro q
  rw [q] at h2
  exact h2 rfl
theorem ext_none {n : Int} (h1 : Passed (fun j => decide (Txt.rfind x (Str.ofString "/") + 1 + 1 * j < Txt.rfind x (Str.ofString ".")))
      (fun j => if (Txt.slice x (some (Txt.rfind x (Str.ofString "/") + 1 + 1 * j)) (some (Txt.rfind x (Str.ofString "/") + 1 + 1 * j + 1)) != Str.ofString ".") = true then true else false) n)
    (h2 : Txt.rfind x (Str.ofString ".") ≤ Txt.rfind x (Str.ofString "/") + 1 + 1 * n) : hasExt (tl x) = false := by
  have d := dix (x := x)
  unfold hasExt
  rw [Bool.and_eq_false_iff]
  refine .inr ?_
  rw [List.any_eq_false]
  intro c hc
  obtain ⟨i, a1, a2, a3⟩ := cut_mem.mp hc
  have := (h1 ((i : Int) - (lastAft 47 (tl x) : Nat)) (by omega) (by rw [six] at h2; omega)).2
  dsimp only at this
  rw [six] at this
  rw [show ((lastAft 47 (tl x) : Nat) : Int) + 1 * ((i : Int) - (lastAft 47 (tl x) : Nat)) = (i : Int) by omega, slice_one a3] at this
  simp only [bne_iff_ne, ne_eq] at this ⊢
  have h : sL [c] = Str.ofString "." := Classical.byContradiction fun q => by rw [if_pos q] at this; cases this
  have := (sL_inj (a := [c]) (b := [46])).mp h
  simpa using this
theorem ext_not (h : ¬ Txt.rfind x (Str.ofString "/") < Txt.rfind x (Str.ofString ".")) : hasExt (tl x) = false := by
  have d := dix (x := x)
  have s := six (x := x)
  unfold hasExt
  rw [Bool.and_eq_false_iff]
  refine .inl ?_
  simp
  omega
theorem ext_a (h : hasExt (tl x) = true) : Txt.slice x none (some (Txt.rfind x (Str.ofString "."))) = sL (extF (tl x)) := by
  have d := dix (x := x)
  have dl := lastAft_le (c := 46) (l := tl x)
  have h' : lastAft 47 (tl x) < lastAft 46 (tl x) := by unfold hasExt at h; simp at h; exact h.1
  unfold extF
  rw [if_pos h, slice_to (by omega) (by rw [len_tl]; omega)]
  congr 2; omega
theorem ext_b (h : hasExt (tl x) = true) : Txt.slice x (some (Txt.rfind x (Str.ofString "."))) none = sL (extE (tl x)) := by
  have d := dix (x := x)
  have dl := lastAft_le (c := 46) (l := tl x)
  have h' : lastAft 47 (tl x) < lastAft 46 (tl x) := by unfold hasExt at h; simp at h; exact h.1
  unfold extE
  rw [if_pos h, slice_from (by omega) (by rw [len_tl]; omega)]
  congr 2; omega
theorem ext_c (h : hasExt (tl x) = false) : x = sL (extF (tl x)) := by unfold extF; rw [if_neg (by rw [h]; nofun)]; rfl
theorem ext_d (h : hasExt (tl x) = false) : Txt.slice x none (some 0) = sL (extE (tl x)) := by
  unfold extE; rw [if_neg (by rw [h]; nofun), slice_to (by omega) (by omega)]; rfl
end
end Mine
end
section
open PySem PySem.W PyProof.Rows PySem.Calls PySem.Spec
set_option maxRecDepth 100000
namespace Mine
set_option maxHeartbeats 2000000 in
theorem c_splitext0 (w : World) (x : Str) (t t1 t2 : Tok) (hx : x.length ≤ 900) : ConP w 40 400 282 [.str x t, .str (Str.ofString "/") t1, .none, .str (Str.ofString ".") t2] [] (fun _ => True) (Two (extF (tl x)) (extE (tl x))) := by
  intro mean mg mb dp un gd l base g s Q E G O hd hu _ hret
  obtain ⟨B, X, T, S, D, XB, TB, SB⟩ := G
  ((have fill : (KF w.params).In g → PySem.Challenge.rw_ij0142_01.row.prog = PySem.Challenge.rw_ij0142_01.row.prog → True := by (k_fill; intros; trivial)); clear fill; k_with_none)
  k_with "call ref" => (refine blk ?_)
  ((have Sc := SetsF.ctl S); (have Sw := SetsF.ws S); (have Sb := SetsF.bare S); (have N : NG g s.heap [] := fun _ h => nomatch h); refine wpAny_call ?_; k_dflt (refine' enter ⟨B, X, T, S, D, XB, TB, SB⟩ O N ?k6 ?k7 ?k8 ?k9 ?kB ?_ ?c2 ?c3 ?c4 ?c5; (case k6 => k_is); (case k7 => k_is); (case k8 => exact Nat.lt_of_le_of_lt (Nat.le_add_right _ _) hd); (case k9 => first | exact binds_K (by k_in) rfl (by k_is) rfl rfl rfl | exact BindsTo.of_eq rfl | fail "m_pure: no rule for these arguments"); (case kB => exact locs rfl); (case c2 => exact rfl); (case c3 => exact rfl); (case c4 => exact rfl); (case c5 => decide); k_whole; intro L' h' F' N' lL'; (try dsimp only); (try k_fold)))
  k_steps
  · have hx9 := ext_found (by assumption) (by assumption) (by assumption)
    exact two_end hret (by assumption) (by assumption) (ext_a hx9) (ext_b hx9)
  · have hx9 := ext_none (by assumption) (by assumption)
    exact two_end hret (by assumption) (by assumption) (ext_c hx9) (ext_d hx9)
  · have hx9 := ext_not (by assumption)
    exact two_end hret (by assumption) (by assumption) (ext_c hx9) (ext_d hx9)
set_option maxHeartbeats 2000000 in
theorem c_splitext (w : World) (x : Str) (t : Tok) (hx : x.length ≤ 900) : ConP w 50 500 317 [.str x t] [] (fun _ => True) (Two (extF (tl x)) (extE (tl x))) := by
  intro mean mg mb dp un gd l base g s Q E G O hd hu _ hret
  obtain ⟨B, X, T, S, D, XB, TB, SB⟩ := G
  ((have fill : (KF w.params).In g → PySem.Challenge.rw_ij0142_01.row.prog = PySem.Challenge.rw_ij0142_01.row.prog → True := by (k_fill; intros; trivial)); clear fill; k_with_none)
  k_with "call ref" => (refine blk ?_)
  k_with "call ref" => k_dflt ((refine' call_p2 (c_fspath w x _) (by assumption) (by assumption) (by exact rfl) (by exact rfl) (by assumption) (by assumption) (by assumption) (by assumption) (by assumption) XB TB SB (by (first | exact lt_hd1 hd rfl | exact lt_hd hd rfl | (have hd9 := hd; (try dsimp only [Ar]); omega))) (by (first | exact lt_hd1 hu rfl | exact lt_hd hu rfl | (have hu9 := hu; (try dsimp only [Ar]); omega))) trivial ?_); (intro v' res' h' tk' hr' F' N' hne'; (try simp only [List.cons_append, List.nil_append] at N')); (obtain ⟨rfl, rfl⟩ := hr'); (try simp only [List.cons_append, List.nil_append] at N'); (try dsimp only))
  k_with "call ref" => k_dflt ((refine' call_p2 (c_splitext0 w x _ _ _ hx) (by assumption) (by assumption) (by exact rfl) (by exact rfl) (by assumption) (by assumption) (by assumption) (by assumption) (by assumption) XB TB SB (by (first | exact lt_hd1 hd rfl | exact lt_hd hd rfl | (have hd9 := hd; (try dsimp only [Ar]); omega))) (by (first | exact lt_hd1 hu rfl | exact lt_hd hu rfl | (have hu9 := hu; (try dsimp only [Ar]); omega))) trivial ?_); (intro v' res' h' tk' hr' F' N' hne'; (try simp only [List.cons_append, List.nil_append] at N')); (obtain ⟨r9, t9, t9', rfl, rfl⟩ := hr'); (try simp only [List.cons_append, List.nil_append] at N'); (try dsimp only))
  ((have Sc := SetsF.ctl S); (have Sw := SetsF.ws S); (have Sb := SetsF.bare S); (have N : NG g s.heap [] := fun _ h => nomatch h); refine wpAny_call ?_; k_dflt (refine' enter ⟨B, X, T, S, D, XB, TB, SB⟩ O N ?k6 ?k7 ?k8 ?k9 ?kB ?_ ?c2 ?c3 ?c4 ?c5; (case k6 => k_is); (case k7 => k_is); (case k8 => exact Nat.lt_of_le_of_lt (Nat.le_add_right _ _) hd); (case k9 => first | exact binds_K (by k_in) rfl (by k_is) rfl rfl rfl | exact BindsTo.of_eq rfl | fail "m_pure: no rule for these arguments"); (case kB => exact locs rfl); (case c2 => exact rfl); (case c3 => exact rfl); (case c4 => exact rfl); (case c5 => decide); k_whole; intro L' h' F' N' lL'; (try dsimp only); (try k_fold)))
  k_steps
  exact out_p hret ⟨r9, t9, t9', rfl, rfl⟩ (by assumption) (by assumption) (by kcj_all)
end Mine
end
section
open PySem PySem.W PyProof.Rows PySem.Calls PySem.Spec
namespace Mine
/-- rows: a place and a name each -/
inductive RowsAre : List Value → List (Addr × Obj) → List (Nat × List Nat) → Prop where
  | nil : RowsAre [] [] []
  | cons {vs : List Value} {os : List (Addr × Obj)} {rs : List (Nat × List Nat)} (a : Addr) (p : Nat) (k : Int) (hk : k = (p : Int)) (t t' : Tok) (n : List Nat) (h : RowsAre vs os rs) : RowsAre (.ref a :: vs) ((a, tupO [.int k t, .str (sL n) t']) :: os) ((p, n) :: rs)
theorem RowsAre.cls {vs : List Value} {os : List (Addr × Obj)} {rs : List (Nat × List Nat)} (h : RowsAre vs os rs) : ∀ p ∈ os, p.2.cls = .type "tuple" := by
  induction h with
  | nil => exact fun _ hp => nomatch hp
  | cons a p k hk t t' n h ih =>
    intro q hq
    rcases List.mem_cons.mp hq with rfl | hq
    · rfl
    · exact ih q hq
theorem RowsAre.length {vs : List Value} {os : List (Addr × Obj)} {rs : List (Nat × List Nat)} (h : RowsAre vs os rs) : vs.length = rs.length := by
  induction h with
  | nil => rfl
  | cons a p k hk t t' n h ih => simp [ih]
/-- the names of a path, from behind -/
noncomputable def namesL : Nat → List Nat → List (Nat × List Nat) → Option (List Nat × List (Nat × List Nat))
  | 0, _, _ => none
  | n + 1, rest, acc => if splitH rest = rest then some (rest, acc) else namesL n (splitH rest) ((rest.length - (splitT rest).length, splitT rest) :: acc)
theorem rst_len {p : Nat → Bool} {l : List Nat} : (rst p l).length ≤ l.length := by
  rw [rst_take, List.length_take]; omega
theorem splitH_len {l : List Nat} : (splitH l).length ≤ l.length := by
  unfold splitH
  split
  · rw [List.length_take]; omega
  · have := rst_len (p := sl) (l := l.take (lastAft 47 l))
    rw [List.length_take] at this; omega
theorem splitH_pre {l : List Nat} : splitH l <+: l := by
  unfold splitH
  split
  · exact List.take_prefix _ _
  · rw [rst_take]; exact (List.take_prefix _ _).trans (List.take_prefix _ _)
theorem splitH_lt {l : List Nat} (h : splitH l ≠ l) : (splitH l).length < l.length := by
  have h1 := splitH_pre (l := l)
  have h2 := h1.length_le
  rcases Nat.lt_or_eq_of_le h2 with h3 | h3
  · exact h3
  · exact absurd (h1.eq_of_length h3) h
theorem namesL_step {n : Nat} {rest : List Nat} {acc : List (Nat × List Nat)} {r : List Nat × List (Nat × List Nat)} (h : namesL (n + 1) rest acc = some r) (h2 : (sL (splitH rest) != sL rest) = true) :
    splitH rest ≠ rest ∧ namesL n (splitH rest) ((rest.length - (splitT rest).length, splitT rest) :: acc) = some r := by
  have hn : splitH rest ≠ rest := fun q => by rw [q] at h2; simp at h2
  unfold namesL at h
  rw [if_neg hn] at h
  exact ⟨hn, h⟩
theorem namesL_end {n : Nat} {rest : List Nat} {acc : List (Nat × List Nat)} {r : List Nat × List (Nat × List Nat)} (h : namesL (n + 1) rest acc = some r) (h2 : (sL (splitH rest) != sL rest) = false) : r = (rest, acc) := by
  have hn : splitH rest = rest := sL_inj.mp (by simpa [bne] using h2)
  unfold namesL at h
  rw [if_pos hn] at h
  exact (Option.some.inj h).symm
theorem splitT_len {l : List Nat} : (splitT l).length ≤ l.length := by unfold splitT; rw [List.length_drop]; omega
section
variable {prog : Program} {w : World} {A : Around} {E : Value → Shared → Prop} {s : Shared} {h₀ : Heap} {L D : Addr} {m : Str → Option Value} {news rest : List (Addr × Obj)} {vs : List Value} {n : Nat} {u : Tok} {y : Value} {Q : Value → Shared → Prop}
theorem off_list (N : News h₀ L s.heap news) (hD : (D, listOf vs.toArray n) ∈ news) (hrest : ∀ p ∈ rest, p ∈ news) (hcls : ∀ p ∈ rest, p.2.cls = .type "tuple") : ∀ p ∈ rest, p.1 ≠ D := fun p hp q => by
  have h1 := (N p (hrest p hp)).1
  have h2 := (N _ hD).1
  rw [q, h2] at h1
  have := hcls p hp
  rw [← Option.some.inj h1] at this
  exact absurd this (show ¬ (Value.type "list" = Value.type "tuple") by decide)
theorem insert0 (F : Fr h₀ L s.heap m) (N : News h₀ L s.heap news) (hD : (D, listOf vs.toArray n) ∈ news) (hrest : ∀ p ∈ rest, p ∈ news) (hcls : ∀ p ∈ rest, p.2.cls = .type "tuple") (hz : vs.length ≤ 4000)
    (h : ∀ h', Fr h₀ L h' m → News h₀ L h' ((D, listOf (y :: vs).toArray (n + 1)) :: rest) → Q .none { s with heap := h' }) : wpAny (model prog w) A (call (.builtin "list.insert") [.ref D, .int 0 u, y]) Q E s := by
  have N₂ : News h₀ L s.heap ((D, listOf vs.toArray n) :: rest) := fun p hp => by
    rcases List.mem_cons.mp hp with rfl | hp
    · exact N _ hD
    · exact N p (hrest p hp)
  exact kl_insert F N₂ rfl rfl (Upd.head (off_list N hD hrest hcls)) (by rw [sizeLine_eq]; simp; omega) h
theorem insert0b {p : Addr × Obj} {os : List (Addr × Obj)} (F : Fr h₀ L s.heap m) (N : News h₀ L s.heap (p :: (D, listOf vs.toArray n) :: os)) (hp : p.2.cls = .type "tuple") (hcls : ∀ p ∈ os, p.2.cls = .type "tuple") (hz : vs.length ≤ 4000)
    (h : ∀ h', Fr h₀ L h' m → News h₀ L h' ((D, listOf (y :: vs).toArray (n + 1)) :: p :: os) → Q .none { s with heap := h' }) : wpAny (model prog w) A (call (.builtin "list.insert") [.ref D, .int 0 u, y]) Q E s :=
  insert0 (rest := p :: os) F N (.tail _ (.head _)) (fun q hq => (List.mem_cons.mp hq).elim (fun e => e ▸ .head _) (fun hq => .tail _ (.tail _ hq))) (fun q hq => (List.mem_cons.mp hq).elim (fun e => e ▸ hp) (hcls q)) hz h
end
end Mine
end
section
open PySem PySem.W PyProof.Rows PySem.Calls PySem.Spec PySem.Builtin PySem.Builtin.Str
namespace Mine
noncomputable def alph : List Nat := [47, 46, 97, 32, 98, 45, 37, 34]
noncomputable def bareC (c : Nat) : Bool := inL bareL ⟨#[c]⟩
noncomputable def wsC (c : Nat) : Bool := inL wsL ⟨#[c]⟩
/-- the place of the next quotation mark -/
noncomputable def qend (l : List Nat) (i : Nat) : Nat := runS (fun c => c != 34) l i
/-- what parse_key_part reads -/
noncomputable def pkp (l : List Nat) (i : Nat) : Option (Nat × List Nat) :=
  match l[i]? with
  | none => none
  | some c => if bareC c then some (runS bareC l i, cut l i (runS bareC l i)) else if c = 34 then some (qend l (i + 1) + 1, cut l (i + 1) (qend l (i + 1))) else none
theorem runS_le {S : Nat → Bool} {l : List Nat} {i : Nat} (h : i ≤ l.length) : runS S l i ≤ l.length := by
  unfold runS
  have := (List.takeWhile_sublist S (l := l.drop i)).length_le
  rw [List.length_drop] at this
  omega
theorem runS_ge {S : Nat → Bool} {l : List Nat} {i : Nat} : i ≤ runS S l i := by unfold runS; omega
theorem runS_before {S : Nat → Bool} {l : List Nat} : ∀ {n i k : Nat}, l.length - i = n → i ≤ k → k < runS S l i → ∃ c, l[k]? = some c ∧ S c = true := by
  intro n
  induction n with
  | zero =>
    intro i k hn h1 h2
    rw [runS_end (by omega)] at h2; omega
  | succ n ih =>
    intro i k hn h1 h2
    have hl : i < l.length := by omega
    have hc : l[i]? = some l[i] := List.getElem?_eq_getElem hl
    cases hS : S l[i] with
    | false => rw [runS_out hc hS] at h2; omega
    | true =>
      rw [← runS_in hc hS] at h2
      by_cases e : k = i
      · subst e; exact ⟨_, hc, hS⟩
      · exact ih (i := i + 1) (by omega) (by omega) h2
theorem runS_stop {S : Nat → Bool} {l : List Nat} : ∀ {n i : Nat}, l.length - i = n → runS S l i < l.length → ∃ c, l[runS S l i]? = some c ∧ S c = false := by
  intro n
  induction n with
  | zero =>
    intro i hn h2
    rw [runS_end (by omega)] at h2; omega
  | succ n ih =>
    intro i hn h2
    have hl : i < l.length := by omega
    have hc : l[i]? = some l[i] := List.getElem?_eq_getElem hl
    cases hS : S l[i] with
    | false => rw [runS_out hc hS]; exact ⟨_, hc, hS⟩
    | true =>
      have e := runS_in hc hS
      rw [← e] at h2 ⊢
      exact ih (i := i + 1) (by omega) h2
theorem item_tl {x : Str} {k : Int} {c : Nat} (h0 : 0 ≤ k) (h : (tl x)[k.toNat]? = some c) : Txt.item x k = ⟨#[c]⟩ := by
  obtain ⟨hl, hc⟩ := List.getElem?_eq_some_iff.mp h
  obtain ⟨c', h1, h2⟩ := item_at (x := x) h0 (by rw [len_tl]; omega)
  rw [h2]
  rw [show x.cps.toList = tl x from rfl, h] at h1
  rw [Option.some.inj h1]
theorem one_ne {a b : Nat} (h : (⟨#[a]⟩ : Str) = ⟨#[b]⟩) : a = b := by simpa using h
theorem ctl_alph {c : Nat} (h : c ∈ alph) : inL ctlL ⟨#[c]⟩ = false ∧ c ≠ 92 ∧ c ≠ 39 ∧ c ≠ 10 := by
  rw [inL_one]
  revert c
  decide
/-- what the reading of a quoted text asks -/
theorem one_pre {x : Str} {i : Nat} (hA : ∀ c ∈ tl x, c ∈ alph) (hQ : qend (tl x) i < (tl x).length) :
    Txt.item x (qend (tl x) i : Nat) = ⟨#[34]⟩ ∧ ∀ k : Int, (i : Int) ≤ k → k < (qend (tl x) i : Nat) → Txt.item x k ≠ ⟨#[34]⟩ ∧ Txt.item x k ≠ ⟨#[92]⟩ ∧ inL ctlL (Txt.item x k) = false := by
  constructor
  · obtain ⟨c, h1, h2⟩ := runS_stop (S := fun c => c != 34) (l := tl x) (i := i) rfl hQ
    have : c = 34 := by simpa using h2
    subst this
    exact item_tl (by omega) (by rw [Int.toNat_natCast]; exact h1)
  · intro k h1 h2
    obtain ⟨c, e1, e2⟩ := runS_before (S := fun c => c != 34) (l := tl x) (i := i) (k := k.toNat) rfl (by omega) (by unfold qend at h2; omega)
    rw [item_tl (by omega) e1]
    have hc : c ∈ alph := hA c (List.mem_of_getElem? e1)
    obtain ⟨a1, a2, a3, a4⟩ := ctl_alph hc
    refine ⟨fun q => ?_, fun q => a2 (one_ne q), a1⟩
    have := one_ne q
    subst this
    simp at e2
theorem in_range {x : Str} {i : Nat} (h : (i : Int) < (x.length : Int)) : ∃ c, (tl x)[i]? = some c ∧ Txt.item x (i : Int) = ⟨#[c]⟩ := by
  have hl : i < (tl x).length := by rw [len_tl] at h; omega
  exact ⟨(tl x)[i], List.getElem?_eq_getElem hl, item_tl (by omega) (by rw [Int.toNat_natCast]; exact List.getElem?_eq_getElem hl)⟩
theorem pkp_end {x : Str} {i : Nat} (h : (i : Int) < -(x.length : Int) ∨ (x.length : Int) ≤ (i : Int)) : pkp (tl x) i = none := by
  have : (tl x)[i]? = none := by rw [List.getElem?_eq_none_iff, ← len_tl]; omega
  unfold pkp; rw [this]
theorem pkp_bare {x : Str} {i : Nat} (h : (i : Int) < (x.length : Int)) (h1 : inL bareL (Txt.item x (i : Int)) = true) : pkp (tl x) i = some (runS bareC (tl x) i, cut (tl x) i (runS bareC (tl x) i)) := by
  obtain ⟨c, hc, hi⟩ := in_range h
  rw [hi] at h1
  unfold pkp; rw [hc]
  show (if bareC c = true then _ else _) = _
  rw [if_pos (show bareC c = true from h1)]
theorem pkp_quote {x : Str} {i : Nat} (h : (i : Int) < (x.length : Int)) (h1 : inL bareL (Txt.item x (i : Int)) = false) (h2 : (Txt.item x (i : Int) == Str.ofString "\"") = true) :
    (tl x)[i]? = some 34 ∧ pkp (tl x) i = some (qend (tl x) (i + 1) + 1, cut (tl x) (i + 1) (qend (tl x) (i + 1))) := by
  obtain ⟨c, hc, hi⟩ := in_range h
  rw [hi] at h1 h2
  have : c = 34 := one_ne (eq_of_beq h2)
  subst this
  refine ⟨hc, ?_⟩
  unfold pkp; rw [hc]
  show (if bareC 34 = true then _ else _) = _
  rw [if_neg (by rw [show bareC 34 = false from h1]; nofun), if_pos rfl]
theorem pkp_other {x : Str} {i : Nat} (h : (i : Int) < (x.length : Int)) (h1 : inL bareL (Txt.item x (i : Int)) = false) (h2 : (Txt.item x (i : Int) == Str.ofString "\"") = false) : pkp (tl x) i = none := by
  obtain ⟨c, hc, hi⟩ := in_range h
  rw [hi] at h1 h2
  have : c ≠ 34 := fun q => by rw [q] at h2; cases h2
  unfold pkp; rw [hc]
  show (if bareC c = true then _ else _) = _
  rw [if_neg (by rw [show bareC c = false from h1]; nofun), if_neg this]
theorem no_apo {x : Str} {i : Nat} (hA : ∀ c ∈ tl x, c ∈ alph) (h : (i : Int) < (x.length : Int)) (h2 : (Txt.item x (i : Int) == Str.ofString "'") = true) : False := by
  obtain ⟨c, hc, hi⟩ := in_range h
  rw [hi] at h2
  exact (ctl_alph (hA c (List.mem_of_getElem? hc))).2.2.1 (one_ne (eq_of_beq h2))
theorem no_nl {x : Str} (hA : ∀ c ∈ tl x, c ∈ alph) : 10 ∉ x.cps.toList := fun h => (ctl_alph (hA 10 h)).2.2.2 rfl
end Mine
end
section
open PySem PySem.W PyProof.Rows PySem.Calls PySem.Spec PySem.Builtin PySem.Builtin.Str
namespace Mine
/-- parse_key_part; none: a quotation mark without an end -/
noncomputable def pks (l : List Nat) (i : Nat) : Option (Option (Nat × List Nat)) := if l[i]? = some 34 ∧ ¬ qend l (i + 1) < l.length then none else some (pkp l i)
noncomputable def pkl (l : List Nat) : Nat → Nat → List (List Nat) → Option (Option (Nat × List (List Nat)))
  | 0, _, _ => none
  | n + 1, i, acc => if l[i]? = some 46 then (match pks l (runS wsC l (i + 1)) with
      | none => none
      | some none => some none
      | some (some (j, cs)) => pkl l n (runS wsC l j) (acc ++ [cs])) else some (some (i, acc))
/-- parse_key -/
noncomputable def pk (l : List Nat) (n i : Nat) : Option (Option (Nat × List (List Nat))) := match pks l i with
  | none => none
  | some none => some none
  | some (some (j, cs)) => pkl l n (runS wsC l j) [cs]
theorem pks_some {l : List Nat} {i : Nat} {r : Option (Nat × List Nat)} (h : pks l i = some r) : (l[i]? = some 34 → qend l (i + 1) < l.length) ∧ pkp l i = r := by
  unfold pks at h
  split at h
  · cases h
  · rename_i hn
    refine ⟨fun q => ?_, Option.some.inj h⟩
    exact Classical.byContradiction fun q2 => hn ⟨q, q2⟩
theorem pk_some {l : List Nat} {n i : Nat} {r : Option (Nat × List (List Nat))} (h : pk l n i = some r) :
    (l[i]? = some 34 → qend l (i + 1) < l.length) ∧ (pkp l i = none → r = none) ∧ (∀ j cs, pkp l i = some (j, cs) → pkl l n (runS wsC l j) [cs] = some r) := by
  unfold pk at h
  split at h
  · cases h
  · rename_i h1
    obtain ⟨a, b⟩ := pks_some h1
    refine ⟨a, fun _ => (Option.some.inj h).symm, fun j cs q => ?_⟩
    rw [b] at q; cases q
  · rename_i h1
    obtain ⟨a, b⟩ := pks_some h1
    refine ⟨a, fun q => ?_, fun j cs q => ?_⟩
    · rw [b] at q; cases q
    · rw [b] at q; cases q; exact h
theorem pkl_end {l : List Nat} {n i : Nat} {acc : List (List Nat)} {r : Option (Nat × List (List Nat))} (h : pkl l (n + 1) i acc = some r) (hd : l[i]? ≠ some 46) : r = some (i, acc) := by
  unfold pkl at h
  rw [if_neg hd] at h
  exact (Option.some.inj h).symm
theorem pkl_step {l : List Nat} {n i : Nat} {acc : List (List Nat)} {r : Option (Nat × List (List Nat))} (h : pkl l (n + 1) i acc = some r) (hd : l[i]? = some 46) :
    (l[runS wsC l (i + 1)]? = some 34 → qend l (runS wsC l (i + 1) + 1) < l.length) ∧ (pkp l (runS wsC l (i + 1)) = none → r = none) ∧ (∀ j cs, pkp l (runS wsC l (i + 1)) = some (j, cs) → pkl l n (runS wsC l j) (acc ++ [cs]) = some r) := by
  unfold pkl at h
  rw [if_pos hd] at h
  split at h
  · cases h
  · rename_i h1
    obtain ⟨a, b⟩ := pks_some h1
    refine ⟨a, fun _ => (Option.some.inj h).symm, fun j cs q => ?_⟩
    rw [b] at q; cases q
  · rename_i h1
    obtain ⟨a, b⟩ := pks_some h1
    refine ⟨a, fun q => ?_, fun j cs q => ?_⟩
    · rw [b] at q; cases q
    · rw [b] at q; cases q; exact h
theorem pkp_le {l : List Nat} {i j : Nat} {cs : List Nat} (hQ : l[i]? = some 34 → qend l (i + 1) < l.length) (h : pkp l i = some (j, cs)) : i + 1 ≤ j ∧ j ≤ l.length := by
  unfold pkp at h
  split at h
  · cases h
  · rename_i c hc
    obtain ⟨hl, _⟩ := List.getElem?_eq_some_iff.mp hc
    split at h
    · rename_i hb
      cases h
      refine ⟨?_, runS_le (by omega)⟩
      rw [← runS_in hc hb]
      exact runS_ge
    · split at h
      · rename_i h34
        cases h
        subst h34
        have := hQ hc
        have h2 : i + 1 ≤ qend l (i + 1) := runS_ge
        omega
      · cases h
/-- values that are texts -/
noncomputable def valStr : Value → Option (List Nat)
  | .str x _ => some (tl x)
  | _ => none
noncomputable def StrsAre (vs : List Value) (ps : List (List Nat)) : Prop := vs.map valStr = ps.map some
theorem StrsAre.length {vs : List Value} {ps : List (List Nat)} (h : StrsAre vs ps) : vs.length = ps.length := by
  have := congrArg List.length h
  simpa using this
theorem StrsAre.one (x : List Nat) (t : Tok) : StrsAre [.str (sL x) t] [x] := rfl
theorem StrsAre.snoc {vs : List Value} {ps : List (List Nat)} (h : StrsAre vs ps) (x : List Nat) (t : Tok) : StrsAre (vs ++ [.str (sL x) t]) (ps ++ [x]) := by
  unfold StrsAre at *
  rw [List.map_append, List.map_append, h]; rfl
theorem le_size {x : Str} {j : Nat} (h : j ≤ (tl x).length) : j ≤ x.cps.size := by simpa using h
theorem dot_at {x : Str} {i : Nat} (h : (i : Int) < (x.length : Int)) (h2' : (Txt.item x (i : Int) != Str.ofString ".") = false) : (tl x)[i]? = some 46 ∧ i + 1 ≤ (tl x).length := by
  obtain ⟨c, hc, hi⟩ := in_range h
  have h2 : (Txt.item x (i : Int) == Str.ofString ".") = true := by simpa [bne] using h2'
  rw [hi] at h2
  have : c = 46 := one_ne (eq_of_beq h2)
  subst this
  obtain ⟨hl, _⟩ := List.getElem?_eq_some_iff.mp hc
  exact ⟨hc, hl⟩
theorem no_dot {x : Str} {i : Nat} (h : (i : Int) < (x.length : Int)) (h2' : (Txt.item x (i : Int) != Str.ofString ".") = true) : (tl x)[i]? ≠ some 46 := by
  have h2 : (Txt.item x (i : Int) == Str.ofString ".") = false := by simpa [bne] using h2'
  obtain ⟨c, hc, hi⟩ := in_range h
  rw [hi] at h2
  rw [hc]
  intro q
  rw [Option.some.inj q] at h2
  cases h2
theorem no_end {x : Str} {i : Nat} (h : (i : Int) < -(x.length : Int) ∨ (x.length : Int) ≤ (i : Int)) : (tl x)[i]? ≠ some 46 := by
  have : (tl x)[i]? = none := by rw [List.getElem?_eq_none_iff, ← len_tl]; omega
  rw [this]; nofun
end Mine
end
section
open PySem PySem.W PyProof.Rows PySem.Calls PySem.Spec PySem.Builtin PySem.Builtin.Str
namespace Mine
noncomputable def splitL (c : Nat) : List Nat → List (List Nat)
  | [] => [[]]
  | a :: r => if a = c then [] :: splitL c r else match splitL c r with
    | [] => [[a]]
    | p :: ps => (a :: p) :: ps
noncomputable def joinL (g : List Nat) : List (List Nat) → List Nat
  | [] => []
  | [p] => p
  | p :: q :: ps => p ++ g ++ joinL g (q :: ps)
theorem splitL_free {c : Nat} {p : List Nat} (h : c ∉ p) : splitL c p = [p] := by
  induction p with
  | nil => rfl
  | cons a r ih =>
    have h1 : a ≠ c := fun q => h (by simp [q])
    rw [splitL, if_neg h1, ih fun q => h (by simp [q])]
theorem splitL_app {c : Nat} {p r : List Nat} (h : c ∉ p) : splitL c (p ++ c :: r) = p :: splitL c r := by
  induction p with
  | nil => show splitL c (c :: r) = _; rw [splitL, if_pos rfl]
  | cons a q ih =>
    have h1 : a ≠ c := fun e => h (by simp [e])
    show splitL c (a :: (q ++ c :: r)) = _
    rw [splitL, if_neg h1, ih fun e => h (by simp [e])]
theorem splitL_join {c : Nat} : ∀ {ps : List (List Nat)}, ps ≠ [] → (∀ p ∈ ps, c ∉ p) → splitL c (joinL [c] ps) = ps
  | [], h, _ => absurd rfl h
  | [p], _, h => splitL_free (h p (.head _))
  | p :: q :: ps, _, h => by
    show splitL c (p ++ [c] ++ joinL [c] (q :: ps)) = _
    rw [List.append_assoc, List.singleton_append, splitL_app (h p (.head _)), splitL_join (by nofun) fun r hr => h r (.tail _ hr)]
theorem tl_app (x y : Str) : tl (x ++ y) = tl x ++ tl y := by
  show (x ++ y).cps.toList = _
  rw [Str.cps_append, Array.toList_append]
theorem tl_join (g : Str) : ∀ xs : List Str, tl (Str.join g xs) = joinL (tl g) (xs.map tl)
  | [] => rfl
  | [x] => rfl
  | x :: y :: r => by
    show tl (x ++ g ++ Str.join g (y :: r)) = tl x ++ tl g ++ joinL (tl g) ((y :: r).map tl)
    rw [tl_app, tl_app, tl_join g (y :: r)]
theorem split_ne (x y : Str) : Txt.split x y ≠ [] := by
  unfold Txt.split
  split
  · nofun
  · split
    · nofun
    · rw [StrLaws.partsBetween_eq]
      obtain ⟨p, r, e⟩ := StrLaws.partsFrom_ne x y.length 0 (occurrences x y 0 x.length (x.length + 1))
      rw [e]; nofun
theorem split_one (x : Str) (c : Nat) : (Txt.split x ⟨#[c]⟩).map tl = splitL c (tl x) := by
  have h1 := StrLaws.join_split x ⟨#[c]⟩
  have h2 := tl_join ⟨#[c]⟩ (Txt.split x ⟨#[c]⟩)
  rw [h1] at h2
  rw [h2]
  symm
  refine splitL_join ?_ ?_
  · intro q
    exact split_ne x ⟨#[c]⟩ (List.map_eq_nil_iff.mp q)
  · intro p hp
    obtain ⟨z, hz, rfl⟩ := List.mem_map.mp hp
    exact StrLaws.split_free x c z hz
theorem lstrip_one (x : Str) (c : Nat) : Txt.lstripChars x ⟨#[c]⟩ = sL ((tl x).dropWhile (· == c)) := by
  show Txt.stripBy (fun a => (⟨#[c]⟩ : Str).cps.contains a) true false x = _
  rw [chars_one]; exact strip_l _ _
theorem ends_one (x : Str) (c : Nat) : Txt.endswith x ⟨#[c]⟩ = decide ((tl x).getLast? = some c) := by
  unfold Txt.endswith
  rw [Bool.eq_iff_iff, decide_eq_true_eq, Bool.and_eq_true, decide_eq_true_eq, List.getLast?_eq_getElem?, ← len_tl]
  show 0 + 1 ≤ x.length ∧ subAt x ⟨#[c]⟩ (x.length - 1) = true ↔ _
  constructor
  · rintro ⟨h1, h2⟩
    exact at_one.mp ⟨by show x.length - 1 + 1 ≤ x.length; omega, h2⟩
  · intro h
    have := at_one.mpr h
    obtain ⟨h1, h2⟩ := this
    have h1 : x.length - 1 + 1 ≤ x.length := h1
    exact ⟨by omega, h2⟩
theorem strs_of_carried {ys : List Value} {L : List Str} (h : CarriedAll ys (L.map PyData.str)) : Mine.StrsAre ys (L.map tl) := by
  induction L generalizing ys with
  | nil => cases h; rfl
  | cons a r ih =>
    rw [List.map_cons] at h
    cases h with
    | cons h1 h2 =>
      cases h1
      have := ih h2
      unfold Mine.StrsAre at *
      rw [List.map_cons, this]; rfl
noncomputable def cutRoot (l : List Nat) : List Nat := l.take (l.length - (l.dropWhile sl).length)
noncomputable def cutNames (l : List Nat) : List (List Nat) := (splitL 47 (l.dropWhile sl)).filter (fun p => p != []) ++ if (l.dropWhile sl).getLast? = some 47 then [[]] else []
theorem filter_tl (L : List Str) : (L.filter (fun a' => a' != Str.ofString "")).map tl = (L.map tl).filter (fun p => p != []) := by
  induction L with
  | nil => rfl
  | cons a r ih =>
    rw [List.filter_cons, List.map_cons, List.filter_cons]
    have : (a != Str.ofString "") = (tl a != []) := by
      rw [bne, bne, beq_tl]; rfl
    rw [this]
    split
    · rw [List.map_cons, ih]
    · exact ih
theorem cut_filter (x : Str) : (List.filter (fun a' => a' != Str.ofString "") (Txt.split (Txt.lstripChars x (Str.ofString "/")) (Str.ofString "/"))).map tl = (splitL 47 ((tl x).dropWhile sl)).filter (fun p => p != []) := by
  have e1 : Txt.lstripChars x (Str.ofString "/") = sL ((tl x).dropWhile sl) := lstrip_one x 47
  have e2 := split_one (sL ((tl x).dropWhile sl)) 47
  rw [tl_sL] at e2
  rw [filter_tl, e1, ← e2]; rfl
theorem cut_tail (x : Str) : Txt.endswith (Txt.lstripChars x (Str.ofString "/")) (Str.ofString "/") = decide (((tl x).dropWhile sl).getLast? = some 47) := by
  have e1 : Txt.lstripChars x (Str.ofString "/") = sL ((tl x).dropWhile sl) := lstrip_one x 47
  rw [e1]
  exact ends_one _ 47
theorem cut_names {x : Str} {ys : List Value} {M : List Str} (hM : M = Txt.split (Txt.lstripChars x (Str.ofString "/")) (Str.ofString "/")) (h : CarriedAll ys ((List.filter (fun a' => a' != Str.ofString "") M).map PyData.str))
    (he : Txt.endswith (Txt.lstripChars x (Str.ofString "/")) (Str.ofString "/") = false) : Mine.StrsAre ys (cutNames (tl x)) := by
  subst hM
  have h := strs_of_carried h
  rw [cut_filter] at h
  rw [cut_tail] at he
  unfold cutNames
  rw [if_neg (of_decide_eq_false he), List.append_nil]
  exact h
theorem cut_names' {x : Str} {ys : List Value} {M : List Str} {t : Tok} (hM : M = Txt.split (Txt.lstripChars x (Str.ofString "/")) (Str.ofString "/")) (h : CarriedAll ys ((List.filter (fun a' => a' != Str.ofString "") M).map PyData.str))
    (he : Txt.endswith (Txt.lstripChars x (Str.ofString "/")) (Str.ofString "/") = true) : Mine.StrsAre (ys ++ [.str (Str.ofString "") t]) (cutNames (tl x)) := by
  subst hM
  have h := strs_of_carried h
  rw [cut_filter] at h
  rw [cut_tail] at he
  unfold cutNames
  rw [if_pos (of_decide_eq_true he)]
  exact h.snoc [] t
theorem splitL_len {c : Nat} {l : List Nat} : (splitL c l).length ≤ l.length + 1 := by
  induction l with
  | nil => exact Nat.le_refl _
  | cons a r ih =>
    rw [splitL]
    split
    · simp only [List.length_cons]; omega
    · split
      · simp
      · rename_i e; rw [e] at ih; simp only [List.length_cons] at *; omega
theorem cut_len {x : Str} {ys : List Value} {M : List Str} (hx : x.length ≤ 900) (hM : M = Txt.split (Txt.lstripChars x (Str.ofString "/")) (Str.ofString "/")) (h : CarriedAll ys ((List.filter (fun a' => a' != Str.ofString "") M).map PyData.str)) : ys.length ≤ 4000 := by
  subst hM
  have h := strs_of_carried h
  rw [cut_filter] at h
  rw [h.length]
  have h1 := (List.filter_sublist (p := fun p => p != []) (l := splitL 47 ((tl x).dropWhile sl))).length_le
  have h2 := splitL_len (c := 47) (l := (tl x).dropWhile sl)
  have h3 := (List.dropWhile_sublist sl (l := tl x)).length_le
  rw [len_tl] at hx
  omega
theorem cut_root {x : Str} {k : Int} (hk : k = (x.length : Int) - (Txt.lstripChars x (Str.ofString "/")).length) : Txt.slice x none (some k) = sL (cutRoot (tl x)) := by
  subst hk
  have e1 : Txt.lstripChars x (Str.ofString "/") = sL ((tl x).dropWhile sl) := lstrip_one x 47
  have h1 := (List.dropWhile_sublist sl (l := tl x)).length_le
  rw [e1, len_sL, slice_to (by rw [len_tl]; omega) (by rw [len_tl]; omega)]
  unfold cutRoot
  congr 2
  rw [len_tl]; omega
section
variable {prog : Program} {w : World} {A : Around} {E : Value → Shared → Prop} {s : Shared} {h₀ : Heap} {L D : Addr} {m : Str → Option Value} {news : List (Addr × Obj)} {vs : List Value} {n : Nat} {y : Value} {Q : Value → Shared → Prop}
theorem append0 {rest : List (Addr × Obj)} (F : Fr h₀ L s.heap m) (N : News h₀ L s.heap news) (hD : (D, listOf vs.toArray n) ∈ news) (hrest : ∀ p ∈ rest, p ∈ news) (hcls : ∀ p ∈ rest, p.2.cls = .type "tuple") (hz : vs.length ≤ 4000)
    (h : ∀ h', Fr h₀ L h' m → News h₀ L h' ((D, listOf (vs ++ [y]).toArray (n + 1)) :: rest) → Q .none { s with heap := h' }) : wpAny (model prog w) A (call (.builtin "list.append") [.ref D, y]) Q E s := by
  have N₂ : News h₀ L s.heap ((D, listOf vs.toArray n) :: rest) := fun p hp => by
    rcases List.mem_cons.mp hp with rfl | hp
    · exact N _ hD
    · exact N p (hrest p hp)
  have e : vs.toArray.push y = (vs ++ [y]).toArray := by simp
  refine append_K (hsz := by rw [sizeLine_eq, List.size_toArray]; omega) F N₂ (Upd.head (off_list N hD hrest hcls)) (by rw [e]; exact h)
end
end Mine
end
section
open PySem PySem.W PyProof.Rows PySem.Calls PySem.Spec PySem.Builtin PySem.Builtin.Str
namespace Mine
noncomputable def peelL : Nat → List Nat → List Nat → List (List Nat) → Option (List Nat × List (List Nat))
  | 0, _, _, _ => none
  | n + 1, f, e, acc => if e = [] then some (f, acc) else peelL n (extF f) (extE f) (e.drop 1 :: acc)
theorem peelL_step {n : Nat} {f e : List Nat} {acc : List (List Nat)} {r : List Nat × List (List Nat)} (h : peelL (n + 1) f e acc = some r) (h2 : (sL e != Str.ofString "") = true) : e ≠ [] ∧ peelL n (extF f) (extE f) (e.drop 1 :: acc) = some r := by
  have hn : e ≠ [] := fun q => by subst q; exact absurd h2 (by decide)
  unfold peelL at h
  rw [if_neg hn] at h
  exact ⟨hn, h⟩
theorem peelL_end {n : Nat} {f e : List Nat} {acc : List (List Nat)} {r : List Nat × List (List Nat)} (h : peelL (n + 1) f e acc = some r) (h2 : (sL e != Str.ofString "") = false) : r = (f, acc) := by
  have hn : e = [] := sL_inj.mp (show sL e = sL [] from (by simpa [bne] using h2 : sL e = Str.ofString ""))
  unfold peelL at h
  rw [if_pos hn] at h
  exact (Option.some.inj h).symm
theorem extF_len {l : List Nat} : (extF l).length ≤ l.length := by unfold extF; split <;> simp; omega
theorem extE_len {l : List Nat} : (extE l).length ≤ l.length := by unfold extE; split <;> simp
theorem StrsAre.cons {vs : List Value} {ps : List (List Nat)} (h : Mine.StrsAre vs ps) (x : List Nat) (t : Tok) : Mine.StrsAre (.str (sL x) t :: vs) (x :: ps) := by
  unfold Mine.StrsAre at *
  rw [List.map_cons, List.map_cons, h]; rfl
theorem StrsAre.cons' {vs : List Value} {ps : List (List Nat)} (h : Mine.StrsAre vs ps) (X : Str) (x : List Nat) (t : Tok) (hX : X = sL x) : Mine.StrsAre (.str X t :: vs) (x :: ps) := hX ▸ StrsAre.cons h x t
theorem slice_one' {e : List Nat} (h : e ≠ []) : Txt.slice (sL e) (some 1) none = sL (e.drop 1) := by
  have : 1 ≤ e.length := by cases e with
    | nil => exact absurd rfl h
    | cons a r => simp
  rw [slice_from (by omega) (by rw [len_sL]; omega)]
  rfl
section
variable {prog : Program} {w : World} {A : Around} {E : Value → Shared → Prop} {s : Shared} {h₀ : Heap} {L a b : Addr} {m : Str → Option Value} {news : List (Addr × Obj)} {vs ws : List Value} {n k : Nat} {Q : Value → Shared → Prop}
theorem add_ll (F : Fr h₀ L s.heap m) (N : News h₀ L s.heap news) (h1 : (a, listOf vs.toArray n) ∈ news) (h2 : (b, listOf ws.toArray k) ∈ news) (hsz : vs.length + ws.length ≤ 4000)
    (h : ∀ h' c, Fr h₀ L h' m → News h₀ L h' ((c, listOf (vs ++ ws).toArray 0) :: news) → Q (.ref c) { s with heap := h' }) : wpAny (model prog w) A (binaryOp .Add (.ref a) (.ref b)) Q E s :=
  add_lists F N ⟨_, (N _ h1).1, rfl, n, rfl⟩ ⟨_, (N _ h2).1, rfl, k, rfl⟩ (fun h' F' N' => h h' _ F' N') (by rw [sizeLine_eq]; omega)
end
end Mine
end
section
open PySem PySem.W PyProof.Rows PySem.Calls PySem.Spec PySem.SeqAt
namespace Mine
section
variable {prog : Program} {w : World} {A : Around} {E : Value → Shared → Prop} {s : Shared} {h₀ : Heap} {L a c : Addr} {m : Str → Option Value} {news : List (Addr × Obj)} {vs ws : List Value} {n k : Nat} {Q : Value → Shared → Prop}
theorem pick1 (v : Value) (vr : List Value) : slicePick (v :: vr).toArray (some 1) none none = vr.toArray := by
  have := slicePick_from (v :: vr).toArray 1 (by simp)
  simpa using this
theorem ne_nil (hl : s.heap.IsList a vs.toArray) (hb : s.heap.IsList c #[]) (hu : A.units < cLine) (h : Q (.bool (decide (vs ≠ []))) s) : wpAny (model prog w) A (compareOp .NotEq (.ref a) (.ref c)) Q E s := by
  show wpAny _ _ (richCompare .NotEq _ _) Q E s
  cases vs with
  | nil =>
    have := RcNeAt.lists (A := A) (e := fun _ => true) hl hb rfl hu (fun j h1 _ => absurd h1 (Nat.not_lt_zero _))
    exact this prog w E Q (by simpa using h)
  | cons v r =>
    exact RcNeAt.lists_lengths (A := A) hl hb (by simp) hu prog w E Q (by simpa using h)
theorem eq_nil (hl : s.heap.IsList a #[]) (hb : s.heap.IsList c #[]) (hu : A.units < cLine) (h : Q (.bool true) s) : wpAny (model prog w) A (compareOp .Eq (.ref a) (.ref c)) Q E s := by
  show wpAny _ _ (richCompare .Eq _ _) Q E s
  have := RcAt.lists (A := A) (e := fun _ => true) hl hb rfl hu (fun j h1 _ => absurd h1 (Nat.not_lt_zero _))
  exact this prog w E Q (by simpa using h)
theorem isl_news {arr arr' : Array Value} (N : News h₀ L s.heap news) (hm : (a, { cls := .type "list", data := .seq arr n }) ∈ news) (e : arr = arr') : s.heap.IsList a arr' := e ▸ ⟨_, (N _ hm).1, rfl, n, rfl⟩
theorem slice_tail {value slice : PySem.Expr} {l : Addr} {v vl vu : Value} {vr : List Value} (F : Fr h₀ L s.heap m) (N : News h₀ L s.heap news) (hl : s.heap.IsList l (v :: vr).toArray) (pl : IsPart vl (some 1)) (pu : IsPart vu none) (hz : vr.length ≤ 4000)
    (h : ∀ h' c, Fr h₀ L h' m → News h₀ L h' ((c, listOf vr.toArray 0) :: news) → h'.IsList c vr.toArray → Q (.ref c) { s with heap := h' })
    (hs : subscripted slice false (.ref l) (.ref s.heap.objs.size) = operate [.ref s.heap.objs.size, .ref l] (getItem (.ref l) (.ref s.heap.objs.size)))
    (ht : ∀ r, letTemporaryGo value (.ref l) r = pure ()) :
    wpAny (model prog w) A (subscriptTail value slice (.ref l) (.ref s.heap.objs.size)) Q E { s with heap := s.heap.push { cls := .type "slice", data := .fields #[vl, vu, .none] } } := by
  refine slice_list (hsz := by rw [sizeLine_eq]; simp; omega) F N hl pl pu (fun h' F' N' => ?_) hs ht
  rw [pick1] at N'
  exact h h' _ F' N' ⟨_, (N' _ (.head _)).1, rfl, 0, rfl⟩
end
end Mine
end
section
open PySem PySem.W PyProof.Rows PySem.Calls PySem.Spec PySem.SeqAt
set_option maxRecDepth 100000
namespace Mine
noncomputable def IterO (o : Obj) (l : Addr) (i : Nat) : Prop := o.cls = .type "list_iterator" ∧ o.data = .fields #[.ref l, .int i 0]
section
variable {prog : Program} {w : World} {A : Around} {E : Value → Shared → Prop} {s : Shared} {env : Env} {target iter : PySem.Expr} {body : List Stmt} {pos : Pos} {Q : Flow → Shared → Prop}
theorem for_I (I : Addr → Nat → Shared → Prop) (n₀ : Nat) {l : Addr} {its : Array Value}
    (h : wpAny (model prog w) A (eval iter env) (fun x s₁ => x = .ref l ∧ s₁.heap.IsList l its ∧ I s₁.heap.objs.size n₀ { s₁ with heap := s₁.heap.push { cls := .type "list_iterator", data := .fields #[.ref l, .int 0 0] } } ∧
      ∀ n s₂, I s₁.heap.objs.size n s₂ → wpAny (model prog w) A (pyNext (.ref s₁.heap.objs.size)) (fun r s₃ => match r with
        | none => Q .next s₃
        | some v => wpAny (model prog w) A (assign target env v) (fun _ s₄ => wpAny (model prog w) A (execs body env) (WEnd (I s₁.heap.objs.size) Q n) E s₄) E s₃) E s₂) E s)
    (ht : ∀ it v, letOwnedTupleGo target (.ref it) v = pure ()) (hs : ∀ x, foldedSetIterable iter env x = pure x := by intro _; rfl)
    (hE : PassesOwn (model prog w) A env E := by passes_own) : wpAny (model prog w) A (exec (.For target iter body [] pos) env) Q E s := by
  refine wpAny_For (wpAny_mono h (fun x s₁ h₁ => ?_) fun _ _ e => e) hs
  obtain ⟨rfl, hl, h0, turn⟩ := h₁
  refine wpAny_pyIter_list hl (codeAny_forLoop (I s₁.heap.objs.size) (fun n s₂ hI => ?_) n₀ h0 (ht _))
  refine wpAny_mono (turn n s₂ hI) (fun r s₃ h₃ => ?_) hE
  cases r with
  | none => exact wpAny_execs_nil h₃
  | some v =>
    refine wpAny_mono h₃ (fun _ s₄ h₄ => wpAny_mono h₄ (fun f s₅ h₅ => ?_) hE) hE
    cases f <;> exact h₅
end
section
variable {prog : Program} {w : World} {A : Around} {E : Value → Shared → Prop} {s : Shared} {h₀ : Heap} {L l It : Addr} {m : Str → Option Value} {news : List (Addr × Obj)} {vs : List Value} {o : Obj} {i : Nat} {Q : Option Value → Shared → Prop}
theorem off_iter (N : News h₀ L s.heap ((It, o) :: news)) (ho : IterO o l i) (hcls : ∀ p ∈ news, p.2.cls ≠ .type "list_iterator") : ∀ p ∈ news, p.1 ≠ It := fun p hp q => by
  have h1 := (N p (.tail _ hp)).1
  have h2 := (N _ (.head _)).1
  rw [q, h2] at h1
  exact hcls p hp (by rw [← Option.some.inj h1]; exact ho.1)
theorem next_item {v : Value} (F : Fr h₀ L s.heap m) (N : News h₀ L s.heap ((It, o) :: news)) (ho : IterO o l i) (hcls : ∀ p ∈ news, p.2.cls ≠ .type "list_iterator") (hl : s.heap.IsList l vs.toArray) (hx : vs[i]? = some v)
    (k : ∀ h' o', Fr h₀ L h' m → News h₀ L h' ((It, o') :: news) → IterO o' l (i + 1) → Q (some v) { s with heap := h' }) : wpAny (model prog w) A (pyNext (.ref It)) Q E s := by
  have hI := N _ (.head _)
  refine wpAny_pyNext_list_item ⟨o, hI.1, ho⟩ hl (by simpa using hx) fun h' hit hs => ?_
  obtain ⟨o', ho', hc⟩ := hit
  have off := off_iter N ho hcls
  refine k h' o' ?_ (fun p hp => ?_) hc
  · exact F.change hs hI.2.1 hI.2.2
  · rcases List.mem_cons.mp hp with rfl | hp
    · exact ⟨ho', hI.2⟩
    · exact ⟨(hs.2 p.1 (off p hp)).trans (N p (.tail _ hp)).1, (N p (.tail _ hp)).2⟩
theorem next_end (hh : A.handled = none) (F : Fr h₀ L s.heap m) (N : News h₀ L s.heap ((It, o) :: news)) (ho : IterO o l i) (hcls : ∀ p ∈ news, p.2.cls ≠ .type "list_iterator") (hl : s.heap.IsList l vs.toArray) (hx : vs[i]? = none)
    (k : ∀ h', Fr h₀ L h' m → News h₀ L h' news → Q none { s with heap := h' }) : wpAny (model prog w) A (pyNext (.ref It)) Q E s := by
  have hI := N _ (.head _)
  refine wpAny_pyNext_list_end hh ⟨o, hI.1, ho⟩ hl (by simpa using hx) fun h' hs => ?_
  have off := off_iter N ho hcls
  have nL : ∀ b o, h₀.get? b = some o → b ≠ It := fun b o e q => by rw [q, hI.2.2] at e; cases e
  obtain ⟨oL, es, ep, e, r⟩ := F.ns
  refine k h' ⟨⟨oL, es, ep, hs _ _ (Ne.symm hI.2.1) e, r⟩, fun b o e => hs _ _ (nL b o e) (F.keep b o e), F.above⟩ fun p hp => ⟨hs _ _ (off p hp) (N p (.tail _ hp)).1, (N p (.tail _ hp)).2⟩
theorem iter_start (F : Fr h₀ L s.heap m) (N : News h₀ L s.heap news) : Fr h₀ L (s.heap.push { cls := .type "list_iterator", data := .fields #[.ref l, .int 0 0] }) m ∧ News h₀ L (s.heap.push { cls := .type "list_iterator", data := .fields #[.ref l, .int 0 0] }) ((s.heap.objs.size, { cls := .type "list_iterator", data := .fields #[.ref l, .int 0 0] }) :: news) := ⟨F.push _, News.push F N _⟩
theorem iterO_zero : IterO { cls := .type "list_iterator", data := .fields #[.ref l, .int 0 0] } l 0 := ⟨rfl, rfl⟩
end
end Mine
end
section
open PySem PySem.W PyProof.Rows PySem.Calls PySem.Spec
set_option maxRecDepth 100000
namespace Mine
noncomputable def CutR (r : List Nat × List (List Nat)) (v : Value) (res : List (Addr × Obj)) : Prop := ∃ a b t vs k, v = .ref a ∧ res = [(a, tupO [.str (sL r.1) t, .ref b]), (b, listOf vs.toArray k)] ∧ Mine.StrsAre vs r.2
theorem cut_end {g h' : Heap} {L a b : Addr} {m : Str → Option Value} {s : Shared} {Q : Value → Shared → Prop} {r : List Nat × List (List Nat)} {X : Str} {t : Tok} {vs : List Value} {k : Nat} {rest : List (Addr × Obj)} {tk : Nat} (hret : RetP g s (CutR r) Q) (F : Fr g L h' m)
    (N : News g L h' ((a, { cls := .type "tuple", data := .seq #[.str X t, .ref b] }) :: (b, { cls := .type "list", data := .seq vs.toArray k }) :: rest)) (eX : X = sL r.1) (hv : Mine.StrsAre vs r.2) : Q (.ref a) { s with heap := h', toks := tk } := by
  subst eX
  refine out_p hret ⟨a, b, t, vs, k, rfl, rfl, hv⟩ F N fun p hp => ?_
  rcases List.mem_cons.mp hp with rfl | hp
  · exact .head _
  · exact .tail _ ((List.mem_singleton.mp hp) ▸ .head _)
set_option maxHeartbeats 2000000 in
theorem c_cut (w : World) (x : Str) (t : Tok) (hx : x.length ≤ 900) : ConP w 60 600 337 [.str x t] [] (fun _ => True) (CutR (cutRoot (tl x), cutNames (tl x))) := by
  intro mean mg mb dp un gd l base g s Q E G O hd hu _ hret
  obtain ⟨B, X, T, S, D, XB, TB, SB⟩ := G
  ((have fill : (KF w.params).In g → PySem.Challenge.rw_ij0142_01.row.prog = PySem.Challenge.rw_ij0142_01.row.prog → True := by (k_fill; intros; trivial)); clear fill; k_with_none)
  k_with "call ref" => (refine blk ?_)
  k_with "call builtin:list.append" => k_dflt ((refine' append0 (rest := []) (by assumption) (by assumption) (by k_mem) (fun _ h => nomatch h) (fun _ h => nomatch h) (cut_len hx (by assumption) (by assumption)) ?_); intro h' F' N')
  ((have Sc := SetsF.ctl S); (have Sw := SetsF.ws S); (have Sb := SetsF.bare S); (have N : NG g s.heap [] := fun _ h => nomatch h); refine wpAny_call ?_; k_dflt (refine' enter ⟨B, X, T, S, D, XB, TB, SB⟩ O N ?k6 ?k7 ?k8 ?k9 ?kB ?_ ?c2 ?c3 ?c4 ?c5; (case k6 => k_is); (case k7 => k_is); (case k8 => exact Nat.lt_of_le_of_lt (Nat.le_add_right _ _) hd); (case k9 => first | exact binds_K (by k_in) rfl (by k_is) rfl rfl rfl | exact BindsTo.of_eq rfl | fail "m_pure: no rule for these arguments"); (case kB => exact locs rfl); (case c2 => exact rfl); (case c3 => exact rfl); (case c4 => exact rfl); (case c5 => decide); k_whole; intro L' h' F' N' lL'; (try dsimp only); (try k_fold)))
  k_steps
  · exact cut_end hret (by assumption) (by assumption) (cut_root rfl) (cut_names' (by assumption) (by assumption) (by assumption))
  · exact cut_end hret (by assumption) (by assumption) (cut_root rfl) (cut_names (by assumption) (by assumption) (by assumption))
end Mine
end
section
open PySem PySem.W PyProof.Rows PySem.Calls PySem.Spec
set_option maxRecDepth 100000
namespace Mine
noncomputable def PeelI (g : Heap) (s : Shared) (L : Addr) (pl : Nat) (r : List Nat × List (List Nat)) (n : Nat) (s₁ : Shared) : Prop :=
  ∃ (f e : List Nat) (acc : List (List Nat)) (vs : List Value) (b : Addr) (k : Nat) (h' : Heap) (tk : Nat) (m' : Str → Option Value) (t1 t2 t3 : Tok),
    s₁ = { s with heap := h', toks := tk } ∧ Fr g L h' m' ∧ News g L h' [(b, listOf vs.toArray k)] ∧ m' (Str.ofString "words") = some (.ref b) ∧ m' (Str.ofString "front") = some (.str (sL f) t1) ∧ m' (Str.ofString "ending") = some (.str (sL e) t2) ∧
      m' (Str.ofString "place") = some (.int (pl : Int) t3) ∧ Mine.StrsAre vs acc ∧ f.length ≤ 900 ∧ e.length ≤ 900 ∧ acc.length + n ≤ 2000 ∧ peelL n f e acc = some r
set_option maxHeartbeats 4000000 in
theorem c_peel (w : World) (x y : Str) (t t1 t2 : Tok) (pl n : Nat) (p : Int) (hp : p = (pl : Int)) (r : List Nat × List (List Nat)) (hx : x.length ≤ 900) (hy : y.length ≤ 900) (hpl : pl + y.length ≤ x.length) (hn : n ≤ 2000) (hr : peelL n (extF ((tl x).take (pl + y.length))) (extE ((tl x).take (pl + y.length))) [] = some r) (hr2 : pl ≤ r.1.length) :
    ConP w 70 700 344 [.str x t, .int p t1, .str y t2] [] (fun _ => True) (CutR (r.1.take pl, r.1.drop pl :: r.2)) := by
  subst hp
  have hsl : tl (Txt.slice x none (some ((pl : Int) + (y.length : Int)))) = (tl x).take (pl + y.length) := by
    rw [slice_to (by omega) (by omega)]; rfl
  intro mean mg mb dp un gd l base g s Q E G O hd hu _ hret
  obtain ⟨B, X, T, S, D, XB, TB, SB⟩ := G
  ((have fill : (KF w.params).In g → PySem.Challenge.rw_ij0142_01.row.prog = PySem.Challenge.rw_ij0142_01.row.prog → True := by (k_fill; intros; trivial)); clear fill; k_with_none)
  k_with "exec While Compare cons nil" => (refine blk ?_)
  k_with "call ref" => (refine blk ?_)
  k_with "call ref" => k_dflt ((refine' call_p2 (c_splitext w (Txt.slice x none (some ((pl : Int) + (y.length : Int)))) _ (Nat.le_trans (Txt.slice_le _ _ _) hx)) (by assumption) (by assumption) (by exact rfl) (by exact rfl) (by assumption) (by assumption) (by assumption) (by assumption) (by assumption) XB TB SB (by (first | exact lt_hd1 hd rfl | exact lt_hd hd rfl | (have hd9 := hd; (try dsimp only [Ar]); omega))) (by (first | exact lt_hd1 hu rfl | exact lt_hd hu rfl | (have hu9 := hu; (try dsimp only [Ar]); omega))) trivial ?_); (intro v' res' h' tk' hr' F' N' hne'; (try simp only [List.cons_append, List.nil_append] at N')); (obtain ⟨r9, t9, t9', rfl, rfl⟩ := hr'); (try simp only [List.cons_append, List.nil_append] at N'); (try dsimp only))
  ((have Sc := SetsF.ctl S); (have Sw := SetsF.ws S); (have Sb := SetsF.bare S); (have N : NG g s.heap [] := fun _ h => nomatch h); refine wpAny_call ?_; k_dflt (refine' enter ⟨B, X, T, S, D, XB, TB, SB⟩ O N ?k6 ?k7 ?k8 ?k9 ?kB ?_ ?c2 ?c3 ?c4 ?c5; (case k6 => k_is); (case k7 => k_is); (case k8 => exact Nat.lt_of_le_of_lt (Nat.le_add_right _ _) hd); (case k9 => first | exact binds_K (by k_in) rfl (by k_is) rfl rfl rfl | exact BindsTo.of_eq rfl | fail "m_pure: no rule for these arguments"); (case kB => exact locs rfl); (case c2 => exact rfl); (case c3 => exact rfl); (case c4 => exact rfl); (case c5 => decide); k_whole; intro L' h' F' N' lL'; (try dsimp only); (try k_fold)))
  k_steps
  unfold Blk
  have hpx : ((tl x).take (pl + y.length)).length ≤ 900 := by rw [List.length_take]; rw [len_tl] at hx; omega
  refine while_I (PeelI g s L' pl r) n ⟨_, _, [], [], _, 0, _, _, _, _, _, _, rfl, by assumption, cb_drop (by assumption) (by kcj_all), rfl, by rw [← hsl]; rfl, by rw [← hsl]; rfl, rfl, rfl, Nat.le_trans extF_len hpx, Nat.le_trans extE_len hpx, by simpa using hn, hr⟩ ?_
  rintro n₁ s₁ ⟨f, e, acc, vs, b, k, h₁, tk₁, m₁, t1', t2', t3', rfl, F₁, N', e1, e2, e3, e4, hst, hf9, he9, hacc, hpe⟩
  have F' := fr4 F₁ e1 e2 e3 e4
  clear F₁
  have hl1 : (sL f).length ≤ 900 := by rw [len_sL]; exact hf9
  have hl2 : (sL e).length ≤ 900 := by rw [len_sL]; exact he9
  have hvl : vs.length ≤ 2000 := by rw [hst.length]; omega
  cases n₁ with
  | zero => exact absurd hpe (by simp [peelL])
  | succ n₁ =>
  k_with "call ref" => (refine blk ?_)
  k_with "call ref" => k_dflt ((refine' call_p2 (c_splitext w (sL f) _ hl1) (by assumption) (by assumption) (by exact rfl) (by exact rfl) (by assumption) (by assumption) (by assumption) (by assumption) (by assumption) XB TB SB (by (first | exact lt_hd1 hd rfl | exact lt_hd hd rfl | (have hd9 := hd; (try dsimp only [Ar]); omega))) (by (first | exact lt_hd1 hu rfl | exact lt_hd hu rfl | (have hu9 := hu; (try dsimp only [Ar]); omega))) trivial ?_); (intro v' res' h' tk' hr' F' N' hne'; (try simp only [List.cons_append, List.nil_append] at N')); (obtain ⟨r9, t9, t9', rfl, rfl⟩ := hr'); (try simp only [List.cons_append, List.nil_append] at N'); (try dsimp only))
  k_with "call builtin:list.insert" => k_dflt ((refine' insert0 (rest := []) (by assumption) (by assumption) (by k_mem) (fun _ h => nomatch h) (fun _ h => nomatch h) (by omega) ?_); intro h' F' N')
  k_with "binaryOp Add ref ref" => k_dflt ((refine' add_ll (vs := [_]) (ws := vs) (by assumption) (by assumption) (by k_mem) (by k_mem) (by simp only [List.length_cons, List.length_nil]; omega) ?_); intro h' c' F' N')
  k_steps
  · obtain ⟨hne, hpe'⟩ := peelL_step hpe (by assumption)
    exact ⟨n₁, Nat.lt_succ_self _, extF f, extE f, _, _, b, k + 1, _, _, _, _, _, _, rfl, by assumption, cb_drop (by assumption) (fun p hp => .tail _ hp), rfl, rfl, rfl, rfl, StrsAre.cons' hst _ _ _ (slice_one' hne), Nat.le_trans extF_len hf9, Nat.le_trans extE_len hf9, by simp only [List.length_cons]; omega, hpe'⟩
  · obtain rfl := peelL_end hpe (by assumption)
    have hr2 : pl ≤ f.length := hr2
    exact cut_end hret (by assumption) (by assumption) (by rw [slice_to (by omega) (by rw [len_sL]; omega), tl_sL, Int.toNat_natCast]) (StrsAre.cons' hst _ _ _ (by rw [slice_from (by omega) (by rw [len_sL]; omega), tl_sL, Int.toNat_natCast]))
end Mine
end
section
open PySem PySem.W PyProof.Rows PySem.Calls PySem.Spec
set_option maxRecDepth 100000
namespace Mine
theorem strs_conv {vs : List Value} {ws : List (List Nat)} (h : Mine.StrsAre vs ws) : PyProof.Rows.StrsAre vs (ws.map sL) := by
  induction vs generalizing ws with
  | nil =>
    cases ws with
    | nil => exact .nil
    | cons a r => cases h
  | cons v vs ih =>
    cases ws with
    | nil => cases h
    | cons a r =>
      unfold Mine.StrsAre at h
      rw [List.map_cons, List.map_cons, List.cons.injEq] at h
      obtain ⟨h1, h2⟩ := h
      cases v with
      | str x t =>
        have : tl x = a := Option.some.inj h1
        subst this
        exact .cons _ _ (ih h2)
      | _ => cases h1
theorem map_tl_sL (ws : List (List Nat)) : (ws.map sL).map tl = ws := by
  rw [List.map_map]
  have : (tl ∘ sL) = id := by funext l; rfl
  rw [this, List.map_id]
theorem join_is {c : Nat} {ws : List (List Nat)} {x : Str} (h : joinL [c] ws = tl x) : Txt.join ⟨#[c]⟩ (ws.map sL) = x := by
  rw [str_eq, ← h]
  show tl (Builtin.Str.glued ⟨#[c]⟩ (ws.map sL)) = _
  rw [StrLaws.glued_eq_join, tl_join, map_tl_sL]
theorem join_L {prog : Program} {w : World} {A : Around} {E : Value → Shared → Prop} {s : Shared} {c : Nat} {t : Tok} {x : Str} {Q : Value → Shared → Prop} {D : Addr} {vs : List Value} {ws : List (List Nat)} (hl : s.heap.IsList D vs.toArray) (hi : Mine.StrsAre vs ws) (hsz : (ws.map (·.length)).sum + ws.length ≤ 4000) (hx : joinL [c] ws = tl x)
    (h : ∀ t' k, Q (.str x t') { s with toks := k }) : wpAny (model prog w) A (call (.builtin "str.join") [.str ⟨#[c]⟩ t, .ref D]) Q E s := by
  refine join_list hl (ys := ws.map sL) (strs_conv hi) ?_ fun t' k => by rw [join_is hx]; exact h t' k
  have : (ws.map sL).map (·.length) = ws.map (·.length) := by
    rw [List.map_map]
    refine List.map_congr_left fun a _ => ?_
    exact len_sL a
  rw [this, List.length_map]
  show _ + _ * 1 ≤ _
  omega
theorem list_fr {g h : Heap} {L b : Addr} {m : Str → Option Value} {vs : Array Value} (F : Fr g L h m) (hL : g.IsList b vs) : h.IsList b vs := stays_list F.keep hL
theorem first_str {prog : Program} {w : World} {A : Around} {E : Value → Shared → Prop} {s : Shared} {value slice : PySem.Expr} {b : Addr} {v : Value} {vr : List Value} {t : Tok} {Q : Value → Shared → Prop} (hL : s.heap.IsList b (v :: vr).toArray) (h : Q v s)
    (hs : subscripted slice false (.ref b) (.int 0 t) = operate [.ref b, .int 0 t] (getItem (.ref b) (.int 0 t)) := by with_unfolding_all rfl) (hg : ∀ r, letTemporaryGo value (.ref b) r = pure () := by intro _; with_unfolding_all rfl) :
    wpAny (model prog w) A (subscriptTail value slice (.ref b) (.int 0 t)) Q E s := item_listL hL (by omega) (by omega) rfl h hs hg
theorem in_one {prog : Program} {w : World} {A : Around} {E : Value → Shared → Prop} {s : Shared} {x : Str} {c : Nat} {t u : Tok} {Q : Value → Shared → Prop} (h : Q (.bool (decide (c ∈ tl x))) s) : wpAny (model prog w) A (compareOp .In (.str ⟨#[c]⟩ u) (.str x t)) Q E s := by
  refine PyProof.Rows.in_str ?_
  rw [StrLaws.found_one]
  exact h
theorem plain_nil {ys : List Value} {wr : List (List Nat)} (h4 : ∀ z ∈ wr, 46 ∉ z) (h : CarriedAll ys (List.map PyData.str (List.filter (fun a => decide (46 ∈ tl a)) (List.map sL wr)))) : ys = [] := by
  have : List.filter (fun a => decide (46 ∈ tl a)) (List.map sL wr) = [] := by
    rw [List.filter_eq_nil_iff]
    intro a ha
    obtain ⟨z, hz, rfl⟩ := List.mem_map.mp ha
    rw [tl_sL]
    exact fun q => h4 z hz (of_decide_eq_true q)
  rw [this] at h
  cases h; rfl
theorem plain_a {w0 : List Nat} (h2 : 46 ∉ w0.dropWhile (· == 46)) (h : 46 ∈ tl (Txt.lstripChars (sL w0) (Str.ofString "."))) : False := by
  rw [show Txt.lstripChars (sL w0) (Str.ofString ".") = sL (w0.dropWhile (· == 46)) from lstrip_one (sL w0) 46, tl_sL] at h
  exact h2 h
theorem plain_b {w0 : List Nat} {wr : List (List Nat)} {vr : List Value} (h3 : wr = [] ∨ rst (· == 46) (w0.dropWhile (· == 46)) ≠ []) (hS : PyProof.Rows.StrsAre vr (wr.map sL)) (hv : vr ≠ []) (h : (Txt.stripChars (sL w0) (Str.ofString ".") == Str.ofString "") = true) : False := by
  rcases h3 with h3 | h3
  · subst h3
    cases hS
    exact hv rfl
  · have e : Txt.stripChars (sL w0) (Str.ofString ".") = sL (rst (· == 46) (w0.dropWhile (· == 46))) := by
      show Txt.stripBy (fun a => (⟨#[46]⟩ : Str).cps.contains a) true true (sL w0) = _
      rw [chars_one]; exact strip_lr _ _
    rw [e] at h
    exact h3 (sL_inj.mp (eq_of_beq h))
set_option maxHeartbeats 1000000 in
theorem c_plain (w : World) (x : Str) (t : Tok) (b : Addr) (vs : List Value) (w0 : List Nat) (wr : List (List Nat)) (hx : x.length ≤ 900) (hS : Mine.StrsAre vs (w0 :: wr)) (hsz : ((w0 :: wr).map (·.length)).sum + (w0 :: wr).length ≤ 4000)
    (hj : joinL [46] (w0 :: wr) = tl x) (h2 : 46 ∉ w0.dropWhile (· == 46)) (h3 : wr = [] ∨ rst (· == 46) (w0.dropWhile (· == 46)) ≠ []) (h4 : ∀ z ∈ wr, 46 ∉ z) :
    ConP w 60 600 349 [.str x t, .ref b] [] (fun g => g.IsList b vs.toArray) (fun v res => v = .bool true ∧ res = []) := by
  intro mean mg mb dp un gd l base g s Q E G O hd hu hL hret
  obtain ⟨B, X, T, S, D, XB, TB, SB⟩ := G
  have hS' := strs_conv hS
  obtain ⟨t0, vr, rfl, hSr⟩ := PyProof.Rows.StrsAre.cons_inv hS'
  have hw0 : (sL w0).length ≤ 4000 := by rw [len_sL]; simp only [List.map_cons, List.sum_cons, List.length_cons] at hsz; omega
  have hvr : vr.length ≤ 4000 := by
    have := hSr.length
    rw [List.length_map] at this
    simp only [List.map_cons, List.sum_cons, List.length_cons] at hsz; omega
  ((have fill : (KF w.params).In g → PySem.Challenge.rw_ij0142_01.row.prog = PySem.Challenge.rw_ij0142_01.row.prog → True := by (k_fill; intros; trivial)); clear fill; k_with_none)
  k_with "call ref" => (refine blk ?_)
  k_with "call builtin:str.join" => k_dflt (refine' join_L (c := 46) (x := x) (list_fr (by assumption) hL) hS hsz hj ?_; intro t9 k9)
  k_with "subscriptTail Name Constant ref int" => k_dflt (refine' first_str (list_fr (by assumption) hL) ?_)
  k_with "compareOp In str str" => k_dflt (refine' in_one (c := 46) ?_)
  k_with "subscriptTail Name Slice ref ref" => k_dflt ((refine' slice_tail (vr := vr) (by assumption) (by assumption) (list_fr (by assumption) hL) (by constructor) (by constructor) hvr ?_ (by with_unfolding_all rfl) (by (intro _; with_unfolding_all rfl))); intro h' c' F' N' hI')
  k_with "compareOp NotEq ref ref" => k_dflt (refine' ne_nil (vs := vr) (isl_news (arr' := vr.toArray) (by assumption) (by k_mem) rfl) (isl_news (arr' := #[]) (by assumption) (by k_mem) rfl) (by show un + 3 < cLine; omega) ?_)
  k_with "compareOp Eq ref ref" => k_dflt ((have e9 := plain_nil h4 (by assumption)); (refine' eq_nil (isl_news (arr' := #[]) (by assumption) (by k_mem) (by rw [e9])) (isl_news (arr' := #[]) (by assumption) (by k_mem) rfl) (by show un + 3 < cLine; omega) ?_))
  ((have Sc := SetsF.ctl S); (have Sw := SetsF.ws S); (have Sb := SetsF.bare S); (have N : NG g s.heap [] := fun _ h => nomatch h); refine wpAny_call ?_; k_dflt (refine' enter ⟨B, X, T, S, D, XB, TB, SB⟩ O N ?k6 ?k7 ?k8 ?k9 ?kB ?_ ?c2 ?c3 ?c4 ?c5; (case k6 => k_is); (case k7 => k_is); (case k8 => exact Nat.lt_of_le_of_lt (Nat.le_add_right _ _) hd); (case k9 => first | exact binds_K (by k_in) rfl (by k_is) rfl rfl rfl | exact BindsTo.of_eq rfl | fail "m_pure: no rule for these arguments"); (case kB => exact locs rfl); (case c2 => exact rfl); (case c3 => exact rfl); (case c4 => exact rfl); (case c5 => decide); k_whole; intro L' h' F' N' lL'; (try dsimp only); (try k_fold)))
  k_steps
  · exact absurd (by assumption : (x != x) = true) (by simp)
  · exact (plain_a h2 (by assumption)).elim
  · exact (plain_b h3 hSr (by assumption) (by assumption)).elim
  · exact out_p hret ⟨rfl, rfl⟩ (by assumption) (by assumption) (fun _ h => nomatch h)
  · exact out_p hret ⟨rfl, rfl⟩ (by assumption) (by assumption) (fun _ h => nomatch h)
end Mine
end
section
open PySem PySem.W PyProof.Rows PySem.Calls PySem.Spec
set_option maxRecDepth 100000
namespace Mine
set_option maxHeartbeats 8000000 in
theorem c_skip (w : World) (x : Str) (t t1 : Tok) (i : Nat) (p : Int) (hp : p = (i : Int)) (ad : Addr) (sl : List Nat) (n : Nat) (hS : ∀ h, SetsF w h → FrozAt (PySem.strKind PGm w) h ad (inL sl) n) (hn : n < 4096) (hx : x.cps.size ≤ 4000) (hi : i ≤ x.cps.size) :
    ConT w 30 300 124 [.str x t, .int p t1, .ref ad] [] (fun _ => True) (fun v res => res = [] ∧ ∃ tk, v = .int (runS (fun c => inL sl ⟨#[c]⟩) x.cps.toList i : Nat) tk) False := by
  subst hp
  intro mean mg mb dp un gd l base g s Q E pn G O hd hu _ Tp N hret _
  obtain ⟨B, X, T, S, D, XB, TB, SB⟩ := G
  ((have fill : (KF w.params).In g → PySem.Challenge.rw_ij0142_01.row.prog = PySem.Challenge.rw_ij0142_01.row.prog → True := by (k_fill; intros; trivial)); clear fill; k_with_none)
  k_with "exec While Compare cons nil" => k_while (fun _ k => 0 ≤ k ∧ k ≤ (x.cps.size : Int) ∧ runS (fun c => inL sl ⟨#[c]⟩) x.cps.toList k.toNat = runS (fun c => inL sl ⟨#[c]⟩) x.cps.toList i) (fun _ k => x.cps.size - k.toNat) "pos"
  k_with "state" => (exact ⟨by omega, by (have hxl : (x.length : Int) = (x.cps.size : Int) := rfl); omega, skip_step (by assumption) (by assumption) (by assumption) (by assumption)⟩)
  k_with "measure" => ((have hxl : (x.length : Int) = (x.cps.size : Int) := rfl); omega)
  k_with "noteFrame ref" => (k_here; (rename Heap.NewExc _ _ _ _ => nx'); (with_reducible rename Below _ _ _ _ => kB'); k_dflt (refine' caught_here (T' := "IndexError") nx' (by assumption) (by assumption) kB' XB TB (by assumption) T0 (by k_is) PyProof.Rows.Boot.«IndexError» (by decide) PySem.F.isExc_IndexError PySem.F.notTuple_IndexError (by kts_sub) ?_); k_whole; clear T0; intro h' g' T0 F' N' K' X' P' D'; (have S' := SB.keeps (Below.stays K')); (have Sc' := SetsF.ctl S'); (have Sw' := SetsF.ws S'); (have Sb' := SetsF.bare S'); (try k_lift K'); (try k_sweep))
  k_with "compareOp In str ref" => (k_here; refine' in_froz (knd := PySem.strKind PGm w) ?F ?hS ?k ?sc hn ?_; (case F => k_asm); (case hS => assumption); (case k => simp [PySem.strKind, Value.isStrOf]); (case sc => rfl); k_whole)
  have hSg := hS _ S
  ((have Sc := SetsF.ctl S); (have Sw := SetsF.ws S); (have Sb := SetsF.bare S); refine wpAny_call ?_; k_dflt (refine' enter ⟨B, X, T, S, D, XB, TB, SB⟩ O N ?k6 ?k7 ?k8 ?k9 ?kB ?_ ?c2 ?c3 ?c4 ?c5; (case k6 => k_is); (case k7 => k_is); (case k8 => exact Nat.lt_of_le_of_lt (Nat.le_add_right _ _) hd); (case k9 => first | exact binds_K (by k_in) rfl (by k_is) rfl rfl rfl | exact BindsTo.of_eq rfl | fail "m_enter: no rule for these arguments"); (case kB => exact locs rfl); (case c2 => exact rfl); (case c3 => exact rfl); (case c4 => exact rfl); (case c5 => decide); k_whole; intro L' h' F' N' lL'; (have T0 : KtsTurn (frs l) g g := KtsTurn.refl); (try dsimp only); (try k_fold)))
  k_steps
  all_goals first
    | exact out_t hret ⟨rfl, _, congrArg (Value.int · _) (skip_end (by assumption) (by assumption) (by assumption))⟩ (by assumption) (by assumption) (by assumption) (by assumption) (by assumption) XB TB SB Tp (fun _ h => nomatch h) (fun _ h => h)
    | exact out_t hret ⟨rfl, _, congrArg (Value.int · _) (skip_out (by assumption) (by assumption) (by assumption) (by assumption))⟩ KtsTurn.refl (by assumption) (by assumption) (by assumption) (by assumption) XB TB SB Tp (fun _ h => nomatch h) (fun _ h => h)
end Mine
end
section
open PySem PySem.W PyProof.Rows PySem.Calls PySem.Spec
set_option maxRecDepth 100000
namespace Mine
theorem codeHd_of {P : Params} {h : Heap} (X : (KF P).In h) : CodeHd h 194 190 :=
  ⟨_, _, _, _, _, _, _, _, _, X 194 (o194v0 P) (by kernel_rfl), rfl, rfl, rfl, rfl, rfl, rfl, rfl, rfl, by decide⟩
noncomputable def Err (v : Value) (res : List (Addr × Obj)) : Prop := ∃ e t vs, v = .ref e ∧ res = [(e, excO t), (t, tupO vs)]
set_option maxHeartbeats 800000 in
theorem c_err (w : World) (x : Str) (t t1 t2 : Tok) (i : Nat) (p : Int) (hp : p = (i : Int)) (hx : x.length ≤ 4000) (hn : 10 ∉ x.cps.toList) (hi : i ≤ x.length) :
    ConT w 30 300 195 [.str x t, .int p t1, .str (Str.ofString "Invalid initial character for a key part") t2] [] (fun _ => True) Err False := by
  subst hp
  intro mean mg mb dp un gd l base g s Q E pn G O hd hu _ Tp N hret _
  obtain ⟨B, X, T, S, D, XB, TB, SB⟩ := G
  have CH := codeHd_of X
  ((have fill : (KF w.params).In g → PySem.Challenge.rw_ij0142_01.row.prog = PySem.Challenge.rw_ij0142_01.row.prog → True := by (k_fill; intros; trivial)); clear fill; k_with_none)
  k_with "call builtin:str.count" => (k_here; refine' count4_no ?h ?_; (case h => exact no_at hn))
  k_with "call ref" => (k_here; refine' call_excK ?X ?F ?N ?_; (case X => k_asm); (case F => k_asm); (case N => k_asm); intro h' e' t' F' N')
  cases Tp with
  | none =>
    ((have Sc := SetsF.ctl S); (have Sw := SetsF.ws S); (have Sb := SetsF.bare S); refine wpAny_call ?_; k_dflt (refine' enter ⟨B, X, T, S, D, XB, TB, SB⟩ O N ?k6 ?k7 ?k8 ?k9 ?kB ?_ ?c2 ?c3 ?c4 ?c5; (case k6 => k_is); (case k7 => k_is); (case k8 => exact Nat.lt_of_le_of_lt (Nat.le_add_right _ _) hd); (case k9 => first | exact binds_K (by k_in) rfl (by k_is) rfl rfl rfl | exact BindsTo.of_eq rfl | fail "m_enter: no rule for these arguments"); (case kB => exact locs rfl); (case c2 => exact rfl); (case c3 => exact rfl); (case c4 => exact rfl); (case c5 => decide); k_whole; intro L' h' F' N' lL'; (have T0 : KtsTurn (frs l) g g := KtsTurn.refl); (try dsimp only); (try k_fold)))
    k_steps
    all_goals (rename _ = some (Value.str (qualnameIn _ _ _) _) => hq9; (have hq8 : _ = some (Value.str Qn _) := hq9); exact out_t hret ⟨_, _, _, rfl, rfl⟩ KtsTurn.refl (by assumption) (by assumption) (by assumption) (by assumption) XB TB SB (TabSt.made _ _ _ _ (by assumption) hq8) (by kcj_all) (by kcj_all))
  | made c' oc vs tq hv hq =>
    ((have Sc := SetsF.ctl S); (have Sw := SetsF.ws S); (have Sb := SetsF.bare S); refine wpAny_call ?_; k_dflt (refine' enter ⟨B, X, T, S, D, XB, TB, SB⟩ O N ?k6 ?k7 ?k8 ?k9 ?kB ?_ ?c2 ?c3 ?c4 ?c5; (case k6 => k_is); (case k7 => k_is); (case k8 => exact Nat.lt_of_le_of_lt (Nat.le_add_right _ _) hd); (case k9 => first | exact binds_K (by k_in) rfl (by k_is) rfl rfl rfl | exact BindsTo.of_eq rfl | fail "m_enter: no rule for these arguments"); (case kB => exact locs rfl); (case c2 => exact rfl); (case c3 => exact rfl); (case c4 => exact rfl); (case c5 => decide); k_whole; intro L' h' F' N' lL'; (have T0 : KtsTurn (frs l) g g := KtsTurn.refl); (try dsimp only); (try k_fold)))
    have hq' : vs[1]? = some (Value.str (qualnameIn (envOf (sO "suffixed_err") (fd 33).snd.snd L' 195 (Value.ref 194)) (Str.ofString "coord_repr") (Str.ofString "coord_repr")) tq) := hq
    k_steps
    all_goals exact out_t hret ⟨_, _, _, rfl, rfl⟩ KtsTurn.refl (by assumption) (by assumption) (by assumption) (by assumption) XB TB SB (TabSt.made _ _ _ _ (by assumption) hq) (by kcj_all) (by kcj_all)
end Mine
end
section
open PySem PySem.W PyProof.Rows PySem.Calls PySem.Spec
set_option maxRecDepth 100000
namespace Mine
theorem str_at {prog : Program} {w : World} {A : Around} {E : Value → Shared → Prop} {s : Shared} {value slice : PySem.Expr} {x : Str} {t u : Tok} {k : Int} {Q : Value → Shared → Prop} (h0 : 0 ≤ k) (h1 : k < (x.length : Int)) (h2 : x.length ≤ 4000)
    (h : Q (.str (Txt.item x k) s.toks) { s with toks := s.toks + 1 })
    (hs : subscripted slice false (.str x t) (.int k u) = operate [.str x t, .int k u] (getItem (.str x t) (.int k u)) := by with_unfolding_all rfl) :
    wpAny (model prog w) A (subscriptTail value slice (.str x t) (.int k u)) Q E s := by
  obtain ⟨c, hc, q⟩ := item_at h0 h1
  have hr : (decide (k < -(2 ^ 63 : Int)) || decide (k ≥ 2 ^ 63)) = false := by simp; omega
  have hi : seqIndex? k x.length = some k.toNat := by
    have h3 : ¬ k < 0 := by omega
    unfold seqIndex?
    simp [h3, h0, h1]
  rw [q] at h
  exact tail_any (typeIs_str s x t) F.slot_str_getitem.lookup (P.getItem_str hr (by rw [hi]; simpa using hc) h) hs
theorem add_empty {prog : Program} {w : World} {A : Around} {E : Value → Shared → Prop} {s : Shared} {x y : Str} {t u : Tok} {Q : Value → Shared → Prop} (e : x = Str.empty) (hl : y.length ≤ 4000) (h : ∀ t' tk, Q (.str y t') { s with toks := tk }) : wpAny (model prog w) A (binaryOp .Add (.str x t) (.str y u)) Q E s := by
  subst e
  refine PyProof.Rows.add_str (fun t' tk => by rw [empty_add]; exact h t' tk) ?_
  have : (Str.empty : Str).length = 0 := rfl
  have : (4000 : Nat) ≤ sizeLine := by decide
  omega
theorem no_bs {x : Str} {i j : Nat} {k : Int} (hq : Txt.item x j = ⟨#[34]⟩) (hm : ∀ k : Int, (i : Int) ≤ k → k < (j : Int) → Txt.item x k ≠ ⟨#[34]⟩ ∧ Txt.item x k ≠ ⟨#[92]⟩ ∧ inL ctlL (Txt.item x k) = false)
    (h1 : (i : Int) ≤ k) (h2 : k ≤ (j : Int)) (h3 : (Txt.item x k == Str.ofString "\"") = false) : k < (j : Int) ∧ Txt.item x k ≠ ⟨#[92]⟩ ∧ inL ctlL (Txt.item x k) = false := by
  have hk : k < (j : Int) := by
    rcases Int.lt_or_eq_of_le h2 with h | h
    · exact h
    · subst h; rw [hq] at h3; cases h3
  exact ⟨hk, (hm k h1 hk).2⟩
theorem no_bs1 {x : Str} {i j : Nat} {k : Int} (hq : Txt.item x j = ⟨#[34]⟩) (hm : ∀ k : Int, (i : Int) ≤ k → k < (j : Int) → Txt.item x k ≠ ⟨#[34]⟩ ∧ Txt.item x k ≠ ⟨#[92]⟩ ∧ inL ctlL (Txt.item x k) = false)
    (h1 : (i : Int) ≤ k) (h2 : k ≤ (j : Int)) (h3 : (Txt.item x k == Str.ofString "\"") = false) (h4 : (Txt.item x k == Str.ofString "\\") = true) : False := (no_bs hq hm h1 h2 h3).2.1 (eq_of_beq h4)
theorem no_bs2 {x : Str} {i j : Nat} {k : Int} (hq : Txt.item x j = ⟨#[34]⟩) (hm : ∀ k : Int, (i : Int) ≤ k → k < (j : Int) → Txt.item x k ≠ ⟨#[34]⟩ ∧ Txt.item x k ≠ ⟨#[92]⟩ ∧ inL ctlL (Txt.item x k) = false)
    (h1 : (i : Int) ≤ k) (h2 : k ≤ (j : Int)) (h3 : (Txt.item x k == Str.ofString "\"") = false) (h4 : inL ctlL (Txt.item x k) = true) : False := by rw [(no_bs hq hm h1 h2 h3).2.2] at h4; cases h4
/-- a place and a text, in a tuple -/
noncomputable def Part (j : Nat) (cs : List Nat) (v : Value) (res : List (Addr × Obj)) : Prop := ∃ a t t', v = .ref a ∧ res = [(a, tupO [.int (j : Int) t, .str (sL cs) t'])]
theorem basic_end {w : World} {mean : ExcName → Option Value} {mg mb : Str → Option Value} {A : Around} {base g h' : Heap} {l : List Env} {Q : Value → Shared → Prop} {s : Shared} {pn : List (Addr × Obj)} {L a : Addr} {m : Str → Option Value} {tk : Nat} {x : Str} {i j : Nat} {k sp : Int} {u u' : Tok}
    (hx : x.length ≤ 4000) (hi : i ≤ j) (hj : (j : Int) < (x.length : Int)) (hm : ∀ k : Int, (i : Int) ≤ k → k < (j : Int) → Txt.item x k ≠ ⟨#[34]⟩ ∧ Txt.item x k ≠ ⟨#[92]⟩ ∧ inL ctlL (Txt.item x k) = false)
    (hret : RetT w mean mg mb A base l g s (Part (j + 1) (cut (tl x) i j)) Q) (Tp : TabSt pn) (XB : (KF w.params).In base) (TB : TopM mean mg mb base) (SB : SetsF w base)
    (N : News g L h' ((a, { cls := .type "tuple", data := .seq #[.int (k + 1) u, .str (Txt.slice x (some sp) (some k)) u'] }) :: pn)) (F : Fr g L h' m) (B : Below A base l g) (D : KtsDicts (frs l) g)
    (h1 : (i : Int) ≤ k) (h2 : k ≤ (j : Int)) (h3 : sp = (i : Int)) (h4 : (Txt.item x k == Str.ofString "\"") = true) : Q (.ref a) { s with heap := h', toks := tk } := by
  have hk : k = (j : Int) := by
    rcases Int.lt_or_eq_of_le h2 with h | h
    · exact absurd (eq_of_beq h4) (hm k h1 h).1
    · exact h
  subst hk h3
  rw [slice_cut (by omega) h1 (by omega)] at N
  exact out_t hret ⟨a, u, u', rfl, rfl⟩ KtsTurn.refl F N B D XB TB SB Tp (fun p hp => (List.mem_singleton.mp hp) ▸ .head _) (fun p hp => .tail _ hp)
set_option maxHeartbeats 4000000 in
theorem c_basic (w : World) (x : Str) (t t1 : Tok) (i j : Nat) (p : Int) (hp : p = (i : Int)) (hx : x.length ≤ 4000) (hi : i ≤ j) (hj : (j : Int) < (x.length : Int)) (hq : Txt.item x j = ⟨#[34]⟩)
    (hm : ∀ k : Int, (i : Int) ≤ k → k < (j : Int) → Txt.item x k ≠ ⟨#[34]⟩ ∧ Txt.item x k ≠ ⟨#[92]⟩ ∧ inL ctlL (Txt.item x k) = false) :
    ConT w 30 300 188 [.str x t, .int p t1] [(Str.ofString "multiline", .bool false)] (fun _ => True) (Part (j + 1) (cut (tl x) i j)) False := by
  subst hp
  intro mean mg mb dp un gd l base g s Q E pn G O hd hu _ Tp N hret _
  obtain ⟨B, X, T, S, D, XB, TB, SB⟩ := G
  ((have fill : (KF w.params).In g → PySem.Challenge.rw_ij0142_01.row.prog = PySem.Challenge.rw_ij0142_01.row.prog → True := by (k_fill; intros; trivial)); clear fill; k_with_none)
  k_with "subscriptTail Name Name str int" => (k_here; (with_unfolding_all refine' str_at ?k0 ?k1 ?k2 ?_ ?k6; (case k0 => omega); (case k1 => omega); (case k2 => exact hx); (case k6 => with_unfolding_all rfl)); k_whole)
  k_with "compareOp In str ref" => (k_here; refine' in_froz (knd := PySem.strKind PGm w) ?F ?hS ?k ?sc (by decide : 32 < 4096) ?_; (case F => k_asm); (case hS => assumption); (case k => simp [PySem.strKind, Value.isStrOf]); (case sc => rfl); k_whole)
  k_with "exec While Constant cons nil" => k_while (fun _ k r sp => (i : Int) ≤ k ∧ k ≤ (j : Int) ∧ r = Str.empty ∧ sp = (i : Int)) (fun _ k _ _ => j - k.toNat) "pos" "result" "start_pos"
  k_with "exec AugAssign" => (exfalso; exact no_bs1 hq hm (by assumption) (by assumption) (by assumption) (by assumption))
  k_with "exec Raise some none" => (exfalso; exact no_bs2 hq hm (by assumption) (by assumption) (by assumption) (by assumption))
  k_with "state" => (exact ⟨by omega, (by have := no_bs hq hm (by assumption) (by assumption) (by assumption); omega), by assumption, by assumption⟩)
  k_with "measure" => (have := (no_bs hq hm (by assumption) (by assumption) (by assumption)).1; omega)
  k_with "binaryOp Add str str" => (k_here; refine' add_empty ?e ?l ?h; (case e => assumption); (case l => omega); intro t' tk')
  ((have Sc := SetsF.ctl S); (have Sw := SetsF.ws S); (have Sb := SetsF.bare S); refine wpAny_call ?_; k_dflt (refine' enter ⟨B, X, T, S, D, XB, TB, SB⟩ O N ?k6 ?k7 ?k8 ?k9 ?kB ?_ ?c2 ?c3 ?c4 ?c5; (case k6 => k_is); (case k7 => k_is); (case k8 => exact Nat.lt_of_le_of_lt (Nat.le_add_right _ _) hd); (case k9 => first | exact binds_K (by k_in) rfl (by k_is) rfl rfl rfl | exact BindsTo.of_eq rfl | fail "m_enter: no rule for these arguments"); (case kB => exact locs rfl); (case c2 => exact rfl); (case c3 => exact rfl); (case c4 => exact rfl); (case c5 => decide); k_whole; intro L' h' F' N' lL'; (have T0 : KtsTurn (frs l) g g := KtsTurn.refl); (try dsimp only); (try k_fold)))
  k_steps
  exact basic_end hx hi hj hm hret Tp XB TB SB (by assumption) (by assumption) (by assumption) (by assumption) (by assumption) (by assumption) (by assumption) (by assumption)
end Mine
end
section
open PySem PySem.W PyProof.Rows PySem.Calls PySem.Spec
set_option maxRecDepth 100000
namespace Mine
set_option maxHeartbeats 4000000 in
theorem c_one (w : World) (x : Str) (t t1 : Tok) (i j : Nat) (p : Int) (hp : p = (i : Int)) (hx : x.length ≤ 4000) (hi : i + 1 ≤ j) (hj : (j : Int) < (x.length : Int)) (hq : Txt.item x j = ⟨#[34]⟩)
    (hm : ∀ k : Int, ((i + 1 : Nat) : Int) ≤ k → k < (j : Int) → Txt.item x k ≠ ⟨#[34]⟩ ∧ Txt.item x k ≠ ⟨#[92]⟩ ∧ inL ctlL (Txt.item x k) = false) :
    ConT w 40 400 152 [.str x t, .int p t1] [] (fun _ => True) (Part (j + 1) (cut (tl x) (i + 1) j)) False := by
  subst hp
  intro mean mg mb dp un gd l base g s Q E pn G O hd hu _ Tp N hret _
  obtain ⟨B, X, T, S, D, XB, TB, SB⟩ := G
  ((have fill : (KF w.params).In g → PySem.Challenge.rw_ij0142_01.row.prog = PySem.Challenge.rw_ij0142_01.row.prog → True := by (k_fill; intros; trivial)); clear fill; k_with_none)
  k_with "call ref" => k_dflt ((first | (refine' call_t2 (rest := []) (c_basic w x t _ (i + 1) j _ (by omega) hx hi hj hq hm) (by assumption) (by assumption) Tp (by exact rfl) (by exact rfl) (by assumption) (by assumption) (by assumption) (by assumption) (by assumption) XB TB SB (by (repeat' (first | exact List.forall_mem_nil _ | refine List.forall_mem_cons.mpr ⟨rfl, ?_⟩))) (by (first | exact lt_hd1 hd rfl | exact lt_hd hd rfl | (have hd9 := hd; (try dsimp only [Ar]); omega))) (by (first | exact lt_hd1 hu rfl | exact lt_hd hu rfl | (have hu9 := hu; (try dsimp only [Ar]); omega))) trivial ?_ (fun q => q.elim))); (intro v' res' h₀' h' tk' pn' hr' T0' G' F' Tp' N' hne'; (try simp only [List.cons_append, List.nil_append] at N'); (replace T0 := KtsTurn.trans T0 T0'); (clear T0'); (clear Tp); (rename TabSt _ => Tp); (obtain ⟨B', X', T', S', D', -, -, -⟩ := G'); (have Sc' := SetsF.ctl S'); (have Sw' := SetsF.ws S'); (have Sb' := SetsF.bare S')); (obtain ⟨a', u', u2', rfl, rfl⟩ := hr'))
  ((have Sc := SetsF.ctl S); (have Sw := SetsF.ws S); (have Sb := SetsF.bare S); refine wpAny_call ?_; k_dflt (refine' enter ⟨B, X, T, S, D, XB, TB, SB⟩ O N ?k6 ?k7 ?k8 ?k9 ?kB ?_ ?c2 ?c3 ?c4 ?c5; (case k6 => k_is); (case k7 => k_is); (case k8 => exact Nat.lt_of_le_of_lt (Nat.le_add_right _ _) hd); (case k9 => first | exact binds_K (by k_in) rfl (by k_is) rfl rfl rfl | exact BindsTo.of_eq rfl | fail "m_enter: no rule for these arguments"); (case kB => exact locs rfl); (case c2 => exact rfl); (case c3 => exact rfl); (case c4 => exact rfl); (case c5 => decide); k_whole; intro L' h' F' N' lL'; (have T0 : KtsTurn (frs l) g g := KtsTurn.refl); (try dsimp only); (try k_fold)))
  k_steps
  exact out_t hret ⟨_, _, _, rfl, rfl⟩ T0 (by assumption) (by assumption) (by assumption) (by assumption) XB TB SB Tp (by kcj_all) (fun _ hp => .tail _ hp)
end Mine
end
section
open PySem PySem.W PyProof.Rows PySem.Calls PySem.Spec
set_option maxRecDepth 100000
namespace Mine
noncomputable def PartR (l : List Nat) (i : Nat) (v : Value) (res : List (Addr × Obj)) : Prop := ∃ j cs, pkp l i = some (j, cs) ∧ Part j cs v res
theorem part_end {w : World} {mean : ExcName → Option Value} {mg mb : Str → Option Value} {A : Around} {base g g' h' : Heap} {l : List Env} {Q : Value → Shared → Prop} {s : Shared} {pn : List (Addr × Obj)} {L a : Addr} {m : Str → Option Value} {tk : Nat} {x : Str} {i : Nat} {u u' : Tok}
    (hret : RetT w mean mg mb A base l g s (PartR (tl x) i) Q) (hi : i ≤ x.length) (e : pkp (tl x) i = some (runS bareC (tl x) i, cut (tl x) i (runS bareC (tl x) i))) (T0 : KtsTurn (frs l) g g') (F : Fr g' L h' m)
    (N : News g' L h' ((a, { cls := .type "tuple", data := .seq #[.int (runS bareC (tl x) i : Nat) u, .str (Txt.slice x (some (i : Int)) (some (runS bareC (tl x) i : Nat))) u'] }) :: pn)) (B : Below A base l g') (D : KtsDicts (frs l) g') (XB : (KF w.params).In base) (TB : TopM mean mg mb base) (SB : SetsF w base) (Tp : TabSt pn) :
    Q (.ref a) { s with heap := h', toks := tk } := by
  have h1 : runS bareC (tl x) i ≤ x.length := by rw [len_tl] at hi ⊢; exact runS_le hi
  rw [slice_cut (by omega) (by have := runS_ge (S := bareC) (l := tl x) (i := i); omega) (by omega)] at N
  exact out_t hret ⟨_, _, e, a, u, u', rfl, rfl⟩ T0 F N B D XB TB SB Tp (fun p hp => (List.mem_singleton.mp hp) ▸ .head _) (fun p hp => .tail _ hp)
set_option maxHeartbeats 4000000 in
theorem c_part (w : World) (x : Str) (t t1 : Tok) (i : Nat) (p : Int) (hp : p = (i : Int)) (hx : x.length ≤ 4000) (hi : i ≤ x.length) (hA : ∀ c ∈ tl x, c ∈ alph) (hQ : (tl x)[i]? = some 34 → qend (tl x) (i + 1) < (tl x).length) :
    ConT w 60 600 145 [.str x t, .int p t1] [] (fun _ => True) (PartR (tl x) i) (pkp (tl x) i = none) := by
  subst hp
  intro mean mg mb dp un gd l base g s Q E pn G O hd hu _ Tp N hret hrai
  obtain ⟨B, X, T, S, D, XB, TB, SB⟩ := G
  ((have fill : (KF w.params).In g → PySem.Challenge.rw_ij0142_01.row.prog = PySem.Challenge.rw_ij0142_01.row.prog → True := by (k_fill; intros; trivial)); clear fill; k_with_none)
  k_with "noteFrame ref" => (k_here; (rename Heap.NewExc _ _ _ _ => nx'); (with_reducible rename Below _ _ _ _ => kB'); k_dflt (refine' caught_here (T' := "IndexError") nx' (by assumption) (by assumption) kB' XB TB (by assumption) T0 (by k_is) PyProof.Rows.Boot.«IndexError» (by decide) PySem.F.isExc_IndexError PySem.F.notTuple_IndexError (by kts_sub) ?_); k_whole; clear T0; intro h' g' T0 F' N' K' X' P' D'; (have S' := SB.keeps (Below.stays K')); (have Sc' := SetsF.ctl S'); (have Sw' := SetsF.ws S'); (have Sb' := SetsF.bare S'); (try k_lift K'); (try k_sweep))
  k_with "call ref" => (refine blk ?_)
  k_with "call ref" => k_dflt ((first | (refine' call_t2 (rest := []) (c_err w x _ _ _ i _ (by omega) hx (no_nl hA) hi) (by assumption) (by assumption) Tp (by exact rfl) (by exact rfl) (by assumption) (by assumption) (by assumption) (by assumption) (by assumption) XB TB SB (by (repeat' (first | exact List.forall_mem_nil _ | refine List.forall_mem_cons.mpr ⟨rfl, ?_⟩))) (by (first | exact lt_hd1 hd rfl | exact lt_hd hd rfl | (have hd9 := hd; (try dsimp only [Ar]); omega))) (by (first | exact lt_hd1 hu rfl | exact lt_hd hu rfl | (have hu9 := hu; (try dsimp only [Ar]); omega))) trivial ?_ (fun q => q.elim))); (intro v' res' h₀' h' tk' pn' hr' T0' G' F' Tp' N' hne'; (try simp only [List.cons_append, List.nil_append] at N'); (replace T0 := KtsTurn.trans T0 T0'); (clear T0'); (clear Tp); (rename TabSt _ => Tp); (obtain ⟨B', X', T', S', D', -, -, -⟩ := G'); (have Sc' := SetsF.ctl S'); (have Sw' := SetsF.ws S'); (have Sb' := SetsF.bare S')); ((obtain ⟨e', t', vs', rfl, rfl⟩ := hr'); (refine ⟨e', t', rfl, Fr.keep F' _ _ (X' 114 _ (by kernel_rfl)), (N' _ (.head _)).1, ?_⟩); (try k_unfold); (try dsimp only); (refine leave_err (rest := []) B' F' N' Tp (fun h2' t2' R2' U2' => ?_) rfl); (refine hrai ?_ _ _ _ _ _ _ _ T0 ⟨B', X', T', S', D', XB, TB, SB⟩ Tp R2' U2')); (first | exact pkp_end (by assumption) | exact pkp_other (by assumption) (by assumption) (by assumption)))
  k_with "call ref" => k_dflt ((first | (refine' call_t2 (rest := []) (c_skip w x _ _ i _ (by omega) 94 bareL 64 (fun _ S => S.bare) (by decide) hx hi) (by assumption) (by assumption) Tp (by exact rfl) (by exact rfl) (by assumption) (by assumption) (by assumption) (by assumption) (by assumption) XB TB SB (by (repeat' (first | exact List.forall_mem_nil _ | refine List.forall_mem_cons.mpr ⟨rfl, ?_⟩))) (by (first | exact lt_hd1 hd rfl | exact lt_hd hd rfl | (have hd9 := hd; (try dsimp only [Ar]); omega))) (by (first | exact lt_hd1 hu rfl | exact lt_hd hu rfl | (have hu9 := hu; (try dsimp only [Ar]); omega))) trivial ?_ (fun q => q.elim))); (intro v' res' h₀' h' tk' pn' hr' T0' G' F' Tp' N' hne'; (try simp only [List.cons_append, List.nil_append] at N'); (replace T0 := KtsTurn.trans T0 T0'); (clear T0'); (clear Tp); (rename TabSt _ => Tp); (obtain ⟨B', X', T', S', D', -, -, -⟩ := G'); (have Sc' := SetsF.ctl S'); (have Sw' := SetsF.ws S'); (have Sb' := SetsF.bare S')); (obtain ⟨rfl, u', rfl⟩ := hr'); (try dsimp only))
  k_with "call ref" => k_dflt (exfalso; exact no_apo hA (by assumption) (by assumption))
  k_with "call ref" => k_dflt ((have hq9 := pkp_quote (by assumption) (by assumption) (by assumption)); (have hq8 := hQ hq9.1); k_dflt ((first | (refine' call_t2 (rest := []) (c_one w x _ _ i (qend (tl x) (i + 1)) _ (by omega) hx runS_ge (by rw [len_tl]; omega) (one_pre hA hq8).1 (one_pre hA hq8).2) (by assumption) (by assumption) Tp (by exact rfl) (by exact rfl) (by assumption) (by assumption) (by assumption) (by assumption) (by assumption) XB TB SB (by (repeat' (first | exact List.forall_mem_nil _ | refine List.forall_mem_cons.mpr ⟨rfl, ?_⟩))) (by (first | exact lt_hd1 hd rfl | exact lt_hd hd rfl | (have hd9 := hd; (try dsimp only [Ar]); omega))) (by (first | exact lt_hd1 hu rfl | exact lt_hd hu rfl | (have hu9 := hu; (try dsimp only [Ar]); omega))) trivial ?_ (fun q => q.elim))); (intro v' res' h₀' h' tk' pn' hr' T0' G' F' Tp' N' hne'; (try simp only [List.cons_append, List.nil_append] at N'); (replace T0 := KtsTurn.trans T0 T0'); (clear T0'); (clear Tp); (rename TabSt _ => Tp); (obtain ⟨B', X', T', S', D', -, -, -⟩ := G'); (have Sc' := SetsF.ctl S'); (have Sw' := SetsF.ws S'); (have Sb' := SetsF.bare S')); (try dsimp only)))
  k_with "exec Raise some none" => (k_here; k_dflt (refine' raise_of ?hh ?_; (case hh => exact rfl)))
  k_with "compareOp In none ref" => (k_here; k_dflt (refine' in_froz (knd := optKind PGm w) (k := none) ?F ?hS ?k ?sc (by decide : 64 < 4096) ?_; (case F => k_asm); (case hS => exact froz_opt (by assumption)); (case k => rfl); (case sc => rfl); k_whole))
  ((have Sc := SetsF.ctl S); (have Sw := SetsF.ws S); (have Sb := SetsF.bare S); refine wpAny_call ?_; k_dflt (refine' enter ⟨B, X, T, S, D, XB, TB, SB⟩ O N ?k6 ?k7 ?k8 ?k9 ?kB ?_ ?c2 ?c3 ?c4 ?c5; (case k6 => k_is); (case k7 => k_is); (case k8 => exact Nat.lt_of_le_of_lt (Nat.le_add_right _ _) hd); (case k9 => first | exact binds_K (by k_in) rfl (by k_is) rfl rfl rfl | exact BindsTo.of_eq rfl | fail "m_enter: no rule for these arguments"); (case kB => exact locs rfl); (case c2 => exact rfl); (case c3 => exact rfl); (case c4 => exact rfl); (case c5 => decide); k_whole; intro L' h' F' N' lL'; (have T0 : KtsTurn (frs l) g g := KtsTurn.refl); (try dsimp only); (try k_fold)))
  k_steps
  · exact part_end hret hi (pkp_bare (by assumption) (by assumption)) T0 (by assumption) (by assumption) (by assumption) (by assumption) XB TB SB Tp
  · obtain ⟨a', u', u2', rfl, rfl⟩ := hr'
    exact out_t hret ⟨_, _, hq9.2, a', u', u2', rfl, rfl⟩ T0 (by assumption) (by assumption) (by assumption) (by assumption) XB TB SB Tp (by kcj_all) (fun _ hp => .tail _ hp)
end Mine
end
section
open PySem PySem.W PyProof.Rows PySem.Calls PySem.Spec
set_option maxRecDepth 100000
namespace Mine
theorem pass_err {w : World} {mean : ExcName → Option Value} {mg mb : Str → Option Value} {M : Model} {A₀ : Around} {E E₂ : Value → Shared → Prop} {s : Shared} {base g h₀ h₀' g' h' : Heap} {outer : List Env} {L a e t : Addr} {m : Str → Option Value} {name : Str} {scope : Scope} {cd : Value} {vs : List Value} {pn : List (Addr × Obj)} {tk : Nat}
    (hrai : RaiT w mean mg mb A₀ base outer g s E) (T0 : KtsTurn (frs outer) g h₀) (T9 : KtsTurn (frs outer) h₀ h₀') (G9 : Gd w mean mg mb A₀ base outer h₀') (F9 : Fr h₀' L g' m) (Tp9 : TabSt pn) (R9 : RaisedS base g' (envOf name scope L a cd :: outer) e (.ref 114) t vs pn h') (U9 : g'.UpToSlots h') :
    wpAny M (A₀.deeper (envOf name scope L a cd)) (leaving (envOf name scope L a cd) (.ref e)) (fun _ s'' => E (.ref e) s'') E₂ { s with heap := h', toks := tk } :=
  leave_onS G9.B F9 R9 U9 fun h2 R2 _ U2 => hrai _ _ _ _ _ _ _ (T0.trans T9) G9 Tp9 R2 U2
/-- a place and a tuple of texts -/
noncomputable def KeyR (r : Option (Nat × List (List Nat))) (v : Value) (res : List (Addr × Obj)) : Prop := ∃ j ps a b t vs, r = some (j, ps) ∧ StrsAre vs ps ∧ v = .ref a ∧ res = [(a, tupO [.int (j : Int) t, .ref b]), (b, tupO vs)]
theorem news_two {h₀ h : Heap} {L : Addr} {p q : Addr × Obj} {pn : List (Addr × Obj)} (N : News h₀ L h (p :: q :: pn)) : News h₀ L h (p :: pn) := fun r hr => N r (by
  rcases List.mem_cons.mp hr with rfl | hr
  · exact .head _
  · exact .tail _ (.tail _ hr))
noncomputable def KeyI (w : World) (mean : ExcName → Option Value) (mg mb : Str → Option Value) (A : Around) (base : Heap) (l : List Env) (g : Heap) (s : Shared) (L : Addr) (x : Str) (t : Tok) (r : Option (Nat × List (List Nat))) (n : Nat) (s₁ : Shared) : Prop :=
  ∃ (i : Nat) (acc : List (List Nat)) (vs : List Value) (b : Addr) (g' h' : Heap) (tk : Nat) (m' : Str → Option Value) (pn : List (Addr × Obj)) (t2 : Tok),
    s₁ = { s with heap := h', toks := tk } ∧ KtsTurn (frs l) g g' ∧ Gd w mean mg mb A base l g' ∧ TabSt pn ∧ Fr g' L h' m' ∧ News g' L h' ((b, tupO vs) :: pn) ∧ m' (Str.ofString "src") = some (.str x t) ∧ m' (Str.ofString "pos") = some (.int (i : Int) t2) ∧ m' (Str.ofString "key") = some (.ref b) ∧
      vs ≠ [] ∧ StrsAre vs acc ∧ i ≤ (tl x).length ∧ acc.length ≤ i ∧ pkl (tl x) n i acc = some r
set_option maxHeartbeats 4000000 in
theorem c_key (w : World) (x : Str) (t t1 : Tok) (i n : Nat) (r : Option (Nat × List (List Nat))) (p : Int) (hp : p = (i : Int)) (hx : x.length ≤ 900) (hi : i ≤ x.length) (hA : ∀ c ∈ tl x, c ∈ alph) (hr : pk (tl x) n i = some r) :
    ConT w 80 800 138 [.str x t, .int p t1] [] (fun _ => True) (KeyR r) (r = none) := by
  subst hp
  have hx4 : x.length ≤ 4000 := by omega
  obtain ⟨hq, hnone, hsome⟩ := pk_some hr
  intro mean mg mb dp un gd l base g s Q E pn G O hd hu _ Tp N hret hrai
  obtain ⟨B, X, T, S, D, XB, TB, SB⟩ := G
  ((have fill : (KF w.params).In g → PySem.Challenge.rw_ij0142_01.row.prog = PySem.Challenge.rw_ij0142_01.row.prog → True := by (k_fill; intros; trivial)); clear fill; k_with_none)
  k_with "noteFrame ref" => (k_here; (rename Heap.NewExc _ _ _ _ => nx'); (with_reducible rename Below _ _ _ _ => kB'); k_dflt (refine' caught_here (T' := "IndexError") nx' (by assumption) (by assumption) kB' XB TB (by assumption) T0 (by k_is) PyProof.Rows.Boot.«IndexError» (by decide) PySem.F.isExc_IndexError PySem.F.notTuple_IndexError (by kts_sub) ?_); k_whole; clear T0; intro h' g' T0 F' N' K' X' P' D'; (have S' := SB.keeps (Below.stays K')); (have Sc' := SetsF.ctl S'); (have Sw' := SetsF.ws S'); (have Sb' := SetsF.bare S'); (try k_lift K'); (try k_sweep))
  k_with "exec While Constant cons nil" => (refine blk ?_)
  k_with "call ref" => (refine blk ?_)
  k_with "call ref" => k_dflt ((first | (refine' call_t2 (rest := []) (c_part w x _ _ i _ rfl hx4 hi hA hq) (by assumption) (by assumption) Tp (by exact rfl) (by exact rfl) (by assumption) (by assumption) (by assumption) (by assumption) (by assumption) XB TB SB (by (repeat' (first | exact List.forall_mem_nil _ | refine List.forall_mem_cons.mpr ⟨rfl, ?_⟩))) (by (first | exact lt_hd1 hd rfl | exact lt_hd hd rfl | (have hd9 := hd; (try dsimp only [Ar]); omega))) (by (first | exact lt_hd1 hu rfl | exact lt_hd hu rfl | (have hu9 := hu; (try dsimp only [Ar]); omega))) trivial ?_ (fun hX9 e9 t9 vs9 g9 h9 h9' tk9 pn9 T9 G9 F9 Tp9 R9 U9 => pass_err (hrai (hnone hX9)) T0 T9 G9 F9 Tp9 R9 U9))); (intro v' res' h₀' h' tk' pn' hr' T0' G' F' Tp' N' hne'; (try simp only [List.cons_append, List.nil_append] at N'); (replace T0 := KtsTurn.trans T0 T0'); (clear T0'); (clear Tp); (rename TabSt _ => Tp); (obtain ⟨B', X', T', S', D', -, -, -⟩ := G'); (have Sc' := SetsF.ctl S'); (have Sw' := SetsF.ws S'); (have Sb' := SetsF.bare S')); (obtain ⟨j', cs', hj', a', u', u2', rfl, rfl⟩ := hr'); (try simp only [List.cons_append, List.nil_append] at N'); (have hjl := pkp_le hq hj'); (try dsimp only))
  k_with "call ref" => k_dflt ((first | (refine' call_t2 (rest := []) (c_skip w x _ _ _ _ rfl 85 wsL 2 (fun _ S => S.ws) (by decide) hx4 (le_size hjl.2)) (by assumption) (by assumption) Tp (by exact rfl) (by exact rfl) (by assumption) (by assumption) (by assumption) (by assumption) (by assumption) XB TB SB (by (repeat' (first | exact List.forall_mem_nil _ | refine List.forall_mem_cons.mpr ⟨rfl, ?_⟩))) (by (first | exact lt_hd1 hd rfl | exact lt_hd hd rfl | (have hd9 := hd; (try dsimp only [Ar]); omega))) (by (first | exact lt_hd1 hu rfl | exact lt_hd hu rfl | (have hu9 := hu; (try dsimp only [Ar]); omega))) trivial ?_ (fun q => q.elim)) | (refine' call_t2 (rest := [_]) (c_skip w x _ _ _ _ rfl 85 wsL 2 (fun _ S => S.ws) (by decide) hx4 (le_size hjl.2)) (by assumption) (by assumption) Tp (by exact rfl) (by exact rfl) (by assumption) (by assumption) (by assumption) (by assumption) (by assumption) XB TB SB (by (repeat' (first | exact List.forall_mem_nil _ | refine List.forall_mem_cons.mpr ⟨rfl, ?_⟩))) (by (first | exact lt_hd1 hd rfl | exact lt_hd hd rfl | (have hd9 := hd; (try dsimp only [Ar]); omega))) (by (first | exact lt_hd1 hu rfl | exact lt_hd hu rfl | (have hu9 := hu; (try dsimp only [Ar]); omega))) trivial ?_ (fun q => q.elim)) | (refine' call_t2 (rest := [_, _]) (c_skip w x _ _ _ _ rfl 85 wsL 2 (fun _ S => S.ws) (by decide) hx4 (le_size hjl.2)) (by assumption) (by assumption) Tp (by exact rfl) (by exact rfl) (by assumption) (by assumption) (by assumption) (by assumption) (by assumption) XB TB SB (by (repeat' (first | exact List.forall_mem_nil _ | refine List.forall_mem_cons.mpr ⟨rfl, ?_⟩))) (by (first | exact lt_hd1 hd rfl | exact lt_hd hd rfl | (have hd9 := hd; (try dsimp only [Ar]); omega))) (by (first | exact lt_hd1 hu rfl | exact lt_hd hu rfl | (have hu9 := hu; (try dsimp only [Ar]); omega))) trivial ?_ (fun q => q.elim)) | (refine' call_t2 (rest := [_, _, _]) (c_skip w x _ _ _ _ rfl 85 wsL 2 (fun _ S => S.ws) (by decide) hx4 (le_size hjl.2)) (by assumption) (by assumption) Tp (by exact rfl) (by exact rfl) (by assumption) (by assumption) (by assumption) (by assumption) (by assumption) XB TB SB (by (repeat' (first | exact List.forall_mem_nil _ | refine List.forall_mem_cons.mpr ⟨rfl, ?_⟩))) (by (first | exact lt_hd1 hd rfl | exact lt_hd hd rfl | (have hd9 := hd; (try dsimp only [Ar]); omega))) (by (first | exact lt_hd1 hu rfl | exact lt_hd hu rfl | (have hu9 := hu; (try dsimp only [Ar]); omega))) trivial ?_ (fun q => q.elim)) | (refine' call_t2 (rest := [_, _, _, _]) (c_skip w x _ _ _ _ rfl 85 wsL 2 (fun _ S => S.ws) (by decide) hx4 (le_size hjl.2)) (by assumption) (by assumption) Tp (by exact rfl) (by exact rfl) (by assumption) (by assumption) (by assumption) (by assumption) (by assumption) XB TB SB (by (repeat' (first | exact List.forall_mem_nil _ | refine List.forall_mem_cons.mpr ⟨rfl, ?_⟩))) (by (first | exact lt_hd1 hd rfl | exact lt_hd hd rfl | (have hd9 := hd; (try dsimp only [Ar]); omega))) (by (first | exact lt_hd1 hu rfl | exact lt_hd hu rfl | (have hu9 := hu; (try dsimp only [Ar]); omega))) trivial ?_ (fun q => q.elim)) | (refine' call_t2 (rest := [_, _, _, _, _]) (c_skip w x _ _ _ _ rfl 85 wsL 2 (fun _ S => S.ws) (by decide) hx4 (le_size hjl.2)) (by assumption) (by assumption) Tp (by exact rfl) (by exact rfl) (by assumption) (by assumption) (by assumption) (by assumption) (by assumption) XB TB SB (by (repeat' (first | exact List.forall_mem_nil _ | refine List.forall_mem_cons.mpr ⟨rfl, ?_⟩))) (by (first | exact lt_hd1 hd rfl | exact lt_hd hd rfl | (have hd9 := hd; (try dsimp only [Ar]); omega))) (by (first | exact lt_hd1 hu rfl | exact lt_hd hu rfl | (have hu9 := hu; (try dsimp only [Ar]); omega))) trivial ?_ (fun q => q.elim))); (intro v' res' h₀' h' tk' pn' hr' T0' G' F' Tp' N' hne'; (try simp only [List.cons_append, List.nil_append] at N'); (replace T0 := KtsTurn.trans T0 T0'); (clear T0'); (clear Tp); (rename TabSt _ => Tp); (obtain ⟨B', X', T', S', D', -, -, -⟩ := G'); (have Sc' := SetsF.ctl S'); (have Sw' := SetsF.ws S'); (have Sb' := SetsF.bare S')); (obtain ⟨rfl, u3', rfl⟩ := hr'); (try simp only [List.cons_append, List.nil_append] at N'); (try dsimp only))
  ((have Sc := SetsF.ctl S); (have Sw := SetsF.ws S); (have Sb := SetsF.bare S); refine wpAny_call ?_; k_dflt (refine' enter ⟨B, X, T, S, D, XB, TB, SB⟩ O N ?k6 ?k7 ?k8 ?k9 ?kB ?_ ?c2 ?c3 ?c4 ?c5; (case k6 => k_is); (case k7 => k_is); (case k8 => exact Nat.lt_of_le_of_lt (Nat.le_add_right _ _) hd); (case k9 => first | exact binds_K (by k_in) rfl (by k_is) rfl rfl rfl | exact BindsTo.of_eq rfl | fail "m_enter: no rule for these arguments"); (case kB => exact locs rfl); (case c2 => exact rfl); (case c3 => exact rfl); (case c4 => exact rfl); (case c5 => decide); k_whole; intro L' h' F' N' lL'; (have T0 : KtsTurn (frs l) g g := KtsTurn.refl); (try dsimp only); (try k_fold)))
  k_steps
  unfold Blk
  refine while_I (KeyI w mean mg mb (Ar dp un gd l) base l g s L' x t r) n ⟨_, [cs'], _, _, _, _, _, _, _, _, rfl, T0, ⟨by assumption, by assumption, by assumption, by assumption, by assumption, XB, TB, SB⟩, Tp, by assumption, news_two (by assumption), rfl, rfl, rfl, (by nofun), StrsAre.one _ _, runS_le hjl.2, ?_, hsome _ _ hj'⟩ ?_
  · have h1 : j' ≤ runS wsC (tl x) j' := runS_ge
    show 1 ≤ _
    omega
  clear T0 Tp
  rintro n₁ s₁ ⟨i₁, acc, vs, b, g₁, h₁, tk₁, m₁, pn₁, t2, rfl, T0, ⟨B', X', T', S', D', -, -, -⟩, Tp, F₁, N', e1, e2, e3, hvn, hst, hil, hac, hpk⟩
  have F' := fr3 F₁ e1 e2 e3
  clear F₁
  have hvl : vs.length ≤ 900 := by rw [hst.length]; rw [len_tl] at hx; omega
  have hil' : i₁ ≤ x.length := by rw [len_tl]; exact hil
  have Sc' := SetsF.ctl S'
  have Sw' := SetsF.ws S'
  have Sb' := SetsF.bare S'
  cases n₁ with
  | zero => exact absurd hpk (by simp [pkl])
  | succ n₁ =>
  k_with "call ref" => (refine blk ?_)
  k_with "call ref" => k_dflt ((have hd9 := dot_at (by assumption) (by assumption)); k_dflt ((first | (refine' call_t2 (rest := []) (c_skip w x _ _ (i₁ + 1) _ (by omega) 85 wsL 2 (fun _ S => S.ws) (by decide) hx4 (le_size hd9.2)) (by assumption) (by assumption) Tp (by exact rfl) (by exact rfl) (by assumption) (by assumption) (by assumption) (by assumption) (by assumption) XB TB SB (by (repeat' (first | exact List.forall_mem_nil _ | refine List.forall_mem_cons.mpr ⟨rfl, ?_⟩))) (by (first | exact lt_hd1 hd rfl | exact lt_hd hd rfl | (have hd9 := hd; (try dsimp only [Ar]); omega))) (by (first | exact lt_hd1 hu rfl | exact lt_hd hu rfl | (have hu9 := hu; (try dsimp only [Ar]); omega))) trivial ?_ (fun q => q.elim)) | (refine' call_t2 (rest := [_]) (c_skip w x _ _ (i₁ + 1) _ (by omega) 85 wsL 2 (fun _ S => S.ws) (by decide) hx4 (le_size hd9.2)) (by assumption) (by assumption) Tp (by exact rfl) (by exact rfl) (by assumption) (by assumption) (by assumption) (by assumption) (by assumption) XB TB SB (by (repeat' (first | exact List.forall_mem_nil _ | refine List.forall_mem_cons.mpr ⟨rfl, ?_⟩))) (by (first | exact lt_hd1 hd rfl | exact lt_hd hd rfl | (have hd9 := hd; (try dsimp only [Ar]); omega))) (by (first | exact lt_hd1 hu rfl | exact lt_hd hu rfl | (have hu9 := hu; (try dsimp only [Ar]); omega))) trivial ?_ (fun q => q.elim)) | (refine' call_t2 (rest := [_, _]) (c_skip w x _ _ (i₁ + 1) _ (by omega) 85 wsL 2 (fun _ S => S.ws) (by decide) hx4 (le_size hd9.2)) (by assumption) (by assumption) Tp (by exact rfl) (by exact rfl) (by assumption) (by assumption) (by assumption) (by assumption) (by assumption) XB TB SB (by (repeat' (first | exact List.forall_mem_nil _ | refine List.forall_mem_cons.mpr ⟨rfl, ?_⟩))) (by (first | exact lt_hd1 hd rfl | exact lt_hd hd rfl | (have hd9 := hd; (try dsimp only [Ar]); omega))) (by (first | exact lt_hd1 hu rfl | exact lt_hd hu rfl | (have hu9 := hu; (try dsimp only [Ar]); omega))) trivial ?_ (fun q => q.elim)) | (refine' call_t2 (rest := [_, _, _]) (c_skip w x _ _ (i₁ + 1) _ (by omega) 85 wsL 2 (fun _ S => S.ws) (by decide) hx4 (le_size hd9.2)) (by assumption) (by assumption) Tp (by exact rfl) (by exact rfl) (by assumption) (by assumption) (by assumption) (by assumption) (by assumption) XB TB SB (by (repeat' (first | exact List.forall_mem_nil _ | refine List.forall_mem_cons.mpr ⟨rfl, ?_⟩))) (by (first | exact lt_hd1 hd rfl | exact lt_hd hd rfl | (have hd9 := hd; (try dsimp only [Ar]); omega))) (by (first | exact lt_hd1 hu rfl | exact lt_hd hu rfl | (have hu9 := hu; (try dsimp only [Ar]); omega))) trivial ?_ (fun q => q.elim)) | (refine' call_t2 (rest := [_, _, _, _]) (c_skip w x _ _ (i₁ + 1) _ (by omega) 85 wsL 2 (fun _ S => S.ws) (by decide) hx4 (le_size hd9.2)) (by assumption) (by assumption) Tp (by exact rfl) (by exact rfl) (by assumption) (by assumption) (by assumption) (by assumption) (by assumption) XB TB SB (by (repeat' (first | exact List.forall_mem_nil _ | refine List.forall_mem_cons.mpr ⟨rfl, ?_⟩))) (by (first | exact lt_hd1 hd rfl | exact lt_hd hd rfl | (have hd9 := hd; (try dsimp only [Ar]); omega))) (by (first | exact lt_hd1 hu rfl | exact lt_hd hu rfl | (have hu9 := hu; (try dsimp only [Ar]); omega))) trivial ?_ (fun q => q.elim)) | (refine' call_t2 (rest := [_, _, _, _, _]) (c_skip w x _ _ (i₁ + 1) _ (by omega) 85 wsL 2 (fun _ S => S.ws) (by decide) hx4 (le_size hd9.2)) (by assumption) (by assumption) Tp (by exact rfl) (by exact rfl) (by assumption) (by assumption) (by assumption) (by assumption) (by assumption) XB TB SB (by (repeat' (first | exact List.forall_mem_nil _ | refine List.forall_mem_cons.mpr ⟨rfl, ?_⟩))) (by (first | exact lt_hd1 hd rfl | exact lt_hd hd rfl | (have hd9 := hd; (try dsimp only [Ar]); omega))) (by (first | exact lt_hd1 hu rfl | exact lt_hd hu rfl | (have hu9 := hu; (try dsimp only [Ar]); omega))) trivial ?_ (fun q => q.elim))); (intro v' res' h₀' h' tk' pn' hr' T0' G' F' Tp' N' hne'; (try simp only [List.cons_append, List.nil_append] at N'); (replace T0 := KtsTurn.trans T0 T0'); (clear T0'); (clear Tp); (rename TabSt _ => Tp); (obtain ⟨B', X', T', S', D', -, -, -⟩ := G'); (have Sc' := SetsF.ctl S'); (have Sw' := SetsF.ws S'); (have Sb' := SetsF.bare S')); (obtain ⟨rfl, u3', rfl⟩ := hr'); (try simp only [List.cons_append, List.nil_append] at N'); (try dsimp only)))
  k_with "call ref" => k_dflt ((first | (refine' call_t2 (rest := []) (c_part w x _ _ (runS wsC (tl x) (i₁ + 1)) _ rfl hx4 (by rw [len_tl]; exact runS_le hd9.2) hA (pkl_step hpk hd9.1).1) (by assumption) (by assumption) Tp (by exact rfl) (by exact rfl) (by assumption) (by assumption) (by assumption) (by assumption) (by assumption) XB TB SB (by (repeat' (first | exact List.forall_mem_nil _ | refine List.forall_mem_cons.mpr ⟨rfl, ?_⟩))) (by (first | exact lt_hd1 hd rfl | exact lt_hd hd rfl | (have hd9 := hd; (try dsimp only [Ar]); omega))) (by (first | exact lt_hd1 hu rfl | exact lt_hd hu rfl | (have hu9 := hu; (try dsimp only [Ar]); omega))) trivial ?_ (fun hX9 e9 t9 vs9 g9 h9 h9' tk9 pn9 T9 G9 F9 Tp9 R9 U9 => pass_err (hrai ((pkl_step hpk hd9.1).2.1 hX9)) T0 T9 G9 F9 Tp9 R9 U9)) | (refine' call_t2 (rest := [_]) (c_part w x _ _ (runS wsC (tl x) (i₁ + 1)) _ rfl hx4 (by rw [len_tl]; exact runS_le hd9.2) hA (pkl_step hpk hd9.1).1) (by assumption) (by assumption) Tp (by exact rfl) (by exact rfl) (by assumption) (by assumption) (by assumption) (by assumption) (by assumption) XB TB SB (by (repeat' (first | exact List.forall_mem_nil _ | refine List.forall_mem_cons.mpr ⟨rfl, ?_⟩))) (by (first | exact lt_hd1 hd rfl | exact lt_hd hd rfl | (have hd9 := hd; (try dsimp only [Ar]); omega))) (by (first | exact lt_hd1 hu rfl | exact lt_hd hu rfl | (have hu9 := hu; (try dsimp only [Ar]); omega))) trivial ?_ (fun hX9 e9 t9 vs9 g9 h9 h9' tk9 pn9 T9 G9 F9 Tp9 R9 U9 => pass_err (hrai ((pkl_step hpk hd9.1).2.1 hX9)) T0 T9 G9 F9 Tp9 R9 U9)) | (refine' call_t2 (rest := [_, _]) (c_part w x _ _ (runS wsC (tl x) (i₁ + 1)) _ rfl hx4 (by rw [len_tl]; exact runS_le hd9.2) hA (pkl_step hpk hd9.1).1) (by assumption) (by assumption) Tp (by exact rfl) (by exact rfl) (by assumption) (by assumption) (by assumption) (by assumption) (by assumption) XB TB SB (by (repeat' (first | exact List.forall_mem_nil _ | refine List.forall_mem_cons.mpr ⟨rfl, ?_⟩))) (by (first | exact lt_hd1 hd rfl | exact lt_hd hd rfl | (have hd9 := hd; (try dsimp only [Ar]); omega))) (by (first | exact lt_hd1 hu rfl | exact lt_hd hu rfl | (have hu9 := hu; (try dsimp only [Ar]); omega))) trivial ?_ (fun hX9 e9 t9 vs9 g9 h9 h9' tk9 pn9 T9 G9 F9 Tp9 R9 U9 => pass_err (hrai ((pkl_step hpk hd9.1).2.1 hX9)) T0 T9 G9 F9 Tp9 R9 U9)) | (refine' call_t2 (rest := [_, _, _]) (c_part w x _ _ (runS wsC (tl x) (i₁ + 1)) _ rfl hx4 (by rw [len_tl]; exact runS_le hd9.2) hA (pkl_step hpk hd9.1).1) (by assumption) (by assumption) Tp (by exact rfl) (by exact rfl) (by assumption) (by assumption) (by assumption) (by assumption) (by assumption) XB TB SB (by (repeat' (first | exact List.forall_mem_nil _ | refine List.forall_mem_cons.mpr ⟨rfl, ?_⟩))) (by (first | exact lt_hd1 hd rfl | exact lt_hd hd rfl | (have hd9 := hd; (try dsimp only [Ar]); omega))) (by (first | exact lt_hd1 hu rfl | exact lt_hd hu rfl | (have hu9 := hu; (try dsimp only [Ar]); omega))) trivial ?_ (fun hX9 e9 t9 vs9 g9 h9 h9' tk9 pn9 T9 G9 F9 Tp9 R9 U9 => pass_err (hrai ((pkl_step hpk hd9.1).2.1 hX9)) T0 T9 G9 F9 Tp9 R9 U9)) | (refine' call_t2 (rest := [_, _, _, _]) (c_part w x _ _ (runS wsC (tl x) (i₁ + 1)) _ rfl hx4 (by rw [len_tl]; exact runS_le hd9.2) hA (pkl_step hpk hd9.1).1) (by assumption) (by assumption) Tp (by exact rfl) (by exact rfl) (by assumption) (by assumption) (by assumption) (by assumption) (by assumption) XB TB SB (by (repeat' (first | exact List.forall_mem_nil _ | refine List.forall_mem_cons.mpr ⟨rfl, ?_⟩))) (by (first | exact lt_hd1 hd rfl | exact lt_hd hd rfl | (have hd9 := hd; (try dsimp only [Ar]); omega))) (by (first | exact lt_hd1 hu rfl | exact lt_hd hu rfl | (have hu9 := hu; (try dsimp only [Ar]); omega))) trivial ?_ (fun hX9 e9 t9 vs9 g9 h9 h9' tk9 pn9 T9 G9 F9 Tp9 R9 U9 => pass_err (hrai ((pkl_step hpk hd9.1).2.1 hX9)) T0 T9 G9 F9 Tp9 R9 U9)) | (refine' call_t2 (rest := [_, _, _, _, _]) (c_part w x _ _ (runS wsC (tl x) (i₁ + 1)) _ rfl hx4 (by rw [len_tl]; exact runS_le hd9.2) hA (pkl_step hpk hd9.1).1) (by assumption) (by assumption) Tp (by exact rfl) (by exact rfl) (by assumption) (by assumption) (by assumption) (by assumption) (by assumption) XB TB SB (by (repeat' (first | exact List.forall_mem_nil _ | refine List.forall_mem_cons.mpr ⟨rfl, ?_⟩))) (by (first | exact lt_hd1 hd rfl | exact lt_hd hd rfl | (have hd9 := hd; (try dsimp only [Ar]); omega))) (by (first | exact lt_hd1 hu rfl | exact lt_hd hu rfl | (have hu9 := hu; (try dsimp only [Ar]); omega))) trivial ?_ (fun hX9 e9 t9 vs9 g9 h9 h9' tk9 pn9 T9 G9 F9 Tp9 R9 U9 => pass_err (hrai ((pkl_step hpk hd9.1).2.1 hX9)) T0 T9 G9 F9 Tp9 R9 U9))); (intro v' res' h₀' h' tk' pn' hr' T0' G' F' Tp' N' hne'; (try simp only [List.cons_append, List.nil_append] at N'); (replace T0 := KtsTurn.trans T0 T0'); (clear T0'); (clear Tp); (rename TabSt _ => Tp); (obtain ⟨B', X', T', S', D', -, -, -⟩ := G'); (have Sc' := SetsF.ctl S'); (have Sw' := SetsF.ws S'); (have Sb' := SetsF.bare S')); (obtain ⟨j2, cs2, hj2, a2', u4', u5', rfl, rfl⟩ := hr'); (try simp only [List.cons_append, List.nil_append] at N'); (have hj2l := pkp_le (pkl_step hpk hd9.1).1 hj2); (try dsimp only))
  k_with "call ref" => k_dflt ((first | (refine' call_t2 (rest := []) (c_skip w x _ _ j2 _ rfl 85 wsL 2 (fun _ S => S.ws) (by decide) hx4 (le_size hj2l.2)) (by assumption) (by assumption) Tp (by exact rfl) (by exact rfl) (by assumption) (by assumption) (by assumption) (by assumption) (by assumption) XB TB SB (by (repeat' (first | exact List.forall_mem_nil _ | refine List.forall_mem_cons.mpr ⟨rfl, ?_⟩))) (by (first | exact lt_hd1 hd rfl | exact lt_hd hd rfl | (have hd9 := hd; (try dsimp only [Ar]); omega))) (by (first | exact lt_hd1 hu rfl | exact lt_hd hu rfl | (have hu9 := hu; (try dsimp only [Ar]); omega))) trivial ?_ (fun q => q.elim)) | (refine' call_t2 (rest := [_]) (c_skip w x _ _ j2 _ rfl 85 wsL 2 (fun _ S => S.ws) (by decide) hx4 (le_size hj2l.2)) (by assumption) (by assumption) Tp (by exact rfl) (by exact rfl) (by assumption) (by assumption) (by assumption) (by assumption) (by assumption) XB TB SB (by (repeat' (first | exact List.forall_mem_nil _ | refine List.forall_mem_cons.mpr ⟨rfl, ?_⟩))) (by (first | exact lt_hd1 hd rfl | exact lt_hd hd rfl | (have hd9 := hd; (try dsimp only [Ar]); omega))) (by (first | exact lt_hd1 hu rfl | exact lt_hd hu rfl | (have hu9 := hu; (try dsimp only [Ar]); omega))) trivial ?_ (fun q => q.elim)) | (refine' call_t2 (rest := [_, _]) (c_skip w x _ _ j2 _ rfl 85 wsL 2 (fun _ S => S.ws) (by decide) hx4 (le_size hj2l.2)) (by assumption) (by assumption) Tp (by exact rfl) (by exact rfl) (by assumption) (by assumption) (by assumption) (by assumption) (by assumption) XB TB SB (by (repeat' (first | exact List.forall_mem_nil _ | refine List.forall_mem_cons.mpr ⟨rfl, ?_⟩))) (by (first | exact lt_hd1 hd rfl | exact lt_hd hd rfl | (have hd9 := hd; (try dsimp only [Ar]); omega))) (by (first | exact lt_hd1 hu rfl | exact lt_hd hu rfl | (have hu9 := hu; (try dsimp only [Ar]); omega))) trivial ?_ (fun q => q.elim)) | (refine' call_t2 (rest := [_, _, _]) (c_skip w x _ _ j2 _ rfl 85 wsL 2 (fun _ S => S.ws) (by decide) hx4 (le_size hj2l.2)) (by assumption) (by assumption) Tp (by exact rfl) (by exact rfl) (by assumption) (by assumption) (by assumption) (by assumption) (by assumption) XB TB SB (by (repeat' (first | exact List.forall_mem_nil _ | refine List.forall_mem_cons.mpr ⟨rfl, ?_⟩))) (by (first | exact lt_hd1 hd rfl | exact lt_hd hd rfl | (have hd9 := hd; (try dsimp only [Ar]); omega))) (by (first | exact lt_hd1 hu rfl | exact lt_hd hu rfl | (have hu9 := hu; (try dsimp only [Ar]); omega))) trivial ?_ (fun q => q.elim)) | (refine' call_t2 (rest := [_, _, _, _]) (c_skip w x _ _ j2 _ rfl 85 wsL 2 (fun _ S => S.ws) (by decide) hx4 (le_size hj2l.2)) (by assumption) (by assumption) Tp (by exact rfl) (by exact rfl) (by assumption) (by assumption) (by assumption) (by assumption) (by assumption) XB TB SB (by (repeat' (first | exact List.forall_mem_nil _ | refine List.forall_mem_cons.mpr ⟨rfl, ?_⟩))) (by (first | exact lt_hd1 hd rfl | exact lt_hd hd rfl | (have hd9 := hd; (try dsimp only [Ar]); omega))) (by (first | exact lt_hd1 hu rfl | exact lt_hd hu rfl | (have hu9 := hu; (try dsimp only [Ar]); omega))) trivial ?_ (fun q => q.elim)) | (refine' call_t2 (rest := [_, _, _, _, _]) (c_skip w x _ _ j2 _ rfl 85 wsL 2 (fun _ S => S.ws) (by decide) hx4 (le_size hj2l.2)) (by assumption) (by assumption) Tp (by exact rfl) (by exact rfl) (by assumption) (by assumption) (by assumption) (by assumption) (by assumption) XB TB SB (by (repeat' (first | exact List.forall_mem_nil _ | refine List.forall_mem_cons.mpr ⟨rfl, ?_⟩))) (by (first | exact lt_hd1 hd rfl | exact lt_hd hd rfl | (have hd9 := hd; (try dsimp only [Ar]); omega))) (by (first | exact lt_hd1 hu rfl | exact lt_hd hu rfl | (have hu9 := hu; (try dsimp only [Ar]); omega))) trivial ?_ (fun q => q.elim))); (intro v' res' h₀' h' tk' pn' hr' T0' G' F' Tp' N' hne'; (try simp only [List.cons_append, List.nil_append] at N'); (replace T0 := KtsTurn.trans T0 T0'); (clear T0'); (clear Tp); (rename TabSt _ => Tp); (obtain ⟨B', X', T', S', D', -, -, -⟩ := G'); (have Sc' := SetsF.ctl S'); (have Sw' := SetsF.ws S'); (have Sb' := SetsF.bare S')); (obtain ⟨rfl, u6', rfl⟩ := hr'); (try simp only [List.cons_append, List.nil_append] at N'); (try dsimp only))
  k_with "call builtin:len" => k_dflt (refine' len_tup (k := (vs.length : Int) + 1) (by assumption) (by k_mem) (by simp) (by omega) ?_)
  k_with "inplaceOp Add ref ref" => k_dflt ((refine' iadd_tups (by assumption) (by assumption) (by k_mem) (by k_mem) hvn (by nofun) (by rw [sizeLine_eq]; simp only [List.length_cons, List.length_nil]; omega) ?_); intro h' c' F' N')
  k_steps
  · exact out_t hret ⟨i₁, acc, _, b, t2, vs, pkl_end hpk (no_end (by assumption)), hst, rfl, rfl⟩ T0 (by assumption) (by assumption) (by assumption) (by assumption) XB TB SB Tp (by kcj_all) (fun _ hp => .tail _ (.tail _ hp))
  · exact out_t hret ⟨i₁, acc, _, b, t2, vs, pkl_end hpk (no_dot (by assumption) (by assumption)), hst, rfl, rfl⟩ T0 (by assumption) (by assumption) (by assumption) (by assumption) XB TB SB Tp (by kcj_all) (fun _ hp => .tail _ (.tail _ hp))
  refine ⟨n₁, Nat.lt_succ_self _, _, acc ++ [cs2], vs ++ [.str (sL cs2) u5'], c', _, _, _, _, pn', _, rfl, T0, ⟨by assumption, by assumption, by assumption, by assumption, by assumption, XB, TB, SB⟩, Tp, by assumption, cb_drop (by assumption) ?_, rfl, rfl, rfl, by simp, hst.snoc _ _, runS_le hj2l.2, ?_, (pkl_step hpk hd9.1).2.2 _ _ hj2⟩
  · intro p hp
    rcases List.mem_cons.mp hp with rfl | hp
    · exact .head _
    · exact .tail _ (.tail _ (.tail _ (.tail _ hp)))
  · have h1 : j2 ≤ runS wsC (tl x) j2 := runS_ge
    have h2 : i₁ + 1 ≤ runS wsC (tl x) (i₁ + 1) := runS_ge
    show _ ≤ runS wsC (tl x) j2
    rw [List.length_append, List.length_singleton]
    omega
end Mine
end
section
open PySem PySem.W PyProof.Rows PySem.Calls PySem.Spec
set_option maxRecDepth 100000
namespace Mine
noncomputable def ReadR (r : Option (Nat × List (List Nat))) (v : Value) (res : List (Addr × Obj)) : Prop := (r = none ∧ v = .none ∧ res = []) ∨ KeyR r v res
set_option maxHeartbeats 4000000 in
theorem c_read (w : World) (x : Str) (t t1 : Tok) (i n : Nat) (r : Option (Nat × List (List Nat))) (p : Int) (hp : p = (i : Int)) (hx : x.length ≤ 900) (hi : i ≤ x.length) (hA : ∀ c ∈ tl x, c ∈ alph) (hr : pk (tl x) n i = some r) :
    ConT w 100 1000 363 [.str x t, .int p t1] [] (fun _ => True) (ReadR r) False := by
  subst hp
  intro mean mg mb dp un gd l base g s Q E pn G O hd hu _ Tp N hret _
  obtain ⟨B, X, T, S, D, XB, TB, SB⟩ := G
  ((have fill : (KF w.params).In g → PySem.Challenge.rw_ij0142_01.row.prog = PySem.Challenge.rw_ij0142_01.row.prog → True := by (k_fill; intros; trivial)); clear fill; k_with_none)
  k_with "call ref" => (refine blk ?_)
  k_with "call ref" => k_dflt ((first | (refine' call_t2 (rest := []) (c_key w x _ _ i n r _ rfl hx hi hA hr) (by assumption) (by assumption) Tp (by exact rfl) (by exact rfl) (by assumption) (by assumption) (by assumption) (by assumption) (by assumption) XB TB SB (by (repeat' (first | exact List.forall_mem_nil _ | refine List.forall_mem_cons.mpr ⟨rfl, ?_⟩))) (by (first | exact lt_hd1 hd rfl | exact lt_hd hd rfl | (have hd9 := hd; (try dsimp only [Ar]); omega))) (by (first | exact lt_hd1 hu rfl | exact lt_hd hu rfl | (have hu9 := hu; (try dsimp only [Ar]); omega))) trivial ?_ ?_)); (intro v' res' h₀' h' tk' pn' hr' T0' G' F' Tp' N' hne'; (try simp only [List.cons_append, List.nil_append] at N'); (replace T0 := KtsTurn.trans T0 T0'); (clear T0'); (clear Tp); (rename TabSt _ => Tp); (obtain ⟨B', X', T', S', D', -, -, -⟩ := G'); (have Sc' := SetsF.ctl S'); (have Sw' := SetsF.ws S'); (have Sb' := SetsF.bare S')); (obtain ⟨j', ps', a', b', u', vs', hr9, hst, rfl, rfl⟩ := hr'); (try simp only [List.cons_append, List.nil_append] at N'); (try dsimp only); rotate_left; (intro hX9 e9 t9 vs9 g9 h9 h9' tk9 pn9 T9 G9 F9 Tp9 R9 U9; (try dsimp only); (refine' caught_SO0 R9 F9 G9.B U9 XB TB G9.D (T0.trans T9) (by k_is) (by kts_isx) ?_); (clear T0 Tp N); (intro h' g' n₂ T0 F' N₂ G' N' K' X' P' D'); (have Tp := Tp9)); rotate_left)
  ((have Sc := SetsF.ctl S); (have Sw := SetsF.ws S); (have Sb := SetsF.bare S); refine wpAny_call ?_; k_dflt (refine' enter ⟨B, X, T, S, D, XB, TB, SB⟩ O N ?k6 ?k7 ?k8 ?k9 ?kB ?_ ?c2 ?c3 ?c4 ?c5; (case k6 => k_is); (case k7 => k_is); (case k8 => exact Nat.lt_of_le_of_lt (Nat.le_add_right _ _) hd); (case k9 => first | exact binds_K (by k_in) rfl (by k_is) rfl rfl rfl | exact BindsTo.of_eq rfl | fail "m_enter: no rule for these arguments"); (case kB => exact locs rfl); (case c2 => exact rfl); (case c3 => exact rfl); (case c4 => exact rfl); (case c5 => decide); k_whole; intro L' h' F' N' lL'; (have T0 : KtsTurn (frs l) g g := KtsTurn.refl); (try dsimp only); (try k_fold)))
  k_steps
  · exact out_t hret (.inr ⟨_, _, _, _, _, _, hr9, hst, rfl, rfl⟩) T0 (by assumption) (by assumption) (by assumption) (by assumption) XB TB SB Tp (by kcj_all) (fun _ hp => .tail _ (.tail _ hp))
  · exact out_t hret (.inl ⟨hX9, rfl, rfl⟩) T0 (by assumption) (by assumption) (by assumption) (by assumption) XB TB SB Tp (fun _ hp => nomatch hp) (fun _ hp => hp)
end Mine
end
section
open PySem PySem.W PyProof.Rows PySem.Calls PySem.Spec
namespace Mine
noncomputable def sp (c : Nat) : Bool := c == 32
noncomputable def abh (c : Nat) : Bool := (⟨#[97, 98, 45]⟩ : Str).cps.contains c
/-- one word of what parse_key should read: what is ahead of the part, the part, what is left -/
noncomputable def dueRest (parts : List (List Nat)) (w : List Nat) : List Nat := if parts = [] then w else w.dropWhile sp
noncomputable def dueBehind (parts : List (List Nat)) (w : List Nat) : List Nat := (dueRest parts w).dropWhile abh
noncomputable def duePart (parts : List (List Nat)) (w : List Nat) : List Nat := (dueRest parts w).take ((dueRest parts w).length - (dueBehind parts w).length)
noncomputable def dueLeft (parts : List (List Nat)) (w : List Nat) : List Nat := (dueBehind parts w).dropWhile sp
noncomputable def dueL : List (List Nat) → Nat → List (List Nat) → Option (Nat × List (List Nat))
  | [], place, parts => some (place - 1, parts)
  | w :: ws, place, parts => if dueBehind parts w = dueRest parts w then none else if dueLeft parts w ≠ [] then some (place + w.length - (dueLeft parts w).length, parts ++ [duePart parts w]) else dueL ws (place + w.length + 1) (parts ++ [duePart parts w])
theorem StrsAre.at {vs : List Value} {ws : List (List Nat)} {i : Nat} {v : Value} (h : Mine.StrsAre vs ws) (hv : vs[i]? = some v) : ∃ w t, ws[i]? = some w ∧ v = .str (sL w) t := by
  unfold Mine.StrsAre at h
  have h1 : (vs.map valStr)[i]? = some (valStr v) := by rw [List.getElem?_map, hv]; rfl
  rw [h, List.getElem?_map] at h1
  cases hw : ws[i]? with
  | none => rw [hw] at h1; cases h1
  | some w =>
    rw [hw] at h1
    have h1 := Option.some.inj h1
    cases v with
    | str x t => exact ⟨w, t, rfl, by rw [Option.some.inj h1, sL_tl]⟩
    | _ => cases h1
theorem due_end {ws : List (List Nat)} {place i : Nat} {parts : List (List Nat)} (h : ws[i]? = none) : dueL (ws.drop i) place parts = some (place - 1, parts) := by
  rw [List.drop_eq_nil_of_le (List.getElem?_eq_none_iff.mp h)]; rfl
theorem due_at {ws : List (List Nat)} {w : List Nat} {place i : Nat} {parts : List (List Nat)} (h : ws[i]? = some w) : dueL (ws.drop i) place parts = if dueBehind parts w = dueRest parts w then none else if dueLeft parts w ≠ [] then some (place + w.length - (dueLeft parts w).length, parts ++ [duePart parts w]) else dueL (ws.drop (i + 1)) (place + w.length + 1) (parts ++ [duePart parts w]) := by
  obtain ⟨hl, rfl⟩ := List.getElem?_eq_some_iff.mp h
  rw [List.drop_eq_getElem_cons hl, dueL]
section
variable {prog : Program} {w : World} {A : Around} {E : Value → Shared → Prop} {s : Shared} {h₀ : Heap} {L D : Addr} {m : Str → Option Value} {news rest : List (Addr × Obj)} {vs : List Value} {n : Nat} {y : Value} {l : List Nat} {t u : Tok} {Q : Value → Shared → Prop}
theorem lstrip_sp (hl : l.length ≤ 900) (h : ∀ t' k, (sL (l.dropWhile sp)).length ≤ 900 → Q (.str (sL (l.dropWhile sp)) t') { s with toks := k }) : wpAny (model prog w) A (call (.builtin "str.lstrip") [.str (sL l) t, .str (Str.ofString " ") u]) Q E s := by
  refine SC.lstripChars (hsz := by rw [len_sL, sizeLine_eq]; omega) fun t' k => ?_
  rw [show Txt.lstripChars (sL l) (Str.ofString " ") = sL (l.dropWhile sp) from lstrip_one (sL l) 32]
  exact h t' k (by rw [len_sL]; exact Nat.le_trans (List.dropWhile_sublist sp).length_le hl)
theorem lstrip_ab (hl : l.length ≤ 900) (h : ∀ t' k, (sL (l.dropWhile abh)).length ≤ 900 → Q (.str (sL (l.dropWhile abh)) t') { s with toks := k }) : wpAny (model prog w) A (call (.builtin "str.lstrip") [.str (sL l) t, .str (Str.ofString "ab-") u]) Q E s := by
  refine SC.lstripChars (hsz := by rw [len_sL, sizeLine_eq]; omega) fun t' k => ?_
  rw [show Txt.lstripChars (sL l) (Str.ofString "ab-") = sL (l.dropWhile abh) from strip_l (sL l) abh]
  exact h t' k (by rw [len_sL]; exact Nat.le_trans (List.dropWhile_sublist abh).length_le hl)
theorem append2 (F : Fr h₀ L s.heap m) (N : News h₀ L s.heap news) (hD : (D, listOf vs.toArray n) ∈ news) (hrest : ∀ p ∈ rest, p ∈ news) (hcls : ∀ p ∈ rest, p.2.cls ≠ .type "list") (hz : vs.length ≤ 4000)
    (h : ∀ h', Fr h₀ L h' m → News h₀ L h' ((D, listOf (vs ++ [y]).toArray (n + 1)) :: rest) → Q .none { s with heap := h' }) : wpAny (model prog w) A (call (.builtin "list.append") [.ref D, y]) Q E s := by
  have off : ∀ p ∈ rest, p.1 ≠ D := fun p hp q => by
    have h1 := (N p (hrest p hp)).1
    have h2 := (N _ hD).1
    rw [q, h2] at h1
    exact hcls p hp (by rw [← Option.some.inj h1])
  have N₂ : News h₀ L s.heap ((D, listOf vs.toArray n) :: rest) := fun p hp => by
    rcases List.mem_cons.mp hp with rfl | hp
    · exact N _ hD
    · exact N p (hrest p hp)
  have e : vs.toArray.push y = (vs ++ [y]).toArray := by simp
  exact append_K (hsz := by rw [sizeLine_eq, List.size_toArray]; omega) F N₂ (Upd.head off) (by rw [e]; exact h)
end
section
variable {ws : List (List Nat)} {wd R : List Nat} {i place : Nat} {acc : List (List Nat)} {r : Option (Nat × List (List Nat))}
theorem due_none (hw : ws[i]? = some wd) (hR : dueRest acc wd = R) (hdu : dueL (ws.drop i) place acc = r) (h : (sL (R.dropWhile abh) == sL R) = true) : r = none := by
  rw [due_at hw] at hdu
  have : dueBehind acc wd = dueRest acc wd := by unfold dueBehind; rw [hR]; exact sL_inj.mp (eq_of_beq h)
  rw [if_pos this] at hdu
  exact hdu.symm
theorem due_ret (hw : ws[i]? = some wd) (hR : dueRest acc wd = R) (hdu : dueL (ws.drop i) place acc = r) (h : (sL (R.dropWhile abh) == sL R) = false) (h2 : (sL ((R.dropWhile abh).dropWhile sp) != Str.ofString "") = true) :
    r = some (place + wd.length - ((R.dropWhile abh).dropWhile sp).length, acc ++ [R.take (R.length - (R.dropWhile abh).length)]) := by
  rw [due_at hw] at hdu
  have h1 : dueBehind acc wd ≠ dueRest acc wd := by
    unfold dueBehind; rw [hR]; intro q; rw [q] at h; simp at h
  have h3 : dueLeft acc wd ≠ [] := by
    unfold dueLeft dueBehind; rw [hR]; intro q; rw [q] at h2; exact absurd h2 (by decide)
  rw [if_neg h1, if_pos h3] at hdu
  rw [← hdu]
  unfold dueLeft duePart dueBehind
  rw [hR]
theorem due_next (hw : ws[i]? = some wd) (hR : dueRest acc wd = R) (hdu : dueL (ws.drop i) place acc = r) (h : (sL (R.dropWhile abh) == sL R) = false) (h2 : (sL ((R.dropWhile abh).dropWhile sp) != Str.ofString "") = false) :
    dueL (ws.drop (i + 1)) (place + wd.length + 1) (acc ++ [R.take (R.length - (R.dropWhile abh).length)]) = r := by
  rw [due_at hw] at hdu
  have h1 : dueBehind acc wd ≠ dueRest acc wd := by
    unfold dueBehind; rw [hR]; intro q; rw [q] at h; simp at h
  have h3 : ¬ dueLeft acc wd ≠ [] := by
    unfold dueLeft dueBehind; rw [hR]
    have : sL ((R.dropWhile abh).dropWhile sp) = Str.ofString "" := by simpa [bne] using h2
    exact fun q => q (sL_inj.mp (show _ = sL [] from this))
  rw [if_neg h1, if_neg h3] at hdu
  rw [← hdu]
  unfold duePart dueBehind
  rw [hR]
theorem due_part : Txt.slice (sL R) none (some (((sL R).length : Int) - ((sL (R.dropWhile abh)).length : Int))) = sL (R.take (R.length - (R.dropWhile abh).length)) := by
  have h1 := (List.dropWhile_sublist abh (l := R)).length_le
  rw [len_sL, len_sL, slice_to (by omega) (by rw [len_sL]; omega), tl_sL]
  congr 2; omega
theorem left_le (hR : R.length ≤ wd.length) : ((R.dropWhile abh).dropWhile sp).length ≤ wd.length := Nat.le_trans (List.dropWhile_sublist sp).length_le (Nat.le_trans (List.dropWhile_sublist abh).length_le hR)
theorem StrsAre.snoc' {vs : List Value} {ps : List (List Nat)} (h : Mine.StrsAre vs ps) {X : Str} {x : List Nat} {t : Tok} (hX : X = sL x) : Mine.StrsAre (vs ++ [.str X t]) (ps ++ [x]) := hX ▸ StrsAre.snoc h x t
theorem rest_some (hac : acc ≠ []) : dueRest acc wd = wd.dropWhile sp := by unfold dueRest; rw [if_neg hac]
theorem rest_none (hac : acc = []) : dueRest acc wd = wd := by unfold dueRest; rw [if_pos hac]
theorem StrsAre.ne {vs : List Value} {ps : List (List Nat)} (h : Mine.StrsAre vs ps) (hv : vs ≠ []) : ps ≠ [] := fun q => by subst q; exact hv (List.map_eq_nil_iff.mp h)
theorem StrsAre.eq {vs : List Value} {ps : List (List Nat)} (h : Mine.StrsAre vs ps) (hv : ¬ vs ≠ []) : ps = [] := by
  have : vs = [] := Classical.not_not.mp hv
  subst this
  exact (List.map_eq_nil_iff.mp h.symm)
end
theorem key_end {g h' : Heap} {L a b : Addr} {m : Str → Option Value} {s : Shared} {Q : Value → Shared → Prop} {r : Option (Nat × List (List Nat))} {k : Int} {j : Nat} {t : Tok} {vs : List Value} {ps : List (List Nat)} {rest : List (Addr × Obj)} {tk : Nat} (hret : RetP g s (ReadR r) Q) (F : Fr g L h' m)
    (N : News g L h' ((a, { cls := .type "tuple", data := .seq #[.int k t, .ref b] }) :: (b, { cls := .type "tuple", data := .seq vs.toArray }) :: rest)) (hk : k = (j : Int)) (hv : Mine.StrsAre vs ps) (hr : r = some (j, ps)) : Q (.ref a) { s with heap := h', toks := tk } := by
  subst hk
  refine out_p hret (.inr ⟨j, ps, a, b, t, vs, hr, hv, rfl, rfl⟩) F N fun p hp => ?_
  rcases List.mem_cons.mp hp with rfl | hp
  · exact .head _
  · exact .tail _ ((List.mem_singleton.mp hp) ▸ .head _)
noncomputable def DueI (g : Heap) (s : Shared) (L b It : Addr) (vs : List Value) (ws : List (List Nat)) (r : Option (Nat × List (List Nat))) (n : Nat) (s₁ : Shared) : Prop :=
  ∃ (i : Nat) (acc : List (List Nat)) (pv : List Value) (pb : Addr) (k place : Nat) (h' : Heap) (tk : Nat) (m' : Str → Option Value) (o : Obj) (t1 : Tok),
    s₁ = { s with heap := h', toks := tk } ∧ Fr g L h' m' ∧ News g L h' [(It, o), (pb, listOf pv.toArray k)] ∧ IterO o b i ∧ m' (Str.ofString "parts") = some (.ref pb) ∧ m' (Str.ofString "place") = some (.int (place : Int) t1) ∧
      Mine.StrsAre pv acc ∧ acc.length = i ∧ (i = 0 ∨ 1 ≤ place) ∧ i ≤ vs.length ∧ n = vs.length - i ∧ dueL (ws.drop i) place acc = r
end Mine
end
section
open PySem PySem.W PyProof.Rows PySem.Calls PySem.Spec PySem.SeqAt
set_option maxRecDepth 100000
namespace Mine
theorem bind_rest {fd : FuncData} {x : Value} {vs : List Value} {a1 a2 : Arg} {d1 : List (Option PySem.Expr)} {d2 : List PySem.Expr} (hp : fd.params = ⟨[], [a1], some a2, [], d1, none, d2⟩) (hd : fd.defaults = .none) :
    bindArgs fd ⟨x :: vs, []⟩ = (do let t ← newTuple vs; pure [(a1.arg, x), (a2.arg, t)]) := by
  unfold bindArgs
  rw [hp, hd]
  dsimp only [seqItems?, notAStandIn, List.map_nil, List.nil_append, List.map_cons, List.append_nil, List.length_cons, List.length_nil, List.zip_cons_cons, List.zip_nil_left, Option.isNone_some]
  simp [List.lookup]
section
variable {w : World} {mean : ExcName → Option Value} {mg mb : Str → Option Value} {A : Around} {base g : Heap} {l : List Env} {R : Result → Shared → Prop} {s : Shared} {pn : List (Addr × Obj)}
  {name qual : Str} {params : Arguments} {body : List Stmt} {scope : Scope} {kV doc pm cdv ct oc : Value} {an od : Option Addr} {osl : Array (Option Value)} {f : Addr} {x : Value} {vs : List Value} {a1 a2 : Arg} {d1 : List (Option PySem.Expr)} {d2 : List PySem.Expr}
theorem enter_rest (G : Gd w mean mg mb A base l g) (O : On g s.heap) (N : NG g s.heap pn)
    (ho : (KF w.params).lookup f = some ⟨oc, od, .func (fnOf name qual params body scope .none kV doc pm an cdv ct), osl⟩) (hcd : codeIn (KF w.params) cdv qual = true) (hroom : A.depth < recursionLimit)
    (hp : params = ⟨[], [a1], some a2, [], d1, none, d2⟩) (hz : vs.length ≤ sizeLine) (hloc : ∀ D, ∀ y ∈ [(a1.arg, x), (a2.arg, Value.ref D)], scope.names.lookup y.1 = some .local)
    (h : ∀ D L' h₁, Fr g L' h₁ (fun y => [(a1.arg, x), (a2.arg, Value.ref D)].reverse.lookup y) → News g L' h₁ ((D, ({ cls := .type "tuple", data := .seq vs.toArray } : Obj)) :: pn) →
      wpAny (model PGm w) (A.deeper (envOf qual scope L' f cdv)) (execs body (envOf qual scope L' f cdv))
        (fun fl s' => R (.ok (.ret (match fl with | .ret v => v | _ => .none))) s')
        (fun e s' => wpAny (model PGm w) (A.deeper (envOf qual scope L' f cdv)) (leaving (envOf qual scope L' f cdv) e) (fun _ s'' => R (.error e) s'') (fun e' s'' => R (.error e') s'') s')
        { s with heap := h₁, toks := s.toks + 2 })
    (hco : scope.isCoroutine = false) (hgen : scope.isGenerator = false) (hk : scope.kind = .function)
    (hcell : ∀ x ∈ scope.names, x.2 ≠ .cell) : codeAny (model PGm w) A (.call (.ref f) ⟨x :: vs, []⟩) R s := by
  have X := G.X.keeps O.keep
  refine codeAny_call_function (fd := fnOf name qual params body scope .none kV doc pm an cdv ct) (body := body) hroom (X _ _ ho) rfl hco hgen rfl (codeRec_of X hcd) ?_
  rw [bind_rest (a1 := a1) (a2 := a2) (d1 := d1) (d2 := d2) hp rfl]
  have T' : (s.heap.push ({ cls := .type "tuple", data := .seq vs.toArray } : Obj)).NoLimit := (G.T.nolimit.keeps O.keep).keeps fun b x hb => Heap.get?_push_of_some _ hb
  refine wpAny_bind (wpAny_newTuple (wpAny_pure ?_) hz)
  refine wpAny_newFunctionEnv hcell (hloc _) (fun h₁ hns hsb => ⟨T'.fresh _ hsb, codeAny_func ?_⟩) hk
  have hk₁ : ∀ b y, (s.heap.push ({ cls := .type "tuple", data := .seq vs.toArray } : Obj)).get? b = some y → h₁.get? b = some y := fun b y e => hsb.extBut b y (Nat.ne_of_lt (Heap.lt_size e)) (Heap.get?_push_of_some _ e)
  have hk₀ : ∀ b y, s.heap.get? b = some y → h₁.get? b = some y := fun b y e => hk₁ b y (Heap.get?_push_of_some _ e)
  have hsz : (s.heap.push ({ cls := .type "tuple", data := .seq vs.toArray } : Obj)).objs.size = s.heap.objs.size + 1 := by simp [Heap.push]
  refine h _ _ h₁ ⟨hns, fun b y e => hk₀ b y (O.keep b y e), by rw [hsz]; exact Nat.le_succ_of_le O.size⟩ (fun p hp => ?_)
  rcases List.mem_cons.mp hp with rfl | hp
  · refine ⟨hk₁ _ _ (Heap.get?_push_size _ rfl), by rw [hsz]; exact Nat.ne_of_lt (Nat.lt_succ_self _), ?_⟩
    cases e : g.get? s.heap.objs.size with
    | none => rfl
    | some y => exact absurd (Heap.lt_size e) (Nat.not_lt.mpr O.size)
  · exact ⟨hk₀ _ _ (N p hp).1, by rw [hsz]; exact Nat.ne_of_lt (Nat.lt_succ_of_lt (Heap.lt_size (N p hp).1)), (N p hp).2⟩
end
noncomputable def IterT (o : Obj) (l : Addr) (i : Nat) : Prop := o.cls = .type "tuple_iterator" ∧ o.data = .fields #[.ref l, .int i 0]
section
variable {prog : Program} {w : World} {A : Around} {E : Value → Shared → Prop} {s : Shared} {env : Env} {target iter : PySem.Expr} {body : List Stmt} {pos : Pos} {Q : Flow → Shared → Prop}
theorem for_T (I : Addr → Nat → Shared → Prop) (n₀ : Nat) {l : Addr} {its : Array Value}
    (h : wpAny (model prog w) A (eval iter env) (fun x s₁ => x = .ref l ∧ s₁.heap.IsTuple l its ∧ I s₁.heap.objs.size n₀ { s₁ with heap := s₁.heap.push { cls := .type "tuple_iterator", data := .fields #[.ref l, .int 0 0] } } ∧
      ∀ n s₂, I s₁.heap.objs.size n s₂ → wpAny (model prog w) A (pyNext (.ref s₁.heap.objs.size)) (fun r s₃ => match r with
        | none => Q .next s₃
        | some v => wpAny (model prog w) A (assign target env v) (fun _ s₄ => wpAny (model prog w) A (execs body env) (WEnd (I s₁.heap.objs.size) Q n) E s₄) E s₃) E s₂) E s)
    (ht : ∀ it v, letOwnedTupleGo target (.ref it) v = pure ()) (hs : ∀ x, foldedSetIterable iter env x = pure x := by intro _; rfl)
    (hE : PassesOwn (model prog w) A env E := by passes_own) : wpAny (model prog w) A (exec (.For target iter body [] pos) env) Q E s := by
  refine wpAny_For (wpAny_mono h (fun x s₁ h₁ => ?_) fun _ _ e => e) hs
  obtain ⟨rfl, hl, h0, turn⟩ := h₁
  refine wpAny_pyIter_tuple hl (codeAny_forLoop (I s₁.heap.objs.size) (fun n s₂ hI => ?_) n₀ h0 (ht _))
  refine wpAny_mono (turn n s₂ hI) (fun r s₃ h₃ => ?_) hE
  cases r with
  | none => exact wpAny_execs_nil h₃
  | some v =>
    refine wpAny_mono h₃ (fun _ s₄ h₄ => wpAny_mono h₄ (fun f s₅ h₅ => ?_) hE) hE
    cases f <;> exact h₅
end
section
variable {prog : Program} {w : World} {A : Around} {E : Value → Shared → Prop} {s : Shared} {h₀ : Heap} {L l It : Addr} {m : Str → Option Value} {news : List (Addr × Obj)} {vs : List Value} {o : Obj} {i : Nat} {Q : Option Value → Shared → Prop}
theorem off_iterT (N : News h₀ L s.heap ((It, o) :: news)) (ho : IterT o l i) (hcls : ∀ p ∈ news, p.2.cls ≠ .type "tuple_iterator") : ∀ p ∈ news, p.1 ≠ It := fun p hp q => by
  have h1 := (N p (.tail _ hp)).1
  have h2 := (N _ (.head _)).1
  rw [q, h2] at h1
  exact hcls p hp (by rw [← Option.some.inj h1]; exact ho.1)
theorem next_itemT {v : Value} (F : Fr h₀ L s.heap m) (N : News h₀ L s.heap ((It, o) :: news)) (ho : IterT o l i) (hcls : ∀ p ∈ news, p.2.cls ≠ .type "tuple_iterator") (hl : s.heap.IsTuple l vs.toArray) (hx : vs[i]? = some v)
    (k : ∀ h' o', Fr h₀ L h' m → News h₀ L h' ((It, o') :: news) → IterT o' l (i + 1) → Q (some v) { s with heap := h' }) : wpAny (model prog w) A (pyNext (.ref It)) Q E s := by
  have hI := N _ (.head _)
  refine wpAny_pyNext_tuple_item ⟨o, hI.1, ho⟩ hl (by simpa using hx) fun h' hit hs => ?_
  obtain ⟨o', ho', hc⟩ := hit
  have off := off_iterT N ho hcls
  refine k h' o' ?_ (fun p hp => ?_) hc
  · exact F.change hs hI.2.1 hI.2.2
  · rcases List.mem_cons.mp hp with rfl | hp
    · exact ⟨ho', hI.2⟩
    · exact ⟨(hs.2 p.1 (off p hp)).trans (N p (.tail _ hp)).1, (N p (.tail _ hp)).2⟩
theorem next_endT (hh : A.handled = none) (F : Fr h₀ L s.heap m) (N : News h₀ L s.heap ((It, o) :: news)) (ho : IterT o l i) (hcls : ∀ p ∈ news, p.2.cls ≠ .type "tuple_iterator") (hl : s.heap.IsTuple l vs.toArray) (hx : vs[i]? = none)
    (k : ∀ h', Fr h₀ L h' m → News h₀ L h' news → Q none { s with heap := h' }) : wpAny (model prog w) A (pyNext (.ref It)) Q E s := by
  have hI := N _ (.head _)
  refine wpAny_pyNext_tuple_end hh ⟨o, hI.1, ho⟩ hl (by simpa using hx) fun h' hs => ?_
  have off := off_iterT N ho hcls
  have nL : ∀ b o, h₀.get? b = some o → b ≠ It := fun b o e q => by rw [q, hI.2.2] at e; cases e
  obtain ⟨oL, es, ep, e, r⟩ := F.ns
  refine k h' ⟨⟨oL, es, ep, hs _ _ (Ne.symm hI.2.1) e, r⟩, fun b o e => hs _ _ (nL b o e) (F.keep b o e), F.above⟩ fun p hp => ⟨hs _ _ (off p hp) (N p (.tail _ hp)).1, (N p (.tail _ hp)).2⟩
theorem iter_startT (F : Fr h₀ L s.heap m) (N : News h₀ L s.heap news) : Fr h₀ L (s.heap.push { cls := .type "tuple_iterator", data := .fields #[.ref l, .int 0 0] }) m ∧ News h₀ L (s.heap.push { cls := .type "tuple_iterator", data := .fields #[.ref l, .int 0 0] }) ((s.heap.objs.size, { cls := .type "tuple_iterator", data := .fields #[.ref l, .int 0 0] }) :: news) := ⟨F.push _, News.push F N _⟩
theorem iterT_zero : IterT { cls := .type "tuple_iterator", data := .fields #[.ref l, .int 0 0] } l 0 := ⟨rfl, rfl⟩
end
/-- os.path.join, one piece after the other -/
noncomputable def joinStep (p b : List Nat) : List Nat := if b.head? = some 47 ∨ p = [] then b else if p.getLast? = some 47 then p ++ b else p ++ 47 :: b
noncomputable def joinF (root : List Nat) (ws : List (List Nat)) : List Nat := ws.foldl joinStep root
theorem drop_at {α : Type} {l : List α} {i : Nat} {x : α} (h : l[i]? = some x) : l.drop i = x :: l.drop (i + 1) := by
  obtain ⟨hl, rfl⟩ := List.getElem?_eq_some_iff.mp h
  exact List.drop_eq_getElem_cons hl
theorem starts_one (x : Str) (c : Nat) : Txt.startswith x ⟨#[c]⟩ = decide ((tl x).head? = some c) := by
  unfold Txt.startswith
  rw [Bool.eq_iff_iff, decide_eq_true_eq, Bool.and_eq_true, decide_eq_true_eq, List.head?_eq_getElem?]
  exact at_one (x := x) (c := c) (i := 0)
section
variable {p wd : List Nat} {t : Tok}
theorem js_a (h : Txt.startswith (sL wd) (Str.ofString "/") = true) : some (Value.str (sL wd) t) = some (.str (sL (joinStep p wd)) t) := by
  rw [show Txt.startswith (sL wd) (Str.ofString "/") = decide ((tl (sL wd)).head? = some 47) from starts_one _ 47, tl_sL, decide_eq_true_eq] at h
  unfold joinStep; rw [if_pos (.inl h)]
theorem js_b (h : ((sL p).length : Int) = 0) : some (Value.str (sL wd) t) = some (.str (sL (joinStep p wd)) t) := by
  rw [len_sL] at h
  unfold joinStep; rw [if_pos (.inr (List.length_eq_zero_iff.mp (by omega)))]
theorem js_n (h : Txt.startswith (sL wd) (Str.ofString "/") = false) (h2 : ((sL p).length : Int) ≠ 0) : ¬ (wd.head? = some 47 ∨ p = []) := by
  rw [show Txt.startswith (sL wd) (Str.ofString "/") = decide ((tl (sL wd)).head? = some 47) from starts_one _ 47, tl_sL, decide_eq_false_iff_not] at h
  rintro (q | q)
  · exact h q
  · subst q; exact h2 rfl
theorem js_c (h : Txt.startswith (sL wd) (Str.ofString "/") = false) (h2 : ((sL p).length : Int) ≠ 0) (h3 : Txt.endswith (sL p) (Str.ofString "/") = true) : some (Value.str (sL p ++ sL wd) t) = some (.str (sL (joinStep p wd)) t) := by
  rw [show Txt.endswith (sL p) (Str.ofString "/") = decide ((tl (sL p)).getLast? = some 47) from ends_one _ 47, tl_sL, decide_eq_true_eq] at h3
  unfold joinStep; rw [if_neg (js_n h h2), if_pos h3, sL_app]
theorem js_d (h : Txt.startswith (sL wd) (Str.ofString "/") = false) (h2 : ((sL p).length : Int) ≠ 0) (h3 : Txt.endswith (sL p) (Str.ofString "/") = false) : some (Value.str (sL p ++ (Str.ofString "/" ++ sL wd)) t) = some (.str (sL (joinStep p wd)) t) := by
  rw [show Txt.endswith (sL p) (Str.ofString "/") = decide ((tl (sL p)).getLast? = some 47) from ends_one _ 47, tl_sL, decide_eq_false_iff_not] at h3
  unfold joinStep; rw [if_neg (js_n h h2), if_neg h3, show Str.ofString "/" ++ sL wd = sL (47 :: wd) from sL_app [47] wd, sL_app]
theorem js_len : (joinStep p wd).length ≤ p.length + wd.length + 1 := by
  unfold joinStep
  split
  · omega
  · split
    · rw [List.length_append]; omega
    · rw [List.length_append, List.length_cons]; omega
theorem js_len2 {i m k : Nat} (hlen : p.length + (wd.length + k) + (m - i) ≤ 4000) (hi : i < m) : (joinStep p wd).length + k + (m - (i + 1)) ≤ 4000 := by
  have := js_len (p := p) (wd := wd)
  omega
theorem js_go {ws : List (List Nat)} {i : Nat} {r : List Nat} (hw : ws[i]? = some wd) (h : joinF p (ws.drop i) = r) : joinF (joinStep p wd) (ws.drop (i + 1)) = r := by
  rw [drop_at hw] at h; exact h
theorem js_end {ws : List (List Nat)} {i : Nat} {r : List Nat} (hw : ws.length ≤ i) (h : joinF p (ws.drop i) = r) : p = r := by
  rw [List.drop_eq_nil_of_le hw] at h; exact h
end
noncomputable def JoinI (g : Heap) (s : Shared) (L D It : Addr) (vs : List Value) (o₀ : Obj) (ws : List (List Nat)) (rt : List Nat) (n : Nat) (s₁ : Shared) : Prop :=
  ∃ (i : Nat) (p : List Nat) (h' : Heap) (tk : Nat) (m' : Str → Option Value) (o : Obj) (t1 t2 : Tok),
    s₁ = { s with heap := h', toks := tk } ∧ Fr g L h' m' ∧ News g L h' [(It, o), (D, o₀)] ∧ IterT o D i ∧ m' (Str.ofString "path") = some (.str (sL p) t1) ∧ m' (Str.ofString "sep") = some (.str (Str.ofString "/") t2) ∧
      i ≤ vs.length ∧ n = vs.length - i ∧ joinF p (ws.drop i) = joinF rt ws ∧ p.length + ((ws.drop i).map (·.length)).sum + (ws.length - i) ≤ 4000
end Mine
end
section
open PySem PySem.W PyProof.Rows PySem.Calls PySem.Spec
set_option maxRecDepth 100000
namespace Mine
set_option maxHeartbeats 4000000 in
theorem c_join (w : World) (x : Str) (t : Tok) (vs : List Value) (ws : List (List Nat)) (hx : x.length ≤ 900) (hS : Mine.StrsAre vs ws) (hsz : (tl x).length + (ws.map (·.length)).sum + ws.length ≤ 4000) :
    ConP w 60 600 303 (.str x t :: vs) [] (fun _ => True) (fun v res => ∃ t', v = .str (sL (joinF (tl x) ws)) t' ∧ res = []) := by
  intro mean mg mb dp un gd l base g s Q E G O hd hu _ hret
  obtain ⟨B, X, T, S, D, XB, TB, SB⟩ := G
  ((have fill : (KF w.params).In g → PySem.Challenge.rw_ij0142_01.row.prog = PySem.Challenge.rw_ij0142_01.row.prog → True := by (k_fill; intros; trivial)); clear fill; k_with_none)
  k_with "exec For Name Name cons nil" => (refine blk ?_)
  k_with "call ref" => (refine blk ?_)
  k_with "call ref" => k_dflt ((refine' call_p2 (c_fspath w x _) (by assumption) (by assumption) (by exact rfl) (by exact rfl) (by assumption) (by assumption) (by assumption) (by assumption) (by assumption) XB TB SB (by (first | exact lt_hd1 hd rfl | exact lt_hd hd rfl | (have hd9 := hd; (try dsimp only [Ar]); omega))) (by (first | exact lt_hd1 hu rfl | exact lt_hd hu rfl | (have hu9 := hu; (try dsimp only [Ar]); omega))) trivial ?_); (intro v' res' h' tk' hr' F' N' hne'; (try simp only [List.cons_append, List.nil_append] at N')); (obtain ⟨rfl, rfl⟩ := hr'); (try simp only [List.cons_append, List.nil_append] at N'); (try dsimp only))
  k_with "call ref" => k_dflt ((refine' call_p2 (c_sep w x _) (by assumption) (by assumption) (by exact rfl) (by exact rfl) (by assumption) (by assumption) (by assumption) (by assumption) (by assumption) XB TB SB (by (first | exact lt_hd1 hd rfl | exact lt_hd hd rfl | (have hd9 := hd; (try dsimp only [Ar]); omega))) (by (first | exact lt_hd1 hu rfl | exact lt_hd hu rfl | (have hu9 := hu; (try dsimp only [Ar]); omega))) trivial ?_); (intro v' res' h' tk' hr' F' N' hne'; (try simp only [List.cons_append, List.nil_append] at N')); (obtain ⟨⟨t9, rfl⟩, rfl⟩ := hr'); (try simp only [List.cons_append, List.nil_append] at N'); (try dsimp only))
  (have Sc := SetsF.ctl S); (have Sw := SetsF.ws S); (have Sb := SetsF.bare S); (have N : NG g s.heap [] := fun _ h => nomatch h)
  refine wpAny_call ?_
  k_dflt (refine' enter_rest ⟨B, X, T, S, D, XB, TB, SB⟩ O N ?k6 ?k7 ?k8 ?kP ?kZ ?kB ?_ ?c2 ?c3 ?c4 ?c5; (case k6 => k_is); (case k7 => k_is); (case k8 => exact Nat.lt_of_le_of_lt (Nat.le_add_right _ _) hd); (case kP => exact rfl); (case kZ => (rw [sizeLine_eq, hS.length]; omega)); (case kB => exact fun _ => locs rfl); (case c2 => exact rfl); (case c3 => exact rfl); (case c4 => exact rfl); (case c5 => decide); k_whole; intro D' L' h' F' N'; (try dsimp only); (try k_fold))
  k_steps
  unfold Blk
  have hvw : vs.length = ws.length := hS.length
  refine for_T (l := D') (its := vs.toArray) (fun It => JoinI g s L' D' It vs { cls := .type "tuple", data := .seq vs.toArray } ws (tl x)) vs.length ?_ (fun _ _ => rfl)
  rename Fr _ _ _ _ => F₀
  rename News _ _ _ _ => N₀
  refine ld F₀ rfl ⟨rfl, ⟨_, (N₀ _ (by k_mem)).1, rfl, _, rfl⟩, ?_, ?_⟩
  · exact ⟨0, tl x, _, _, _, _, _, _, rfl, (iter_startT F₀ N₀).1, (iter_startT F₀ N₀).2, iterT_zero, by rw [sL_tl]; rfl, rfl, Nat.zero_le _, rfl, rfl, by simpa using hsz⟩
  rintro n₁ s₂ ⟨i, p, h₁, tk₁, m₁, o, t1, t2, rfl, F₁, N', ho, e1, e2, hi, rfl, hjo, hlen⟩
  have F' := fr2 F₁ e1 e2
  clear F₁ F₀
  have hT₁ : h₁.IsTuple D' vs.toArray := ⟨_, (N' _ (.tail _ (.head _))).1, rfl, _, rfl⟩
  cases hv : vs[i]? with
  | none =>
    refine next_endT rfl F' N' ho ?_ hT₁ hv fun h₂ F' N' => ?_
    · intro p hp
      rw [List.mem_singleton.mp hp]
      show Value.type "tuple" ≠ _
      decide
    · k_steps
      have hle9 : ws.length ≤ i := by rw [List.getElem?_eq_none_iff] at hv; omega
      exact out_p hret ⟨_, congrArg (fun z => Value.str (sL z) _) (js_end hle9 hjo), rfl⟩ (by assumption) (by assumption) (fun _ h => nomatch h)
  | some v =>
    obtain ⟨wd, tw, hw, rfl⟩ := hS.at hv
    refine next_itemT F' N' ho ?_ hT₁ hv fun h₂ o' F' N' ho' => ?_
    · intro p hp
      rw [List.mem_singleton.mp hp]
      show Value.type "tuple" ≠ _
      decide
    · refine wpAny_assign_Name (stN F' N' (fun h₃ F₃ N₃ => ?_))
      clear F' N'
      have hdr : ws.drop i = wd :: ws.drop (i + 1) := drop_at hw
      rw [hdr, List.map_cons, List.sum_cons] at hlen
      have hpl9 : (sL p).length + (sL wd).length + 1 ≤ 4000 := by
        have := (List.getElem?_eq_some_iff.mp hv).1
        rw [len_sL, len_sL]; omega
      k_with "call ref" => (refine blk ?_)
      k_with "call ref" => k_dflt ((refine' call_p2 (c_fspath w (sL wd) _) (by assumption) (by assumption) (by exact rfl) (by exact rfl) (by assumption) (by assumption) (by assumption) (by assumption) (by assumption) XB TB SB (by (first | exact lt_hd1 hd rfl | exact lt_hd hd rfl | (have hd9 := hd; (try dsimp only [Ar]); omega))) (by (first | exact lt_hd1 hu rfl | exact lt_hd hu rfl | (have hu9 := hu; (try dsimp only [Ar]); omega))) trivial ?_); (intro v' res' h' tk' hr' F' N' hne'; (try simp only [List.cons_append, List.nil_append] at N')); (obtain ⟨rfl, rfl⟩ := hr'); (try simp only [List.cons_append, List.nil_append] at N'); (try dsimp only))
      k_steps
      all_goals have hil9 : i < vs.length := (List.getElem?_eq_some_iff.mp hv).1
      · exact ⟨vs.length - (i + 1), by omega, i + 1, joinStep p wd, _, _, _, o', _, _, rfl, by assumption, cb_drop (by assumption) (by kcj_all), ho', js_a (by assumption), rfl, by omega, rfl, js_go hw hjo, js_len2 hlen (by omega)⟩
      · exact ⟨vs.length - (i + 1), by omega, i + 1, joinStep p wd, _, _, _, o', _, _, rfl, by assumption, cb_drop (by assumption) (by kcj_all), ho', js_c (by assumption) (by assumption) (by assumption), rfl, by omega, rfl, js_go hw hjo, js_len2 hlen (by omega)⟩
      · exact ⟨vs.length - (i + 1), by omega, i + 1, joinStep p wd, _, _, _, o', _, _, rfl, by assumption, cb_drop (by assumption) (by kcj_all), ho', js_d (by assumption) (by assumption) (by assumption), rfl, by omega, rfl, js_go hw hjo, js_len2 hlen (by omega)⟩
      · exact ⟨vs.length - (i + 1), by omega, i + 1, joinStep p wd, _, _, _, o', _, _, rfl, by assumption, cb_drop (by assumption) (by kcj_all), ho', js_b (by assumption), rfl, by omega, rfl, js_go hw hjo, js_len2 hlen (by omega)⟩
end Mine
end
section
open PySem PySem.W PyProof.Rows PySem.Calls PySem.Spec PySem.SeqAt
namespace Mine
section
variable {prog : Program} {w : World} {A : Around} {E : Value → Shared → Prop} {s : Shared} {t u : Tok} {Q : Value → Shared → Prop}
theorem mul_mod {S : Int} (h : ∀ t' k, (sL (List.replicate (S.fmod 4).toNat 47)).length ≤ 4 → Q (.str (sL (List.replicate (S.fmod 4).toNat 47)) t') { s with toks := k }) : wpAny (model prog w) A (binaryOp .Mult (.str (Str.ofString "/") t) (.int (S.fmod 4) u)) Q E s := by
  have h1 : 0 ≤ S.fmod 4 := by rw [Int.fmod_eq_emod_of_nonneg _ (by decide)]; exact Int.emod_nonneg _ (by decide)
  have h2 : S.fmod 4 < 4 := by rw [Int.fmod_eq_emod_of_nonneg _ (by decide)]; exact Int.emod_lt_of_pos _ (by decide)
  refine SB.mul (mulOk_of 16 1048576 (by decide) (by omega) (by omega) (by decide) (by decide)) fun t' k => ?_
  rw [show Txt.mul (Str.ofString "/") (S.fmod 4) = sL (List.replicate (S.fmod 4).toNat 47) from mul_one 47 _]
  exact h t' k (by rw [len_sL, List.length_replicate]; omega)
end
/-- the path that the script writes -/
noncomputable def signs : List Nat := [47, 46, 97, 46, 32, 98, 45, 37]
noncomputable def signAt (a : Int) : Nat := signs.getD (a.fmod 8).toNat 0
noncomputable def pathL (ns : List Int) : List Nat := List.replicate ((ns.map fun a : Int => a.fdiv 8).sum.fmod 4).toNat 47 ++ ([97, 46, 98] ++ ns.map signAt)
theorem item_eight : ∀ n : Nat, n < 8 → Txt.item (Str.ofString "/.a. b-%") (n : Int) = sL [signs.getD n 0]
  | 0, _ => rfl
  | 1, _ => rfl
  | 2, _ => rfl
  | 3, _ => rfl
  | 4, _ => rfl
  | 5, _ => rfl
  | 6, _ => rfl
  | 7, _ => rfl
theorem eight (a : Int) : 0 ≤ a.fmod 8 ∧ (a.fmod 8).toNat < 8 := by
  rw [Int.fmod_eq_emod_of_nonneg _ (by decide)]
  have h1 := Int.emod_nonneg a (b := 8) (by decide)
  have h2 := Int.emod_lt_of_pos a (b := 8) (by decide)
  exact ⟨h1, by omega⟩
theorem item_sign (a : Int) : Txt.item (Str.ofString "/.a. b-%") (a.fmod 8) = sL [signAt a] := by
  obtain ⟨h1, h2⟩ := eight a
  have := item_eight _ h2
  rwa [Int.toNat_of_nonneg h1] at this
theorem joinL_ones (f : Int → Nat) : ∀ ns : List Int, joinL [] (ns.map fun a => [f a]) = ns.map f
  | [] => rfl
  | [a] => rfl
  | a :: b :: r => by
    have := joinL_ones f (b :: r)
    simp only [List.map_cons] at this ⊢
    rw [joinL, this]
    rfl
theorem join_signs (ns : List Int) : Txt.join (Str.ofString "") ((ns.filter fun _ => true).map fun a : Int => Txt.item (Str.ofString "/.a. b-%") (a.fmod 8)) = sL (ns.map signAt) := by
  rw [show (ns.filter fun _ => true) = ns from List.filter_eq_self.mpr fun _ _ => rfl, str_eq, tl_sL]
  show tl (Builtin.Str.glued _ _) = _
  rw [StrLaws.glued_eq_join, tl_join, List.map_map]
  have : (tl ∘ fun a => Txt.item (Str.ofString "/.a. b-%") (Int.fmod a 8)) = fun a => [signAt a] := by
    funext a
    show tl (Txt.item _ _) = _
    rw [item_sign, tl_sL]
  rw [this]
  exact joinL_ones signAt ns
section
variable {prog : Program} {w : World} {A : Around} {E : Value → Shared → Prop} {s : Shared} {t u : Tok} {Q : Value → Shared → Prop}
theorem path_add {ns : List Int} (hl : ns.length ≤ 14) (h : ∀ t' k, Q (.str (sL (pathL ns)) t') { s with toks := k }) :
    wpAny (model prog w) A (binaryOp .Add (.str (sL (List.replicate ((((ns.filter fun _ => true).map fun a : Int => a.fdiv 8).sum).fmod 4).toNat 47) ++ Str.ofString "a.b") t) (.str (Txt.join (Str.ofString "") ((ns.filter fun _ => true).map fun a : Int => Txt.item (Str.ofString "/.a. b-%") (a.fmod 8))) u)) Q E s := by
  rw [join_signs, show (ns.filter fun _ => true) = ns from List.filter_eq_self.mpr fun _ _ => rfl, show Str.ofString "a.b" = sL [97, 46, 98] from rfl, sL_app]
  have h1 : 0 ≤ (ns.map fun a : Int => a.fdiv 8).sum.fmod 4 := by rw [Int.fmod_eq_emod_of_nonneg _ (by decide)]; exact Int.emod_nonneg _ (by decide)
  have h2 : (ns.map fun a : Int => a.fdiv 8).sum.fmod 4 < 4 := by rw [Int.fmod_eq_emod_of_nonneg _ (by decide)]; exact Int.emod_lt_of_pos _ (by decide)
  refine KOpn.add ?_ fun t' k hz => ?_
  · rw [len_sL, len_sL, List.length_append, List.length_replicate, List.length_map]
    simp only [List.length_cons, List.length_nil]
    omega
  · rw [sL_app, List.append_assoc]
    exact h t' k
end
end Mine
end
section
open PySem PySem.W PyProof.Rows PySem.Calls PySem.Spec
set_option maxRecDepth 100000
namespace Mine
set_option maxHeartbeats 4000000 in
theorem c_path (w : World) (b : Addr) (vs : List Value) (ns : List Int) (hS : PyProof.Rows.IntsAre vs ns) (hl : vs.length ≤ 14) (hl2 : ns.length ≤ 14) :
    ConP w 60 600 325 [.ref b] [] (fun g => g.IsList b vs.toArray) (fun v res => ∃ t', v = .str (sL (pathL ns)) t' ∧ res = []) := by
  intro mean mg mb dp un gd l base g s Q E G O hd hu hL hret
  obtain ⟨B, X, T, S, D, XB, TB, SB⟩ := G
  ((have fill : (KF w.params).In g → PySem.Challenge.rw_ij0142_01.row.prog = PySem.Challenge.rw_ij0142_01.row.prog → True := by (k_fill; intros; trivial)); clear fill; k_with_none)
  k_with "call ref" => (refine blk ?_)
  k_with "call builtin:sum" => k_dflt ((refine' PyProof.Rows.LSm.sum_ints (by assumption) (by assumption) rfl (by assumption) (CarriedAll.intsOf (by assumption)) ?_); intro h' tk' t' F' N')
  k_with "binaryOp Mult str int" => k_dflt ((refine' mul_mod ?_); intro t9 k9 hl9)
  ((have Sc := SetsF.ctl S); (have Sw := SetsF.ws S); (have Sb := SetsF.bare S); (have N : NG g s.heap [] := fun _ h => nomatch h); refine wpAny_call ?_; k_dflt (refine' enter ⟨B, X, T, S, D, XB, TB, SB⟩ O N ?k6 ?k7 ?k8 ?k9 ?kB ?_ ?c2 ?c3 ?c4 ?c5; (case k6 => k_is); (case k7 => k_is); (case k8 => exact Nat.lt_of_le_of_lt (Nat.le_add_right _ _) hd); (case k9 => first | exact binds_K (by k_in) rfl (by k_is) rfl rfl rfl | exact BindsTo.of_eq rfl | fail "m_pure: no rule for these arguments"); (case kB => exact locs rfl); (case c2 => exact rfl); (case c3 => exact rfl); (case c4 => exact rfl); (case c5 => decide); k_whole; intro L' h' F' N' lL'; (try dsimp only); (try k_fold)))
  have hL' := list_fr F' hL
  k_steps
  k_dflt (refine' path_add hl2 ?_; intro t9 k9)
  k_steps
  exact out_p hret ⟨_, rfl, rfl⟩ (by assumption) (by assumption) (fun _ h => nomatch h)
end Mine
end
section
open PySem PySem.W PyProof.Rows PySem.Calls PySem.Spec
set_option maxRecDepth 100000
namespace Mine
set_option maxHeartbeats 4000000 in
theorem c_due (w : World) (t : Tok) (b : Addr) (vs : List Value) (ws : List (List Nat)) (pl : Nat) (p : Int) (hp : p = (pl : Int)) (hS : Mine.StrsAre vs ws) (hn : ws ≠ []) (hsz : ws.length ≤ 2000) (hwl : ∀ w ∈ ws, w.length ≤ 900) :
    ConP w 60 600 356 [.ref b, .int p t] [] (fun g => g.IsList b vs.toArray) (ReadR (dueL ws pl [])) := by
  subst hp
  intro mean mg mb dp un gd l base g s Q E G O hd hu hL hret
  obtain ⟨B, X, T, S, D, XB, TB, SB⟩ := G
  ((have fill : (KF w.params).In g → PySem.Challenge.rw_ij0142_01.row.prog = PySem.Challenge.rw_ij0142_01.row.prog → True := by (k_fill; intros; trivial)); clear fill; k_with_none)
  k_with "exec For Name Name cons nil" => (refine blk ?_)
  ((have Sc := SetsF.ctl S); (have Sw := SetsF.ws S); (have Sb := SetsF.bare S); (have N : NG g s.heap [] := fun _ h => nomatch h); refine wpAny_call ?_; k_dflt (refine' enter ⟨B, X, T, S, D, XB, TB, SB⟩ O N ?k6 ?k7 ?k8 ?k9 ?kB ?_ ?c2 ?c3 ?c4 ?c5; (case k6 => k_is); (case k7 => k_is); (case k8 => exact Nat.lt_of_le_of_lt (Nat.le_add_right _ _) hd); (case k9 => first | exact binds_K (by k_in) rfl (by k_is) rfl rfl rfl | exact BindsTo.of_eq rfl | fail "m_pure: no rule for these arguments"); (case kB => exact locs rfl); (case c2 => exact rfl); (case c3 => exact rfl); (case c4 => exact rfl); (case c5 => decide); k_whole; intro L' h' F' N' lL'; (try dsimp only); (try k_fold)))
  k_steps
  unfold Blk
  have hvw : vs.length = ws.length := hS.length
  refine for_I (l := b) (its := vs.toArray) (fun It => DueI g s L' b It vs ws (dueL ws pl [])) vs.length ?_ (fun _ _ => rfl)
  rename Fr _ _ _ _ => F₀
  rename News _ _ _ _ => N₀
  refine ld F₀ rfl ⟨rfl, list_fr F₀ hL, ?_, ?_⟩
  · exact ⟨0, [], [], _, 0, pl, _, _, _, _, _, rfl, (iter_start F₀ N₀).1, (iter_start F₀ N₀).2, iterO_zero, rfl, rfl, rfl, rfl, .inl rfl, Nat.zero_le _, rfl, rfl⟩
  rintro n₁ s₂ ⟨i, acc, pv, pb, k, place, h₁, tk₁, m₁, o, t1, rfl, F₁, N', ho, e1, e2, hst, hac, hpl, hi, rfl, hdu⟩
  have F' := fr2 F₁ e1 e2
  clear F₁ F₀
  have hpv : pv.length ≤ 2000 := by rw [hst.length]; omega
  cases hv : vs[i]? with
  | none =>
    refine next_end rfl F' N' ho ?_ (list_fr F' hL) hv fun h₂ F' N' => ?_
    · intro p hp
      rw [List.mem_singleton.mp hp]
      show Value.type "list" ≠ _
      decide
    · rw [due_end (by rw [List.getElem?_eq_none_iff] at hv ⊢; omega)] at hdu
      have hpl1 : 1 ≤ place := by
        rcases hpl with h | h
        · subst h
          rw [List.getElem?_eq_none_iff, hvw] at hv
          exact absurd (List.length_eq_zero_iff.mp (Nat.le_zero.mp hv)) hn
        · exact h
      k_steps
      exact key_end hret (by assumption) (by assumption) (by omega) hst hdu.symm
  | some v =>
    obtain ⟨wd, tw, hw, rfl⟩ := hS.at hv
    refine next_item F' N' ho ?_ (list_fr F' hL) hv fun h₂ o' F' N' ho' => ?_
    · intro p hp
      rw [List.mem_singleton.mp hp]
      show Value.type "list" ≠ _
      decide
    · refine wpAny_assign_Name (stN F' N' (fun h₃ F₃ N₃ => ?_))
      clear F' N'
      have hwd : wd.length ≤ 900 := hwl wd (List.mem_of_getElem? hw)
      have hwd' : (sL wd).length ≤ 900 := by rw [len_sL]; exact hwd
      have hds : (wd.dropWhile sp).length ≤ 900 := Nat.le_trans (List.dropWhile_sublist sp).length_le hwd
      have hda : (wd.dropWhile abh).length ≤ 900 := Nat.le_trans (List.dropWhile_sublist abh).length_le hwd
      have hdsa : ((wd.dropWhile sp).dropWhile abh).length ≤ 900 := Nat.le_trans (List.dropWhile_sublist abh).length_le hds
      k_with "compareOp NotEq ref ref" => k_dflt (refine' ne_nil (vs := pv) (isl_news (arr' := pv.toArray) (by assumption) (by k_mem) rfl) (isl_news (arr' := #[]) (by assumption) (by k_mem) rfl) (by show un + 3 < cLine; omega) ?_)
      k_with "call builtin:str.lstrip" => k_dflt (first | (refine' lstrip_sp (by assumption) ?_) | (refine' lstrip_ab (by assumption) ?_); intro t9 k9 hl9)
      k_with "call builtin:list.append" => k_dflt ((refine' append2 (vs := pv) (n := k) (rest := [(_, o')]) (by assumption) (by assumption) (by k_mem) (by kcj_all) (fun p hp => by (rw [List.mem_singleton.mp hp]; show o'.cls ≠ _; rw [ho'.1]; decide)) (by omega) ?_); intro h' F' N')
      k_steps
      · have hR9 : dueRest acc wd = wd.dropWhile sp := rest_some (hst.ne (by assumption))
        exact out_p hret (.inl ⟨due_none hw hR9 hdu (by assumption), rfl, rfl⟩) (by assumption) (by assumption) (fun _ h => nomatch h)
      · have hR9 : dueRest acc wd = wd.dropWhile sp := rest_some (hst.ne (by assumption))
        have hle9 := left_le (R := wd.dropWhile sp) (wd := wd) (List.dropWhile_sublist sp).length_le
        exact key_end hret (by assumption) (by assumption) (by rw [len_sL, len_sL]; omega) (hst.snoc' due_part) (due_ret hw hR9 hdu (by assumption) (by assumption))
      · have hR9 : dueRest acc wd = wd.dropWhile sp := rest_some (hst.ne (by assumption))
        have hil : i < vs.length := (List.getElem?_eq_some_iff.mp hv).1
        exact ⟨vs.length - (i + 1), by omega, i + 1, _, _, pb, k + 1, place + wd.length + 1, _, _, _, o', _, rfl, by assumption, cb_drop (by assumption) (by kcj_all), ho', rfl, rfl, hst.snoc' due_part, by rw [List.length_append, hac]; rfl, .inr (by omega), hil, rfl, due_next hw hR9 hdu (by assumption) (by assumption)⟩
      · have hR9 : dueRest acc wd = wd := rest_none (hst.eq (by assumption))
        exact out_p hret (.inl ⟨due_none hw hR9 hdu (by assumption), rfl, rfl⟩) (by assumption) (by assumption) (fun _ h => nomatch h)
      · have hR9 : dueRest acc wd = wd := rest_none (hst.eq (by assumption))
        have hle9 := left_le (R := wd) (wd := wd) (Nat.le_refl _)
        exact key_end hret (by assumption) (by assumption) (by rw [len_sL, len_sL]; omega) (hst.snoc' due_part) (due_ret hw hR9 hdu (by assumption) (by assumption))
      · have hR9 : dueRest acc wd = wd := rest_none (hst.eq (by assumption))
        have hil : i < vs.length := (List.getElem?_eq_some_iff.mp hv).1
        exact ⟨vs.length - (i + 1), by omega, i + 1, _, _, pb, k + 1, place + wd.length + 1, _, _, _, o', _, rfl, by assumption, cb_drop (by assumption) (by kcj_all), ho', rfl, rfl, hst.snoc' due_part, by rw [List.length_append, hac]; rfl, .inr (by omega), hil, rfl, due_next hw hR9 hdu (by assumption) (by assumption)⟩

end Mine
end
section
open PySem PySem.W PyProof.Rows PySem.Calls PySem.Spec PySem.SeqAt
set_option maxRecDepth 100000
namespace Mine
theorem RowsAre.at {vs : List Value} {os : List (Addr × Obj)} {rs : List (Nat × List Nat)} (h : RowsAre vs os rs) : ∀ {i : Nat} {v : Value}, vs[i]? = some v → ∃ a p k t t' n, v = .ref a ∧ rs[i]? = some (p, n) ∧ k = ((p : Nat) : Int) ∧ (a, tupO [.int k t, .str (sL n) t']) ∈ os := by
  induction h with
  | nil => intro i v hv; simp at hv
  | cons a p k hk t t' n h ih =>
    intro i v hv
    cases i with
    | zero =>
      simp only [List.getElem?_cons_zero, Option.some.injEq] at hv
      exact ⟨a, p, k, t, t', n, hv.symm, rfl, hk, .head _⟩
    | succ i =>
      simp only [List.getElem?_cons_succ] at hv
      obtain ⟨a', p', k', t1, t2, n', e1, e2, e3, e4⟩ := ih hv
      exact ⟨a', p', k', t1, t2, n', e1, e2, e3, .tail _ e4⟩
theorem RowsAre.plain {vs : List Value} {os : List (Addr × Obj)} {rs : List (Nat × List Nat)} (h : RowsAre vs os rs) : ∀ p ∈ os, plainO p.2 = true := by
  induction h with
  | nil => exact fun _ hp => nomatch hp
  | cons a p k hk t t' n h ih =>
    intro q hq
    rcases List.mem_cons.mp hq with rfl | hq
    · rfl
    · exact ih q hq
section
variable {A : Around} {s : Shared}
theorem strs_eqs {vs ws : List Value} {ps : List (List Nat)} (h1 : Mine.StrsAre vs ps) (h2 : Mine.StrsAre ws ps) : ∀ j (a : j < vs.toArray.size) (b : j < ws.toArray.size), EqAt A s vs.toArray[j] ws.toArray[j] true := by
  intro j a b
  rw [List.size_toArray] at a b
  obtain ⟨w1, t1, e1, e2⟩ := h1.at (List.getElem?_eq_getElem a)
  obtain ⟨w2, t2, e3, e4⟩ := h2.at (List.getElem?_eq_getElem b)
  rw [e1] at e3
  obtain rfl := Option.some.inj e3
  rw [List.getElem_toArray, List.getElem_toArray, e2, e4]
  have := EqAt.str_str (A := A) (s := s) (sL w1) t1 (sL w1) t2
  simpa using this
theorem all_true (n : Nat) : (List.range n).all (fun _ => true) = true := by simp
theorem same_len {vs ws : List Value} {ps : List (List Nat)} (h1 : Mine.StrsAre vs ps) (h2 : Mine.StrsAre ws ps) : vs.length = ws.length := h1.length.trans h2.length.symm
theorem eq_lists {b d : Addr} {vs ws : List Value} {ps : List (List Nat)} (hb : s.heap.IsList b vs.toArray) (hd : s.heap.IsList d ws.toArray) (h1 : Mine.StrsAre vs ps) (h2 : Mine.StrsAre ws ps) (hu : A.units < cLine) : EqAt A s (.ref b) (.ref d) true := by
  by_cases e : b = d
  · subst e; exact EqAt.same _
  · have := RcAt.lists (A := A) (e := fun _ => true) hb hd (by rw [List.size_toArray, List.size_toArray, same_len h1 h2]) hu (strs_eqs h1 h2)
    rw [all_true] at this
    exact EqAt.of_refs e this
theorem eq_tups {b d : Addr} {vs ws : List Value} {ps : List (List Nat)} (hb : s.heap.IsTuple b vs.toArray) (hd : s.heap.IsTuple d ws.toArray) (h1 : Mine.StrsAre vs ps) (h2 : Mine.StrsAre ws ps) (hu : A.units < cLine) : EqAt A s (.ref b) (.ref d) true := by
  by_cases e : b = d
  · subst e; exact EqAt.same _
  · have := RcAt.tuples (A := A) (e := fun _ => true) hb hd hu (strs_eqs h1 h2)
    rw [all_true, List.size_toArray, List.size_toArray, same_len h1 h2, beq_self_eq_true] at this
    exact EqAt.of_refs e this
theorem two_eqs {x1 x2 y1 y2 : Value} (h1 : EqAt A s x1 y1 true) (h2 : EqAt A s x2 y2 true) : ∀ j (a : j < (#[x1, x2] : Array Value).size) (b : j < (#[y1, y2] : Array Value).size), EqAt A s (#[x1, x2] : Array Value)[j] (#[y1, y2] : Array Value)[j] true := by
  intro j a b
  have a : j < 2 := a
  have : j = 0 ∨ j = 1 := by omega
  rcases this with rfl | rfl
  · exact h1
  · exact h2
section
variable {prog : Program} {w : World} {E : Value → Shared → Prop} {Q : Value → Shared → Prop} {a c b d : Addr}
theorem ne_two {x1 x2 y1 y2 : Value} (ha : s.heap.IsTuple a #[x1, x2]) (hc : s.heap.IsTuple c #[y1, y2]) (hu : A.units < cLine) (h1 : EqAt A.in1 s x1 y1 true) (h2 : EqAt A.in1 s x2 y2 true) (h : Q (.bool false) s) : wpAny (model prog w) A (compareOp .NotEq (.ref a) (.ref c)) Q E s := by
  show wpAny _ _ (richCompare .NotEq _ _) Q E s
  have := RcNeAt.tuples (A := A) (e := fun _ => true) ha hc hu (two_eqs h1 h2)
  exact this prog w E Q h
/-- (root, names) against what _law_cut tells -/
theorem ne_cut {l : List Nat} {t t' : Tok} {vs ws : List Value} {ps : List (List Nat)} (ha : s.heap.IsTuple a #[.str (sL l) t, .ref b]) (hc : s.heap.IsTuple c #[.str (sL l) t', .ref d]) (hb : s.heap.IsList b vs.toArray) (hd : s.heap.IsList d ws.toArray) (h1 : Mine.StrsAre vs ps) (h2 : Mine.StrsAre ws ps)
    (hu : A.units + 1 < cLine) (h : Q (.bool false) s) : wpAny (model prog w) A (compareOp .NotEq (.ref a) (.ref c)) Q E s :=
  ne_two ha hc (by omega) (by simpa using EqAt.str_str (A := A.in1) (s := s) (sL l) t (sL l) t') (eq_lists hb hd h1 h2 (by exact hu)) h
theorem ne_told {j : Int} {t t' : Tok} {vs ws : List Value} {ps : List (List Nat)} (ha : s.heap.IsTuple a #[.int j t, .ref b]) (hc : s.heap.IsTuple c #[.int j t', .ref d]) (hb : s.heap.IsTuple b vs.toArray) (hd : s.heap.IsTuple d ws.toArray) (h1 : Mine.StrsAre vs ps) (h2 : Mine.StrsAre ws ps)
    (hu : A.units + 1 < cLine) (h : Q (.bool false) s) : wpAny (model prog w) A (compareOp .NotEq (.ref a) (.ref c)) Q E s :=
  ne_two ha hc (by omega) (by simpa using EqAt.int_int (A := A.in1) (s := s) j t j t') (eq_tups hb hd h1 h2 (by exact hu)) h
end
end
section
variable {prog : Program} {w : World} {A : Around} {E : Value → Shared → Prop} {s : Shared} {h₀ : Heap} {L : Addr} {m : Str → Option Value} {news : List (Addr × Obj)}
theorem str_of_int_tuple {vs : List Value} {n : Nat} (N : News h₀ L s.heap news) {a : Addr} (hm : (a, ({ cls := .type "tuple", data := .seq vs.toArray n } : Obj)) ∈ news) : s.heap.IsTuple a vs.toArray := ⟨_, (N _ hm).1, rfl, n, rfl⟩
theorem paired_rows {vs : List Value} {os : List (Addr × Obj)} {rs : List (Nat × List Nat)} (h : RowsAre vs os rs) (uniq : ∀ p ∈ os, ∀ q ∈ os, p.1 = q.1 → p.2 = q.2) : ∀ {ys : List Value}, Paired (fun v y => ∃ a i t x t', v = .ref a ∧ (a, tupO [.int i t, .str x t']) ∈ os ∧ y = .str x t') vs ys → Mine.StrsAre ys (rs.map (·.2)) := by
  have key : ∀ {vs : List Value} {os' : List (Addr × Obj)} {rs : List (Nat × List Nat)}, RowsAre vs os' rs → (∀ p ∈ os', p ∈ os) → ∀ {ys : List Value}, Paired (fun v y => ∃ a i t x t', v = .ref a ∧ (a, tupO [.int i t, .str x t']) ∈ os ∧ y = .str x t') vs ys → Mine.StrsAre ys (rs.map (·.2)) := by
    intro vs os' rs h
    induction h with
    | nil => intro _ ys hp; cases hp; rfl
    | cons a p k hk t t' n h ih =>
      intro hsub ys hp
      cases hp with
      | cons hF hr =>
        obtain ⟨a', i, t1, x, t2, e1, e2, e3⟩ := hF
        injection e1 with e1
        subst e1 e3
        have := uniq _ (hsub _ (.head _)) _ e2 rfl
        have this : tupO [.int k t, .str (sL n) t'] = tupO [.int i t1, .str x t2] := this
        have hx : x = sL n := by
          have h1 : (tupO [.int k t, .str (sL n) t']).data = (tupO [.int i t1, .str x t2]).data := by rw [this]
          unfold tupO at h1
          injection h1 with h1 _
          have h2 := congrArg Array.toList h1
          simp at h2
          exact h2.2.1.symm
        subst hx
        have r := ih (fun q hq => hsub q (.tail _ hq)) hr
        unfold Mine.StrsAre at r ⊢
        rw [List.map_cons, List.map_cons, List.map_cons, r]
        rfl
  intro ys hp
  exact key h (fun _ hq => hq) hp
theorem srcA_rows {env : Env} {x y : Str} {p1 p2 pos : Pos} {kd : Nat} {scope : Scope} {Q : Flow → Shared → Prop} {l : Addr} {vs : List Value} {os : List (Addr × Obj)} {rs : List (Nat × List Nat)}
    (hL : env.locals = L) (hh : A.handled = none) (hl : s.heap.IsList l vs.toArray) (hR : RowsAre vs os rs) (F : Fr h₀ L s.heap m) (N : News h₀ L s.heap news) (hos : ∀ p ∈ os, p ∈ news) (hk : scope.kind = .function) (hx : ∀ C, (compEnv scope C env).kindOf x = some .local) (hdbg : (x == ("__debug__" : Str)) = false) (hsz : vs.length ≤ 4000)
    (g3 : ∀ D (ys : List Value) h' tk k, Fr h₀ L h' (fun z => if z = y then some (.ref D) else m z) → News h₀ L h' ((D, listOf ys.toArray k) :: news) → Mine.StrsAre ys (rs.map (·.2)) → Q .next { s with heap := h', toks := tk }) :
    wpAny (model prog w) A (pyIter (.ref l)) (CompPostA prog w A env scope x y [] (.Subscript (.Name x p1) (.Constant (.int 1) kd p2) pos) Q) E s := by
  have hlt : l < s.heap.objs.size := by obtain ⟨_, e, _⟩ := hl; exact Heap.lt_size e
  refine wpAny_pyIter_list hl ?_
  have up : ∀ (h' : Heap), (∀ b o', b ∉ [s.heap.objs.size] → (s.heap.push { cls := .type "list_iterator", data := .fields #[.ref l, .int 0 0] }).get? b = some o' → h'.get? b = some o') → ∀ b o', s.heap.get? b = some o' → h'.get? b = some o' :=
    fun h' hk b o' e => hk b o' (not_iter_of_old e) (Heap.get?_push_of_some _ e)
  refine ⟨fun _ => true, fun v y => ∃ a i t x t', v = .ref a ∧ (a, tupO [.int i t, .str x t']) ∈ os ∧ y = .str x t', s.heap.objs.size, [s.heap.objs.size, l], [s.heap.objs.size], vs.toArray.size, _, _, m, rfl, Walks.list hh _ l (Nat.ne_of_lt hlt) vs.toArray, (by rw [List.size_toArray, sizeLine_eq]; omega),
    ⟨⟨_, Heap.get?_push_size _ rfl, rfl, rfl⟩, hl.at fun o e => Heap.get?_push_of_some _ e⟩, ?_, ?_, ?_, ⟨?_, ?_⟩, ?_⟩
  · intro b hb
    show b < (s.heap.push _).objs.size
    rw [Heap.size_push]
    rcases List.mem_cons.mp hb with rfl | hb
    · exact Nat.lt_succ_self _
    · rw [List.mem_singleton.mp hb]; exact Nat.lt_succ_of_lt hlt
  · rw [hL]
    obtain ⟨o, es, ep, e, r⟩ := F.ns
    exact not_iter_of_old e
  · rw [hL]
    exact (F.push _).ns
  · intro C i v s₃ m₃ E' hP hn hm hk htk
    exact wpAny_pure ⟨rfl, _, _, rfl, fun _ _ e => e⟩
  · intro C i v s₃ m₃ E' hP hp hn hm hk' htk
    obtain ⟨a, p, k, t, t', n, rfl, e2, e3, e4⟩ := hR.at (i := i) (v := v) (by simpa using hP)
    have ht : s₃.heap.get? a = some (tupO [.int k t, .str (sL n) t']) := up _ hk' _ _ (N _ (hos _ e4)).1
    refine wpAny_Subscript_Constant_late (wpAny_Name (wpAny_loadName_local hk (hx C) hn hm ?_) hdbg) (fun _ _ => rfl)
    refine wpAny_mkInt ?_
    have hT : IsTup s₃.heap a #[.int k t, .str (sL n) t'] := ⟨_, ht, rfl, 0, rfl⟩
    exact ⟨"tuple", _, slot_tuple_getitem.lookup, hT.typeIs, getItem_tuple hT (by omega) (by omega) (j := 1) rfl rfl ⟨⟨a, k, t, sL n, t', rfl, e4, rfl⟩, _, _, rfl, fun _ _ e => e⟩⟩
  · intro D h' tk ys vs' hnew hlD hplD hlen hP hF hns hk
    rw [hL] at hns hk
    have e' : vs' = vs := by simpa using walked_is hlen hP
    subst e'
    rw [List.filter_eq_self.mpr fun _ _ => rfl] at hF
    obtain ⟨k, hpk⟩ := hplD
    have uniq : ∀ p ∈ os, ∀ q ∈ os, p.1 = q.1 → p.2 = q.2 := fun p hp q hq e => by
      have h1 := (N p (hos p hp)).1
      have h2 := (N q (hos q hq)).1
      rw [e, h2] at h1
      exact (Option.some.inj h1).symm
    have up' : ∀ b o, b ≠ L → s.heap.get? b = some o → h'.get? b = some o := fun b o hb e => hk b o hb (not_iter_of_old e) (Heap.get?_push_of_some _ e)
    refine g3 D ys.toList h' tk k ⟨hns, fun b o e => up' b o (fun q => ?_) (F.keep b o e), F.above⟩ (fun p hp => ?_) (paired_rows hR uniq hF)
    · have h1 := Heap.lt_size e
      rw [q] at h1
      exact absurd h1 (Nat.not_lt.mpr F.above)
    rcases List.mem_cons.mp hp with rfl | hp
    · refine ⟨by rw [Array.toArray_toList]; exact hpk, fun q => ?_, ?_⟩
      · obtain ⟨o, es, ep, e, r⟩ := F.ns
        have q : D = L := q
        rw [q, Heap.get?_push_of_some _ e] at hnew; cases hnew
      · cases e : h₀.get? D with
        | none => rfl
        | some o' => rw [Heap.get?_push_of_some _ (F.keep _ _ e)] at hnew; cases hnew
    · exact ⟨up' _ _ (N p hp).2.1 (N p hp).1, (N p hp).2⟩
end
end Mine
end
section
open PySem PySem.W PyProof.Rows PySem.Calls PySem.Spec PySem.SeqAt
set_option maxRecDepth 100000
namespace Mine
section
variable {prog : Program} {w : World} {A : Around} {E : Value → Shared → Prop} {s : Shared} {env : Env} {target iter : PySem.Expr} {body : List Stmt} {pos : Pos} {Q : Flow → Shared → Prop}
theorem for_P (I : Addr → Nat → Shared → Prop) (n₀ : Nat) {l : Addr} {its : Array Value}
    (h : wpAny (model prog w) A (eval iter env) (fun x s₁ => x = .ref l ∧ s₁.heap.IsList l its ∧ I s₁.heap.objs.size n₀ { s₁ with heap := s₁.heap.push { cls := .type "list_iterator", data := .fields #[.ref l, .int 0 0] } } ∧
      ∀ n s₂, I s₁.heap.objs.size n s₂ → wpAny (model prog w) A (pyNext (.ref s₁.heap.objs.size)) (fun r s₃ => match r with
        | none => Q .next s₃
        | some v => wpAny (model prog w) A (letOwnedTupleGo target (.ref s₁.heap.objs.size) v) (fun _ s₃' => wpAny (model prog w) A (assign target env v) (fun _ s₄ => wpAny (model prog w) A (execs body env) (WEnd (I s₁.heap.objs.size) Q n) E s₄) E s₃') E s₃) E s₂) E s)
    (hs : ∀ x, foldedSetIterable iter env x = pure x := by intro _; rfl)
    (hE : PassesOwn (model prog w) A env E := by passes_own) : wpAny (model prog w) A (exec (.For target iter body [] pos) env) Q E s := by
  refine wpAny_For (wpAny_mono h (fun x s₁ h₁ => ?_) fun _ _ e => e) hs
  obtain ⟨rfl, hl, h0, turn⟩ := h₁
  refine wpAny_pyIter_list hl (codeAny_forLoop_any (I s₁.heap.objs.size) (fun n s₂ hI => ?_) n₀ h0)
  refine wpAny_mono (turn n s₂ hI) (fun r s₃ h₃ => ?_) hE
  cases r with
  | none => exact wpAny_execs_nil h₃
  | some v =>
    refine wpAny_mono h₃ (fun _ s₃' h₃' => wpAny_mono h₃' (fun _ s₄ h₄ => wpAny_mono h₄ (fun f s₅ h₅ => ?_) hE) hE) hE
    cases f <;> exact h₅
end
section
variable {prog : Program} {w : World} {A : Around} {E : Value → Shared → Prop} {s : Shared} {h₀ : Heap} {L l It : Addr} {m : Str → Option Value} {news : List (Addr × Obj)} {vs : List Value} {o : Obj} {i : Nat} {Q : Option Value → Shared → Prop}
theorem next_item2 {v : Value} (F : Fr h₀ L s.heap m) (N : News h₀ L s.heap ((It, o) :: news)) (ho : IterO o l i) (off : ∀ p ∈ news, p.1 ≠ It) (hl : s.heap.IsList l vs.toArray) (hx : vs[i]? = some v)
    (k : ∀ h' o', Fr h₀ L h' m → News h₀ L h' ((It, o') :: news) → IterO o' l (i + 1) → Q (some v) { s with heap := h' }) : wpAny (model prog w) A (pyNext (.ref It)) Q E s := by
  have hI := N _ (.head _)
  refine wpAny_pyNext_list_item ⟨o, hI.1, ho⟩ hl (by simpa using hx) fun h' hit hs => ?_
  obtain ⟨o', ho', hc⟩ := hit
  refine k h' o' ?_ (fun p hp => ?_) hc
  · exact F.change hs hI.2.1 hI.2.2
  · rcases List.mem_cons.mp hp with rfl | hp
    · exact ⟨ho', hI.2⟩
    · exact ⟨(hs.2 p.1 (off p hp)).trans (N p (.tail _ hp)).1, (N p (.tail _ hp)).2⟩
theorem next_end2 (hh : A.handled = none) (F : Fr h₀ L s.heap m) (N : News h₀ L s.heap ((It, o) :: news)) (ho : IterO o l i) (off : ∀ p ∈ news, p.1 ≠ It) (hl : s.heap.IsList l vs.toArray) (hx : vs[i]? = none)
    (k : ∀ h', Fr h₀ L h' m → News h₀ L h' news → Q none { s with heap := h' }) : wpAny (model prog w) A (pyNext (.ref It)) Q E s := by
  have hI := N _ (.head _)
  refine wpAny_pyNext_list_end hh ⟨o, hI.1, ho⟩ hl (by simpa using hx) fun h' hs => ?_
  have nL : ∀ b o, h₀.get? b = some o → b ≠ It := fun b o e q => by rw [q, hI.2.2] at e; cases e
  obtain ⟨oL, es, ep, e, r⟩ := F.ns
  refine k h' ⟨⟨oL, es, ep, hs _ _ (Ne.symm hI.2.1) e, r⟩, fun b o e => hs _ _ (nL b o e) (F.keep b o e), F.above⟩ fun p hp => ⟨hs _ _ (off p hp) (N p (.tail _ hp)).1, (N p (.tail _ hp)).2⟩
theorem iter_plain (ho : IterO o l i) : plainO o = true := by
  obtain ⟨h1, h2⟩ := ho
  unfold plainO
  rw [h1, h2]
  rfl
theorem off_hold {h : Heap} {nb rb : Addr} {nvs rvs : List Value} {kn kr : Nat} {os pn : List (Addr × Obj)} {rs : List (Nat × List Nat)} (Tp : TabSt pn) (hR : RowsAre rvs os rs) (N : News h₀ L h ((It, o) :: (nb, listOf nvs.toArray kn) :: (rb, listOf rvs.toArray kr) :: (os ++ pn))) (ho : IterO o l i) :
    ∀ p ∈ (nb, listOf nvs.toArray kn) :: (rb, listOf rvs.toArray kr) :: (os ++ pn), p.1 ≠ It := by
  have h2 := (N _ (.head _)).1
  have cl : ∀ p : Addr × Obj, h.get? p.1 = some p.2 → p.2.cls ≠ .type "list_iterator" → p.1 ≠ It := fun p h1 hc q => by
    rw [q, h2] at h1
    exact hc (by rw [← Option.some.inj h1]; exact ho.1)
  intro p hp
  have h1 := (N p (.tail _ hp)).1
  rcases List.mem_cons.mp hp with rfl | hp
  · exact cl _ h1 (by show Value.type "list" ≠ _; decide)
  rcases List.mem_cons.mp hp with rfl | hp
  · exact cl _ h1 (by show Value.type "list" ≠ _; decide)
  rcases List.mem_append.mp hp with hp | hp
  · exact cl _ h1 (by rw [hR.cls p hp]; decide)
  · exact fun q => tab_off Tp hp (iter_plain ho) h2 h1 q.symm
end
theorem tup_news {h h₀ : Heap} {L a : Addr} {arr : Array Value} {n : Nat} {news : List (Addr × Obj)} (N : News h₀ L h news) (hm : (a, ({ cls := .type "tuple", data := .seq arr n } : Obj)) ∈ news) : h.IsTuple a arr := ⟨_, (N _ hm).1, rfl, n, rfl⟩
theorem isl_news2 {h h₀ : Heap} {L a : Addr} {arr : Array Value} {n : Nat} {news : List (Addr × Obj)} (N : News h₀ L h news) (hm : (a, ({ cls := .type "list", data := .seq arr n } : Obj)) ∈ news) : h.IsList a arr := ⟨_, (N _ hm).1, rfl, n, rfl⟩
theorem none_some {α : Type} {r : Option α} {y : α} (h1 : r = none) (h2 : r = some y) : False := by rw [h1] at h2; cases h2
theorem told_same {r : Option (Nat × List (List Nat))} {j k : Nat} {ps qs : List (List Nat)} (h1 : r = some (j, ps)) (h2 : r = some (k, qs)) : j = k ∧ ps = qs := by
  rw [h1] at h2
  exact Prod.mk.inj (Option.some.inj h2)
theorem ne_none {prog : Program} {w : World} {A : Around} {E : Value → Shared → Prop} {s : Shared} {Q : Value → Shared → Prop} (h : Q (.bool false) s) : wpAny (model prog w) A (compareOp .NotEq .none .none) Q E s :=
  RcNeAt.none_none (A := A) (s := s) prog w E Q h
/-- what is to hold of one row -/
structure RowOk (l : List Nat) (p : Nat) (nm : List Nat) (n : Nat) (r : List Nat × List (List Nat)) (k : Nat) : Prop where
  len : p + nm.length ≤ l.length
  n_le : n ≤ 2000
  peel : peelL n (extF (l.take (p + nm.length))) (extE (l.take (p + nm.length))) [] = some r
  long : p ≤ r.1.length
  front : r.1.take p = l.take p
  size : ((r.1.drop p :: r.2).map (·.length)).sum + (r.1.drop p :: r.2).length ≤ 2000
  each : ∀ w ∈ r.1.drop p :: r.2, w.length ≤ 900
  join : joinL [46] (r.1.drop p :: r.2) = nm
  first : 46 ∉ (r.1.drop p).dropWhile (· == 46)
  head : r.2 = [] ∨ rst (· == 46) ((r.1.drop p).dropWhile (· == 46)) ≠ []
  rest : ∀ z ∈ r.2, 46 ∉ z
  due : pk l k p = some (dueL (r.1.drop p :: r.2) p [])
noncomputable def quoted (names : List (List Nat)) : List Nat := joinL [46] (names.map fun n => [34] ++ n ++ [34])
/-- what is to hold of a path -/
structure LawOk (l : List Nat) (root : List Nat) (rws : List (Nat × List Nat)) (n k : Nat) : Prop where
  size : l.length ≤ 100
  alpha : ∀ c ∈ l, c ∈ alph
  names : namesL n l [] = some (root, rws)
  few : rws.length ≤ 100
  rootl : root.length ≤ 100
  short : ((rws.map (·.2)).map (·.length)).sum ≤ 200
  each : ∀ r ∈ rws, r.2.length ≤ 100
  croot : cutRoot l = root
  cnames : cutNames l = rws.map (·.2)
  row : ∀ p nm, (p, nm) ∈ rws → ∃ n r k, RowOk l p nm n r k
  qlen : (quoted (rws.map (·.2))).length ≤ 900
  qalpha : ∀ c ∈ quoted (rws.map (·.2)), c ∈ alph
  text : pk (quoted (rws.map (·.2))) k 0 = some (some ((quoted (rws.map (·.2))).length, rws.map (·.2)))
  join : joinF root (rws.map (·.2)) = root ++ joinL [47] (rws.map (·.2))
noncomputable def HoldI (w : World) (mean : ExcName → Option Value) (mg mb : Str → Option Value) (A : Around) (base : Heap) (lE : List Env) (g : Heap) (s : Shared) (L It nb rb : Addr) (nvs rvs : List Value) (kn kr : Nat) (os : List (Addr × Obj)) (x : Str) (t : Tok) (root : List Nat) (tr : Tok) (n : Nat) (s₁ : Shared) : Prop :=
  ∃ (i : Nat) (g' h' : Heap) (tk : Nat) (m' : Str → Option Value) (pn : List (Addr × Obj)) (o : Obj),
    s₁ = { s with heap := h', toks := tk } ∧ KtsTurn (frs lE) g g' ∧ Gd w mean mg mb A base lE g' ∧ TabSt pn ∧ Fr g' L h' m' ∧ News g' L h' ((It, o) :: (nb, listOf nvs.toArray kn) :: (rb, listOf rvs.toArray kr) :: (os ++ pn)) ∧ IterO o rb i ∧
      m' (Str.ofString "path") = some (.str x t) ∧ m' (Str.ofString "root") = some (.str (sL root) tr) ∧ m' (Str.ofString "names") = some (.ref nb) ∧ i ≤ rvs.length ∧ n = rvs.length - i
end Mine
end
section
open PySem PySem.W PyProof.Rows PySem.Calls PySem.Spec PySem.SeqAt
set_option maxRecDepth 100000
namespace Mine
noncomputable def quo (n : List Nat) : List Nat := [34] ++ n ++ [34]
section
variable {prog : Program} {w : World} {A : Around} {E : Value → Shared → Prop} {s : Shared} {h₀ : Heap} {L : Addr} {m : Str → Option Value} {news : List (Addr × Obj)}
theorem eval_sum {env : Env} {l r : PySem.Expr} {pos : Pos} {Q : Value → Shared → Prop} (h : wpAny (model prog w) A (eval l env) (fun a s₁ => wpAny (model prog w) A (eval r env) (fun b s₂ => wpAny (model prog w) A (binaryOp .Add a b) Q E s₂) E s₁) E s) :
    wpAny (model prog w) A (eval (.BinOp l .Add r pos) env) Q E s := by
  rw [arm_eval_BinOp]
  refine wpAny_bind (wpAny_mono h (fun a s₁ h₁ => wpAny_bind (wpAny_holding (wpAny_mono h₁ (fun b s₂ h₂ => wpAny_bind (wpAny_standAt (wpAny_operating h₂))) fun _ _ x => x))) fun _ _ x => x)
theorem eval_text {env : Env} {x : Str} {kd : Nat} {pos : Pos} {Q : Value → Shared → Prop} (h : Q (.str x s.toks) { s with toks := s.toks + 1 }) : wpAny (model prog w) A (eval (.Constant (.str x) kd pos) env) Q E s := by
  rw [arm_eval_Constant]
  exact fun _ _ _ => h
theorem paired_quo {vs : List Value} {ps : List (List Nat)} (h : Mine.StrsAre vs ps) : ∀ {ys : List Value}, Paired (fun v y => ∃ n t t', v = .str (sL n) t ∧ y = .str (sL (quo n)) t') vs ys → Mine.StrsAre ys (ps.map quo) := by
  induction vs generalizing ps with
  | nil =>
    intro ys hp
    cases hp
    cases ps with
    | nil => rfl
    | cons a r => cases h
  | cons v vs ih =>
    intro ys hp
    cases ps with
    | nil => cases h
    | cons a r =>
      unfold Mine.StrsAre at h
      rw [List.map_cons, List.map_cons, List.cons.injEq] at h
      obtain ⟨h1, h2⟩ := h
      cases hp with
      | cons hF hr =>
        obtain ⟨n, t, t', rfl, rfl⟩ := hF
        have hn : tl (sL n) = a := Option.some.inj h1
        rw [tl_sL] at hn
        subst hn
        have r' := ih (ps := r) h2 hr
        unfold Mine.StrsAre at r' ⊢
        rw [List.map_cons, List.map_cons, List.map_cons, r']
        rfl
theorem srcC_quote {env : Env} {x : Str} {k1 k2 : Nat} {p1 p2 p3 p4 p5 : Pos} {scope : Scope} {Q : Value → Shared → Prop} {l : Addr} {vs : List Value} {ps : List (List Nat)}
    (hh : A.handled = none) (hl : s.heap.IsList l vs.toArray) (hS : Mine.StrsAre vs ps) (F : Fr h₀ L s.heap m) (N : News h₀ L s.heap news) (hk : scope.kind = .function) (hx : ∀ C, (compEnv scope C env).kindOf x = some .local) (hdbg : (x == ("__debug__" : Str)) = false) (hsz : vs.length ≤ 4000) (hps : ∀ n ∈ ps, n.length ≤ 900)
    (g3 : ∀ D (ys : List Value) h' tk k, Fr h₀ L h' m → News h₀ L h' ((D, listOf ys.toArray k) :: news) → Mine.StrsAre ys (ps.map quo) → Q (.ref D) { s with heap := h', toks := tk }) :
    wpAny (model prog w) A (pyIter (.ref l)) (CompPost prog w A env scope x [] (.BinOp (.BinOp (.Constant (.str (Str.ofString "\"")) k1 p1) .Add (.Name x p2) p3) .Add (.Constant (.str (Str.ofString "\"")) k2 p4) p5) Q) E s := by
  have hlt : l < s.heap.objs.size := by obtain ⟨_, e, _⟩ := hl; exact Heap.lt_size e
  refine wpAny_pyIter_list hl ?_
  have up : ∀ (h' : Heap), (∀ b o', b ∉ [s.heap.objs.size] → (s.heap.push { cls := .type "list_iterator", data := .fields #[.ref l, .int 0 0] }).get? b = some o' → h'.get? b = some o') → ∀ b o', s.heap.get? b = some o' → h'.get? b = some o' :=
    fun h' hk b o' e => hk b o' (not_iter_of_old e) (Heap.get?_push_of_some _ e)
  refine ⟨fun _ => true, fun v y => ∃ n t t', v = .str (sL n) t ∧ y = .str (sL (quo n)) t', s.heap.objs.size, [s.heap.objs.size, l], [s.heap.objs.size], vs.toArray.size, _, _, rfl, Walks.list hh _ l (Nat.ne_of_lt hlt) vs.toArray, (by rw [List.size_toArray, sizeLine_eq]; omega),
    ⟨⟨_, Heap.get?_push_size _ rfl, rfl, rfl⟩, hl.at fun o e => Heap.get?_push_of_some _ e⟩, ?_, ⟨?_, ?_⟩, ?_⟩
  · intro b hb
    show b < (s.heap.push _).objs.size
    rw [Heap.size_push]
    rcases List.mem_cons.mp hb with rfl | hb
    · exact Nat.lt_succ_self _
    · rw [List.mem_singleton.mp hb]; exact Nat.lt_succ_of_lt hlt
  · intro C i v s₃ m₃ E' hP hn hm hk htk
    exact wpAny_pure ⟨rfl, _, _, rfl, fun _ _ e => e⟩
  · intro C i v s₃ m₃ E' hP hp hn hm hk' htk
    obtain ⟨n, t, hw, rfl⟩ := hS.at (i := i) (v := v) (by simpa using hP)
    have hn9 := hps n (List.mem_of_getElem? hw)
    refine eval_sum (eval_sum (eval_text (wpAny_Name (wpAny_loadName_local hk (hx C) hn hm (KOpn.add ?_ fun t1 k1 hz1 => eval_text (KOpn.add ?_ fun t2 k2 hz2 => ?_))) hdbg)))
    · rw [show Str.ofString "\"" = sL [34] from rfl, len_sL, len_sL]
      simp only [List.length_cons, List.length_nil]; omega
    · rw [show Str.ofString "\"" = sL [34] from rfl, sL_app, len_sL, len_sL]
      simp only [List.length_cons, List.length_nil, List.length_append]; omega
    · refine ⟨⟨n, t, t2, rfl, ?_⟩, _, _, rfl, fun _ _ e => e⟩
      rw [show Str.ofString "\"" = sL [34] from rfl, sL_app, sL_app]
      rfl
  · intro D h' tk ys vs' hnew hlD hplD hlen hP hF hk
    have e' : vs' = vs := by simpa using walked_is hlen hP
    subst e'
    rw [List.filter_eq_self.mpr fun _ _ => rfl] at hF
    obtain ⟨k, hpk⟩ := hplD
    refine g3 D ys.toList h' tk k (F.keeps (up h' hk)) (fun p hp => ?_) (paired_quo hS hF)
    rcases List.mem_cons.mp hp with rfl | hp
    · refine ⟨by rw [Array.toArray_toList]; exact hpk, fun q => ?_, ?_⟩
      · obtain ⟨o, es, ep, e, r⟩ := F.ns
        have q : D = L := q
        rw [q, Heap.get?_push_of_some _ e] at hnew; cases hnew
      · cases e : h₀.get? D with
        | none => rfl
        | some o' => rw [Heap.get?_push_of_some _ (F.keep _ _ e)] at hnew; cases hnew
    · exact N.grown (up h' hk) p hp
end
theorem quo_sum : ∀ ps : List (List Nat), ((ps.map quo).map (·.length)).sum = (ps.map (·.length)).sum + 2 * ps.length
  | [] => rfl
  | a :: r => by
    have := quo_sum r
    simp only [List.map_cons, List.sum_cons, List.length_cons] at this ⊢
    rw [this]
    have : (quo a).length = a.length + 2 := by unfold quo; simp
    omega
theorem readR_some {j : Nat} {ps : List (List Nat)} {v : Value} {res : List (Addr × Obj)} (h : ReadR (some (j, ps)) v res) : ∃ a b t vs, Mine.StrsAre vs ps ∧ v = .ref a ∧ res = [(a, tupO [.int (j : Int) t, .ref b]), (b, tupO vs)] := by
  rcases h with ⟨h, _, _⟩ | ⟨j', ps', a, b, t, vs, h, h1, h2, h3⟩
  · cases h
  · obtain ⟨rfl, rfl⟩ := Prod.mk.inj (Option.some.inj h)
    exact ⟨a, b, t, vs, h1, h2, h3⟩
theorem ne_told2 {prog : Program} {w : World} {A : Around} {E : Value → Shared → Prop} {s : Shared} {Q : Value → Shared → Prop} {a c b d : Addr} {j j' : Int} {t t' : Tok} {vs ws : List Value} {ps : List (List Nat)} (hj : j = j') (ha : s.heap.IsTuple a #[.int j t, .ref b]) (hc : s.heap.IsTuple c #[.int j' t', .ref d]) (hb : s.heap.IsTuple b vs.toArray) (hd : s.heap.IsTuple d ws.toArray) (h1 : Mine.StrsAre vs ps) (h2 : Mine.StrsAre ws ps)
    (hu : A.units + 1 < cLine) (h : Q (.bool false) s) : wpAny (model prog w) A (compareOp .NotEq (.ref a) (.ref c)) Q E s := by
  subst hj
  exact ne_told ha hc hb hd h1 h2 hu h
end Mine
end
section
open PySem PySem.W PyProof.Rows PySem.Calls PySem.Spec
set_option maxRecDepth 100000
namespace Mine
noncomputable def NamesR (r : List Nat × List (Nat × List Nat)) (v : Value) (res : List (Addr × Obj)) : Prop := ∃ a b t vs os k, v = .ref a ∧ res = (a, tupO [.str (sL r.1) t, .ref b]) :: (b, listOf vs.toArray k) :: os ∧ RowsAre vs os r.2
noncomputable def NamesI (g : Heap) (s : Shared) (L : Addr) (r : List Nat × List (Nat × List Nat)) (n : Nat) (s₁ : Shared) : Prop :=
  ∃ (rest : List Nat) (acc : List (Nat × List Nat)) (vs : List Value) (os : List (Addr × Obj)) (b : Addr) (k : Nat) (h' : Heap) (tk : Nat) (m' : Str → Option Value) (t1 t2 t3 : Tok),
    s₁ = { s with heap := h', toks := tk } ∧ Fr g L h' m' ∧ News g L h' ((b, listOf vs.toArray k) :: os) ∧ m' (Str.ofString "rows") = some (.ref b) ∧ m' (Str.ofString "rest") = some (.str (sL rest) t1) ∧ m' (Str.ofString "head") = some (.str (sL (splitH rest)) t2) ∧
      m' (Str.ofString "tail") = some (.str (sL (splitT rest)) t3) ∧ RowsAre vs os acc ∧ rest.length ≤ 900 ∧ acc.length + rest.length ≤ 1900 ∧ namesL n rest acc = some r
set_option maxHeartbeats 4000000 in
theorem c_names (w : World) (x : Str) (t : Tok) (n : Nat) (r : List Nat × List (Nat × List Nat)) (hx : x.length ≤ 900) (hr : namesL n (tl x) [] = some r) : ConP w 60 600 332 [.str x t] [] (fun _ => True) (NamesR r) := by
  intro mean mg mb dp un gd l base g s Q E G O hd hu _ hret
  obtain ⟨B, X, T, S, D, XB, TB, SB⟩ := G
  ((have fill : (KF w.params).In g → PySem.Challenge.rw_ij0142_01.row.prog = PySem.Challenge.rw_ij0142_01.row.prog → True := by (k_fill; intros; trivial)); clear fill; k_with_none)
  k_with "exec While Compare cons nil" => (refine blk ?_)
  k_with "call ref" => (refine blk ?_)
  k_with "call ref" => k_dflt ((refine' call_p2 (c_split w x _ hx) (by assumption) (by assumption) (by exact rfl) (by exact rfl) (by assumption) (by assumption) (by assumption) (by assumption) (by assumption) XB TB SB (by (first | exact lt_hd1 hd rfl | exact lt_hd hd rfl | (have hd9 := hd; (try dsimp only [Ar]); omega))) (by (first | exact lt_hd1 hu rfl | exact lt_hd hu rfl | (have hu9 := hu; (try dsimp only [Ar]); omega))) trivial ?_); (intro v' res' h' tk' hr' F' N' hne'; (try simp only [List.cons_append, List.nil_append] at N')); (obtain ⟨r9, t9, t9', rfl, rfl⟩ := hr'); (try simp only [List.cons_append, List.nil_append] at N'); (try dsimp only))
  ((have Sc := SetsF.ctl S); (have Sw := SetsF.ws S); (have Sb := SetsF.bare S); (have N : NG g s.heap [] := fun _ h => nomatch h); refine wpAny_call ?_; k_dflt (refine' enter ⟨B, X, T, S, D, XB, TB, SB⟩ O N ?k6 ?k7 ?k8 ?k9 ?kB ?_ ?c2 ?c3 ?c4 ?c5; (case k6 => k_is); (case k7 => k_is); (case k8 => exact Nat.lt_of_le_of_lt (Nat.le_add_right _ _) hd); (case k9 => first | exact binds_K (by k_in) rfl (by k_is) rfl rfl rfl | exact BindsTo.of_eq rfl | fail "m_pure: no rule for these arguments"); (case kB => exact locs rfl); (case c2 => exact rfl); (case c3 => exact rfl); (case c4 => exact rfl); (case c5 => decide); k_whole; intro L' h' F' N' lL'; (try dsimp only); (try k_fold)))
  k_steps
  unfold Blk
  refine while_I (NamesI g s L' r) n ⟨tl x, [], [], [], _, 0, _, _, _, _, _, _, rfl, by assumption, cb_drop (by assumption) (by kcj_all), rfl, rfl, rfl, rfl, .nil, by rw [← len_tl]; exact hx, by rw [← len_tl]; simp; omega, hr⟩ ?_
  rintro n₁ s₁ ⟨rest, acc, vs, os, b, k, h₁, tk₁, m₁, t1, t2, t3, rfl, F₁, N', e1, e2, e3, e4, hrow, hlen, hacc, hnm⟩
  have F' := fr4 F₁ e1 e2 e3 e4
  clear F₁
  have hl1 : (sL rest).length ≤ 900 := by rw [len_sL]; exact hlen
  have hl2 : (sL (splitT rest)).length ≤ 900 := by rw [len_sL]; exact Nat.le_trans splitT_len hlen
  cases n₁ with
  | zero => exact absurd hnm (by simp [namesL])
  | succ n₁ =>
  k_with "call ref" => (refine blk ?_)
  k_with "call ref" => k_dflt ((refine' call_p2 (c_split w (sL (splitH rest)) _ (by rw [len_sL]; exact Nat.le_trans splitH_len hlen)) (by assumption) (by assumption) (by exact rfl) (by exact rfl) (by assumption) (by assumption) (by assumption) (by assumption) (by assumption) XB TB SB (by (first | exact lt_hd1 hd rfl | exact lt_hd hd rfl | (have hd9 := hd; (try dsimp only [Ar]); omega))) (by (first | exact lt_hd1 hu rfl | exact lt_hd hu rfl | (have hu9 := hu; (try dsimp only [Ar]); omega))) trivial ?_); (intro v' res' h' tk' hr' F' N' hne'; (try simp only [List.cons_append, List.nil_append] at N')); (obtain ⟨r9, t9, t9', rfl, rfl⟩ := hr'); (try simp only [List.cons_append, List.nil_append] at N'); (try dsimp only))
  k_with "call builtin:list.insert" => k_dflt ((refine' insert0b (by assumption) (by assumption) rfl hrow.cls (by rw [hrow.length]; omega) ?_); intro h' F' N')
  k_steps
  · obtain ⟨hn, hnm'⟩ := namesL_step hnm (by assumption)
    have hlt := splitH_lt hn
    refine ⟨n₁, Nat.lt_succ_self _, splitH rest, _, _, _, b, k + 1, _, _, _, _, _, _, rfl, by assumption, cb_drop (by assumption) (fun p hp => .tail _ hp), rfl, rfl, rfl, rfl, RowsAre.cons _ (rest.length - (splitT rest).length) _ ?_ _ _ _ hrow, by omega, by simp only [List.length_cons]; omega, hnm'⟩
    rw [len_sL, len_sL]
    have := splitT_len (l := rest)
    omega
  · obtain rfl := namesL_end hnm (by assumption)
    exact out_p hret ⟨_, b, _, vs, os, k, rfl, rfl, hrow⟩ (by assumption) (by assumption) (fun p hp => hp)
end Mine
end
section
open PySem PySem.W PyProof.Rows PySem.Calls PySem.Spec PySem.SeqAt
set_option maxRecDepth 100000
namespace Mine
theorem joinL_len (c : Nat) : ∀ ps : List (List Nat), (joinL [c] ps).length ≤ (ps.map (·.length)).sum + ps.length
  | [] => Nat.zero_le _
  | [p] => by simp only [joinL, List.map_cons, List.map_nil, List.sum_cons, List.sum_nil, List.length_cons, List.length_nil]; omega
  | p :: q :: r => by
    have := joinL_len c (q :: r)
    simp only [joinL, List.map_cons, List.sum_cons, List.length_cons, List.length_append, List.length_nil] at this ⊢
    omega
set_option maxHeartbeats 4000000 in
theorem c_holds (w : World) (x : Str) (t : Tok) (root : List Nat) (rws : List (Nat × List Nat)) (n nk : Nat) (OK : LawOk (tl x) root rws n nk) :
    ConT w 200 2000 368 [.str x t] [] (fun _ => True) (fun v res => v = .bool true ∧ res = []) False := by
  have hx1 : x.length ≤ 100 := by have := OK.size; rw [len_tl]; exact this
  have hx : x.length ≤ 900 := Nat.le_trans hx1 (by decide)
  have hfew := OK.few
  have hcut : ∀ t, ConP w 60 600 337 [.str x t] [] (fun _ => True) (CutR (root, rws.map (·.2))) := fun t => by
    have := c_cut w x t hx
    rw [OK.croot, OK.cnames] at this
    exact this
  intro mean mg mb dp un gd l base g s Q E pn G O hd hu _ Tp N hret _
  obtain ⟨B, X, T, S, D, XB, TB, SB⟩ := G
  ((have fill : (KF w.params).In g → PySem.Challenge.rw_ij0142_01.row.prog = PySem.Challenge.rw_ij0142_01.row.prog → True := by (k_fill; intros; trivial)); clear fill; k_with_none)
  k_with "exec For Tuple Name cons nil" => (refine blk ?_)
  k_with "call ref" => (refine blk ?_)
  k_with "call ref" => k_dflt ((refine' call_p2 (c_names w x _ n _ hx OK.names) (by assumption) (by assumption) (by exact rfl) (by exact rfl) (by assumption) (by assumption) (by assumption) (by assumption) (by assumption) XB TB SB (by (first | exact lt_hd1 hd rfl | exact lt_hd hd rfl | (have hd9 := hd; (try dsimp only [Ar]); omega))) (by (first | exact lt_hd1 hu rfl | exact lt_hd hu rfl | (have hu9 := hu; (try dsimp only [Ar]); omega))) trivial ?_); (intro v' res' h' tk' hr' F' N' hne'; (try simp only [List.cons_append, List.nil_append] at N')); (obtain ⟨a9, b9, t9, rvs, os, k9, rfl, rfl, hR⟩ := hr'); (try simp only [List.cons_append, List.nil_append] at N'); (try dsimp only))
  k_with "call ref" => k_dflt ((refine' call_p2 (hcut _) (by assumption) (by assumption) (by exact rfl) (by exact rfl) (by assumption) (by assumption) (by assumption) (by assumption) (by assumption) XB TB SB (by (first | exact lt_hd1 hd rfl | exact lt_hd hd rfl | (have hd9 := hd; (try dsimp only [Ar]); omega))) (by (first | exact lt_hd1 hu rfl | exact lt_hd hu rfl | (have hu9 := hu; (try dsimp only [Ar]); omega))) trivial ?_); (intro v' res' h' tk' hr' F' N' hne'; (try simp only [List.cons_append, List.nil_append] at N')); (obtain ⟨a8, b8, t8, cvs, k8, rfl, rfl, hC⟩ := hr'); (try simp only [List.cons_append, List.nil_append] at N'); (try dsimp only))
  k_with "pyIter ref" => k_dflt ((refine' srcA_rows (L := L') rfl rfl (isl_news (arr' := rvs.toArray) (by assumption) (by k_mem) rfl) hR (by assumption) (by assumption) (fun p hp => .tail _ (.tail _ (List.mem_append_left _ hp))) rfl (fun _ => rfl) (by decide) (by rw [hR.length]; show rws.length ≤ _; omega) ?_); (intro nb nvs h' tk' kn F' N' hN))
  k_with "compareOp NotEq ref ref" => k_dflt ((have hp9 := N'); (refine' ne_cut (l := root) (tup_news hp9 (.tail _ (.tail _ (.head _)))) (tup_news hp9 (.head _)) (isl_news2 hp9 (.tail _ (.tail _ (.tail _ (.head _))))) (isl_news2 hp9 (.tail _ (.head _))) hN hC (by show un + 3 + 1 < cLine; omega) ?_); clear hp9)
  ((have Sc := SetsF.ctl S); (have Sw := SetsF.ws S); (have Sb := SetsF.bare S); refine wpAny_call ?_; k_dflt (refine' enter ⟨B, X, T, S, D, XB, TB, SB⟩ O N ?k6 ?k7 ?k8 ?k9 ?kB ?_ ?c2 ?c3 ?c4 ?c5; (case k6 => k_is); (case k7 => k_is); (case k8 => exact Nat.lt_of_le_of_lt (Nat.le_add_right _ _) hd); (case k9 => first | exact binds_K (by k_in) rfl (by k_is) rfl rfl rfl | exact BindsTo.of_eq rfl | fail "m_enter: no rule for these arguments"); (case kB => exact locs rfl); (case c2 => exact rfl); (case c3 => exact rfl); (case c4 => exact rfl); (case c5 => decide); k_whole; intro L' h' F' N' lL'; (have T0 : KtsTurn (frs l) g g := KtsTurn.refl); (try dsimp only); (try k_fold)))
  k_steps
  unfold Blk
  rename Fr _ _ _ _ => F₀
  rename News _ _ _ ((a8, _) :: _) => N₀
  have N₁ := cb_drop N₀ (news := (nb, listOf nvs.toArray kn) :: (b9, listOf rvs.toArray k9) :: (os ++ pn)) (fun p hp => by
    rcases List.mem_cons.mp hp with rfl | hp
    · exact .tail _ (.tail _ (.tail _ (.head _)))
    · exact .tail _ (.tail _ (.tail _ (.tail _ (.tail _ hp)))))
  refine for_P (l := b9) (its := rvs.toArray) (fun It => HoldI w mean mg mb (Ar dp un gd l) base l g s L' It nb b9 nvs rvs kn k9 os x t root t9) rvs.length ?_
  refine ld F₀ rfl ⟨rfl, isl_news2 N₁ (.tail _ (.head _)), ?_, ?_⟩
  · exact ⟨0, _, _, _, _, pn, _, rfl, T0, ⟨by assumption, by assumption, by assumption, by assumption, by assumption, XB, TB, SB⟩, Tp, (iter_start F₀ N₁).1, (iter_start F₀ N₁).2, iterO_zero, rfl, rfl, rfl, Nat.zero_le _, rfl⟩
  clear T0 Tp F₀ N₁ N₀
  rintro n₁ s₂ ⟨i, g₁, h₁, tk₁, m₁, pn₁, o, rfl, T0, ⟨B', X', T', S', D', -, -, -⟩, Tp, F₁, N', ho, e1, e2, e3, hil, rfl⟩
  have F' := fr3 F₁ e1 e2 e3
  clear F₁
  have Sc' := SetsF.ctl S'
  have Sw' := SetsF.ws S'
  have Sb' := SetsF.bare S'
  cases hv : rvs[i]? with
  | none =>
    refine next_end2 rfl F' N' ho (off_hold Tp hR N' ho) (isl_news2 N' (.tail _ (.tail _ (.head _)))) hv fun h₂ F' N' => ?_
    have hnl : nvs.length ≤ 100 := by rw [hN.length, List.length_map]; exact hfew
    have hq1 : (sL (quoted (rws.map (·.2)))).length ≤ 900 := by rw [len_sL]; exact OK.qlen
    k_with "call ref" => (refine blk ?_)
    k_with "pyIter ref" => k_dflt ((refine' srcC_quote rfl (isl_news2 (by assumption) (.head _)) hN (by assumption) (by assumption) rfl (fun _ => rfl) (by decide) (by omega) ?_ ?_); (intro n9 hn9; obtain ⟨r9, hr9, rfl⟩ := List.mem_map.mp hn9; exact Nat.le_trans (OK.each r9 hr9) (by decide)); (intro qb qvs h' tk' kq F' N' hQ))
    have hsum : (((rws.map (·.2)).map quo).map (·.length)).sum + ((rws.map (·.2)).map quo).length ≤ 4000 := by
      have h9 := OK.short
      rw [quo_sum]
      simp only [List.length_map]
      omega
    k_with "call builtin:str.join" => k_dflt ((refine' join_L (c := 46) (x := sL (quoted (rws.map (·.2)))) (isl_news2 (by assumption) (.head _)) hQ hsum (by rw [tl_sL]; rfl) ?_); intro t9' k9')
    k_with "call ref" => k_dflt ((refine' call_t2 (rest := _ :: _ :: _ :: os) (c_read w (sL (quoted (rws.map (·.2)))) _ _ 0 nk _ _ rfl hq1 (Nat.zero_le _) (by rw [tl_sL]; exact OK.qalpha) (by rw [tl_sL]; exact OK.text)) (by assumption) (by assumption) Tp (by exact rfl) (by exact rfl) (by assumption) (by assumption) (by assumption) (by assumption) (by assumption) XB TB SB (by repeat' (first | exact hR.plain | refine List.forall_mem_cons.mpr ⟨rfl, ?_⟩)) (by (first | exact lt_hd1 hd rfl | exact lt_hd hd rfl | (have hd9 := hd; (try dsimp only [Ar]); omega))) (by (first | exact lt_hd1 hu rfl | exact lt_hd hu rfl | (have hu9 := hu; (try dsimp only [Ar]); omega))) trivial ?_ (fun q => q.elim)); (intro v' res' h₀' h' tk' pn' hr' T0' G' F' Tp' N' hne'; (try simp only [List.cons_append, List.nil_append] at N'); (replace T0 := KtsTurn.trans T0 T0'); (clear T0'); (clear Tp); (rename TabSt _ => Tp); (obtain ⟨B', X', T', S', D', -, -, -⟩ := G'); (have Sc' := SetsF.ctl S'); (have Sw' := SetsF.ws S'); (have Sb' := SetsF.bare S')); (obtain ⟨a6, b6, t6, rv9, hst9, rfl, rfl⟩ := readR_some hr'); (try simp only [List.cons_append, List.nil_append] at N'); (try dsimp only))
    k_with "compareOp NotEq ref ref" => (refine blk ?_)
    k_steps
    unfold Blk
    have hrl : rv9.length ≤ 100 := by rw [hst9.length, List.length_map]; exact hfew
    k_dflt ((rename News _ _ _ _ => N9); (refine' ne_told2 ?_ (tup_news N9 (.tail _ (.tail _ (.head _)))) (tup_news N9 (.head _)) (tup_news N9 (.tail _ (.tail _ (.tail _ (.head _))))) (tup_news N9 (.tail _ (.head _))) hst9 hN (by show un + 3 + 1 < cLine; omega) ?_))
    · rw [len_sL]
    k_with "StarOf ref" => k_dflt ((refine' star_seq (o := tupO rv9) (T := "tuple") (its := rv9.toArray) (n := 0) (ws := rv9) (by assumption) (by assumption) (by k_mem) rfl rfl (.inr rfl) rfl (by (rw [List.size_toArray, sizeLine_eq]); omega) ?_); intro h' F' N')
    k_with "call ref" => (refine blk ?_)
    k_steps
    unfold Blk
    rw [List.append_nil]
    have hrt : (sL root).length ≤ 100 := by rw [len_sL]; exact OK.rootl
    have hjs : (tl (sL root)).length + ((rws.map (·.2)).map (·.length)).sum + (rws.map (·.2)).length ≤ 4000 := by
      have h9 := OK.short
      have h8 := OK.rootl
      rw [tl_sL, List.length_map]
      omega
    have hj9 : (joinL [47] (rws.map (·.2))).length ≤ 400 := by
      have h9 := OK.short
      have h8 := joinL_len 47 (rws.map (·.2))
      rw [List.length_map] at h8
      omega
    have hj8 : (sL root).length + (sL (joinL [47] (rws.map (·.2)))).length ≤ 16777216 := by
      rw [len_sL (joinL _ _)]; omega
    have hj2 : ((rws.map (·.2)).map (·.length)).sum + (rws.map (·.2)).length ≤ 4000 := by omega
    have hj3 : joinL [47] (rws.map (·.2)) = tl (sL (joinL [47] (rws.map (·.2)))) := by rw [tl_sL]
    k_with "call builtin:str.join" => k_dflt ((refine' join_L (c := 47) (isl_news2 (arr := nvs.toArray) (n := kn) (by assumption) (by k_mem)) hN hj2 hj3 ?_); intro t9' k9')
    k_with "binaryOp Add str str" => k_dflt ((refine' KOpn.add hj8 ?_); intro t9' k9' z9)
    k_dflt ((refine' call_p2 (c_join w (sL root) _ rv9 (rws.map (·.2)) (Nat.le_trans hrt (by decide)) hst9 hjs) (by assumption) (by assumption) (by exact rfl) (by exact rfl) (by assumption) (by assumption) (by assumption) (by assumption) (by assumption) XB TB SB (by (first | exact lt_hd1 hd rfl | exact lt_hd hd rfl | (have hd9 := hd; (try dsimp only [Ar]); omega))) (by (first | exact lt_hd1 hu rfl | exact lt_hd hu rfl | (have hu9 := hu; (try dsimp only [Ar]); omega))) trivial ?_); (intro v' res' h' tk' hr' F' N' hne'; (try simp only [List.cons_append, List.nil_append] at N')); (obtain ⟨tj, rfl, rfl⟩ := hr'); (try simp only [List.cons_append, List.nil_append] at N'); (try dsimp only))
    k_steps
    have hfin : Value.bool (sL (joinF (tl (sL root)) (rws.map (·.2))) == sL root ++ sL (joinL [47] (rws.map (·.2)))) = .bool true := by
      rw [tl_sL, OK.join, sL_app]
      simp
    exact out_t (res := []) hret ⟨hfin, rfl⟩ T0 (by assumption) (by assumption) (by assumption) (by assumption) XB TB SB Tp (fun _ hp => nomatch hp) (by intro p hp; repeat (first | exact List.mem_append_right _ hp | refine .tail _ ?_))
  | some v =>
    obtain ⟨ra, pl, pk9, rt1, rt2, nm, rfl, hw, rfl, hm⟩ := hR.at hv
    obtain ⟨pn9, pr9, pk9, RO⟩ := OK.row pl nm (List.mem_of_getElem? hw)
    refine next_item2 F' N' ho (off_hold Tp hR N' ho) (isl_news2 N' (.tail _ (.tail _ (.head _)))) hv fun h₂ o' F' N' ho' => ?_
    refine wpAny_letOwnedTupleGo_listiter ⟨o', (N' _ (.head _)).1, ho'⟩ ?_
    have N'' := cb_drop N' (news := (ra, tupO [.int (pl : Int) rt1, .str (sL nm) rt2]) :: (_, o') :: (nb, listOf nvs.toArray kn) :: (b9, listOf rvs.toArray k9) :: (os ++ pn₁)) (fun p hp => by
      rcases List.mem_cons.mp hp with rfl | hp
      · exact .tail _ (.tail _ (.tail _ (List.mem_append_left _ hm)))
      · exact hp)
    clear N'
    have hil9 : i < rvs.length := (List.getElem?_eq_some_iff.mp hv).1
    have hnm : (sL nm).length ≤ 100 := by rw [len_sL]; exact OK.each _ (List.mem_of_getElem? hw)
    have hnm9 : (sL nm).length ≤ 900 := Nat.le_trans hnm (by decide)
    have hpx : pl + (sL nm).length ≤ x.length := by rw [len_sL, len_tl]; exact RO.len
    have hfr : Txt.slice x none (some (pl : Int)) = sL (pr9.1.take pl) := by
      rw [slice_to (by omega) (by omega), Int.toNat_natCast, RO.front]
    k_with "call ref" => (refine blk ?_)
    k_with "call ref" => k_dflt ((refine' call_p2 (c_peel w x (sL nm) _ _ _ pl pn9 _ rfl pr9 hx hnm9 hpx RO.n_le (by rw [len_sL]; exact RO.peel) RO.long) (by assumption) (by assumption) (by exact rfl) (by exact rfl) (by assumption) (by assumption) (by assumption) (by assumption) (by assumption) XB TB SB (by (first | exact lt_hd1 hd rfl | exact lt_hd hd rfl | (have hd9 := hd; (try dsimp only [Ar]); omega))) (by (first | exact lt_hd1 hu rfl | exact lt_hd hu rfl | (have hu9 := hu; (try dsimp only [Ar]); omega))) trivial ?_); (intro v' res' h' tk' hr' F' N' hne'; (try simp only [List.cons_append, List.nil_append] at N')); (obtain ⟨a7, b7, t7, wvs, k7, rfl, rfl, hW⟩ := hr'); (try simp only [List.cons_append, List.nil_append] at N'); (try dsimp only))
    k_with "call ref" => k_dflt ((refine' call_p2 (c_plain w (sL nm) _ b7 wvs (pr9.1.drop pl) pr9.2 hnm9 hW (Nat.le_trans RO.size (by decide)) (by rw [tl_sL]; exact RO.join) RO.first RO.head RO.rest) (by assumption) (by assumption) (by exact rfl) (by exact rfl) (by assumption) (by assumption) (by assumption) (by assumption) (by assumption) XB TB SB (by (first | exact lt_hd1 hd rfl | exact lt_hd hd rfl | (have hd9 := hd; (try dsimp only [Ar]); omega))) (by (first | exact lt_hd1 hu rfl | exact lt_hd hu rfl | (have hu9 := hu; (try dsimp only [Ar]); omega))) (isl_news2 (by assumption) (.tail _ (.head _))) ?_); (intro v' res' h' tk' hr' F' N' hne'; (try simp only [List.cons_append, List.nil_append] at N')); (obtain ⟨rfl, rfl⟩ := hr'); (try simp only [List.cons_append, List.nil_append] at N'); (try dsimp only))
    k_with "call ref" => k_dflt ((refine' call_t2 (rest := _ :: _ :: _ :: _ :: _ :: _ :: os) (c_read w x _ _ pl pk9 _ _ rfl hx (by omega) OK.alpha RO.due) (by assumption) (by assumption) Tp (by exact rfl) (by exact rfl) (by assumption) (by assumption) (by assumption) (by assumption) (by assumption) XB TB SB (by repeat' (first | exact hR.plain | refine List.forall_mem_cons.mpr ⟨(by first | rfl | exact iter_plain ho'), ?_⟩)) (by (first | exact lt_hd1 hd rfl | exact lt_hd hd rfl | (have hd9 := hd; (try dsimp only [Ar]); omega))) (by (first | exact lt_hd1 hu rfl | exact lt_hd hu rfl | (have hu9 := hu; (try dsimp only [Ar]); omega))) trivial ?_ (fun q => q.elim)); (intro v' res' h₀' h' tk' pn' hr' T0' G' F' Tp' N' hne'; (try simp only [List.cons_append, List.nil_append] at N'); (replace T0 := KtsTurn.trans T0 T0'); (clear T0'); (clear Tp); (rename TabSt _ => Tp); (obtain ⟨B', X', T', S', D', -, -, -⟩ := G'); (have Sc' := SetsF.ctl S'); (have Sw' := SetsF.ws S'); (have Sb' := SetsF.bare S')); (rcases hr' with ⟨hq9, rfl, rfl⟩ | ⟨j9, ps9, a6, b6, t6, rv9, hq9, hst9, rfl, rfl⟩) <;> (try simp only [List.cons_append, List.nil_append] at N') <;> (try dsimp only))
    k_with "call ref" => k_dflt ((refine' call_p2 (c_due w _ b7 wvs (pr9.1.drop pl :: pr9.2) pl _ rfl hW (by nofun) (by have h9 := RO.size; omega) RO.each) (by assumption) (by assumption) (by exact rfl) (by exact rfl) (by assumption) (by assumption) (by assumption) (by assumption) (by assumption) XB TB SB (by (first | exact lt_hd1 hd rfl | exact lt_hd hd rfl | (have hd9 := hd; (try dsimp only [Ar]); omega))) (by (first | exact lt_hd1 hu rfl | exact lt_hd hu rfl | (have hu9 := hu; (try dsimp only [Ar]); omega))) (isl_news2 (by assumption) (by first | exact .tail _ (.head _) | exact .tail _ (.tail _ (.tail _ (.head _))))) ?_); (intro v' res' h' tk' hr' F' N' hne'; (try simp only [List.cons_append, List.nil_append] at N')); (rcases hr' with ⟨hq8, rfl, rfl⟩ | ⟨j8, ps8, a5, b5, t5, rv8, hq8, hst8, rfl, rfl⟩) <;> (first | (exact (none_some hq9 hq8).elim) | (exact (none_some hq8 hq9).elim) | ((try simp only [List.cons_append, List.nil_append] at N'); (try dsimp only))))
    k_with "compareOp NotEq ref ref" => (refine blk ?_)
    k_with "compareOp NotEq none none" => k_dflt (refine' ne_none ?_)
    k_steps
    · have h9 : (sL (pr9.1.take pl) != Txt.slice x none (some (pl : Int))) = true := by assumption
      rw [hfr] at h9
      simp at h9
    · exact ⟨rvs.length - (i + 1), by omega, i + 1, _, _, _, _, pn', o', rfl, T0, ⟨by assumption, by assumption, by assumption, by assumption, by assumption, XB, TB, SB⟩, Tp, by assumption, cb_drop (by assumption) (by intro p hp; repeat (first | exact hp | refine .tail _ ?_)), ho', rfl, rfl, rfl, by omega, rfl⟩
    · unfold Blk
      obtain ⟨rfl, rfl⟩ := told_same hq9 hq8
      k_dflt ((rename News _ _ _ ((a5, _) :: _) => N9); (refine' ne_told (tup_news N9 (.tail _ (.tail _ (.head _)))) (tup_news N9 (.head _)) (tup_news N9 (.tail _ (.tail _ (.tail _ (.head _))))) (tup_news N9 (.tail _ (.head _))) hst9 hst8 (by show un + 3 + 1 < cLine; omega) ?_))
      k_steps
      exact ⟨rvs.length - (i + 1), by omega, i + 1, _, _, _, _, pn', o', rfl, T0, ⟨by assumption, by assumption, by assumption, by assumption, by assumption, XB, TB, SB⟩, Tp, by assumption, cb_drop (by assumption) (by intro p hp; repeat (first | exact hp | refine .tail _ ?_)), ho', rfl, rfl, rfl, by omega, rfl⟩
end Mine
end
section
open PySem PySem.W PyProof.Rows PySem.Calls PySem.Spec PySem.SeqAt
set_option maxRecDepth 100000
namespace Mine
noncomputable def absM (a : Int) : Int := (if a < 0 then -a else a).fmod 64
theorem ints_at {vs : List Value} {ns : List Int} (h : PyProof.Rows.IntsAre vs ns) : ∀ {i : Nat} {v : Value}, vs[i]? = some v → ∃ a t, ns[i]? = some a ∧ v = .int a t := by
  induction h with
  | nil => intro i v hv; simp at hv
  | cons a t r ih =>
    intro i v hv
    cases i with
    | zero => simp only [List.getElem?_cons_zero, Option.some.injEq] at hv; exact ⟨_, _, rfl, hv.symm⟩
    | succ i => simp only [List.getElem?_cons_succ] at hv ⊢; exact ih hv
theorem paired_abs {vs : List Value} {ns : List Int} (h : PyProof.Rows.IntsAre vs ns) : ∀ {ys : List Value}, Paired (fun v y => ∃ a t t', v = .int a t ∧ y = .int (absM a) t') vs ys → PyProof.Rows.IntsAre ys (ns.map absM) := by
  induction h with
  | nil => intro ys hp; cases hp; exact .nil
  | cons a t r ih =>
    intro ys hp
    cases hp with
    | cons hF hr =>
      obtain ⟨a', t1, t2, e1, rfl⟩ := hF
      injection e1 with e1 _
      subst e1
      exact .cons _ _ (ih hr)
section
variable {prog : Program} {w : World} {A : Around} {E : Value → Shared → Prop} {s : Shared} {h₀ : Heap} {L : Addr} {m : Str → Option Value} {news : List (Addr × Obj)} {mean : ExcName → Option Value} {mg mb : Str → Option Value}
theorem srcC_abs {env : Env} {x : Str} {kd : Nat} {p1 p2 p3 p4 p5 : Pos} {scope : Scope} {Q : Value → Shared → Prop} {l : Addr} {vs : List Value} {ns : List Int}
    (hh : A.handled = none) (hl : s.heap.IsList l vs.toArray) (hS : PyProof.Rows.IntsAre vs ns) (F : Fr h₀ L s.heap m) (N : News h₀ L s.heap news) (X : (KF w.params).In h₀) (T : TopM mean mg mb h₀) (hk : scope.kind = .function) (hx : ∀ C, (compEnv scope C env).kindOf x = some .local) (hxa : ∀ C, (compEnv scope C env).kindOf (Str.ofString "abs") = some .globalImplicit)
    (hgl : env.globals = mainGlobals) (hbl : env.builtins = builtinsNs) (hdbg : (x == ("__debug__" : Str)) = false) (hsz : vs.length ≤ 4000)
    (g3 : ∀ D (ys : List Value) h' tk k, Fr h₀ L h' m → News h₀ L h' ((D, listOf ys.toArray k) :: news) → PyProof.Rows.IntsAre ys (ns.map absM) → Q (.ref D) { s with heap := h', toks := tk }) :
    wpAny (model prog w) A (pyIter (.ref l)) (CompPost prog w A env scope x [] (.BinOp (.Call (.Name (Str.ofString "abs") p1) [.Name x p2] [] p3) .Mod (.Constant (.int 64) kd p4) p5) Q) E s := by
  have hlt : l < s.heap.objs.size := by obtain ⟨_, e, _⟩ := hl; exact Heap.lt_size e
  refine wpAny_pyIter_list hl ?_
  have up : ∀ (h' : Heap), (∀ b o', b ∉ [s.heap.objs.size] → (s.heap.push { cls := .type "list_iterator", data := .fields #[.ref l, .int 0 0] }).get? b = some o' → h'.get? b = some o') → ∀ b o', s.heap.get? b = some o' → h'.get? b = some o' :=
    fun h' hk b o' e => hk b o' (not_iter_of_old e) (Heap.get?_push_of_some _ e)
  refine ⟨fun _ => true, fun v y => ∃ a t t', v = .int a t ∧ y = .int (absM a) t', s.heap.objs.size, [s.heap.objs.size, l], [s.heap.objs.size], vs.toArray.size, _, _, rfl, Walks.list hh _ l (Nat.ne_of_lt hlt) vs.toArray, (by rw [List.size_toArray, sizeLine_eq]; omega),
    ⟨⟨_, Heap.get?_push_size _ rfl, rfl, rfl⟩, hl.at fun o e => Heap.get?_push_of_some _ e⟩, ?_, ⟨?_, ?_⟩, ?_⟩
  · intro b hb
    show b < (s.heap.push _).objs.size
    rw [Heap.size_push]
    rcases List.mem_cons.mp hb with rfl | hb
    · exact Nat.lt_succ_self _
    · rw [List.mem_singleton.mp hb]; exact Nat.lt_succ_of_lt hlt
  · intro C i v s₃ m₃ E' hP hn hm hk htk
    exact wpAny_pure ⟨rfl, _, _, rfl, fun _ _ e => e⟩
  · intro C i v s₃ m₃ E' hP hp hn hm hk' htk
    obtain ⟨a, t, hw, rfl⟩ := ints_at hS (i := i) (v := v) (by simpa using hP)
    have ks : ∀ b o, h₀.get? b = some o → s₃.heap.get? b = some o := fun b o e => up _ hk' b o (F.keep b o e)
    rw [arm_eval_BinOp]
    refine wpAny_bind (wpAny_Call_NameR (Calls.Name_function_global hk (hxa C) (loadGlobal_builtin (mg := mg) (mb := mb) (v := .builtin "abs") (by show s₃.heap.Ns env.globals mg; rw [hgl]; exact T.g.keeps ks) (mg_none_of X T.g (by kernel_rfl)) (by show s₃.heap.Ns env.builtins mb; rw [hbl]; exact T.b.keeps ks) ((T.builtins _ (by decide +kernel)).trans PyProof.Rows.boot_abs) ?_)))
    refine callWith_builtin1 (wpAny_Name (wpAny_loadName_local hk (hx C) hn hm (call_abs_int fun u tk => ?_)) hdbg)
    refine wpAny_bind (wpAny_holding (wpAny_mkInt (wpAny_bind (wpAny_standAt (wpAny_operating ?_)))))
    refine PySem.AutoIntOps.mod_1 (by decide) ?_
    exact ⟨⟨a, t, _, rfl, rfl⟩, _, _, rfl, fun _ _ e => e⟩
  · intro D h' tk ys vs' hnew hlD hplD hlen hP hF hk
    have e' : vs' = vs := by simpa using walked_is hlen hP
    subst e'
    rw [List.filter_eq_self.mpr fun _ _ => rfl] at hF
    obtain ⟨k, hpk⟩ := hplD
    refine g3 D ys.toList h' tk k (F.keeps (up h' hk)) (fun p hp => ?_) (paired_abs hS hF)
    rcases List.mem_cons.mp hp with rfl | hp
    · refine ⟨by rw [Array.toArray_toList]; exact hpk, fun q => ?_, ?_⟩
      · obtain ⟨o, es, ep, e, r⟩ := F.ns
        have q : D = L := q
        rw [q, Heap.get?_push_of_some _ e] at hnew; cases hnew
      · cases e : h₀.get? D with
        | none => rfl
        | some o' => rw [Heap.get?_push_of_some _ (F.keep _ _ e)] at hnew; cases hnew
    · exact N.grown (up h' hk) p hp
end
end Mine
end
section
open PySem PySem.W PyProof.Rows PySem.Calls PySem.Spec PySem.SeqAt
set_option maxRecDepth 100000
namespace Mine
set_option maxHeartbeats 4000000 in
theorem c_law (w : World) (b : Addr) (vs : List Value) (ns : List Int) (hS : PyProof.Rows.IntsAre vs ns) (hz : vs.length ≤ 4000) (hz2 : ns.length ≤ 4000) (root : List Nat) (rws : List (Nat × List Nat)) (n nk : Nat) (OK : LawOk (pathL ((ns.take 14).map absM)) root rws n nk) :
    ConT w 300 3000 373 [.ref b] [] (fun g => g.IsList b vs.toArray) (fun v res => v = .bool true ∧ res = []) False := by
  intro mean mg mb dp un gd l base g s Q E pn G O hd hu hL Tp N hret _
  obtain ⟨B, X, T, S, D, XB, TB, SB⟩ := G
  ((have fill : (KF w.params).In g → PySem.Challenge.rw_ij0142_01.row.prog = PySem.Challenge.rw_ij0142_01.row.prog → True := by (k_fill; intros; trivial)); clear fill; k_with_none)
  k_with "call ref" => (refine blk ?_)
  k_with "pyIter ref" => k_dflt ((refine' srcC_abs rfl (isl_news2 (by assumption) (.head _)) (by assumption) (by assumption) (by assumption) X T rfl (fun _ => rfl) (fun _ => rfl) rfl rfl (by decide) ?_ ?_); (rename PyProof.Rows.IntsAre _ _ => hI9; rw [hI9.length]; omega); (intro qb qvs h' tk' kq F' N' hQ))
  k_with "call ref" => k_dflt ((refine' call_p2 (c_path w qb qvs _ hQ (by rw [hQ.length, List.length_map]; omega) (by rw [List.length_map]; omega)) (by assumption) (by assumption) (by exact rfl) (by exact rfl) (by assumption) (by assumption) (by assumption) (by assumption) (by assumption) XB TB SB (by (first | exact lt_hd1 hd rfl | exact lt_hd hd rfl | (have hd9 := hd; (try dsimp only [Ar]); omega))) (by (first | exact lt_hd1 hu rfl | exact lt_hd hu rfl | (have hu9 := hu; (try dsimp only [Ar]); omega))) (isl_news2 (by assumption) (.head _)) ?_); (intro v' res' h' tk' hr' F' N' hne'; (try simp only [List.cons_append, List.nil_append] at N')); (obtain ⟨t9, rfl, rfl⟩ := hr'); (try simp only [List.cons_append, List.nil_append] at N'); (try dsimp only))
  k_with "call ref" => k_dflt ((first | (refine' call_t2 (rest := []) (c_holds w (sL (pathL ((ns.take 14).map absM))) _ root rws n nk (by rw [tl_sL]; exact OK)) (by assumption) (by assumption) Tp (by exact rfl) (by exact rfl) (by assumption) (by assumption) (by assumption) (by assumption) (by assumption) XB TB SB (by (repeat' (first | exact List.forall_mem_nil _ | refine List.forall_mem_cons.mpr ⟨rfl, ?_⟩))) (by (first | exact lt_hd1 hd rfl | exact lt_hd hd rfl | (have hd9 := hd; (try dsimp only [Ar]); omega))) (by (first | exact lt_hd1 hu rfl | exact lt_hd hu rfl | (have hu9 := hu; (try dsimp only [Ar]); omega))) trivial ?_ (fun q => q.elim)) | (refine' call_t2 (rest := [_]) (c_holds w (sL (pathL ((ns.take 14).map absM))) _ root rws n nk (by rw [tl_sL]; exact OK)) (by assumption) (by assumption) Tp (by exact rfl) (by exact rfl) (by assumption) (by assumption) (by assumption) (by assumption) (by assumption) XB TB SB (by (repeat' (first | exact List.forall_mem_nil _ | refine List.forall_mem_cons.mpr ⟨rfl, ?_⟩))) (by (first | exact lt_hd1 hd rfl | exact lt_hd hd rfl | (have hd9 := hd; (try dsimp only [Ar]); omega))) (by (first | exact lt_hd1 hu rfl | exact lt_hd hu rfl | (have hu9 := hu; (try dsimp only [Ar]); omega))) trivial ?_ (fun q => q.elim)) | (refine' call_t2 (rest := [_, _]) (c_holds w (sL (pathL ((ns.take 14).map absM))) _ root rws n nk (by rw [tl_sL]; exact OK)) (by assumption) (by assumption) Tp (by exact rfl) (by exact rfl) (by assumption) (by assumption) (by assumption) (by assumption) (by assumption) XB TB SB (by (repeat' (first | exact List.forall_mem_nil _ | refine List.forall_mem_cons.mpr ⟨rfl, ?_⟩))) (by (first | exact lt_hd1 hd rfl | exact lt_hd hd rfl | (have hd9 := hd; (try dsimp only [Ar]); omega))) (by (first | exact lt_hd1 hu rfl | exact lt_hd hu rfl | (have hu9 := hu; (try dsimp only [Ar]); omega))) trivial ?_ (fun q => q.elim)) | (refine' call_t2 (rest := [_, _, _]) (c_holds w (sL (pathL ((ns.take 14).map absM))) _ root rws n nk (by rw [tl_sL]; exact OK)) (by assumption) (by assumption) Tp (by exact rfl) (by exact rfl) (by assumption) (by assumption) (by assumption) (by assumption) (by assumption) XB TB SB (by (repeat' (first | exact List.forall_mem_nil _ | refine List.forall_mem_cons.mpr ⟨rfl, ?_⟩))) (by (first | exact lt_hd1 hd rfl | exact lt_hd hd rfl | (have hd9 := hd; (try dsimp only [Ar]); omega))) (by (first | exact lt_hd1 hu rfl | exact lt_hd hu rfl | (have hu9 := hu; (try dsimp only [Ar]); omega))) trivial ?_ (fun q => q.elim)) | (refine' call_t2 (rest := [_, _, _, _]) (c_holds w (sL (pathL ((ns.take 14).map absM))) _ root rws n nk (by rw [tl_sL]; exact OK)) (by assumption) (by assumption) Tp (by exact rfl) (by exact rfl) (by assumption) (by assumption) (by assumption) (by assumption) (by assumption) XB TB SB (by (repeat' (first | exact List.forall_mem_nil _ | refine List.forall_mem_cons.mpr ⟨rfl, ?_⟩))) (by (first | exact lt_hd1 hd rfl | exact lt_hd hd rfl | (have hd9 := hd; (try dsimp only [Ar]); omega))) (by (first | exact lt_hd1 hu rfl | exact lt_hd hu rfl | (have hu9 := hu; (try dsimp only [Ar]); omega))) trivial ?_ (fun q => q.elim)) | (refine' call_t2 (rest := [_, _, _, _, _]) (c_holds w (sL (pathL ((ns.take 14).map absM))) _ root rws n nk (by rw [tl_sL]; exact OK)) (by assumption) (by assumption) Tp (by exact rfl) (by exact rfl) (by assumption) (by assumption) (by assumption) (by assumption) (by assumption) XB TB SB (by (repeat' (first | exact List.forall_mem_nil _ | refine List.forall_mem_cons.mpr ⟨rfl, ?_⟩))) (by (first | exact lt_hd1 hd rfl | exact lt_hd hd rfl | (have hd9 := hd; (try dsimp only [Ar]); omega))) (by (first | exact lt_hd1 hu rfl | exact lt_hd hu rfl | (have hu9 := hu; (try dsimp only [Ar]); omega))) trivial ?_ (fun q => q.elim))); (intro v' res' h₀' h' tk' pn' hr' T0' G' F' Tp' N' hne'; (try simp only [List.cons_append, List.nil_append] at N'); (replace T0 := KtsTurn.trans T0 T0'); (clear T0'); (clear Tp); (rename TabSt _ => Tp); (obtain ⟨B', X', T', S', D', -, -, -⟩ := G'); (have Sc' := SetsF.ctl S'); (have Sw' := SetsF.ws S'); (have Sb' := SetsF.bare S')); (obtain ⟨rfl, rfl⟩ := hr'); (try simp only [List.cons_append, List.nil_append] at N'); (try dsimp only))
  ((have Sc := SetsF.ctl S); (have Sw := SetsF.ws S); (have Sb := SetsF.bare S); refine wpAny_call ?_; k_dflt (refine' enter ⟨B, X, T, S, D, XB, TB, SB⟩ O N ?k6 ?k7 ?k8 ?k9 ?kB ?_ ?c2 ?c3 ?c4 ?c5; (case k6 => k_is); (case k7 => k_is); (case k8 => exact Nat.lt_of_le_of_lt (Nat.le_add_right _ _) hd); (case k9 => first | exact binds_K (by k_in) rfl (by k_is) rfl rfl rfl | exact BindsTo.of_eq rfl | fail "m_enter: no rule for these arguments"); (case kB => exact locs rfl); (case c2 => exact rfl); (case c3 => exact rfl); (case c4 => exact rfl); (case c5 => decide); k_whole; intro L' h' F' N' lL'; (have T0 : KtsTurn (frs l) g g := KtsTurn.refl); (try dsimp only); (try k_fold)))
  k_steps
  exact out_t (res := []) hret ⟨rfl, rfl⟩ T0 (by assumption) (by assumption) (by assumption) (by assumption) XB TB SB Tp (fun _ hp => nomatch hp) (by intro p hp; repeat (first | exact hp | refine .tail _ ?_))
end Mine
end
section
open PySem PySem.W PyProof.Rows PySem.Calls
set_option maxRecDepth 100000
set_option maxHeartbeats 4000000
namespace Mine
theorem noTabs_KF (P : Params) : noTabs (KF P) = true := by kernel_rfl
theorem law_373 (P : Params) : nsIn (KF P) mainGlobals (Str.ofString "law") = some (some (.ref 373)) := by kernel_rfl
theorem tabs_at {w : World} {h : Heap} (Y : YW2 w h) : TabsAt [(194, 190)] h := fun q hq => by
  rw [List.mem_singleton.mp hq]
  exact ⟨codeHd_of Y.1.1, Y.2⟩
theorem sets_ghost {w : World} {h : Heap} (Y : YW2 w h) : SetsIn w.params (ghostOf h [(194, 190)]) := by
  obtain ⟨e1, p1, t1, g1, q1⟩ := Y.1.2.1
  obtain ⟨e2, p2, t2, g2, q2⟩ := Y.1.2.2.1
  obtain ⟨e3, p3, t3, g3, q3⟩ := Y.1.2.2.2
  exact ⟨⟨e1, p1, t1, ghost_get (tabs_at Y) g1 (fun q => by cases q), q1⟩, ⟨e2, p2, t2, ghost_get (tabs_at Y) g2 (fun q => by cases q), q2⟩, e3, p3, t3, ghost_get (tabs_at Y) g3 (fun q => by cases q), q3⟩
theorem gd_ghost {w : World} {mean : ExcName → Option Value} {mg mb : Str → Option Value} {h : Heap} (Y : YW2 w h) (T : Top qv (looseW qv LS) mean mg mb h) : Gd w mean mg mb callerA (ghostOf h [(194, 190)]) [] (ghostOf h [(194, 190)]) := by
  have hT := tabs_at Y
  have X : (KF w.params).In (ghostOf h [(194, 190)]) := ghost_K hT Y.1.1 (noTabs_KF _)
  have T' : TopM mean mg mb (ghostOf h [(194, 190)]) := ghost_top hT T
  have S := SetsF.of (sets_ghost Y)
  exact ⟨ghost_below hT, X, T', S, (fun b hb => nomatch hb), X, T', S⟩
theorem tab_mem {pn : List (Addr × Obj)} (T : TabSt pn) : ∃ ps, (190, tabObj ps) ∈ pn := by
  cases T with
  | none => exact ⟨_, .head _⟩
  | made c' oc vs t h1 h2 => exact ⟨_, .tail _ (.head _)⟩
theorem old_ghost {w : World} {h h' g' : Heap} {pn res : List (Addr × Obj)} (Y : YW2 w h) (T : KtsTurn (frs []) (ghostOf h [(194, 190)]) g') (O : On g' h') (Tp : TabSt pn) (N : NG g' h' (res ++ pn)) : OldK h h' := by
  have hT := tabs_at Y
  have kp : ∀ b o, b ≠ 190 → h.get? b = some o → h'.get? b = some o := fun b o hb e =>
    O.keep _ _ (T.other _ _ (ghost_ne e (by simpa using hb)) (fun hm => nomatch hm))
  obtain ⟨ps, hm⟩ := tab_mem Tp
  have hP := (N _ (List.mem_append_right _ hm)).1
  refine ⟨fun b o e => ?_, fun b o e => ?_⟩
  · by_cases hb : b = 190
    · subst hb
      have e2 := Y.2
      rw [e] at e2
      obtain rfl := Option.some.inj e2
      exact .inr (.inl ⟨(((hT _ (.head _)).1).tab Y.2).isCodeTable, rfl, #[], ps, rfl, by rw [Array.empty_append]; exact hP⟩)
    · exact .inl (kp b o hb e)
  · by_cases hb : b = 190
    · subst hb; exact ⟨_, hP⟩
    · exact ⟨o, kp b o hb e⟩
theorem walk_L {d : DefRec} {kwd : List (Str × PySem.Expr)} (hdef : defOf qv row.name = some (d, kwd)) (P : ∀ ns : List Int, ns.length ≤ 4000 → ∃ root rws n nk, LawOk (pathL ((ns.take 14).map absM)) root rws n nk) : WalkL2 d kwd := by
  intro w s₀ s₁ mg mb G Y a o pm cd doc dV kV ho hd hcd hD hmg hg args vals as hpre hlay hrd hwl hlo
  refine Ground.open G ?_
  intro T B D TE TW
  have hn : d.name = Str.ofString "law" := defOf_name hdef
  have ha : a = 373 := by
    have h1 := mg_of Y.1.1 T.g (law_373 _)
    rw [hn, h1] at hmg
    injection hmg with hmg
    injection hmg with hmg
    exact hmg.symm
  subst ha
  clear ho hd hcd hD hmg D TE TW B
  wrow_args hpre hlay hrd hwl hlo
  rename PyProof.Rows.IntsAre _ _ => hI
  rename Heap.IsList _ _ _ => hL
  rename ¬ _ < _ => hc
  have hlen := hI.length
  have key := fun h => P _ (Nat.le_trans (Nat.le_of_eq hI.length.symm) h)
  obtain ⟨root, rws, n, nk, OK⟩ := key (by omega)
  refine c_law w _ _ _ hI (by omega) (by omega) root rws n nk OK (ExcName.means s₀.heap) mg mb (1 + claimMargin) 4 (some []) [] (ghostOf s₁.heap [(194, 190)]) (ghostOf s₁.heap [(194, 190)]) s₁ _ _ [(190, tabObj #[])] (gd_ghost Y T) ⟨fun b o e => of_hideAll _ e, Nat.le_of_eq (hideAll_size _ _)⟩ (by decide) (by decide) (ghost_list (tabs_at Y) hL) .none ?_ ?_ (fun q => q.elim)
  · intro p hp
    rw [List.mem_singleton.mp hp]
    exact ⟨Y.2, hideAll_none _ (.head _)⟩
  · intro v res g' h' tk' pn' hR T' G' O' Tp' N'
    obtain ⟨rfl, rfl⟩ := hR
    refine ⟨⟨.inl ⟨.bool true, .bool true, [], rfl, ?_, .bool _, ?_, ?_⟩, old_ghost Y T' O' Tp' N', rfl, ?_⟩, hg⟩
    · exact fun _ => rfl
    · first | wrow_post | (with_unfolding_all rfl) | kernel_rfl
    · exact fun _ => ⟨List.nodup_nil, fun _ h => nomatch h⟩
    · exact .of_eq hg
end Mine
end
section
open PySem PySem.W PyProof.Rows PySem.Calls
set_option maxRecDepth 100000
set_option maxHeartbeats 4000000
namespace Mine
theorem def_some : (defOf qv row.name).isSome = true := by kernel_rfl
noncomputable def dLaw : DefRec × List (Str × PySem.Expr) := (defOf qv row.name).get def_some
theorem def_is : defOf qv row.name = some (dLaw.1, dLaw.2) := (Option.some_get def_some).symm
theorem the_def : row.prog.theDef row.name = some (dLaw.1.params, dLaw.1.body, dLaw.1.scope) := by kernel_rfl
theorem kw_def : kwWritten? dLaw.1.params.kwonlyargs dLaw.1.params.kw_defaults = some dLaw.2 := by kernel_rfl
theorem ok_row : (chainsOk qv && opensWell row.prog && (frees row.toRowW && row.within.isEmpty)) = true := by kernel_rfl
noncomputable abbrev lawR : OpenLaw := PySem.Challenge.rw_ij0142_01
theorem said1 : namesResolve row.prog = true := by kernel_rfl
theorem said2 : (namesMeet row.prog row.prog.main.body fun _ n => attrL n) = true := by kernel_rfl
theorem road1 : (!(importedModules row.prog.main.body).all cThrough.contains) = false := by kernel_rfl
theorem road2 : List.filter (readsOut row.prog row.prog.main.body) (["vars", "dir", "locals"] : List Str) = [] := by kernel_rfl
theorem road3 : noRoadLSs { strict := false, foot := none, bare := [] } row.prog.main.body = true := by kernel_rfl
theorem said3 : noRoadLSs { strict := !(importedModules row.prog.main.body).all cThrough.contains, foot := none, bare := List.filter (readsOut row.prog row.prog.main.body) (["vars", "dir", "locals"] : List Str) } row.prog.main.body = true := by
  rw [road1, road2]; exact road3
theorem said4 : noRoadLSs { strict := true, foot := some lawR.bound', writes := lawR.writes, may := lawR.may } lawR.footing = true := by kernel_rfl
theorem said_row : lawR.wellSaid = true := by
  unfold OpenLaw.wellSaid OpenRow.wellSaid OpenRow.partSaid looksOpen
  repeat' (with_reducible refine Bool.and_eq_true_iff.mpr ⟨?_, ?_⟩)
  all_goals (first | (with_reducible exact said1) | (with_reducible exact said2) | (with_reducible exact said3) | (with_reducible exact said4) | kernel_rfl)
theorem bare_row : row.prog.bare := ⟨rfl, rfl, rfl, rfl, rfl, by kernel_rfl⟩
theorem fin (P : ∀ ns : List Int, ns.length ≤ 4000 → ∃ root rws n nk, LawOk (pathL ((ns.take 14).map absM)) root rws n nk) : PySem.Challenge.rw_ij0142_01.Holds := by
  w_on
  refine holds_law said_row fun said => ?_
  refine row_holds2 def_is the_def kw_def said ok_row ?hb ?hw (walk_L def_is P)
  case hw => w_witness2
  case hb => exact bare_row
end Mine
end
section
open PySem PySem.W PyProof.Rows PySem.Calls PySem.Spec
namespace Mine
theorem mem_tw {p : Nat → Bool} {a : Nat} : ∀ {l : List Nat}, a ∈ l.takeWhile p → p a = true
  | b :: r, h => by
    rw [List.takeWhile_cons] at h
    split at h
    · rename_i hb
      rcases List.mem_cons.mp h with rfl | h
      · exact hb
      · exact mem_tw h
    · cases h
theorem lastAft_app {c : Nat} {y z : List Nat} : lastAft c (y ++ z) = if c ∈ z then y.length + lastAft c z else lastAft c y := by
  unfold lastAft
  rw [List.reverse_append, List.length_append]
  split
  · rename_i h
    have hz : (z.reverse.takeWhile (· != c)).length ≠ z.reverse.length := by
      intro e
      have e2 := List.takeWhile_append_dropWhile (p := (· != c)) (l := z.reverse)
      have : z.reverse.takeWhile (· != c) = z.reverse := (List.takeWhile_prefix (· != c)).eq_of_length e
      have hm : c ∈ z.reverse := List.mem_reverse.mpr h
      rw [← this] at hm
      have := mem_tw hm
      simp at this
    rw [List.takeWhile_append, if_neg hz]
    have := (List.takeWhile_sublist (· != c) (l := z.reverse)).length_le
    rw [List.length_reverse] at this
    omega
  · rename_i h
    have hz : z.reverse.takeWhile (· != c) = z.reverse := takeWhile_self fun a ha => by
      have : a ≠ c := fun q => h (q ▸ List.mem_reverse.mp ha)
      simpa using this
    rw [List.takeWhile_append, hz, if_pos rfl, List.length_append, List.length_reverse]
    omega
/-- the empty list, or one that ends with a slash -/
noncomputable def Slashed (y : List Nat) : Prop := y = [] ∨ y.getLast? = some 47
theorem lastAft_slashed {y : List Nat} (h : Slashed y) : lastAft 47 y = y.length := by
  rcases h with rfl | h
  · rfl
  · obtain ⟨r, rfl⟩ := List.getLast?_eq_some_iff.mp h
    have := lastAft_some (c := 47) (a := r) (b := []) (by simp)
    rw [this, List.length_append]; rfl
theorem lastAft_name {y nm : List Nat} (h : Slashed y) (hn : 47 ∉ nm) : lastAft 47 (y ++ nm) = y.length := by
  rw [lastAft_app, if_neg hn, lastAft_slashed h]
end Mine
end
section
open PySem PySem.W PyProof.Rows PySem.Calls PySem.Spec
namespace Mine
theorem lastAft_pos {c : Nat} {l : List Nat} (h : c ∈ l) : 1 ≤ lastAft c l := by
  obtain ⟨a, b, rfl, hb⟩ : ∃ a b, l = a ++ c :: b ∧ c ∉ b := by
    induction l with
    | nil => cases h
    | cons x r ih =>
      by_cases hr : c ∈ r
      · obtain ⟨a, b, e, hb⟩ := ih hr
        exact ⟨x :: a, b, by rw [e]; rfl, hb⟩
      · rcases List.mem_cons.mp h with rfl | h
        · exact ⟨[], r, rfl, hr⟩
        · exact absurd h hr
  rw [lastAft_some hb]; omega
section
variable {y nm : List Nat} (hy : Slashed y) (hn : 47 ∉ nm)
include hy hn
theorem hasExt_app : hasExt (y ++ nm) = hasExt nm := by
  unfold hasExt
  rw [lastAft_name hy hn, lastAft_none hn]
  by_cases h : 46 ∈ nm
  · rw [lastAft_app, if_pos h]
    have hp := lastAft_pos h
    congr 1
    · rw [decide_eq_decide]; omega
    · unfold cut
      rw [List.drop_left, show y.length + lastAft 46 nm - 1 - y.length = lastAft 46 nm - 1 - 0 by omega, List.drop_zero]
  · rw [lastAft_app, if_neg h, lastAft_none h]
    have := lastAft_le (c := 46) (l := y)
    rw [decide_eq_false (by omega), decide_eq_false (by omega), Bool.false_and, Bool.false_and]
theorem extF_app : extF (y ++ nm) = y ++ extF nm := by
  unfold extF
  rw [hasExt_app hy hn]
  split
  · rename_i h
    have h46 : 46 ∈ nm := Classical.byContradiction fun q => by
      unfold hasExt at h
      rw [lastAft_none hn, lastAft_none q] at h
      simp at h
    have hp := lastAft_pos h46
    rw [lastAft_app, if_pos h46, show y.length + lastAft 46 nm - 1 = y.length + (lastAft 46 nm - 1) by omega, List.take_length_add_append]
  · rfl
theorem extE_app : extE (y ++ nm) = extE nm := by
  unfold extE
  rw [hasExt_app hy hn]
  split
  · rename_i h
    have h46 : 46 ∈ nm := Classical.byContradiction fun q => by
      unfold hasExt at h
      rw [lastAft_none hn, lastAft_none q] at h
      simp at h
    have hp := lastAft_pos h46
    rw [lastAft_app, if_pos h46, show y.length + lastAft 46 nm - 1 = y.length + (lastAft 46 nm - 1) by omega, List.drop_length_add_append]
  · rfl
end
end Mine
end
section
open PySem PySem.W PyProof.Rows PySem.Calls PySem.Spec
namespace Mine
theorem joinL_snoc {g b : List Nat} : ∀ {ps : List (List Nat)}, ps ≠ [] → joinL g (ps ++ [b]) = joinL g ps ++ g ++ b
  | [p], _ => rfl
  | p :: q :: r, _ => by
    show p ++ g ++ joinL g (q :: r ++ [b]) = (p ++ g ++ joinL g (q :: r)) ++ g ++ b
    rw [joinL_snoc (by nofun)]
    simp [List.append_assoc]
theorem joinL_mem {g : List Nat} {c : Nat} : ∀ {ps : List (List Nat)}, c ∈ joinL g ps → c ∈ g ∨ ∃ p ∈ ps, c ∈ p
  | [p], h => .inr ⟨p, .head _, h⟩
  | p :: q :: r, h => by
    have h : c ∈ p ++ g ++ joinL g (q :: r) := h
    rcases List.mem_append.mp h with h | h
    · rcases List.mem_append.mp h with h | h
      · exact .inr ⟨p, .head _, h⟩
      · exact .inl h
    · rcases joinL_mem h with h | ⟨x, hx, h⟩
      · exact .inl h
      · exact .inr ⟨x, .tail _ hx, h⟩
noncomputable def Dots (d : List Nat) : Prop := ∀ a ∈ d, a = 46
section
variable {d w0 b a : List Nat} (hd : Dots d)
include hd
/-- a name whose dots lie ahead alone has no ending -/
theorem ext_no (h0 : 46 ∉ w0) (h1 : 47 ∉ w0) : hasExt (d ++ w0) = false := by
  unfold hasExt
  cases hx : (cut (d ++ w0) (lastAft 47 (d ++ w0)) (lastAft 46 (d ++ w0) - 1)).any (· != 46) with
  | false => rw [Bool.and_false]
  | true =>
    exfalso
    obtain ⟨c, hc, h⟩ := List.any_eq_true.mp hx
    obtain ⟨i, h2, h3, h4⟩ := cut_mem.mp hc
    rw [lastAft_app, if_neg h0] at h3
    have := lastAft_le (c := 46) (l := d)
    rw [List.getElem?_append_left (by omega)] at h4
    rw [hd c (List.mem_of_getElem? h4)] at h
    cases h
theorem ext_yes (ha : a ≠ []) (ha2 : a.head? ≠ some 46) (hb : 46 ∉ b) (h47 : 47 ∉ d ++ (a ++ 46 :: b)) : hasExt (d ++ (a ++ 46 :: b)) = true ∧ extF (d ++ (a ++ 46 :: b)) = d ++ a ∧ extE (d ++ (a ++ 46 :: b)) = 46 :: b := by
  have hl : lastAft 46 (d ++ (a ++ 46 :: b)) = d.length + a.length + 1 := by
    rw [lastAft_app, if_pos (by simp), lastAft_some hb]; omega
  have hx : hasExt (d ++ (a ++ 46 :: b)) = true := by
    unfold hasExt
    rw [hl, lastAft_none h47, decide_eq_true (by omega), Bool.true_and, List.any_eq_true]
    cases a with
    | nil => exact absurd rfl ha
    | cons c r =>
      refine ⟨c, ?_, ?_⟩
      · rw [cut_mem]
        refine ⟨d.length, by omega, by simp only [List.length_cons]; omega, ?_⟩
        rw [List.getElem?_append_right (Nat.le_refl _), Nat.sub_self]; rfl
      · have : c ≠ 46 := fun q => ha2 (by rw [q]; rfl)
        simpa using this
  refine ⟨hx, ?_, ?_⟩
  · unfold extF
    rw [if_pos hx, hl, ← List.append_assoc]
    exact List.take_left' (by simp)
  · unfold extE
    rw [if_pos hx, hl, ← List.append_assoc]
    exact List.drop_left' (by simp)
end
end Mine
end
section
open PySem PySem.W PyProof.Rows PySem.Calls PySem.Spec
namespace Mine
theorem snoc_cases {α : Type} (l : List α) : l = [] ∨ ∃ r x, l = r ++ [x] := by
  rcases List.eq_nil_or_concat l with h | ⟨r, x, h⟩
  · exact .inl h
  · exact .inr ⟨r, x, by simpa using h⟩
/-- what splitext peels from a name: one word after the other -/
theorem peel_words {y d w0 : List Nat} (hy : Slashed y) (hd : Dots d) (h0 : 46 ∉ w0) : ∀ (k : Nat) (ws : List (List Nat)) (n : Nat) (acc : List (List Nat)), ws.length = k → k + 1 ≤ n → (∀ z ∈ ws, 46 ∉ z) → (ws = [] ∨ w0 ≠ []) → 47 ∉ d ++ joinL [46] (w0 :: ws) →
    peelL n (extF (y ++ (d ++ joinL [46] (w0 :: ws)))) (extE (y ++ (d ++ joinL [46] (w0 :: ws)))) acc = some (y ++ (d ++ w0), ws ++ acc) := by
  intro k
  induction k with
  | zero =>
    intro ws n acc hl hn hw hne h47
    obtain rfl := List.length_eq_zero_iff.mp hl
    rw [extF_app hy h47, extE_app hy h47]
    have h47' : 47 ∉ w0 := fun q => h47 (List.mem_append_right _ q)
    have hx := ext_no hd h0 h47'
    obtain ⟨m, rfl⟩ : ∃ m, n = m + 1 := ⟨n - 1, by omega⟩
    show peelL (m + 1) (y ++ extF (d ++ w0)) (extE (d ++ w0)) acc = _
    unfold extF extE
    rw [if_neg (by rw [hx]; nofun), if_neg (by rw [hx]; nofun)]
    rfl
  | succ k ih =>
    intro ws n acc hl hn hw hne h47
    rcases snoc_cases ws with rfl | ⟨r, b, rfl⟩
    · cases hl
    · have hw0 : w0 ≠ [] := hne.resolve_left (by simp)
      have hr : r.length = k := by simpa using hl
      have e : joinL [46] (w0 :: (r ++ [b])) = joinL [46] (w0 :: r) ++ 46 :: b := by
        rw [← List.cons_append, joinL_snoc (by nofun), List.append_assoc]; rfl
      rw [e] at h47 ⊢
      have hb : 46 ∉ b := hw b (by simp)
      have hh : (joinL [46] (w0 :: r)).head? ≠ some 46 := by
        cases w0 with
        | nil => exact absurd rfl hw0
        | cons c w =>
          have hc : c ≠ 46 := fun q => h0 (by rw [q]; exact .head _)
          cases r with
          | nil => exact fun q => hc (Option.some.inj q)
          | cons a r => exact fun q => hc (Option.some.inj q)
      have hne2 : joinL [46] (w0 :: r) ≠ [] := by
        cases w0 with
        | nil => exact absurd rfl hw0
        | cons c w => cases r <;> nofun
      obtain ⟨_, eF, eE⟩ := ext_yes hd hne2 hh hb h47
      rw [extF_app hy h47, extE_app hy h47, eF, eE]
      obtain ⟨m, rfl⟩ : ∃ m, n = m + 1 := ⟨n - 1, by omega⟩
      rw [peelL, if_neg (by nofun)]
      have h47' : 47 ∉ d ++ joinL [46] (w0 :: r) := fun q => h47 (by
        rcases List.mem_append.mp q with q | q
        · exact List.mem_append_left _ q
        · exact List.mem_append_right _ (List.mem_append_left _ q))
      rw [ih r m _ hr (by omega) (fun z hz => hw z (List.mem_append_left _ hz)) (.inr hw0) h47']
      simp
end Mine
end
section
open PySem PySem.W PyProof.Rows PySem.Calls PySem.Spec
namespace Mine
theorem splitL_ne {c : Nat} : ∀ {l : List Nat}, splitL c l ≠ []
  | [] => by nofun
  | a :: r => by
    rw [splitL]
    split
    · nofun
    · split <;> nofun
theorem join_splitL {c : Nat} : ∀ {l : List Nat}, joinL [c] (splitL c l) = l
  | [] => rfl
  | a :: r => by
    rw [splitL]
    split
    · rename_i h
      subst h
      have ih := join_splitL (c := a) (l := r)
      cases hs : splitL a r with
      | nil => exact absurd hs splitL_ne
      | cons p ps => rw [hs] at ih; show [] ++ [a] ++ joinL [a] (p :: ps) = _; rw [ih]; rfl
    · have ih := join_splitL (c := c) (l := r)
      split
      · rename_i hs; exact absurd hs splitL_ne
      · rename_i p ps hs
        rw [hs] at ih
        cases ps with
        | nil => show a :: p = _; rw [show p = r from ih]
        | cons q qs => show a :: p ++ [c] ++ joinL [c] (q :: qs) = _; rw [← ih]; rfl
theorem splitL_mem {c : Nat} : ∀ {l p : List Nat}, p ∈ splitL c l → c ∉ p ∧ ∀ a ∈ p, a ∈ l
  | [], p, h => by
    rw [splitL, List.mem_singleton] at h
    subst h
    exact ⟨by nofun, by nofun⟩
  | a :: r, p, h => by
    rw [splitL] at h
    split at h
    · rcases List.mem_cons.mp h with rfl | h
      · exact ⟨by nofun, by nofun⟩
      · exact ⟨(splitL_mem h).1, fun b hb => .tail _ ((splitL_mem h).2 b hb)⟩
    · rename_i hac
      split at h
      · rename_i hs; exact absurd hs splitL_ne
      · rename_i q qs hs
        rcases List.mem_cons.mp h with rfl | h
        · have := splitL_mem (c := c) (l := r) (p := q) (by rw [hs]; exact .head _)
          refine ⟨fun e => ?_, fun b hb => ?_⟩
          · rcases List.mem_cons.mp e with e | e
            · exact hac e.symm
            · exact this.1 e
          · rcases List.mem_cons.mp hb with rfl | hb
            · exact .head _
            · exact .tail _ (this.2 b hb)
        · have := splitL_mem (c := c) (l := r) (p := p) (by rw [hs]; exact .tail _ h)
          exact ⟨this.1, fun b hb => .tail _ (this.2 b hb)⟩
end Mine
end
section
open PySem PySem.W PyProof.Rows PySem.Calls PySem.Spec
namespace Mine
theorem dots_tw {nm : List Nat} : Dots (nm.takeWhile (· == 46)) := fun a ha => by simpa using mem_tw ha
theorem join_pre {g d w0 : List Nat} {ws : List (List Nat)} : joinL g ((d ++ w0) :: ws) = d ++ joinL g (w0 :: ws) := by
  cases ws with
  | nil => rfl
  | cons a r => show d ++ w0 ++ g ++ joinL g (a :: r) = d ++ (w0 ++ g ++ joinL g (a :: r)); simp [List.append_assoc]
theorem drop_dots {d w : List Nat} (hd : Dots d) (hw : 46 ∉ w) : (d ++ w).dropWhile (· == 46) = w := by
  induction d with
  | nil =>
    cases w with
    | nil => rfl
    | cons c r =>
      have : c ≠ 46 := fun q => hw (q ▸ .head _)
      show (c :: r).dropWhile _ = _
      rw [List.dropWhile_cons, if_neg (by simpa using this)]
  | cons a r ih =>
    have : a = 46 := hd a (.head _)
    subst this
    show (46 :: (r ++ w)).dropWhile _ = _
    rw [List.dropWhile_cons, if_pos (by rfl)]
    exact ih fun b hb => hd b (.tail _ hb)
theorem core_head {nm : List Nat} : (nm.dropWhile (· == 46)).head? ≠ some 46 := by
  induction nm with
  | nil => nofun
  | cons a r ih =>
    rw [List.dropWhile_cons]
    split
    · exact ih
    · rename_i h
      intro q
      have : a = 46 := Option.some.inj q
      subst this
      exact h rfl
theorem sum_len_le {g : List Nat} : ∀ ps : List (List Nat), (ps.map (·.length)).sum ≤ (joinL g ps).length
  | [] => Nat.zero_le _
  | [p] => by simp [joinL]
  | p :: q :: r => by
    have := sum_len_le (g := g) (q :: r)
    simp only [joinL, List.map_cons, List.sum_cons, List.length_append] at this ⊢
    omega
theorem split_count {c : Nat} : ∀ l : List Nat, (splitL c l).length ≤ l.length + 1
  | [] => by simp [splitL]
  | a :: r => by
    have := split_count (c := c) r
    rw [splitL]
    split
    · simp only [List.length_cons]; omega
    · split
      · simp
      · rename_i p ps hs
        rw [hs] at this
        simp only [List.length_cons] at this ⊢; omega
end Mine
end
section
open PySem PySem.W PyProof.Rows PySem.Calls PySem.Spec
namespace Mine
theorem le_sum {n : Nat} : ∀ {l : List Nat}, n ∈ l → n ≤ l.sum
  | a :: r, h => by
    rw [List.sum_cons]
    rcases List.mem_cons.mp h with rfl | h
    · omega
    · have := le_sum h; omega
/-- the words of a name: the dots ahead go with the first -/
noncomputable def wordsOf (nm : List Nat) : List Nat × List (List Nat) :=
  match splitL 46 (nm.dropWhile (· == 46)) with
  | [] => (nm, [])
  | w0 :: ws => (nm.takeWhile (· == 46) ++ w0, ws)
theorem words_is (nm : List Nat) : ∃ w0 ws, splitL 46 (nm.dropWhile (· == 46)) = w0 :: ws ∧ wordsOf nm = (nm.takeWhile (· == 46) ++ w0, ws) ∧ joinL [46] (w0 :: ws) = nm.dropWhile (· == 46) ∧ 46 ∉ w0 ∧ (∀ z ∈ ws, 46 ∉ z) ∧ (ws = [] ∨ w0 ≠ []) := by
  cases hs : splitL 46 (nm.dropWhile (· == 46)) with
  | nil => exact absurd hs splitL_ne
  | cons w0 ws =>
    have hj : joinL [46] (w0 :: ws) = nm.dropWhile (· == 46) := by rw [← hs, join_splitL]
    refine ⟨w0, ws, rfl, by unfold wordsOf; rw [hs], hj, (splitL_mem (by rw [hs]; exact .head _)).1, fun z hz => (splitL_mem (by rw [hs]; exact .tail _ hz)).1, ?_⟩
    cases ws with
    | nil => exact .inl rfl
    | cons a r =>
      right
      intro q
      subst q
      exact core_head (nm := nm) (by rw [← hj]; rfl)
theorem row_ok {l y nm : List Nat} {tl : List Nat} (hl : l = y ++ nm ++ tl) (hy : Slashed y) (h47 : 47 ∉ nm) (hs : l.length ≤ 100) {k : Nat} (hdue : pk l k y.length = some (dueL ((wordsOf nm).1 :: (wordsOf nm).2) y.length [])) :
    RowOk l y.length nm (nm.length + 2) (y ++ (wordsOf nm).1, (wordsOf nm).2) k := by
  obtain ⟨w0, ws, h1, h2, h3, h4, h5, h6⟩ := words_is nm
  have hnm : nm.takeWhile (· == 46) ++ joinL [46] (w0 :: ws) = nm := by rw [h3]; exact List.takeWhile_append_dropWhile
  have hlen : l.length = y.length + nm.length + tl.length := by rw [hl]; simp; omega
  have htake : l.take (y.length + nm.length) = y ++ nm := by
    rw [hl]; exact List.take_left' (by simp)
  have hws : (w0 :: ws).length ≤ nm.length + 1 := by
    rw [← h1]
    have := split_count (c := 46) (nm.dropWhile (· == 46))
    have := (List.dropWhile_sublist (· == 46) (l := nm)).length_le
    omega
  rw [h2] at hdue ⊢
  have hdrop : (y ++ (nm.takeWhile (· == 46) ++ w0)).drop y.length = nm.takeWhile (· == 46) ++ w0 := List.drop_left
  have hjoin : joinL [46] ((nm.takeWhile (· == 46) ++ w0) :: ws) = nm := by rw [join_pre, hnm]
  have hsum := sum_len_le (g := [46]) ((nm.takeWhile (· == 46) ++ w0) :: ws)
  rw [hjoin] at hsum
  refine ⟨by omega, by omega, ?_, by simp, ?_, ?_, ?_, ?_, ?_, ?_, h5, ?_⟩
  · rw [htake]
    have := peel_words (n := nm.length + 2) (acc := []) hy (dots_tw (nm := nm)) h4 ws.length ws rfl (by simp only [List.length_cons] at hws; omega) h5 h6 (by rw [hnm]; exact h47)
    rw [hnm, List.append_nil] at this
    exact this
  · rw [hl, List.append_assoc]
    simp
  · rw [hdrop]
    simp only [List.length_cons] at hws ⊢
    omega
  · rw [hdrop]
    intro w hw
    have : w.length ≤ (((nm.takeWhile (· == 46) ++ w0) :: ws).map (·.length)).sum := le_sum (List.mem_map_of_mem hw)
    omega
  · rw [hdrop]; exact hjoin
  · rw [hdrop, drop_dots dots_tw h4]; exact h4
  · rw [hdrop, drop_dots dots_tw h4]
    refine h6.imp id fun h => ?_
    rw [Ne, rst_nil]
    intro q
    cases w0 with
    | nil => exact h rfl
    | cons c r =>
      have := q c (.head _)
      have : c = 46 := by simpa using this
      exact h4 (this ▸ .head _)
  · rw [hdrop]; exact hdue
end Mine
end
section
open PySem PySem.W PyProof.Rows PySem.Calls PySem.Spec
namespace Mine
/-- the signs of a path -/
noncomputable def pal : List Nat := [47, 46, 97, 32, 98, 45, 37]
theorem pal_bare {c : Nat} (h : c ∈ pal) : bareC c = abh c ∧ wsC c = sp c ∧ c ≠ 34 := by
  unfold bareC wsC
  rw [inL_one, inL_one]
  revert c
  decide +kernel
theorem tw_app {p q : Nat → Bool} {a r : List Nat} (ha : ∀ c ∈ a, p c = q c) (hr : ∀ c, r.head? = some c → p c = false) : (a ++ r).takeWhile p = a.takeWhile q := by
  induction a with
  | nil =>
    cases r with
    | nil => rfl
    | cons c r => show (c :: r).takeWhile p = []; rw [List.takeWhile_cons, if_neg (by rw [hr c rfl]; nofun)]
  | cons c a ih =>
    show (c :: (a ++ r)).takeWhile p = _
    rw [List.takeWhile_cons, List.takeWhile_cons, ha c (.head _), ih fun x hx => ha x (.tail _ hx)]
theorem runS_at {S T : Nat → Bool} {l a r : List Nat} {i : Nat} (hd : l.drop i = a ++ r) (ha : ∀ c ∈ a, S c = T c) (hr : ∀ c, r.head? = some c → S c = false) : runS S l i = i + (a.takeWhile T).length := by
  unfold runS
  rw [hd, tw_app ha hr]
end Mine
end
section
open PySem PySem.W PyProof.Rows PySem.Calls PySem.Spec
namespace Mine
/-- what follows a word in the text -/
noncomputable def tailOf : List (List Nat) → List Nat → List Nat
  | [], tl => tl
  | w :: ws, tl => 46 :: (w ++ tailOf ws tl)
theorem join_tail {w : List Nat} {ws : List (List Nat)} {tl : List Nat} : joinL [46] (w :: ws) ++ tl = w ++ tailOf ws tl := by
  induction ws generalizing w with
  | nil => rfl
  | cons a r ih =>
    show w ++ [46] ++ joinL [46] (a :: r) ++ tl = w ++ (46 :: (a ++ tailOf r tl))
    rw [← ih]; simp [List.append_assoc]
theorem tail_head {ws : List (List Nat)} {tl : List Nat} (ht : tl = [] ∨ tl.head? = some 47) {c : Nat} (h : (tailOf ws tl).head? = some c) : c = 46 ∧ ws ≠ [] ∨ c = 47 ∧ ws = [] := by
  cases ws with
  | nil =>
    rcases ht with rfl | ht
    · cases h
    · rw [show tailOf [] tl = tl from rfl, ht] at h
      exact .inr ⟨(Option.some.inj h).symm, rfl⟩
  | cons a r => exact .inl ⟨(Option.some.inj h).symm, by nofun⟩
theorem head_drop {l a : List Nat} {i : Nat} (h : l.drop i = a) : l[i]? = a.head? := by
  rw [← h, List.head?_drop]
end Mine
end
section
open PySem PySem.W PyProof.Rows PySem.Calls PySem.Spec
namespace Mine
theorem stop_head {ws : List (List Nat)} {tl : List Nat} (ht : tl = [] ∨ tl.head? = some 47) {c : Nat} (h : (tailOf ws tl).head? = some c) : bareC c = false ∧ wsC c = false ∧ c ≠ 34 := by
  have hc : c = 46 ∨ c = 47 := by
    rcases tail_head ht h with h | h
    · exact .inl h.1
    · exact .inr h.1
  obtain ⟨h1, h2, h3⟩ := pal_bare (c := c) (by rcases hc with rfl | rfl <;> decide)
  refine ⟨?_, ?_, h3⟩
  · rw [h1]; rcases hc with rfl | rfl <;> decide +kernel
  · rw [h2]; rcases hc with rfl | rfl <;> decide +kernel
theorem drop_more {l a b : List Nat} {i : Nat} (h : l.drop i = a ++ b) : l.drop (i + a.length) = b := by
  rw [← List.drop_drop, h, List.drop_left]
theorem tw_dw {p : Nat → Bool} (a : List Nat) : a.length = (a.takeWhile p).length + (a.dropWhile p).length := by
  conv => lhs; rw [← List.takeWhile_append_dropWhile (p := p) (l := a)]
  rw [List.length_append]
end Mine
end
section
open PySem PySem.W PyProof.Rows PySem.Calls PySem.Spec
namespace Mine
theorem take_pre {a t b X : List Nat} (h : a = t ++ b) : (a ++ X).take t.length = t := by
  rw [h, List.append_assoc, List.take_left]
theorem take_tw {p : Nat → Bool} (a : List Nat) : a.take (a.length - (a.dropWhile p).length) = a.takeWhile p := by
  have h := tw_dw (p := p) a
  rw [show a.length - (a.dropWhile p).length = (a.takeWhile p).length by omega]
  have := take_pre (X := []) (List.takeWhile_append_dropWhile (p := p) (l := a)).symm
  rwa [List.append_nil] at this
theorem due_cons {w : List Nat} {ws : List (List Nat)} {place : Nat} {acc : List (List Nat)} {R : List Nat} (hR : dueRest acc w = R) :
    dueL (w :: ws) place acc = if R.dropWhile abh = R then none else if (R.dropWhile abh).dropWhile sp ≠ [] then some (place + w.length - ((R.dropWhile abh).dropWhile sp).length, acc ++ [R.takeWhile abh]) else dueL ws (place + w.length + 1) (acc ++ [R.takeWhile abh]) := by
  rw [dueL]
  unfold duePart dueLeft dueBehind
  rw [hR, take_tw]
/-- one part, read at its place -/
theorem part_step {l R X : List Nat} {p : Nat} (hd : l.drop p = R ++ X) (hR : ∀ c ∈ R, c ∈ pal) (hX : ∀ c, X.head? = some c → bareC c = false ∧ wsC c = false ∧ c ≠ 34) :
    pks l p = some (if R.dropWhile abh = R then none else some (p + (R.takeWhile abh).length, R.takeWhile abh)) := by
  have h0 := head_drop hd
  have hne : l[p]? ≠ some 34 := by
    rw [h0]
    intro q
    cases R with
    | nil => exact (hX 34 q).2.2 rfl
    | cons c r => exact (pal_bare (hR c (.head _))).2.2 (Option.some.inj q)
  have hs : pks l p = some (pkp l p) := by unfold pks; rw [if_neg fun q => hne q.1]
  rw [hs]
  congr 1
  unfold pkp
  cases R with
  | nil =>
    rw [show List.dropWhile abh [] = [] from rfl, if_pos rfl]
    cases hx : l[p]? with
    | none => rfl
    | some c =>
      have hb := (hX c (by rw [h0] at hx; exact hx))
      show (if bareC c = true then _ else if c = 34 then _ else none) = none
      rw [if_neg (by rw [hb.1]; nofun), if_neg hb.2.2]
  | cons c r =>
    have hx : l[p]? = some c := h0
    have hc := pal_bare (hR c (.head _))
    rw [hx]
    show (if bareC c = true then _ else if c = 34 then _ else none) = _
    cases hb : abh c with
    | false =>
      rw [if_neg (by rw [hc.1, hb]; nofun), if_neg hc.2.2, if_pos (by rw [List.dropWhile_cons, if_neg (by rw [hb]; nofun)])]
    | true =>
      have hr : runS bareC l p = p + ((c :: r).takeWhile abh).length := runS_at hd (fun a ha => (pal_bare (hR a ha)).1) fun a ha => (hX a ha).1
      have hnd : ¬ (c :: r).dropWhile abh = c :: r := fun q => by
        rw [List.dropWhile_cons, if_pos hb] at q
        have := (List.dropWhile_sublist abh (l := r)).length_le
        rw [q] at this
        simp only [List.length_cons] at this
        omega
      rw [if_pos (by rw [hc.1, hb]), if_neg hnd, hr]
      congr 2
      unfold cut
      rw [hd, show p + ((c :: r).takeWhile abh).length - p = ((c :: r).takeWhile abh).length by omega]
      exact take_pre (List.takeWhile_append_dropWhile (p := abh) (l := c :: r)).symm
theorem pkl_due {l tl : List Nat} (ht : tl = [] ∨ tl.head? = some 47) : ∀ (ws : List (List Nat)) (n j : Nat) (acc : List (List Nat)) (b : List Nat), l.drop j = b ++ tailOf ws tl → (∀ c ∈ b, c ∈ pal) → (∀ w ∈ ws, ∀ c ∈ w, c ∈ pal) → 46 ∉ b → (∀ w ∈ ws, 46 ∉ w) → ws.length + 1 ≤ n → acc ≠ [] →
    pkl l n (runS wsC l j) acc = some (if b.dropWhile sp ≠ [] then some (j + b.length - (b.dropWhile sp).length, acc) else dueL ws (j + b.length + 1) acc) := by
  intro ws
  induction ws with
  | nil =>
    intro n j acc b hd hb hw h46 hw46 hn hacc
    obtain ⟨m, rfl⟩ : ∃ m, n = m + 1 := ⟨n - 1, by omega⟩
    have hr : runS wsC l j = j + (b.takeWhile sp).length := runS_at hd (fun c hc => (pal_bare (hb c hc)).2.1) fun c hc => (stop_head ht hc).2.1
    have hs := tw_dw (p := sp) b
    have hdr : l.drop (j + (b.takeWhile sp).length) = b.dropWhile sp ++ tailOf [] tl := by
      refine drop_more (a := b.takeWhile sp) ?_
      rw [hd, ← List.append_assoc, List.takeWhile_append_dropWhile]
    have hne : l[runS wsC l j]? ≠ some 46 := by
      rw [hr, head_drop hdr]
      intro q
      cases hx : b.dropWhile sp with
      | nil =>
        rw [hx] at q
        rcases ht with rfl | ht
        · cases q
        · have q : tl.head? = some 46 := q
          rw [ht] at q
          cases q
      | cons c r =>
        rw [hx] at q
        have hc : c = 46 := Option.some.inj q
        exact h46 ((List.dropWhile_sublist sp).subset (by rw [hx, hc]; exact .head _))
    rw [pkl, if_neg hne, hr]
    congr 1
    split
    · congr 2; omega
    · rename_i h
      have h : b.dropWhile sp = [] := Classical.not_not.mp h
      rw [h] at hs
      simp only [List.length_nil] at hs
      show _ = some (j + b.length + 1 - 1, acc)
      congr 2; omega
  | cons w ws ih =>
    intro n j acc b hd hb hw h46 hw46 hn hacc
    obtain ⟨m, rfl⟩ : ∃ m, n = m + 1 := ⟨n - 1, by omega⟩
    have hr : runS wsC l j = j + (b.takeWhile sp).length := runS_at hd (fun c hc => (pal_bare (hb c hc)).2.1) fun c hc => (stop_head ht hc).2.1
    have hs := tw_dw (p := sp) b
    have hdr : l.drop (j + (b.takeWhile sp).length) = b.dropWhile sp ++ tailOf (w :: ws) tl := by
      refine drop_more (a := b.takeWhile sp) ?_
      rw [hd, ← List.append_assoc, List.takeWhile_append_dropWhile]
    by_cases h : b.dropWhile sp = []
    · rw [if_neg (fun q => q h)]
      have hat : l[runS wsC l j]? = some 46 := by
        rw [hr, head_drop hdr, h]; rfl
      rw [h] at hs
      simp only [List.length_nil] at hs
      have hr2 : runS wsC l j = j + b.length := by rw [hr]; omega
      have hd1 : l.drop (j + b.length + 1) = w ++ tailOf ws tl := by
        rw [show j + b.length + 1 = (j + b.length) + [46].length from rfl]
        refine drop_more (a := [46]) ?_
        rw [drop_more hd]; rfl
      have hwp := hw w (.head _)
      have hr3 : runS wsC l (j + b.length + 1) = j + b.length + 1 + (w.takeWhile sp).length := runS_at hd1 (fun c hc => (pal_bare (hwp c hc)).2.1) fun c hc => (stop_head ht hc).2.1
      have hd2 : l.drop (j + b.length + 1 + (w.takeWhile sp).length) = w.dropWhile sp ++ tailOf ws tl := by
        refine drop_more (a := w.takeWhile sp) ?_
        rw [hd1, ← List.append_assoc, List.takeWhile_append_dropWhile]
      have hRp : ∀ c ∈ w.dropWhile sp, c ∈ pal := fun c hc => hwp c ((List.dropWhile_sublist sp).subset hc)
      have hps := part_step hd2 hRp fun c hc => stop_head ht hc
      have hsw := tw_dw (p := sp) w
      rw [pkl, if_pos hat, hr2, hr3, hps, due_cons (R := w.dropWhile sp) (rest_some hacc)]
      by_cases hnb : (w.dropWhile sp).dropWhile abh = w.dropWhile sp
      · rw [if_pos hnb, if_pos hnb]
      · rw [if_neg hnb, if_neg hnb]
        have hsr := tw_dw (p := abh) (w.dropWhile sp)
        have hd3 : l.drop (j + b.length + 1 + (w.takeWhile sp).length + ((w.dropWhile sp).takeWhile abh).length) = (w.dropWhile sp).dropWhile abh ++ tailOf ws tl := by
          refine drop_more (a := (w.dropWhile sp).takeWhile abh) ?_
          rw [hd2, ← List.append_assoc, List.takeWhile_append_dropWhile]
        have hsub : ∀ c ∈ (w.dropWhile sp).dropWhile abh, c ∈ w := fun c hc => (List.dropWhile_sublist sp).subset ((List.dropWhile_sublist abh).subset hc)
        show pkl l m (runS wsC l (j + b.length + 1 + (w.takeWhile sp).length + ((w.dropWhile sp).takeWhile abh).length)) (acc ++ [(w.dropWhile sp).takeWhile abh]) = _
        rw [ih m _ _ _ hd3 (fun c hc => hwp c (hsub c hc)) (fun v hv => hw v (.tail _ hv)) (fun q => hw46 w (.head _) (hsub 46 q)) (fun v hv => hw46 v (.tail _ hv)) (by simp only [List.length_cons] at hn; omega) (by simp)]
        congr 1
        split
        · congr 2; omega
        · congr 1; omega
    · rw [if_pos h]
      have hne : l[runS wsC l j]? ≠ some 46 := by
        rw [hr, head_drop hdr]
        intro q
        cases hx : b.dropWhile sp with
        | nil => exact h hx
        | cons c r =>
          rw [hx] at q
          have hc : c = 46 := Option.some.inj q
          exact h46 ((List.dropWhile_sublist sp).subset (by rw [hx, hc]; exact .head _))
      rw [pkl, if_neg hne, hr]
      congr 3; omega
/-- what parse_key reads from a name's place -/
theorem pk_due {l y nm tl : List Nat} (hl : l = y ++ nm ++ tl) (ht : tl = [] ∨ tl.head? = some 47) (hA : ∀ c ∈ nm, c ∈ pal) {k : Nat} (hk : nm.length + 2 ≤ k) :
    pk l k y.length = some (dueL ((wordsOf nm).1 :: (wordsOf nm).2) y.length []) := by
  obtain ⟨w0, ws, h1, h2, h3, h4, h5, h6⟩ := words_is nm
  have hnm : nm.takeWhile (· == 46) ++ joinL [46] (w0 :: ws) = nm := by rw [h3]; exact List.takeWhile_append_dropWhile
  have hws : (w0 :: ws).length ≤ nm.length + 1 := by
    rw [← h1]
    have := split_count (c := 46) (nm.dropWhile (· == 46))
    have := (List.dropWhile_sublist (· == 46) (l := nm)).length_le
    omega
  rw [h2]
  show _ = some (dueL ((nm.takeWhile (· == 46) ++ w0) :: ws) y.length [])
  have hmem : ∀ z ∈ (w0 :: ws), ∀ c ∈ z, c ∈ pal := fun z hz c hc => hA c ((List.dropWhile_sublist _).subset ((splitL_mem (c := 46) (l := nm.dropWhile (· == 46)) (by rw [h1]; exact hz)).2 c hc))
  have hd : l.drop y.length = (nm.takeWhile (· == 46) ++ w0) ++ tailOf ws tl := by
    rw [hl, List.append_assoc, List.drop_left, ← join_tail, join_pre, hnm]
  have hRp : ∀ c ∈ nm.takeWhile (· == 46) ++ w0, c ∈ pal := fun c hc => by
    rcases List.mem_append.mp hc with hc | hc
    · exact hA c ((List.takeWhile_sublist _).subset hc)
    · exact hmem w0 (.head _) c hc
  rw [pk, part_step hd hRp fun c hc => stop_head ht hc, due_cons (R := nm.takeWhile (· == 46) ++ w0) (rest_none rfl)]
  by_cases hnb : (nm.takeWhile (· == 46) ++ w0).dropWhile abh = nm.takeWhile (· == 46) ++ w0
  · rw [if_pos hnb, if_pos hnb]
  · rw [if_neg hnb, if_neg hnb]
    have hD : nm.takeWhile (· == 46) = [] := by
      cases hx : nm.takeWhile (· == 46) with
      | nil => rfl
      | cons c r =>
        exfalso
        have hc : c = 46 := dots_tw (nm := nm) c (by rw [hx]; exact .head _)
        rw [hx, hc] at hnb
        refine hnb ?_
        show (46 :: (r ++ w0)).dropWhile abh = 46 :: (r ++ w0)
        rw [List.dropWhile_cons, if_neg (by decide +kernel)]
    rw [hD, List.nil_append] at hd ⊢
    have hsr := tw_dw (p := abh) w0
    have hd3 : l.drop (y.length + (w0.takeWhile abh).length) = w0.dropWhile abh ++ tailOf ws tl := by
      refine drop_more (a := w0.takeWhile abh) ?_
      rw [hd, ← List.append_assoc, List.takeWhile_append_dropWhile]
    have hsub : ∀ c ∈ w0.dropWhile abh, c ∈ w0 := fun c hc => (List.dropWhile_sublist abh).subset hc
    show pkl l k (runS wsC l (y.length + (w0.takeWhile abh).length)) [w0.takeWhile abh] = _
    rw [pkl_due ht ws k _ _ _ hd3 (fun c hc => hmem w0 (.head _) c (hsub c hc)) (fun v hv => hmem v (.tail _ hv)) (fun q => h4 (hsub 46 q)) h5 (by simp only [List.length_cons] at hws; omega) (by nofun)]
    congr 1
    split
    · congr 2; omega
    · congr 1; omega
end Mine
end
section
open PySem PySem.W PyProof.Rows PySem.Calls PySem.Spec
namespace Mine
theorem splitL_gen {c : Nat} {r : List Nat} : ∀ p : List Nat, splitL c (p ++ c :: r) = splitL c p ++ splitL c r
  | [] => by show splitL c (c :: r) = [] :: splitL c r; rw [splitL, if_pos rfl]
  | a :: p => by
    have ih := splitL_gen (c := c) (r := r) p
    show splitL c (a :: (p ++ c :: r)) = _
    rw [splitL, splitL]
    split
    · rw [ih]; rfl
    · rw [ih]
      cases hs : splitL c p with
      | nil => exact absurd hs splitL_ne
      | cons q qs => rfl
noncomputable def some1 (p : List Nat) : Bool := p != []
theorem filter_reps {t : List Nat} : ∀ j : Nat, (splitL 47 (List.replicate j 47 ++ t)).filter some1 = (splitL 47 t).filter some1
  | 0 => rfl
  | j + 1 => by
    rw [List.replicate_succ]
    show (splitL 47 (47 :: (List.replicate j 47 ++ t))).filter some1 = _
    rw [splitL, if_pos rfl, List.filter_cons, if_neg (by decide)]
    exact filter_reps j
/-- every list: a front that ends with a slash (or is empty), and a piece with no slash -/
theorem slash_cut : ∀ l : List Nat, ∃ y t, l = y ++ t ∧ Slashed y ∧ 47 ∉ t
  | [] => ⟨[], [], rfl, .inl rfl, by nofun⟩
  | a :: r => by
    obtain ⟨y, t, e, hy, ht⟩ := slash_cut r
    rcases hy with rfl | hy
    · by_cases h : a = 47
      · subst h; exact ⟨[47], t, by rw [e]; rfl, .inr rfl, ht⟩
      · refine ⟨[], a :: t, by rw [e]; rfl, .inl rfl, fun q => ?_⟩
        rcases List.mem_cons.mp q with q | q
        · exact h q.symm
        · exact ht q
    · refine ⟨a :: y, t, by rw [e]; rfl, .inr ?_, ht⟩
      rw [List.getLast?_cons, hy]; rfl
/-- slashes at the end, told apart -/
theorem slash_end : ∀ l : List Nat, ∃ z j, l = z ++ List.replicate j 47 ∧ z.getLast? ≠ some 47
  | [] => ⟨[], 0, rfl, by nofun⟩
  | a :: r => by
    obtain ⟨z, j, e, hz⟩ := slash_end r
    cases z with
    | nil =>
      by_cases h : a = 47
      · subst h; exact ⟨[], j + 1, by rw [e]; rfl, by nofun⟩
      · exact ⟨[a], j, by rw [e]; rfl, fun q => h (Option.some.inj q)⟩
    | cons b z =>
      refine ⟨a :: b :: z, j, by rw [e]; rfl, ?_⟩
      rw [List.getLast?_cons_cons]; exact hz
theorem rst_slashes {z : List Nat} (hz : z.getLast? ≠ some 47) (j : Nat) : rst sl (z ++ List.replicate j 47) = z := by
  unfold rst
  rw [List.reverse_append, List.reverse_replicate]
  have : ∀ j : Nat, (List.replicate j 47 ++ z.reverse).dropWhile sl = z.reverse := by
    intro j
    induction j with
    | zero =>
      show z.reverse.dropWhile sl = _
      cases hr : z.reverse with
      | nil => rfl
      | cons c r =>
        rw [List.dropWhile_cons, if_neg]
        intro q
        have hc : c = 47 := by simpa [sl] using q
        apply hz
        rw [List.getLast?_eq_head?_reverse, hr, hc]; rfl
    | succ j ih =>
      rw [List.replicate_succ]
      show (47 :: (List.replicate j 47 ++ z.reverse)).dropWhile sl = _
      rw [List.dropWhile_cons, if_pos (show sl 47 = true from rfl)]; exact ih
  rw [this, List.reverse_reverse]
theorem head_cut {y t : List Nat} (hy : Slashed y) (ht : 47 ∉ t) : (y ++ t).take (lastAft 47 (y ++ t)) = y ∧ splitT (y ++ t) = t := by
  unfold splitT
  rw [lastAft_name hy ht, List.take_left, List.drop_left]
  exact ⟨rfl, rfl⟩
noncomputable def RowAt (x : List Nat) (p : Nat) (nm : List Nat) : Prop := ∃ y tl, x = y ++ nm ++ tl ∧ p = y.length ∧ Slashed y ∧ 47 ∉ nm ∧ (tl = [] ∨ tl.head? = some 47)
noncomputable def namesOf (body : List Nat) : List (List Nat) := (splitL 47 body).filter some1 ++ if body.getLast? = some 47 then [[]] else []
theorem slashed_reps (k : Nat) : Slashed (List.replicate k 47) := by
  cases k with
  | zero => exact .inl rfl
  | succ k => right; rw [List.replicate_succ']; simp
theorem names_is (k : Nat) : ∀ (m : Nat) (body : List Nat), body.length ≤ m → body.head? ≠ some 47 → ∃ rows : List (Nat × List Nat),
    (∀ n acc, body.length + 1 ≤ n → namesL n (List.replicate k 47 ++ body) acc = some (List.replicate k 47, rows ++ acc)) ∧ rows.map (·.2) = namesOf body ∧ ∀ p nm, (p, nm) ∈ rows → RowAt (List.replicate k 47 ++ body) p nm := by
  have base : ∀ n acc, 1 ≤ n → namesL n (List.replicate k 47) acc = some (List.replicate k 47, acc) := by
    intro n acc hn
    obtain ⟨m, rfl⟩ : ∃ m, n = m + 1 := ⟨n - 1, by omega⟩
    have h := (head_cut (slashed_reps k) (t := []) (by nofun)).1
    rw [List.append_nil] at h
    have hr : rst sl (List.replicate k 47) = [] := by
      have := rst_slashes (z := []) (by nofun) k
      exact this
    rw [namesL, if_pos]
    unfold splitH
    rw [h, if_pos hr]
  intro m
  induction m with
  | zero =>
    intro body hl hh
    obtain rfl := List.length_eq_zero_iff.mp (Nat.le_zero.mp hl)
    refine ⟨[], fun n acc hn => ?_, rfl, by nofun⟩
    rw [List.append_nil]
    exact base n acc (by omega)
  | succ m ih =>
    intro body hl hh
    by_cases hb : body = []
    · subst hb
      refine ⟨[], fun n acc hn => ?_, rfl, by nofun⟩
      rw [List.append_nil]
      exact base n acc (by omega)
    obtain ⟨y, t, e, hy, ht⟩ := slash_cut body
    have hy2 : Slashed (List.replicate k 47 ++ y) := by
      rcases hy with rfl | hy
      · rw [List.append_nil]; exact slashed_reps k
      · right; rw [List.getLast?_append, hy]; rfl
    obtain ⟨hc1, hc2⟩ := head_cut hy2 ht
    rw [List.append_assoc, ← e] at hc1 hc2
    by_cases hy0 : y = []
    · subst hy0
      have e : body = t := e
      subst e
      rw [List.append_nil] at hc1
      have hH : splitH (List.replicate k 47 ++ body) = List.replicate k 47 := by
        unfold splitH
        rw [hc1, show rst sl (List.replicate k 47) = [] from rst_slashes (z := []) (by nofun) k, if_pos rfl]
      refine ⟨[(k, body)], fun n acc hn => ?_, ?_, fun p nm hp => ?_⟩
      · obtain ⟨q, rfl⟩ : ∃ q, n = q + 1 := ⟨n - 1, by omega⟩
        have : 1 ≤ body.length := by
          cases body with
          | nil => exact absurd rfl hb
          | cons a r => simp
        rw [namesL, hH, hc2, if_neg, base _ _ (by omega)]
        · congr 2
          rw [List.length_append, List.length_replicate, Nat.add_sub_cancel]; rfl
        · intro q
          have := congrArg List.length q
          rw [List.length_append, List.length_replicate] at this
          omega
      · unfold namesOf
        rw [splitL_free ht, if_neg]
        · show [body] = List.filter some1 [body] ++ []
          rw [List.filter_cons, if_pos (by simpa [some1] using hb)]; rfl
        · intro q
          obtain ⟨r, hr⟩ := List.getLast?_eq_some_iff.mp q
          exact ht (by rw [hr]; simp)
      · have := List.mem_singleton.mp hp
        injection this with h1 h2
        subst h1; subst h2
        exact ⟨List.replicate p 47, [], by simp, by simp, slashed_reps p, ht, .inl rfl⟩
    · obtain ⟨z, j, ez, hz⟩ := slash_end y
      have hz0 : z ≠ [] := by
        rintro rfl
        cases j with
        | zero => exact hy0 ez
        | succ j => exact hh (by rw [e, ez]; rfl)
      have hj : 1 ≤ j := by
        cases j with
        | zero =>
          exfalso
          have ez : y = z := by rw [ez]; simp
          rw [← ez] at hz
          rcases hy with hy | hy
          · exact hy0 hy
          · exact hz hy
        | succ j => omega
      have hkz : (List.replicate k 47 ++ z).getLast? ≠ some 47 := by
        rw [List.getLast?_append]
        cases hq : z.getLast? with
        | none => exact absurd (List.getLast?_eq_none_iff.mp hq) hz0
        | some c => rw [hq] at hz; exact hz
      have hH : splitH (List.replicate k 47 ++ body) = List.replicate k 47 ++ z := by
        unfold splitH
        rw [hc1, ez, ← List.append_assoc, rst_slashes hkz, if_neg]
        intro q
        exact hz0 (List.append_eq_nil_iff.mp q).2
      have hlen : body.length = z.length + j + t.length := by rw [e, ez]; simp; omega
      obtain ⟨rows, r1, r2, r3⟩ := ih z (by omega) (by
        intro q
        apply hh
        rw [e, ez]
        cases z with
        | nil => exact absurd rfl hz0
        | cons c r => exact q)
      have hx : List.replicate k 47 ++ body = (List.replicate k 47 ++ z) ++ (List.replicate j 47 ++ t) := by rw [e, ez]; simp [List.append_assoc]
      refine ⟨rows ++ [((List.replicate k 47 ++ y).length, t)], fun n acc hn => ?_, ?_, fun p nm hp => ?_⟩
      · obtain ⟨q, rfl⟩ : ∃ q, n = q + 1 := ⟨n - 1, by omega⟩
        rw [namesL, hH, hc2, if_neg, r1 _ _ (by omega)]
        · congr 2
          rw [List.append_assoc]
          congr 1
          show _ :: acc = _ :: acc
          congr 2
          rw [e]; simp; omega
        · intro q
          have := congrArg List.length q
          rw [List.length_append, List.length_append] at this
          omega
      · rw [List.map_append, r2]
        unfold namesOf
        obtain ⟨i, rfl⟩ : ∃ i, j = i + 1 := ⟨j - 1, by omega⟩
        have hsp : (splitL 47 body).filter some1 = (splitL 47 z).filter some1 ++ [t].filter some1 := by
          rw [e, ez, List.append_assoc, List.replicate_succ]
          show (splitL 47 (z ++ 47 :: (List.replicate i 47 ++ t))).filter some1 = _
          rw [splitL_gen, List.filter_append, filter_reps, splitL_free ht]
        rw [hsp, if_neg hz, List.append_nil, List.append_assoc]
        congr 1
        by_cases h0 : t = []
        · subst h0
          rw [if_pos]
          · rfl
          · rw [e, ez, List.append_nil, List.replicate_succ']; simp
        · rw [if_neg, List.filter_cons, if_pos (by simpa [some1] using h0)]
          · rfl
          · intro q
            rw [e, List.getLast?_append] at q
            cases hq : t.getLast? with
            | none => exact h0 (List.getLast?_eq_none_iff.mp hq)
            | some c =>
              rw [hq] at q
              have hc : c = 47 := Option.some.inj q
              obtain ⟨r, hr⟩ := List.getLast?_eq_some_iff.mp hq
              exact ht (by rw [hr, hc]; simp)
      · rcases List.mem_append.mp hp with hp | hp
        · obtain ⟨y', tl', h1, h2, h3, h4, h5⟩ := r3 p nm hp
          refine ⟨y', tl' ++ (List.replicate j 47 ++ t), by rw [hx, h1]; simp [List.append_assoc], h2, h3, h4, .inr ?_⟩
          obtain ⟨i, rfl⟩ : ∃ i, j = i + 1 := ⟨j - 1, by omega⟩
          rcases h5 with rfl | h5
          · rw [List.replicate_succ]; rfl
          · cases tl' with
            | nil => cases h5
            | cons c r => exact h5
        · have := List.mem_singleton.mp hp
          injection this with h1 h2
          subst h1; subst h2
          exact ⟨List.replicate k 47 ++ y, [], by rw [e]; simp [List.append_assoc], rfl, hy2, ht, .inl rfl⟩
end Mine
end
section
open PySem PySem.W PyProof.Rows PySem.Calls PySem.Spec
namespace Mine
noncomputable def qt (n : List Nat) : List Nat := [34] ++ n ++ [34]
theorem c34 : bareC 34 = false ∧ wsC 34 = false := by
  unfold bareC wsC
  rw [inL_one, inL_one]
  decide +kernel
/-- a part in quotation marks, read at its place -/
theorem quote_part {l n X : List Nat} {p : Nat} (hd : l.drop p = qt n ++ X) (h : 34 ∉ n) : pks l p = some (some (p + n.length + 2, n)) := by
  have h0 : l[p]? = some 34 := by rw [head_drop hd]; rfl
  have hd1 : l.drop (p + 1) = n ++ 34 :: X := by
    refine drop_more (a := [34]) (i := p) ?_
    rw [hd]; unfold qt; simp
  have hq : qend l (p + 1) = p + 1 + n.length := by
    unfold qend
    rw [runS_at (S := fun c => c != 34) (T := fun c => c != 34) hd1 (fun _ _ => rfl) (fun c hc => by rw [← Option.some.inj hc]; rfl), takeWhile_self]
    intro a ha
    have : a ≠ 34 := fun q => h (q ▸ ha)
    simpa using this
  have hlen : l.length - p = n.length + 2 + X.length := by
    rw [← List.length_drop, hd]; unfold qt; simp; omega
  have hs : pks l p = some (pkp l p) := by unfold pks; rw [if_neg fun q => q.2 (by rw [hq]; omega)]
  rw [hs]
  congr 1
  unfold pkp
  rw [h0]
  show (if bareC 34 = true then _ else if 34 = 34 then _ else none) = _
  rw [if_neg (by rw [c34.1]; nofun), if_pos rfl, hq]
  congr 2
  · omega
  · unfold cut
    rw [hd1, show p + 1 + n.length - (p + 1) = n.length by omega, List.take_left]
theorem runS_none {S : Nat → Bool} {l X : List Nat} {i : Nat} (hd : l.drop i = X) (h : ∀ c, X.head? = some c → S c = false) : runS S l i = i := runS_at (a := []) (T := S) hd (by nofun) h
theorem pkl_quoted {l : List Nat} : ∀ (ns : List (List Nat)) (n i : Nat) (acc : List (List Nat)), l.drop i = tailOf (ns.map qt) [] → i ≤ l.length → (∀ x ∈ ns, 34 ∉ x) → ns.length + 1 ≤ n → pkl l n (runS wsC l i) acc = some (some (l.length, acc ++ ns)) := by
  intro ns
  induction ns with
  | nil =>
    intro n i acc hd hi hq hn
    obtain ⟨m, rfl⟩ : ∃ m, n = m + 1 := ⟨n - 1, by omega⟩
    have hd : l.drop i = [] := hd
    have h0 := head_drop hd
    have : l.length ≤ i := List.drop_eq_nil_iff.mp hd
    rw [runS_none hd (by nofun), pkl, if_neg (by rw [h0]; nofun), List.append_nil, show i = l.length by omega]
  | cons x ns ih =>
    intro n i acc hd hi hq hn
    obtain ⟨m, rfl⟩ : ∃ m, n = m + 1 := ⟨n - 1, by omega⟩
    have hd : l.drop i = 46 :: (qt x ++ tailOf (ns.map qt) []) := hd
    have h0 : l[i]? = some 46 := head_drop hd
    have hd1 : l.drop (i + 1) = qt x ++ tailOf (ns.map qt) [] := by
      refine drop_more (a := [46]) (i := i) ?_
      rw [hd]; rfl
    have hlen : l.length - (i + 1) = x.length + 2 + (tailOf (ns.map qt) []).length := by
      rw [← List.length_drop, hd1]; unfold qt; simp; omega
    have hd2 : l.drop (i + 1 + x.length + 2) = tailOf (ns.map qt) [] := by
      have := drop_more hd1
      rwa [show (qt x).length = x.length + 2 by unfold qt; simp] at this
    have h46 : ∀ c, (46 :: (qt x ++ tailOf (ns.map qt) [])).head? = some c → wsC c = false := fun c hc => by
      rw [← Option.some.inj hc]
      exact (stop_head (ws := [[]]) (tl := []) (.inl rfl) (c := 46) rfl).2.1
    have h34 : ∀ c, (qt x ++ tailOf (ns.map qt) []).head? = some c → wsC c = false := fun c hc => by
      have hc : 34 = c := Option.some.inj hc
      rw [← hc]; exact c34.2
    rw [runS_none hd h46, pkl, if_pos h0, runS_none hd1 h34, quote_part hd1 (hq x (.head _))]
    show pkl l m (runS wsC l (i + 1 + x.length + 2)) (acc ++ [x]) = _
    rw [ih m _ _ hd2 (by omega) (fun y hy => hq y (.tail _ hy)) (by simp only [List.length_cons] at hn; omega), List.append_assoc]
    rfl
theorem pk_quoted {a : List Nat} {ns : List (List Nat)} (h : ∀ x ∈ a :: ns, 34 ∉ x) {k : Nat} (hk : ns.length + 1 ≤ k) :
    pk (quoted (a :: ns)) k 0 = some (some ((quoted (a :: ns)).length, a :: ns)) := by
  have e : quoted (a :: ns) = qt a ++ tailOf (ns.map qt) [] := by
    rw [← join_tail, List.append_nil]; rfl
  have hd : (quoted (a :: ns)).drop 0 = qt a ++ tailOf (ns.map qt) [] := by rw [List.drop_zero, e]
  have hlq : (qt a).length = a.length + 2 := by unfold qt; simp
  have hd2 : (quoted (a :: ns)).drop (0 + a.length + 2) = tailOf (ns.map qt) [] := by
    have := drop_more hd
    rwa [hlq] at this
  have hlen : (quoted (a :: ns)).length = a.length + 2 + (tailOf (ns.map qt) []).length := by
    rw [e, List.length_append, hlq]
  rw [pk, quote_part hd (h a (.head _))]
  show pkl _ k (runS wsC _ (0 + a.length + 2)) [a] = _
  rw [pkl_quoted ns k _ _ hd2 (by omega) (fun y hy => h y (.tail _ hy)) hk]
  rfl
theorem joinL_len2 {g : List Nat} : ∀ ps : List (List Nat), (joinL g ps).length ≤ (ps.map (·.length)).sum + ps.length * g.length
  | [] => Nat.zero_le _
  | [p] => by simp [joinL]
  | p :: q :: r => by
    have := joinL_len2 (g := g) (q :: r)
    simp only [joinL, List.map_cons, List.sum_cons, List.length_append, List.length_cons, Nat.succ_mul] at this ⊢
    omega
end Mine
end
section
open PySem PySem.W PyProof.Rows PySem.Calls PySem.Spec
namespace Mine
/-- what join puts behind its path -/
noncomputable def behindL : List (List Nat) → List Nat
  | [] => []
  | a :: r => 47 :: (a ++ behindL r)
theorem joinL_behind (a : List Nat) : ∀ ns : List (List Nat), joinL [47] (a :: ns) = a ++ behindL ns
  | [] => by show a = a ++ []; rw [List.append_nil]
  | b :: r => by
    show a ++ [47] ++ joinL [47] (b :: r) = a ++ (47 :: (b ++ behindL r))
    rw [joinL_behind b r]; simp [List.append_assoc]
theorem last_app {p a : List Nat} (ha : a ≠ []) (h : 47 ∉ a) : (p ++ a).getLast? ≠ some 47 := by
  rw [List.getLast?_append]
  cases hq : a.getLast? with
  | none => exact absurd (List.getLast?_eq_none_iff.mp hq) ha
  | some c =>
    intro q
    have hc : c = 47 := Option.some.inj q
    obtain ⟨r, hr⟩ := List.getLast?_eq_some_iff.mp hq
    exact h (by rw [hr, hc]; simp)
theorem step_mid {p b : List Nat} (hp : p ≠ []) (hl : p.getLast? ≠ some 47) (hb : b.head? ≠ some 47) : joinStep p b = p ++ 47 :: b := by
  unfold joinStep
  rw [if_neg (fun q => q.elim hb hp), if_neg hl]
theorem head_free {b : List Nat} (h : 47 ∉ b) : b.head? ≠ some 47 := fun q => by
  cases b with
  | nil => cases q
  | cons c r => exact h (by rw [Option.some.inj q]; exact .head _)
/-- the last name may be empty, no other -/
theorem joinF_mid {z : List (List Nat)} (hz : z = [] ∨ z = [[]]) : ∀ (as : List (List Nat)) (p : List Nat), p ≠ [] → p.getLast? ≠ some 47 → (∀ a ∈ as, a ≠ [] ∧ 47 ∉ a) → joinF p (as ++ z) = p ++ behindL (as ++ z)
  | [], p, hp, hl, _ => by
    rcases hz with rfl | rfl
    · show p = p ++ []; rw [List.append_nil]
    · show joinStep p [] = p ++ [47]
      exact step_mid hp hl (by nofun)
  | a :: as, p, hp, hl, h => by
    have ha := h a (.head _)
    show joinF (joinStep p a) (as ++ z) = p ++ (47 :: (a ++ behindL (as ++ z)))
    rw [step_mid hp hl (head_free ha.2), joinF_mid hz as _ (by simp) ?_ fun b hb => h b (.tail _ hb)]
    · simp [List.append_assoc]
    · rw [show p ++ 47 :: a = (p ++ [47]) ++ a by simp]
      exact last_app ha.1 ha.2
theorem joinF_all {k : Nat} {a : List Nat} {as z : List (List Nat)} (hz : z = [] ∨ z = [[]]) (h : ∀ b ∈ a :: as, b ≠ [] ∧ 47 ∉ b) :
    joinF (List.replicate k 47) ((a :: as) ++ z) = List.replicate k 47 ++ joinL [47] ((a :: as) ++ z) := by
  have ha := h a (.head _)
  have h1 : joinStep (List.replicate k 47) a = List.replicate k 47 ++ a := by
    cases k with
    | zero => unfold joinStep; rw [if_pos (.inr rfl)]; rfl
    | succ k =>
      unfold joinStep
      rw [if_neg (fun q => q.elim (head_free ha.2) (by nofun)), if_pos]
      rw [List.replicate_succ']; simp
  show joinF (joinStep (List.replicate k 47) a) (as ++ z) = _ ++ joinL [47] (a :: (as ++ z))
  rw [h1, joinF_mid hz as _ ?_ (last_app ha.1 ha.2) (fun b hb => h b (.tail _ hb)), joinL_behind, List.append_assoc]
  intro q
  exact ha.1 (List.append_eq_nil_iff.mp q).2
end Mine
end
section
open PySem PySem.W PyProof.Rows PySem.Calls PySem.Spec
namespace Mine
theorem front_off (k : Nat) {body : List Nat} (h : body.head? ≠ some 47) : (List.replicate k 47 ++ body).dropWhile sl = body := by
  induction k with
  | zero =>
    show body.dropWhile sl = body
    cases body with
    | nil => rfl
    | cons c r =>
      rw [List.dropWhile_cons, if_neg]
      intro q
      have hc : c = 47 := by simpa [sl] using q
      exact h (by rw [hc]; rfl)
  | succ k ih =>
    rw [List.replicate_succ]
    show (47 :: (List.replicate k 47 ++ body)).dropWhile sl = _
    rw [List.dropWhile_cons, if_pos (show sl 47 = true from rfl)]; exact ih
theorem filter_sum {p : List Nat → Bool} : ∀ ps : List (List Nat), ((ps.filter p).map (·.length)).sum ≤ (ps.map (·.length)).sum
  | [] => Nat.le_refl _
  | a :: r => by
    have := filter_sum (p := p) r
    rw [List.filter_cons]
    split
    · simp only [List.map_cons, List.sum_cons]; omega
    · simp only [List.map_cons, List.sum_cons]; omega
theorem sum_qt : ∀ ps : List (List Nat), ((ps.map qt).map (·.length)).sum = (ps.map (·.length)).sum + 2 * ps.length
  | [] => rfl
  | a :: r => by
    have := sum_qt r
    simp only [List.map_cons, List.sum_cons, List.length_cons] at this ⊢
    rw [this, show (qt a).length = a.length + 2 by unfold qt; simp]
    omega
theorem pal_alph : ∀ c ∈ pal, c ∈ alph := by decide
/-- the law, of every path of this form -/
theorem law_ok (k : Nat) (r : List Nat) (hk : k ≤ 3) (hr : r.length ≤ 16) (hA : ∀ c ∈ r, c ∈ pal) :
    ∃ root rws n nk, LawOk (List.replicate k 47 ++ 97 :: r) root rws n nk := by
  have hh : (97 :: r).head? ≠ some 47 := fun q => absurd (Option.some.inj q) (by decide)
  have hAb : ∀ c ∈ 97 :: r, c ∈ pal := fun c hc => by
    rcases List.mem_cons.mp hc with rfl | hc
    · decide
    · exact hA c hc
  obtain ⟨rows, r1, r2, r3⟩ := names_is k _ (97 :: r) (Nat.le_refl _) hh
  -- the names
  obtain ⟨p, ps, hsp⟩ : ∃ p ps, splitL 47 (97 :: r) = (97 :: p) :: ps := by
    cases hs : splitL 47 r with
    | nil => exact absurd hs splitL_ne
    | cons p ps => exact ⟨p, ps, by rw [splitL, if_neg (by decide), hs]⟩
  have hnm : namesOf (97 :: r) = ((97 :: p) :: ps.filter some1) ++ (if (97 :: r).getLast? = some 47 then [[]] else []) := by
    unfold namesOf
    rw [hsp, List.filter_cons, if_pos (show some1 (97 :: p) = true from rfl)]
  have hpc : ∀ b ∈ (97 :: p) :: ps.filter some1, b ≠ [] ∧ 47 ∉ b ∧ ∀ c ∈ b, c ∈ 97 :: r := fun b hb => by
    have hb2 : b ∈ splitL 47 (97 :: r) ∧ b ≠ [] := by
      rw [hsp]
      rcases List.mem_cons.mp hb with rfl | hb
      · exact ⟨.head _, by nofun⟩
      · obtain ⟨h1, h2⟩ := List.mem_filter.mp hb
        exact ⟨.tail _ h1, by simpa [some1] using h2⟩
    exact ⟨hb2.2, (splitL_mem hb2.1).1, (splitL_mem hb2.1).2⟩
  have hz : (if (97 :: r).getLast? = some 47 then [([] : List Nat)] else []) = [] ∨ (if (97 :: r).getLast? = some 47 then [([] : List Nat)] else []) = [[]] := by
    split
    · exact .inr rfl
    · exact .inl rfl
  generalize hZ : (if (97 :: r).getLast? = some 47 then [([] : List Nat)] else []) = z at hz hnm
  have hall : ∀ b ∈ namesOf (97 :: r), 47 ∉ b ∧ ∀ c ∈ b, c ∈ pal := fun b hb => by
    rw [hnm] at hb
    rcases List.mem_append.mp hb with hb | hb
    · exact ⟨(hpc b hb).2.1, fun c hc => hAb c ((hpc b hb).2.2 c hc)⟩
    · rcases hz with rfl | rfl
      · cases hb
      · rw [List.mem_singleton.mp hb]; exact ⟨by nofun, by nofun⟩
  have hsum : ((namesOf (97 :: r)).map (·.length)).sum ≤ r.length + 1 := by
    unfold namesOf
    rw [hZ, List.map_append, List.sum_append]
    have h1 := filter_sum (p := some1) (splitL 47 (97 :: r))
    have h2 := sum_len_le (g := [47]) (splitL 47 (97 :: r))
    rw [join_splitL] at h2
    have h3 : (z.map (·.length)).sum = 0 := by rcases hz with rfl | rfl <;> rfl
    simp only [List.length_cons] at h2
    omega
  have hcount : (namesOf (97 :: r)).length ≤ r.length + 3 := by
    unfold namesOf
    rw [hZ, List.length_append]
    have h1 := List.length_filter_le some1 (splitL 47 (97 :: r))
    have h2 := split_count (c := 47) (97 :: r)
    have h3 : z.length ≤ 1 := by rcases hz with rfl | rfl <;> decide
    simp only [List.length_cons] at h2
    omega
  have hlen : (List.replicate k 47 ++ 97 :: r).length = k + r.length + 1 := by simp; omega
  have hcr : rows.length = (namesOf (97 :: r)).length := by rw [← r2, List.length_map]
  have hql : (quoted (namesOf (97 :: r))).length ≤ 900 := by
    have h1 := joinL_len2 (g := [46]) ((namesOf (97 :: r)).map qt)
    rw [sum_qt, List.length_map] at h1
    have h1 : (quoted (namesOf (97 :: r))).length ≤ _ := h1
    simp only [List.length_cons, List.length_nil] at h1
    omega
  have hqa : ∀ c ∈ quoted (namesOf (97 :: r)), c ∈ alph := fun c hc => by
    rcases joinL_mem hc with h | ⟨q, hq, h⟩
    · rw [List.mem_singleton.mp h]; decide
    · obtain ⟨b, hb, rfl⟩ := List.mem_map.mp hq
      have : c = 34 ∨ c ∈ b := by
        rcases List.mem_append.mp h with h | h
        · rcases List.mem_append.mp h with h | h
          · exact .inl (List.mem_singleton.mp h)
          · exact .inr h
        · exact .inl (List.mem_singleton.mp h)
      rcases this with rfl | h
      · decide
      · exact pal_alph c ((hall b hb).2 c h)
  have n34 : ∀ x ∈ namesOf (97 :: r), 34 ∉ x := fun x hx q => absurd ((hall x hx).2 34 q) (by decide)
  refine ⟨List.replicate k 47, rows, r.length + 3, r.length + 5, ?_, ?_, ?_, ?_, ?_, ?_, ?_, ?_, ?_, ?_, ?_, ?_, ?_, ?_⟩
  · omega
  · intro c hc
    have : c ∈ pal := by
      rcases List.mem_append.mp hc with hc | hc
      · rw [List.eq_of_mem_replicate hc]; decide
      · exact hAb c hc
    exact pal_alph c this
  · rw [r1 _ _ (by simp only [List.length_cons]; omega), List.append_nil]
  · omega
  · rw [List.length_replicate]; omega
  · rw [r2]; omega
  · intro q hq
    have : q.2.length ≤ ((rows.map (·.2)).map (·.length)).sum := le_sum (List.mem_map_of_mem (List.mem_map_of_mem hq))
    rw [r2] at this
    omega
  · unfold cutRoot
    have e : (List.replicate k 47 ++ 97 :: r).length - (97 :: r).length = (List.replicate k 47).length := by simp
    rw [front_off k hh]
    exact (congrArg (fun n => List.take n (List.replicate k 47 ++ 97 :: r)) e).trans List.take_left
  · rw [r2]
    unfold cutNames
    rw [front_off k hh]; rfl
  · intro p nm hp
    obtain ⟨y, tl, h1, rfl, h3, h4, h5⟩ := r3 p nm hp
    have hb : nm ∈ namesOf (97 :: r) := by rw [← r2]; exact List.mem_map_of_mem hp
    exact ⟨_, _, _, row_ok h1 h3 h4 (by omega) (pk_due h1 h5 (hall nm hb).2 (Nat.le_refl _))⟩
  · rw [r2]; exact hql
  · rw [r2]; exact hqa
  · rw [r2]
    rw [hnm] at n34 hcount ⊢
    exact pk_quoted n34 (by
      show (ps.filter some1 ++ z).length + 1 ≤ _
      simp only [List.cons_append, List.length_cons, List.length_append] at hcount ⊢
      omega)
  · rw [r2, hnm]
    exact joinF_all hz fun b hb => ⟨(hpc b hb).1, (hpc b hb).2.1⟩
theorem sign_pal (a : Int) : signAt a ∈ pal := (show ∀ n, n < 8 → signs.getD n 0 ∈ pal by decide) _ (eight a).2
theorem law_path (ns : List Int) (h : ns.length ≤ 14) : ∃ root rws n nk, LawOk (pathL ns) root rws n nk := by
  unfold pathL
  have h1 : 0 ≤ (ns.map fun a : Int => a.fdiv 8).sum.fmod 4 := by rw [Int.fmod_eq_emod_of_nonneg _ (by decide)]; exact Int.emod_nonneg _ (by decide)
  have h2 : (ns.map fun a : Int => a.fdiv 8).sum.fmod 4 < 4 := by rw [Int.fmod_eq_emod_of_nonneg _ (by decide)]; exact Int.emod_lt_of_pos _ (by decide)
  refine law_ok ((ns.map fun a : Int => a.fdiv 8).sum.fmod 4).toNat ([46, 98] ++ ns.map signAt) (by omega) (by simp; omega) fun c hc => ?_
  rcases List.mem_append.mp hc with hc | hc
  · exact (show ∀ c ∈ [46, 98], c ∈ pal by decide) c hc
  · obtain ⟨a, _, rfl⟩ := List.mem_map.mp hc
    exact sign_pal a
end Mine
end
open PySem PySem.W PyProof.Rows
set_option maxRecDepth 100000 in
set_option maxHeartbeats 8000000 in
theorem PySem.Challenge.cw_ij0142_01_holds : PySem.Challenge.rw_ij0142_01.Holds :=
  Mine.fin fun ns _ => Mine.law_path _ (by rw [List.length_map, List.length_take]; omega)
